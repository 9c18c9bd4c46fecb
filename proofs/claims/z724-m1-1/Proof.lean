import JvmDerived
import JvmDerived.Pilot.@@N@@Statement
import JvmDerived.Pilot.@@N@@Code
set_option linter.unusedVariables false
set_option linter.unusedSimpArgs false
namespace Jvm.RoadKit
open Sem ClassFile Op Lib Jvm.Stand Jvm.Free Jvm.LawKit
section New
variable {p : Program} {l : Launch} {e : Env} {R : Room} {s : State} {m : MethodId} {args : Array Value} {below : List Frame} {meth : Method} {c : Code} {T : State} {locs : List Loc} {cells slots : Nat}
theorem retI (X : Stand p l e R s m args below meth c T locs cells slots) (hx : p.tables.exec = Jvm.exec) {pc : Nat} {Ls : Array Slot} {z : Int32} {rest : List Value} (hret : meth.sig.returnType = some .int) (hd : decode c.code pc = .ok (.ireturn, 1)) {fs : List Frame}
    (hl : ∀ (f : JFrame) (acts : List Action), f.method = m → f.locked = none → f.entered = [] → (doReturn e (T.setTop f) acts (some (.int z))).1 = T.setFrames fs) : Steps p.tables e below (T.setTop (mkF m pc Ls (.int z :: rest))) (T.setFrames fs) := by
  have hm' : T.vm.method? m = some meth := X.method'
  have hn : narrow .int (.int z) = .int z := rfl
  show Steps p.tables e below (T.setTop { method := m, pc := pc, locals := Ls, stack := _ :: rest, locked := none }) _
  jvm_step X.here [X.here.top, hx, hd, hm', hret, hn]
  first | (intro acts; rw [hl _ acts rfl rfl rfl]) | rw [hl _ _ rfl rfl rfl]
  exact Steps.refl _
end New
end Jvm.RoadKit
namespace Jvm.Pilot.@@N@@
open Jvm Jvm.ClassFile Sem Op Lib Jvm.Free Jvm.Stand Jvm.LawKit Jvm.RoadKit Bundle Jvm.Pilot.@@N@@.Jvm.D
def own_G (tb : Tables) (e : Env) (below : List Frame) (P : State → Outcome → Prop) (S : State) : Prop := ∃ t o, Steps tb e below S t ∧ P t o
theorem own_in {tb : Tables} {e : Env} {below : List Frame} {P : State → Outcome → Prop} {S : State} (h : own_G tb e below P S) : ∃ t o, Steps tb e below S t ∧ P t o := h
theorem own_go {tb : Tables} {e : Env} {below : List Frame} {P : State → Outcome → Prop} {S S' : State} (f : ∀ t, Steps tb e below S' t → Steps tb e below S t) (h : own_G tb e below P S') : own_G tb e below P S := by
  obtain ⟨t, o, st, hp⟩ := h
  exact ⟨t, o, f t st, hp⟩
theorem own_join {α : Type} {tb : Tables} {e : Env} {below : List Frame} {P : State → Outcome → Prop} {S : State} (C : α → Prop) (F : α → State) (J : ∀ a, C a → own_G tb e below P (F a)) (M : (∀ a, C a → own_G tb e below P (F a)) → own_G tb e below P S) : own_G tb e below P S := M J
theorem own_loop {α : Type} {tb : Tables} {e : Env} {below : List Frame} {P : State → Outcome → Prop} {S : State} (mu : α → Nat) (C : α → Prop) (F : α → State) (J : ∀ a, C a → (∀ b, C b → mu b < mu a → own_G tb e below P (F b)) → own_G tb e below P (F a)) (M : (∀ a, C a → own_G tb e below P (F a)) → own_G tb e below P S) : own_G tb e below P S := by
  apply M
  have q : ∀ n a, mu a < n → C a → own_G tb e below P (F a) := by
    intro n
    induction n with
    | zero => intro a h; exact absurd h (Nat.not_lt_zero _)
    | succ n ih => intro a h ha; exact J a ha fun b hb hlt => ih b (by omega) hb
  exact fun a ha => q _ a (Nat.lt_succ_self _) ha
theorem own_gen {p : Program} {l : Launch} {e : Env} {R : Room} {s : State} {m : MethodId} {args : Array Value} {below : List Frame} {meth : Method} {c : Code} {T : State} {locs : List Loc} {cells slots n0 : Nat} (X : Stand p l e R s m args below meth c T locs cells slots) (N : Fr n0 locs) : ∃ L, Stand p l e R s m args below meth c T L cells slots ∧ Fr n0 L := ⟨_, X, N⟩
theorem own_l1 {a b : Int64} (h : a = b) : lcmpW a b = 0 := by subst h; simp [lcmpW]
theorem own_l2 {a b : Int64} (h : ¬ a = b) : ¬ lcmpW a b = 0 := by
  unfold lcmpW; split
  · decide
  · first | (rw [if_neg h]; decide) | decide
theorem own_l3 {a b : Int64} (h : a < b) : lcmpW a b < 0 := by
  have h1 : ¬ a > b := Int64.not_lt.mpr (Int64.le_of_lt h)
  have h2 : ¬ a = b := fun q => by subst q; exact Int64.lt_irrefl h
  unfold lcmpW; rw [if_neg h1, if_neg h2]; decide
theorem own_l4 {a b : Int64} (h : ¬ a < b) : ¬ lcmpW a b < 0 := by
  unfold lcmpW; split
  · decide
  · split
    · decide
    · rename_i h1 h2
      rw [gt_iff_lt, Int64.lt_iff_toInt_lt] at h1; rw [Int64.lt_iff_toInt_lt] at h; rw [← Int64.toInt_inj] at h2; omega
theorem own_l5 {a b : Int64} (h : b < a) : 0 < lcmpW a b := by unfold lcmpW; rw [if_pos h]; decide
theorem own_l6 {a b : Int64} (h : ¬ b < a) : ¬ 0 < lcmpW a b := by
  unfold lcmpW; rw [if_neg h]; split <;> decide
def own_up (f : Nat → Int32) (p : Nat) (v : Int32) (j : Nat) : Int32 := if j = p then v else f j
theorem own_nat4 {i : Int32} (h : ¬ i < (0 : Int32) ∧ ¬ (3 : Int32) < i) : i.toNatClampNeg = 0 ∨ i.toNatClampNeg = 1 ∨ i.toNatClampNeg = 2 ∨ i.toNatClampNeg = 3 := by
  rw [Int32.lt_iff_toInt_lt, Int32.lt_iff_toInt_lt, show (0 : Int32).toInt = 0 from rfl, show (3 : Int32).toInt = 3 from rfl] at h
  simp only [Int32.toNatClampNeg]; omega
theorem own_inb4 {i : Int32} (h : ¬ i < (0 : Int32) ∧ ¬ (3 : Int32) < i) : ¬ i < 0 ∧ i < (64 : Int32) := by
  refine ⟨h.1, ?_⟩
  rw [Int32.lt_iff_toInt_lt, Int32.lt_iff_toInt_lt, show (0 : Int32).toInt = 0 from rfl, show (3 : Int32).toInt = 3 from rfl] at h
  rw [Int32.lt_iff_toInt_lt, show (64 : Int32).toInt = 64 from rfl]; omega
theorem own_get4 (f : Nat → Int32) {i : Int32} (h : ¬ i < (0 : Int32) ∧ ¬ (3 : Int32) < i) : ([(.int (f 0)), (.int (f 1)), (.int (f 2)), (.int (f 3))] : List Value).getD i.toNatClampNeg (.int (0 : Int32)) = .int (f i.toNatClampNeg) := by
  rcases own_nat4 h with e | e | e | e <;> rw [e] <;> rfl
theorem own_on {n : Nat} (h : n ≤ 3) : (Int32.ofNat n).toInt = n := Int32.toInt_ofNat_of_lt (by omega)
theorem own_clN {n : Nat} (h : n ≤ 3) : (Int32.ofNat n).toNatClampNeg = n := by rw [Int32.toNatClampNeg, own_on h]; rfl
theorem own_inN {n : Nat} (h : n ≤ 3) : ¬ Int32.ofNat n < 0 ∧ Int32.ofNat n < (64 : Int32) := by
  rw [Int32.lt_iff_toInt_lt, Int32.lt_iff_toInt_lt, own_on h, show (0 : Int32).toInt = 0 from rfl, show (64 : Int32).toInt = 64 from rfl]; omega
theorem own_getN (f : Nat → Int32) (n : Nat) (h : n ≤ 3) : ([(.int (f 0)), (.int (f 1)), (.int (f 2)), (.int (f 3))] : List Value).getD (Int32.ofNat n).toNatClampNeg (.int (0 : Int32)) = .int (f n) := by
  rw [own_clN h]
  have : n = 0 ∨ n = 1 ∨ n = 2 ∨ n = 3 := by omega
  rcases this with rfl | rfl | rfl | rfl <;> rfl
theorem own_le4 {n : Nat} {a b c d : Value} (h : n ≤ 3) : n < ([a, b, c, d] : List Value).length := by show n < 4; omega
theorem own_set4 (f : Nat → Int32) (v : Int32) (n : Nat) (h : n ≤ 3) : ([(.int (f 0)), (.int (f 1)), (.int (f 2)), (.int (f 3))] : List Value).set n (.int v) = [(.int (own_up f n v 0)), (.int (own_up f n v 1)), (.int (own_up f n v 2)), (.int (own_up f n v 3))] := by
  have : n = 0 ∨ n = 1 ∨ n = 2 ∨ n = 3 := by omega
  rcases this with rfl | rfl | rfl | rfl <;> rfl
def own_par (p3 : Nat) : Nat → Nat
  | 2 => 1
  | 3 => p3
  | _ => 0
theorem own_parle3 {p3 : Nat} (h : p3 ≤ 1) (y : Nat) : own_par p3 y ≤ 3 := by unfold own_par; split <;> omega
theorem own_parle {p3 : Nat} (h : p3 ≤ 1) (y : Nat) : own_par p3 y ≤ 3 := own_parle3 h y
theorem own_z {y : Nat} (h : y ≤ 3) : Int32.ofNat y = (0 : Int32) ↔ y = 0 := by
  constructor
  · intro q
    have e := congrArg Int32.toInt q
    rw [own_on h, show (0 : Int32).toInt = 0 from rfl] at e
    omega
  · intro q; subst q; rfl
theorem own_parlt {p3 y n : Nat} (h : p3 ≤ 1) (hy : y ≤ 3) (hz : ¬ Int32.ofNat y = (0 : Int32)) (hn : y < n) : own_par p3 y < n - 1 := by
  rw [own_z hy] at hz
  have : y = 1 ∨ y = 2 ∨ y = 3 := by omega
  rcases this with rfl | rfl | rfl
  · show 0 < n - 1; omega
  · show 1 < n - 1; omega
  · show p3 < n - 1; omega
theorem own_getpar {p3 y : Nat} (hy : y ≤ 3) (hz : ¬ Int32.ofNat y = (0 : Int32)) : ([(.int (-1 : Int32)), (.int (Int32.ofNat 0)), (.int (Int32.ofNat 1)), (.int (Int32.ofNat p3))] : List Value).getD (Int32.ofNat y).toNatClampNeg (.int (0 : Int32)) = .int (Int32.ofNat (own_par p3 y)) := by
  rw [own_z hy] at hz
  rw [own_clN hy]
  have : y = 1 ∨ y = 2 ∨ y = 3 := by omega
  rcases this with rfl | rfl | rfl <;> rfl
def own_kstep (p x : Nat) (s : (Nat → Int32) × (Nat → Int32) × (Nat → Int32) × (Nat → Int32)) : (Nat → Int32) × (Nat → Int32) × (Nat → Int32) × (Nat → Int32) := (own_up s.1 x (nar .boolean (1 : Int32)), own_up s.2.1 p (Int32.ofNat x), own_up s.2.2.1 x (s.2.1 p), own_up s.2.2.2 p (s.2.2.2 p + (1 : Int32)))
def own_keep (p3 : Nat) : Nat → Nat → (Nat → Int32) × (Nat → Int32) × (Nat → Int32) × (Nat → Int32) → (Nat → Int32) × (Nat → Int32) × (Nat → Int32) × (Nat → Int32)
  | 0, _, s => s
  | n + 1, x, s => if Int32.ofNat x = (0 : Int32) then s else if s.1 x = (0 : Int32) then own_keep p3 n (own_par p3 x) (own_kstep (own_par p3 x) x s) else s
theorem own_kone {p3 n y : Nat} {s : (Nat → Int32) × (Nat → Int32) × (Nat → Int32) × (Nat → Int32)} (hy : y ≤ 3) (hn : y < n) (h3 : ¬ Int32.ofNat y = (0 : Int32)) (h12 : s.1 y = (0 : Int32)) : own_keep p3 (n - 1) (own_par p3 y) (own_kstep (own_par p3 y) y s) = own_keep p3 n y s := by
  obtain ⟨k, rfl⟩ : ∃ k, n = k + 1 := ⟨n - 1, by omega⟩
  show own_keep p3 k _ _ = (if Int32.ofNat y = (0 : Int32) then s else if s.1 y = (0 : Int32) then own_keep p3 k (own_par p3 y) (own_kstep (own_par p3 y) y s) else s)
  rw [if_neg h3, if_pos h12]
theorem own_kend0 {p3 n y x : Nat} {s q : (Nat → Int32) × (Nat → Int32) × (Nat → Int32) × (Nat → Int32)} (h3 : Int32.ofNat y = (0 : Int32)) (hn : y < n) (hR : own_keep p3 n y s = own_keep p3 4 x q) : s = own_keep p3 4 x q := by
  rw [← hR]
  obtain ⟨k, rfl⟩ : ∃ k, n = k + 1 := ⟨n - 1, by omega⟩
  show s = (if Int32.ofNat y = (0 : Int32) then s else _)
  rw [if_pos h3]
theorem own_kend1 {p3 n y x : Nat} {s q : (Nat → Int32) × (Nat → Int32) × (Nat → Int32) × (Nat → Int32)} (h3 : ¬ Int32.ofNat y = (0 : Int32)) (h12 : ¬ s.1 y = (0 : Int32)) (hn : y < n) (hR : own_keep p3 n y s = own_keep p3 4 x q) : s = own_keep p3 4 x q := by
  rw [← hR]
  obtain ⟨k, rfl⟩ : ∃ k, n = k + 1 := ⟨n - 1, by omega⟩
  show s = (if Int32.ofNat y = (0 : Int32) then s else if s.1 y = (0 : Int32) then _ else s)
  rw [if_neg h3, if_neg h12]
def own_ch (ff kc nx : Nat → Int32) (p e1 c1 e2 c2 : Int32) : Int32 :=
  if kc p.toNatClampNeg = (if e1 = (0 : Int32) then (if e2 = (0 : Int32) then (0 : Int32) else 1) else (if e2 = (0 : Int32) then 1 else 2)) then
    if e1 = (0 : Int32) ∧ e2 = (0 : Int32) then (if ff p.toNatClampNeg = (-1 : Int32) then 1 else 0)
    else if ff p.toNatClampNeg < (0 : Int32) ∨ (3 : Int32) < ff p.toNatClampNeg then 0
    else if e1 = (0 : Int32) ∨ e2 = (0 : Int32) then (if ff p.toNatClampNeg = (if e1 = (0 : Int32) then c2 else c1) ∧ nx (ff p.toNatClampNeg).toNatClampNeg = (-1 : Int32) then 1 else 0)
    else if nx (ff p.toNatClampNeg).toNatClampNeg < (0 : Int32) ∨ (3 : Int32) < nx (ff p.toNatClampNeg).toNatClampNeg then 0
    else if ((ff p.toNatClampNeg = c1 ∧ nx (ff p.toNatClampNeg).toNatClampNeg = c2) ∨ (ff p.toNatClampNeg = c2 ∧ nx (ff p.toNatClampNeg).toNatClampNeg = c1)) ∧ nx (nx (ff p.toNatClampNeg).toNatClampNeg).toNatClampNeg = (-1 : Int32) then 1 else 0
  else 0
theorem own_and3 (a : Int32) : ∃ n : Nat, n ≤ 3 ∧ a &&& (3 : Int32) = Int32.ofNat n := by
  have h : (a &&& (3 : Int32)).toBitVec.toNat ≤ 3 := by
    show (a.toBitVec &&& 3#32).toNat ≤ 3
    rw [BitVec.toNat_and]; exact Nat.and_le_right
  refine ⟨(a &&& (3 : Int32)).toBitVec.toNat, h, ?_⟩
  apply Int32.toBitVec_inj.mp
  apply BitVec.eq_of_toNat_eq
  show _ = (BitVec.ofNat 32 _).toNat
  rw [BitVec.toNat_ofNat]; omega
def own_s0 : (Nat → Int32) × (Nat → Int32) × (Nat → Int32) × (Nat → Int32) := (fun _ => 0, fun _ => -1, fun j => if j = 0 then 0 else -1, fun _ => 0)
def own_e3 (k1 k2 : Nat) : Int32 := if k1 = 3 ∨ k2 = 3 then 1 else 0
def own_e2 (k1 k2 : Nat) : Int32 := if k1 = 2 ∨ k2 = 2 then 1 else 0
def own_e1 (un k1 k2 : Nat) : Int32 := if k1 = 1 ∨ k2 = 1 ∨ k1 = 2 ∨ k2 = 2 ∨ ((k1 = 3 ∨ k2 = 3) ∧ un = 1) then 1 else 0
def own_x3 (un k1 k2 : Nat) : Int32 := if (k1 = 3 ∨ k2 = 3) ∧ un = 0 then 1 else 0
def own_y3 (un k1 k2 : Nat) : Int32 := if (k1 = 3 ∨ k2 = 3) ∧ un = 1 then 1 else 0
theorem own_ev_z12_ff : ∀ (un k1 k2 : Nat), un ≤ 1 → k1 ≤ 3 → k2 ≤ 3 → (¬ ((Int32.ofNat k1) = (3 : Int32))) → (¬ ((Int32.ofNat k2) = (3 : Int32))) → (0 : Int32) = (own_e3 k1 k2) := by
  intro un k1 k2 h1 h2 h3
  have : (un = 0 ∨ un = 1) := by omega
  have : (k1 = 0 ∨ k1 = 1 ∨ k1 = 2 ∨ k1 = 3) := by omega
  have : (k2 = 0 ∨ k2 = 1 ∨ k2 = 2 ∨ k2 = 3) := by omega
  rcases ‹un = 0 ∨ un = 1› with rfl | rfl <;> rcases ‹k1 = 0 ∨ _› with rfl | rfl | rfl | rfl <;> rcases ‹k2 = 0 ∨ _› with rfl | rfl | rfl | rfl <;> decide
theorem own_ev_z12_ft : ∀ (un k1 k2 : Nat), un ≤ 1 → k1 ≤ 3 → k2 ≤ 3 → (¬ ((Int32.ofNat k1) = (3 : Int32))) → ((Int32.ofNat k2) = (3 : Int32)) → (1 : Int32) = (own_e3 k1 k2) := by
  intro un k1 k2 h1 h2 h3
  have : (un = 0 ∨ un = 1) := by omega
  have : (k1 = 0 ∨ k1 = 1 ∨ k1 = 2 ∨ k1 = 3) := by omega
  have : (k2 = 0 ∨ k2 = 1 ∨ k2 = 2 ∨ k2 = 3) := by omega
  rcases ‹un = 0 ∨ un = 1› with rfl | rfl <;> rcases ‹k1 = 0 ∨ _› with rfl | rfl | rfl | rfl <;> rcases ‹k2 = 0 ∨ _› with rfl | rfl | rfl | rfl <;> decide
theorem own_ev_z12_t : ∀ (un k1 k2 : Nat), un ≤ 1 → k1 ≤ 3 → k2 ≤ 3 → ((Int32.ofNat k1) = (3 : Int32)) → (1 : Int32) = (own_e3 k1 k2) := by
  intro un k1 k2 h1 h2 h3
  have : (un = 0 ∨ un = 1) := by omega
  have : (k1 = 0 ∨ k1 = 1 ∨ k1 = 2 ∨ k1 = 3) := by omega
  have : (k2 = 0 ∨ k2 = 1 ∨ k2 = 2 ∨ k2 = 3) := by omega
  rcases ‹un = 0 ∨ un = 1› with rfl | rfl <;> rcases ‹k1 = 0 ∨ _› with rfl | rfl | rfl | rfl <;> rcases ‹k2 = 0 ∨ _› with rfl | rfl | rfl | rfl <;> decide
theorem own_ev_z13_ff : ∀ (un k1 k2 : Nat), un ≤ 1 → k1 ≤ 3 → k2 ≤ 3 → (¬ ((Int32.ofNat k1) = (2 : Int32))) → (¬ ((Int32.ofNat k2) = (2 : Int32))) → (0 : Int32) = (own_e2 k1 k2) := by
  intro un k1 k2 h1 h2 h3
  have : (un = 0 ∨ un = 1) := by omega
  have : (k1 = 0 ∨ k1 = 1 ∨ k1 = 2 ∨ k1 = 3) := by omega
  have : (k2 = 0 ∨ k2 = 1 ∨ k2 = 2 ∨ k2 = 3) := by omega
  rcases ‹un = 0 ∨ un = 1› with rfl | rfl <;> rcases ‹k1 = 0 ∨ _› with rfl | rfl | rfl | rfl <;> rcases ‹k2 = 0 ∨ _› with rfl | rfl | rfl | rfl <;> decide
theorem own_ev_z13_ft : ∀ (un k1 k2 : Nat), un ≤ 1 → k1 ≤ 3 → k2 ≤ 3 → (¬ ((Int32.ofNat k1) = (2 : Int32))) → ((Int32.ofNat k2) = (2 : Int32)) → (1 : Int32) = (own_e2 k1 k2) := by
  intro un k1 k2 h1 h2 h3
  have : (un = 0 ∨ un = 1) := by omega
  have : (k1 = 0 ∨ k1 = 1 ∨ k1 = 2 ∨ k1 = 3) := by omega
  have : (k2 = 0 ∨ k2 = 1 ∨ k2 = 2 ∨ k2 = 3) := by omega
  rcases ‹un = 0 ∨ un = 1› with rfl | rfl <;> rcases ‹k1 = 0 ∨ _› with rfl | rfl | rfl | rfl <;> rcases ‹k2 = 0 ∨ _› with rfl | rfl | rfl | rfl <;> decide
theorem own_ev_z13_t : ∀ (un k1 k2 : Nat), un ≤ 1 → k1 ≤ 3 → k2 ≤ 3 → ((Int32.ofNat k1) = (2 : Int32)) → (1 : Int32) = (own_e2 k1 k2) := by
  intro un k1 k2 h1 h2 h3
  have : (un = 0 ∨ un = 1) := by omega
  have : (k1 = 0 ∨ k1 = 1 ∨ k1 = 2 ∨ k1 = 3) := by omega
  have : (k2 = 0 ∨ k2 = 1 ∨ k2 = 2 ∨ k2 = 3) := by omega
  rcases ‹un = 0 ∨ un = 1› with rfl | rfl <;> rcases ‹k1 = 0 ∨ _› with rfl | rfl | rfl | rfl <;> rcases ‹k2 = 0 ∨ _› with rfl | rfl | rfl | rfl <;> decide
theorem own_ev_z14_fff : ∀ (un k1 k2 : Nat), un ≤ 1 → k1 ≤ 3 → k2 ≤ 3 → (¬ ((Int32.ofNat k1) = (1 : Int32))) → (¬ ((Int32.ofNat k2) = (1 : Int32))) → (¬ ((own_e2 k1 k2) = (0 : Int32))) → (1 : Int32) = (own_e1 un k1 k2) := by
  intro un k1 k2 h1 h2 h3
  have : (un = 0 ∨ un = 1) := by omega
  have : (k1 = 0 ∨ k1 = 1 ∨ k1 = 2 ∨ k1 = 3) := by omega
  have : (k2 = 0 ∨ k2 = 1 ∨ k2 = 2 ∨ k2 = 3) := by omega
  rcases ‹un = 0 ∨ un = 1› with rfl | rfl <;> rcases ‹k1 = 0 ∨ _› with rfl | rfl | rfl | rfl <;> rcases ‹k2 = 0 ∨ _› with rfl | rfl | rfl | rfl <;> decide
theorem own_ev_z14_fftff : ∀ (un k1 k2 : Nat), un ≤ 1 → k1 ≤ 3 → k2 ≤ 3 → (¬ ((Int32.ofNat k1) = (1 : Int32))) → (¬ ((Int32.ofNat k2) = (1 : Int32))) → ((own_e2 k1 k2) = (0 : Int32)) → (¬ ((own_e3 k1 k2) = (0 : Int32))) → (¬ ((Int32.ofNat un) = (0 : Int32))) → (1 : Int32) = (own_e1 un k1 k2) := by
  intro un k1 k2 h1 h2 h3
  have : (un = 0 ∨ un = 1) := by omega
  have : (k1 = 0 ∨ k1 = 1 ∨ k1 = 2 ∨ k1 = 3) := by omega
  have : (k2 = 0 ∨ k2 = 1 ∨ k2 = 2 ∨ k2 = 3) := by omega
  rcases ‹un = 0 ∨ un = 1› with rfl | rfl <;> rcases ‹k1 = 0 ∨ _› with rfl | rfl | rfl | rfl <;> rcases ‹k2 = 0 ∨ _› with rfl | rfl | rfl | rfl <;> decide
theorem own_ev_z14_fftft : ∀ (un k1 k2 : Nat), un ≤ 1 → k1 ≤ 3 → k2 ≤ 3 → (¬ ((Int32.ofNat k1) = (1 : Int32))) → (¬ ((Int32.ofNat k2) = (1 : Int32))) → ((own_e2 k1 k2) = (0 : Int32)) → (¬ ((own_e3 k1 k2) = (0 : Int32))) → ((Int32.ofNat un) = (0 : Int32)) → (0 : Int32) = (own_e1 un k1 k2) := by
  intro un k1 k2 h1 h2 h3
  have : (un = 0 ∨ un = 1) := by omega
  have : (k1 = 0 ∨ k1 = 1 ∨ k1 = 2 ∨ k1 = 3) := by omega
  have : (k2 = 0 ∨ k2 = 1 ∨ k2 = 2 ∨ k2 = 3) := by omega
  rcases ‹un = 0 ∨ un = 1› with rfl | rfl <;> rcases ‹k1 = 0 ∨ _› with rfl | rfl | rfl | rfl <;> rcases ‹k2 = 0 ∨ _› with rfl | rfl | rfl | rfl <;> decide
theorem own_ev_z14_fftt : ∀ (un k1 k2 : Nat), un ≤ 1 → k1 ≤ 3 → k2 ≤ 3 → (¬ ((Int32.ofNat k1) = (1 : Int32))) → (¬ ((Int32.ofNat k2) = (1 : Int32))) → ((own_e2 k1 k2) = (0 : Int32)) → ((own_e3 k1 k2) = (0 : Int32)) → (0 : Int32) = (own_e1 un k1 k2) := by
  intro un k1 k2 h1 h2 h3
  have : (un = 0 ∨ un = 1) := by omega
  have : (k1 = 0 ∨ k1 = 1 ∨ k1 = 2 ∨ k1 = 3) := by omega
  have : (k2 = 0 ∨ k2 = 1 ∨ k2 = 2 ∨ k2 = 3) := by omega
  rcases ‹un = 0 ∨ un = 1› with rfl | rfl <;> rcases ‹k1 = 0 ∨ _› with rfl | rfl | rfl | rfl <;> rcases ‹k2 = 0 ∨ _› with rfl | rfl | rfl | rfl <;> decide
theorem own_ev_z14_ft : ∀ (un k1 k2 : Nat), un ≤ 1 → k1 ≤ 3 → k2 ≤ 3 → (¬ ((Int32.ofNat k1) = (1 : Int32))) → ((Int32.ofNat k2) = (1 : Int32)) → (1 : Int32) = (own_e1 un k1 k2) := by
  intro un k1 k2 h1 h2 h3
  have : (un = 0 ∨ un = 1) := by omega
  have : (k1 = 0 ∨ k1 = 1 ∨ k1 = 2 ∨ k1 = 3) := by omega
  have : (k2 = 0 ∨ k2 = 1 ∨ k2 = 2 ∨ k2 = 3) := by omega
  rcases ‹un = 0 ∨ un = 1› with rfl | rfl <;> rcases ‹k1 = 0 ∨ _› with rfl | rfl | rfl | rfl <;> rcases ‹k2 = 0 ∨ _› with rfl | rfl | rfl | rfl <;> decide
theorem own_ev_z14_t : ∀ (un k1 k2 : Nat), un ≤ 1 → k1 ≤ 3 → k2 ≤ 3 → ((Int32.ofNat k1) = (1 : Int32)) → (1 : Int32) = (own_e1 un k1 k2) := by
  intro un k1 k2 h1 h2 h3
  have : (un = 0 ∨ un = 1) := by omega
  have : (k1 = 0 ∨ k1 = 1 ∨ k1 = 2 ∨ k1 = 3) := by omega
  have : (k2 = 0 ∨ k2 = 1 ∨ k2 = 2 ∨ k2 = 3) := by omega
  rcases ‹un = 0 ∨ un = 1› with rfl | rfl <;> rcases ‹k1 = 0 ∨ _› with rfl | rfl | rfl | rfl <;> rcases ‹k2 = 0 ∨ _› with rfl | rfl | rfl | rfl <;> decide
theorem own_ev_zx_ff : ∀ (un k1 k2 : Nat), un ≤ 1 → k1 ≤ 3 → k2 ≤ 3 → (¬ ((own_e3 k1 k2) = (0 : Int32))) → (¬ ((Int32.ofNat un) = (0 : Int32))) → (0 : Int32) = (own_x3 un k1 k2) := by
  intro un k1 k2 h1 h2 h3
  have : (un = 0 ∨ un = 1) := by omega
  have : (k1 = 0 ∨ k1 = 1 ∨ k1 = 2 ∨ k1 = 3) := by omega
  have : (k2 = 0 ∨ k2 = 1 ∨ k2 = 2 ∨ k2 = 3) := by omega
  rcases ‹un = 0 ∨ un = 1› with rfl | rfl <;> rcases ‹k1 = 0 ∨ _› with rfl | rfl | rfl | rfl <;> rcases ‹k2 = 0 ∨ _› with rfl | rfl | rfl | rfl <;> decide
theorem own_ev_zx_ft : ∀ (un k1 k2 : Nat), un ≤ 1 → k1 ≤ 3 → k2 ≤ 3 → (¬ ((own_e3 k1 k2) = (0 : Int32))) → ((Int32.ofNat un) = (0 : Int32)) → (1 : Int32) = (own_x3 un k1 k2) := by
  intro un k1 k2 h1 h2 h3
  have : (un = 0 ∨ un = 1) := by omega
  have : (k1 = 0 ∨ k1 = 1 ∨ k1 = 2 ∨ k1 = 3) := by omega
  have : (k2 = 0 ∨ k2 = 1 ∨ k2 = 2 ∨ k2 = 3) := by omega
  rcases ‹un = 0 ∨ un = 1› with rfl | rfl <;> rcases ‹k1 = 0 ∨ _› with rfl | rfl | rfl | rfl <;> rcases ‹k2 = 0 ∨ _› with rfl | rfl | rfl | rfl <;> decide
theorem own_ev_zx_t : ∀ (un k1 k2 : Nat), un ≤ 1 → k1 ≤ 3 → k2 ≤ 3 → ((own_e3 k1 k2) = (0 : Int32)) → (0 : Int32) = (own_x3 un k1 k2) := by
  intro un k1 k2 h1 h2 h3
  have : (un = 0 ∨ un = 1) := by omega
  have : (k1 = 0 ∨ k1 = 1 ∨ k1 = 2 ∨ k1 = 3) := by omega
  have : (k2 = 0 ∨ k2 = 1 ∨ k2 = 2 ∨ k2 = 3) := by omega
  rcases ‹un = 0 ∨ un = 1› with rfl | rfl <;> rcases ‹k1 = 0 ∨ _› with rfl | rfl | rfl | rfl <;> rcases ‹k2 = 0 ∨ _› with rfl | rfl | rfl | rfl <;> decide
theorem own_ev_zy_ff : ∀ (un k1 k2 : Nat), un ≤ 1 → k1 ≤ 3 → k2 ≤ 3 → (¬ ((own_e3 k1 k2) = (0 : Int32))) → (¬ ((Int32.ofNat un) = (0 : Int32))) → (1 : Int32) = (own_y3 un k1 k2) := by
  intro un k1 k2 h1 h2 h3
  have : (un = 0 ∨ un = 1) := by omega
  have : (k1 = 0 ∨ k1 = 1 ∨ k1 = 2 ∨ k1 = 3) := by omega
  have : (k2 = 0 ∨ k2 = 1 ∨ k2 = 2 ∨ k2 = 3) := by omega
  rcases ‹un = 0 ∨ un = 1› with rfl | rfl <;> rcases ‹k1 = 0 ∨ _› with rfl | rfl | rfl | rfl <;> rcases ‹k2 = 0 ∨ _› with rfl | rfl | rfl | rfl <;> decide
theorem own_ev_zy_ft : ∀ (un k1 k2 : Nat), un ≤ 1 → k1 ≤ 3 → k2 ≤ 3 → (¬ ((own_e3 k1 k2) = (0 : Int32))) → ((Int32.ofNat un) = (0 : Int32)) → (0 : Int32) = (own_y3 un k1 k2) := by
  intro un k1 k2 h1 h2 h3
  have : (un = 0 ∨ un = 1) := by omega
  have : (k1 = 0 ∨ k1 = 1 ∨ k1 = 2 ∨ k1 = 3) := by omega
  have : (k2 = 0 ∨ k2 = 1 ∨ k2 = 2 ∨ k2 = 3) := by omega
  rcases ‹un = 0 ∨ un = 1› with rfl | rfl <;> rcases ‹k1 = 0 ∨ _› with rfl | rfl | rfl | rfl <;> rcases ‹k2 = 0 ∨ _› with rfl | rfl | rfl | rfl <;> decide
theorem own_ev_zy_t : ∀ (un k1 k2 : Nat), un ≤ 1 → k1 ≤ 3 → k2 ≤ 3 → ((own_e3 k1 k2) = (0 : Int32)) → (0 : Int32) = (own_y3 un k1 k2) := by
  intro un k1 k2 h1 h2 h3
  have : (un = 0 ∨ un = 1) := by omega
  have : (k1 = 0 ∨ k1 = 1 ∨ k1 = 2 ∨ k1 = 3) := by omega
  have : (k2 = 0 ∨ k2 = 1 ∨ k2 = 2 ∨ k2 = 3) := by omega
  rcases ‹un = 0 ∨ un = 1› with rfl | rfl <;> rcases ‹k1 = 0 ∨ _› with rfl | rfl | rfl | rfl <;> rcases ‹k2 = 0 ∨ _› with rfl | rfl | rfl | rfl <;> decide
set_option maxRecDepth 65536 in
theorem own_fin : ∀ (un k1 k2 : Nat), un ≤ 1 → k1 ≤ 3 → k2 ≤ 3 → (nar .boolean ((own_keep un 4 k2 (own_keep un 4 k1 own_s0)).1 ((1 : Int32).toNatClampNeg))) = (own_e1 un k1 k2) ∧ (nar .boolean ((own_keep un 4 k2 (own_keep un 4 k1 own_s0)).1 ((2 : Int32).toNatClampNeg))) = (own_e2 k1 k2) ∧ (nar .boolean ((own_keep un 4 k2 (own_keep un 4 k1 own_s0)).1 ((3 : Int32).toNatClampNeg))) = (own_e3 k1 k2) ∧ ¬ (own_ch (own_keep un 4 k2 (own_keep un 4 k1 own_s0)).2.1 (own_keep un 4 k2 (own_keep un 4 k1 own_s0)).2.2.2 (own_keep un 4 k2 (own_keep un 4 k1 own_s0)).2.2.1 (0 : Int32) (own_e1 un k1 k2) (1 : Int32) (own_x3 un k1 k2) (3 : Int32)) = (0 : Int32) ∧ ¬ (own_ch (own_keep un 4 k2 (own_keep un 4 k1 own_s0)).2.1 (own_keep un 4 k2 (own_keep un 4 k1 own_s0)).2.2.2 (own_keep un 4 k2 (own_keep un 4 k1 own_s0)).2.2.1 (1 : Int32) (own_e2 k1 k2) (2 : Int32) (own_y3 un k1 k2) (3 : Int32)) = (0 : Int32) ∧ ¬ (own_ch (own_keep un 4 k2 (own_keep un 4 k1 own_s0)).2.1 (own_keep un 4 k2 (own_keep un 4 k1 own_s0)).2.2.2 (own_keep un 4 k2 (own_keep un 4 k1 own_s0)).2.2.1 (2 : Int32) (0 : Int32) (-1 : Int32) (0 : Int32) (-1 : Int32)) = (0 : Int32) ∧ ¬ (own_ch (own_keep un 4 k2 (own_keep un 4 k1 own_s0)).2.1 (own_keep un 4 k2 (own_keep un 4 k1 own_s0)).2.2.2 (own_keep un 4 k2 (own_keep un 4 k1 own_s0)).2.2.1 (3 : Int32) (0 : Int32) (-1 : Int32) (0 : Int32) (-1 : Int32)) = (0 : Int32) := by
  intro un k1 k2 h1 h2 h3
  have : (un = 0 ∨ un = 1) := by omega
  have : (k1 = 0 ∨ k1 = 1 ∨ k1 = 2 ∨ k1 = 3) := by omega
  have : (k2 = 0 ∨ k2 = 1 ∨ k2 = 2 ∨ k2 = 3) := by omega
  rcases ‹un = 0 ∨ un = 1› with rfl | rfl <;> rcases ‹k1 = 0 ∨ _› with rfl | rfl | rfl | rfl <;> rcases ‹k2 = 0 ∨ _› with rfl | rfl | rfl | rfl <;> decide +kernel

theorem pd__V : parseMethodDescriptor "()V" = some ⟨[], none⟩ := by decide +kernel
theorem pd_I_I : parseMethodDescriptor "(I)I" = some ⟨[.int], some .int⟩ := by decide +kernel
theorem pd_I_V : parseMethodDescriptor "(I)V" = some ⟨[.int], none⟩ := by decide +kernel
theorem pd_I_Z : parseMethodDescriptor "(I)Z" = some ⟨[.int], some .boolean⟩ := by decide +kernel
theorem pd_II_I : parseMethodDescriptor "(II)I" = some ⟨[.int, .int], some .int⟩ := by decide +kernel
theorem pd_LcomexamplefiligreefiligreeengineDecisionTreeIZIZI_Z : parseMethodDescriptor "(Lcom/example/filigree/filigree/engine/DecisionTree;IZIZI)Z" = some ⟨[(.object "com/example/filigree/filigree/engine/DecisionTree"), .int, .boolean, .int, .boolean, .int], some .boolean⟩ := by decide +kernel
-- com/example/filigree/filigree/engine/DecisionTree.<init>:()V
theorem d_ci_0 : decode prog_11_method_1_code 0 = .ok (.aload_n 0, 1) := by decide +kernel
theorem d_ci_1 : decode prog_11_method_1_code 1 = .ok (.invokespecial 1, 3) := by decide +kernel
theorem d_ci_4 : decode prog_11_method_1_code 4 = .ok (.aload_n 0, 1) := by decide +kernel
theorem d_ci_5 : decode prog_11_method_1_code 5 = .ok (.bipush 64, 2) := by decide +kernel
theorem d_ci_7 : decode prog_11_method_1_code 7 = .ok (.newarray .int, 2) := by decide +kernel
theorem d_ci_9 : decode prog_11_method_1_code 9 = .ok (.putfield 7, 3) := by decide +kernel
theorem d_ci_12 : decode prog_11_method_1_code 12 = .ok (.aload_n 0, 1) := by decide +kernel
theorem d_ci_13 : decode prog_11_method_1_code 13 = .ok (.bipush 64, 2) := by decide +kernel
theorem d_ci_15 : decode prog_11_method_1_code 15 = .ok (.newarray .int, 2) := by decide +kernel
theorem d_ci_17 : decode prog_11_method_1_code 17 = .ok (.putfield 13, 3) := by decide +kernel
theorem d_ci_20 : decode prog_11_method_1_code 20 = .ok (.aload_n 0, 1) := by decide +kernel
theorem d_ci_21 : decode prog_11_method_1_code 21 = .ok (.bipush 64, 2) := by decide +kernel
theorem d_ci_23 : decode prog_11_method_1_code 23 = .ok (.newarray .int, 2) := by decide +kernel
theorem d_ci_25 : decode prog_11_method_1_code 25 = .ok (.putfield 16, 3) := by decide +kernel
theorem d_ci_28 : decode prog_11_method_1_code 28 = .ok (.aload_n 0, 1) := by decide +kernel
theorem d_ci_29 : decode prog_11_method_1_code 29 = .ok (.bipush 64, 2) := by decide +kernel
theorem d_ci_31 : decode prog_11_method_1_code 31 = .ok (.newarray .int, 2) := by decide +kernel
theorem d_ci_33 : decode prog_11_method_1_code 33 = .ok (.putfield 19, 3) := by decide +kernel
theorem d_ci_36 : decode prog_11_method_1_code 36 = .ok (.aload_n 0, 1) := by decide +kernel
theorem d_ci_37 : decode prog_11_method_1_code 37 = .ok (.bipush 64, 2) := by decide +kernel
theorem d_ci_39 : decode prog_11_method_1_code 39 = .ok (.newarray .int, 2) := by decide +kernel
theorem d_ci_41 : decode prog_11_method_1_code 41 = .ok (.putfield 22, 3) := by decide +kernel
theorem d_ci_44 : decode prog_11_method_1_code 44 = .ok (.aload_n 0, 1) := by decide +kernel
theorem d_ci_45 : decode prog_11_method_1_code 45 = .ok (.bipush 64, 2) := by decide +kernel
theorem d_ci_47 : decode prog_11_method_1_code 47 = .ok (.newarray .int, 2) := by decide +kernel
theorem d_ci_49 : decode prog_11_method_1_code 49 = .ok (.putfield 25, 3) := by decide +kernel
theorem d_ci_52 : decode prog_11_method_1_code 52 = .ok (.aload_n 0, 1) := by decide +kernel
theorem d_ci_53 : decode prog_11_method_1_code 53 = .ok (.bipush 64, 2) := by decide +kernel
theorem d_ci_55 : decode prog_11_method_1_code 55 = .ok (.newarray .boolean, 2) := by decide +kernel
theorem d_ci_57 : decode prog_11_method_1_code 57 = .ok (.putfield 28, 3) := by decide +kernel
theorem d_ci_60 : decode prog_11_method_1_code 60 = .ok (.aload_n 0, 1) := by decide +kernel
theorem d_ci_61 : decode prog_11_method_1_code 61 = .ok (.iconst 1, 1) := by decide +kernel
theorem d_ci_62 : decode prog_11_method_1_code 62 = .ok (.putfield 32, 3) := by decide +kernel
theorem d_ci_65 : decode prog_11_method_1_code 65 = .ok (.aload_n 0, 1) := by decide +kernel
theorem d_ci_66 : decode prog_11_method_1_code 66 = .ok (.getfield 7, 3) := by decide +kernel
theorem d_ci_69 : decode prog_11_method_1_code 69 = .ok (.iconst 0, 1) := by decide +kernel
theorem d_ci_70 : decode prog_11_method_1_code 70 = .ok (.iconst (-1), 1) := by decide +kernel
theorem d_ci_71 : decode prog_11_method_1_code 71 = .ok (.iastore, 1) := by decide +kernel
theorem d_ci_72 : decode prog_11_method_1_code 72 = .ok (.aload_n 0, 1) := by decide +kernel
theorem d_ci_73 : decode prog_11_method_1_code 73 = .ok (.getfield 19, 3) := by decide +kernel
theorem d_ci_76 : decode prog_11_method_1_code 76 = .ok (.iconst 0, 1) := by decide +kernel
theorem d_ci_77 : decode prog_11_method_1_code 77 = .ok (.iconst (-1), 1) := by decide +kernel
theorem d_ci_78 : decode prog_11_method_1_code 78 = .ok (.iastore, 1) := by decide +kernel
theorem d_ci_79 : decode prog_11_method_1_code 79 = .ok (.return_, 1) := by decide +kernel
theorem pn_ci : plainName "com/example/filigree/filigree/engine/DecisionTree" = true := by first | (simp [plainName, overriddenIn]; done) | decide +kernel
theorem ef_ci (m : MethodId) (a1 : Addr) : entryFrame m #[(.ref a1)] 1 = mkF m 0 #[.val (.ref a1)] [] := by first | (simp [entryFrame, mkF, argsToLocals, Value.category]; done) | rfl
def Q_ci (Z : State) (a1 : Addr) (h0 : Heap) (n0 : Nat) (v : Option Value) (h : Heap) (L : List Loc) : Prop := ∃ (b0_ : Addr), ∃ (b1_ : Addr), ∃ (b2_ : Addr), ∃ (b3_ : Addr), ∃ (b4_ : Addr), ∃ (b5_ : Addr), ∃ (b6_ : Addr), ∃ (k0_ : ClassId), ∃ (k1_ : ClassId), ∃ (k2_ : ClassId), ∃ (k3_ : ClassId), ∃ (k4_ : ClassId), ∃ (k5_ : ClassId), ∃ (k6_ : ClassId), v = none ∧ Fr n0 L ∧ Keep h0 h [a1] ∧ Exa Z h a1 "com/example/filigree/filigree/engine/DecisionTree" ∧ Fld Z h a1 "com/example/filigree/filigree/engine/DecisionTree" "m_aParent" "[I" (.ref b0_) ∧ Fld Z h a1 "com/example/filigree/filigree/engine/DecisionTree" "m_aDecision" "[I" (.ref b1_) ∧ Fld Z h a1 "com/example/filigree/filigree/engine/DecisionTree" "m_aDepth" "[I" (.ref b2_) ∧ Fld Z h a1 "com/example/filigree/filigree/engine/DecisionTree" "m_aFirstKept" "[I" (.ref b3_) ∧ Fld Z h a1 "com/example/filigree/filigree/engine/DecisionTree" "m_aKeptCount" "[I" (.ref b4_) ∧ Fld Z h a1 "com/example/filigree/filigree/engine/DecisionTree" "m_aNextKept" "[I" (.ref b5_) ∧ Fld Z h a1 "com/example/filigree/filigree/engine/DecisionTree" "m_aKept" "[Z" (.ref b6_) ∧ Fld Z h a1 "com/example/filigree/filigree/engine/DecisionTree" "m_nSize" "I" (.int (1 : Int32)) ∧ h0.size ≤ b0_ ∧ h0.size ≤ b1_ ∧ h0.size ≤ b2_ ∧ h0.size ≤ b3_ ∧ h0.size ≤ b4_ ∧ h0.size ≤ b5_ ∧ h0.size ≤ b6_ ∧ a1 ≠ b0_ ∧ a1 ≠ b1_ ∧ a1 ≠ b2_ ∧ a1 ≠ b3_ ∧ a1 ≠ b4_ ∧ a1 ≠ b5_ ∧ a1 ≠ b6_ ∧ b0_ ≠ b1_ ∧ b0_ ≠ b2_ ∧ b0_ ≠ b3_ ∧ b0_ ≠ b4_ ∧ b0_ ≠ b5_ ∧ b0_ ≠ b6_ ∧ b1_ ≠ b2_ ∧ b1_ ≠ b3_ ∧ b1_ ≠ b4_ ∧ b1_ ≠ b5_ ∧ b1_ ≠ b6_ ∧ b2_ ≠ b3_ ∧ b2_ ≠ b4_ ∧ b2_ ≠ b5_ ∧ b2_ ≠ b6_ ∧ b3_ ≠ b4_ ∧ b3_ ≠ b5_ ∧ b3_ ≠ b6_ ∧ b4_ ≠ b5_ ∧ b4_ ≠ b6_ ∧ b5_ ≠ b6_ ∧ Arv Z h b0_ k0_ .int (64 : Int32) [(.int (-1 : Int32)), (.int (0 : Int32)), (.int (0 : Int32)), (.int (0 : Int32))] (.int (0 : Int32)) ∧ Arv Z h b1_ k1_ .int (64 : Int32) [(.int (0 : Int32)), (.int (0 : Int32)), (.int (0 : Int32)), (.int (0 : Int32))] (.int (0 : Int32)) ∧ Arv Z h b2_ k2_ .int (64 : Int32) [(.int (0 : Int32)), (.int (0 : Int32)), (.int (0 : Int32)), (.int (0 : Int32))] (.int (0 : Int32)) ∧ Arv Z h b3_ k3_ .int (64 : Int32) [(.int (-1 : Int32)), (.int (0 : Int32)), (.int (0 : Int32)), (.int (0 : Int32))] (.int (0 : Int32)) ∧ Arv Z h b4_ k4_ .int (64 : Int32) [(.int (0 : Int32)), (.int (0 : Int32)), (.int (0 : Int32)), (.int (0 : Int32))] (.int (0 : Int32)) ∧ Arv Z h b5_ k5_ .int (64 : Int32) [(.int (0 : Int32)), (.int (0 : Int32)), (.int (0 : Int32)), (.int (0 : Int32))] (.int (0 : Int32)) ∧ Arv Z h b6_ k6_ .boolean (64 : Int32) [(.int (0 : Int32)), (.int (0 : Int32)), (.int (0 : Int32)), (.int (0 : Int32))] (.int (0 : Int32))
set_option maxRecDepth 65536 in
set_option maxHeartbeats 40000000 in
theorem rm_ci (l : Launch) (Z : State) (a0 : Array Value) (hw : ∀ d ∈ tables_1, d.before a0 Z = true) (ws : List Jvm.Cond) (a1 : Addr) (h0 : Heap) (n0 : Nat) (Z0 : n0 ≤ h0.size) (E1 : Exa Z h0 a1 "com/example/filigree/filigree/engine/DecisionTree") (F0_ : Fld Z h0 a1 "com/example/filigree/filigree/engine/DecisionTree" "m_aParent" "[I" .null) (F1_ : Fld Z h0 a1 "com/example/filigree/filigree/engine/DecisionTree" "m_aDecision" "[I" .null) (F2_ : Fld Z h0 a1 "com/example/filigree/filigree/engine/DecisionTree" "m_aDepth" "[I" .null) (F3_ : Fld Z h0 a1 "com/example/filigree/filigree/engine/DecisionTree" "m_aFirstKept" "[I" .null) (F4_ : Fld Z h0 a1 "com/example/filigree/filigree/engine/DecisionTree" "m_aKeptCount" "[I" .null) (F5_ : Fld Z h0 a1 "com/example/filigree/filigree/engine/DecisionTree" "m_aNextKept" "[I" .null) (F6_ : Fld Z h0 a1 "com/example/filigree/filigree/engine/DecisionTree" "m_aKept" "[Z" .null) (F7_ : Fld Z h0 a1 "com/example/filigree/filigree/engine/DecisionTree" "m_nSize" "I" (.int (0 : Int32))) (g1 : n0 ≤ a1) :
    MetFree l (⟨"com/example/filigree/filigree/engine/DecisionTree", "<init>", "()V"⟩ : MethodName) (head1 (Jvm.Cond.code (⟨"com/example/filigree/filigree/engine/DecisionTree", "<init>", "()V"⟩ : MethodName) prog_11_method_1_code 1 none :: ws) ({ frames := 1, cells := 7, slots := 448, locals := 12 } : Room)) (fun a U => a = #[(.ref a1)] ∧ Z.Warmed39 U.vm ∧ U.heap = h0) (fun _ _ _ _ _ => True) (fun _ U o U' => ∃ v L, o = .returned v ∧ Q_ci Z a1 h0 n0 v U'.heap L ∧ FrameEnd U o U' L ({ frames := 1, cells := 7, slots := 448, locals := 12 } : Room).cells ({ frames := 1, cells := 7, slots := 448, locals := 12 } : Room).slots) := by
  refine MetFree.of_bodySF (plainFor_of_name pn_ci) hisR ?_
  intro p e s m args below meth c s₁ Bd hml0 hP hK
  obtain ⟨rfl, hZ, hh⟩ := hP
  have hx := Bd.exec
  have hby := Bd.bytes
  have hml : c.maxLocals = 1 := hml0
  have hown : s.vm.findClass "com/example/filigree/filigree/engine/DecisionTree" = some m.cls := findClass_of_methodNamed Bd.named
  have hnm := (name_of_methodNamed Bd.named Bd.method).1
  have X0 : Stand p l e ({ frames := 1, cells := 7, slots := 448, locals := 12 } : Room) s m #[(.ref a1)] below meth c s₁ [] 0 0 := Stand.of_body Bd
  have e0 : s₁.heap = h0 := by rw [← hh, Bd.state]; rfl
  have N0 := Fr.nil n0
  refine own_in ?_
  refine own_go (S' := s₁.setTop (mkF m 0 #[.val (.ref a1)] [])) (fun tgt_ stp_ => castTop (ef_ci m a1) stp_) ?_
  have K0 : Keep h0 h0 [a1] := Keep.refl h0 _
  obtain ⟨T_1, X_1, e_1, st_1⟩ := initO X0 hx hZ hown (hw _ (List.mem_of_getElem? (i := 6) rfl)) (hw _ (List.mem_of_getElem? (i := 7) rfl)) (hw _ (List.mem_of_getElem? (i := 8) rfl)) e0 (g := (mkF m 1 #[.val (.ref a1)] [(.ref a1)])) rfl (by rw [hml]; rfl) rfl (hb hby d_ci_1) (by decide) (W := 0) (by show 2 * 0 + _ ≤ _; exact Nat.le_of_eq rfl) (by decide)
  obtain ⟨T_2, h_2, k_2, X_2, e_2, E_2, A_2, st_2⟩ := newP X_1 hx hZ (hw _ (List.mem_of_getElem? (i := 9) rfl)) e_1 (g := (mkF m 7 #[.val (.ref a1)] [(.int (64 : Int32)), (.ref a1)])) rfl (hb hby d_ci_7) rfl (by decide) (cap := 64) (by decide) (by decide) (by decide) (by decide)
  obtain ⟨b_2, g_2⟩ : ∃ z, z = h0.size := ⟨_, rfl⟩
  rw [← g_2] at A_2 st_2
  have gn_b_2 : n0 ≤ b_2 := Nat.le_trans Z0 (Nat.le_of_eq g_2.symm)
  have sz_b_2 : h0.size ≤ b_2 := Nat.le_trans K0.1 (Nat.le_of_eq g_2.symm)
  have ne_a1_b_2 : a1 ≠ b_2 := Nat.ne_of_lt (Nat.lt_of_lt_of_le E1.lt (Nat.le_of_eq g_2.symm))
  have V_2 : Arv Z h_2 b_2 k_2 .int (64 : Int32) [(.int (0 : Int32)), (.int (0 : Int32)), (.int (0 : Int32)), (.int (0 : Int32))] (.int (0 : Int32)) := (Arv.new A_2 (by decide)).pad (pad_rep [] (.int (0 : Int32)) 4)
  have Z_3 : n0 ≤ h_2.size := Nat.le_trans Z0 E_2.1
  have K_4 : Keep h0 h_2 [a1] := K0.ext E_2
  have f_5 := (E1.ext E_2)
  have f_6 := (F0_.ext E_2)
  obtain ⟨T_7, h_7, X_7, e_7, W_7, st_7⟩ := putF X_2 hx hZ hown (host := "") (Or.inl (hw _ (List.mem_of_getElem? (i := 10) rfl))) Via.refl e_2 f_6 f_5 (Or.inl (hw _ (List.mem_of_getElem? (i := 11) rfl))) (hw _ (List.mem_of_getElem? (i := 1) rfl)) (ty := (.array .int)) (by decide) rfl rfl (g := (mkF m 9 #[.val (.ref a1)] [(.ref b_2), (.ref a1)])) rfl rfl (hb hby d_ci_9)
  obtain ⟨Lg_7, XG_7, N_7⟩ := own_gen X_7 (Fr.snoc X_7 N0 g1)
  have F_7 := f_6.same W_7
  have Z_8 : n0 ≤ h_7.size := Nat.le_trans Z_3 (Keep.of_wr W_7).1
  have K_9 : Keep h0 h_7 [a1] := K_4.wr W_7 (Or.inl (List.mem_of_getElem? (i := 0) rfl))
  obtain ⟨T_10, h_10, k_10, X_10, e_10, E_10, A_10, st_10⟩ := newP XG_7 hx hZ (hw _ (List.mem_of_getElem? (i := 9) rfl)) e_7 (g := (mkF m 15 #[.val (.ref a1)] [(.int (64 : Int32)), (.ref a1)])) rfl (hb hby d_ci_15) rfl (by decide) (cap := 64) (by decide) (by decide) (by decide) (by decide)
  obtain ⟨b_10, g_10⟩ : ∃ z, z = h_7.size := ⟨_, rfl⟩
  rw [← g_10] at A_10 st_10
  have gn_b_10 : n0 ≤ b_10 := Nat.le_trans Z_8 (Nat.le_of_eq g_10.symm)
  have sz_b_10 : h0.size ≤ b_10 := Nat.le_trans K_9.1 (Nat.le_of_eq g_10.symm)
  have f_11 := (f_5.wr W_7)
  have ne_a1_b_10 : a1 ≠ b_10 := Nat.ne_of_lt (Nat.lt_of_lt_of_le f_11.lt (Nat.le_of_eq g_10.symm))
  have f_12 := (V_2.other W_7 (Ne.symm ne_a1_b_2))
  have ne_b_2_b_10 : b_2 ≠ b_10 := Nat.ne_of_lt (Nat.lt_of_lt_of_le f_12.lt (Nat.le_of_eq g_10.symm))
  have V_10 : Arv Z h_10 b_10 k_10 .int (64 : Int32) [(.int (0 : Int32)), (.int (0 : Int32)), (.int (0 : Int32)), (.int (0 : Int32))] (.int (0 : Int32)) := (Arv.new A_10 (by decide)).pad (pad_rep [] (.int (0 : Int32)) 4)
  have Z_13 : n0 ≤ h_10.size := Nat.le_trans Z_8 E_10.1
  have K_14 : Keep h0 h_10 [a1] := K_9.ext E_10
  have f_15 := (f_11.ext E_10)
  have f_16 := (((F1_.ext E_2).other W_7 (Or.inr (slot_ne (Or.inl (hw _ (List.mem_of_getElem? (i := 13) rfl))) (Or.inl (hw _ (List.mem_of_getElem? (i := 11) rfl))) (by decide) (t := (.array .int)) (t' := (.array .int)) (by decide) (by decide)))).ext E_10)
  obtain ⟨T_17, h_17, X_17, e_17, W_17, st_17⟩ := putF X_10 hx hZ hown (host := "") (Or.inl (hw _ (List.mem_of_getElem? (i := 12) rfl))) Via.refl e_10 f_16 f_15 (Or.inl (hw _ (List.mem_of_getElem? (i := 13) rfl))) (hw _ (List.mem_of_getElem? (i := 1) rfl)) (ty := (.array .int)) (by decide) rfl rfl (g := (mkF m 17 #[.val (.ref a1)] [(.ref b_10), (.ref a1)])) rfl rfl (hb hby d_ci_17)
  obtain ⟨Lg_17, XG_17, N_17⟩ := own_gen X_17 (Fr.snoc X_17 N_7 g1)
  have F_17 := f_16.same W_17
  have Z_18 : n0 ≤ h_17.size := Nat.le_trans Z_13 (Keep.of_wr W_17).1
  have K_19 : Keep h0 h_17 [a1] := K_14.wr W_17 (Or.inl (List.mem_of_getElem? (i := 0) rfl))
  obtain ⟨T_20, h_20, k_20, X_20, e_20, E_20, A_20, st_20⟩ := newP XG_17 hx hZ (hw _ (List.mem_of_getElem? (i := 9) rfl)) e_17 (g := (mkF m 23 #[.val (.ref a1)] [(.int (64 : Int32)), (.ref a1)])) rfl (hb hby d_ci_23) rfl (by decide) (cap := 64) (by decide) (by decide) (by decide) (by decide)
  obtain ⟨b_20, g_20⟩ : ∃ z, z = h_17.size := ⟨_, rfl⟩
  rw [← g_20] at A_20 st_20
  have gn_b_20 : n0 ≤ b_20 := Nat.le_trans Z_18 (Nat.le_of_eq g_20.symm)
  have sz_b_20 : h0.size ≤ b_20 := Nat.le_trans K_19.1 (Nat.le_of_eq g_20.symm)
  have f_21 := (f_15.wr W_17)
  have ne_a1_b_20 : a1 ≠ b_20 := Nat.ne_of_lt (Nat.lt_of_lt_of_le f_21.lt (Nat.le_of_eq g_20.symm))
  have f_22 := ((f_12.ext E_10).other W_17 (Ne.symm ne_a1_b_2))
  have ne_b_2_b_20 : b_2 ≠ b_20 := Nat.ne_of_lt (Nat.lt_of_lt_of_le f_22.lt (Nat.le_of_eq g_20.symm))
  have f_23 := (V_10.other W_17 (Ne.symm ne_a1_b_10))
  have ne_b_10_b_20 : b_10 ≠ b_20 := Nat.ne_of_lt (Nat.lt_of_lt_of_le f_23.lt (Nat.le_of_eq g_20.symm))
  have V_20 : Arv Z h_20 b_20 k_20 .int (64 : Int32) [(.int (0 : Int32)), (.int (0 : Int32)), (.int (0 : Int32)), (.int (0 : Int32))] (.int (0 : Int32)) := (Arv.new A_20 (by decide)).pad (pad_rep [] (.int (0 : Int32)) 4)
  have Z_24 : n0 ≤ h_20.size := Nat.le_trans Z_18 E_20.1
  have K_25 : Keep h0 h_20 [a1] := K_19.ext E_20
  have f_26 := (f_21.ext E_20)
  have f_27 := (((((F2_.ext E_2).other W_7 (Or.inr (slot_ne (Or.inl (hw _ (List.mem_of_getElem? (i := 15) rfl))) (Or.inl (hw _ (List.mem_of_getElem? (i := 11) rfl))) (by decide) (t := (.array .int)) (t' := (.array .int)) (by decide) (by decide)))).ext E_10).other W_17 (Or.inr (slot_ne (Or.inl (hw _ (List.mem_of_getElem? (i := 15) rfl))) (Or.inl (hw _ (List.mem_of_getElem? (i := 13) rfl))) (by decide) (t := (.array .int)) (t' := (.array .int)) (by decide) (by decide)))).ext E_20)
  obtain ⟨T_28, h_28, X_28, e_28, W_28, st_28⟩ := putF X_20 hx hZ hown (host := "") (Or.inl (hw _ (List.mem_of_getElem? (i := 14) rfl))) Via.refl e_20 f_27 f_26 (Or.inl (hw _ (List.mem_of_getElem? (i := 15) rfl))) (hw _ (List.mem_of_getElem? (i := 1) rfl)) (ty := (.array .int)) (by decide) rfl rfl (g := (mkF m 25 #[.val (.ref a1)] [(.ref b_20), (.ref a1)])) rfl rfl (hb hby d_ci_25)
  obtain ⟨Lg_28, XG_28, N_28⟩ := own_gen X_28 (Fr.snoc X_28 N_17 g1)
  have F_28 := f_27.same W_28
  have Z_29 : n0 ≤ h_28.size := Nat.le_trans Z_24 (Keep.of_wr W_28).1
  have K_30 : Keep h0 h_28 [a1] := K_25.wr W_28 (Or.inl (List.mem_of_getElem? (i := 0) rfl))
  obtain ⟨T_31, h_31, k_31, X_31, e_31, E_31, A_31, st_31⟩ := newP XG_28 hx hZ (hw _ (List.mem_of_getElem? (i := 9) rfl)) e_28 (g := (mkF m 31 #[.val (.ref a1)] [(.int (64 : Int32)), (.ref a1)])) rfl (hb hby d_ci_31) rfl (by decide) (cap := 64) (by decide) (by decide) (by decide) (by decide)
  obtain ⟨b_31, g_31⟩ : ∃ z, z = h_28.size := ⟨_, rfl⟩
  rw [← g_31] at A_31 st_31
  have gn_b_31 : n0 ≤ b_31 := Nat.le_trans Z_29 (Nat.le_of_eq g_31.symm)
  have sz_b_31 : h0.size ≤ b_31 := Nat.le_trans K_30.1 (Nat.le_of_eq g_31.symm)
  have f_32 := (f_26.wr W_28)
  have ne_a1_b_31 : a1 ≠ b_31 := Nat.ne_of_lt (Nat.lt_of_lt_of_le f_32.lt (Nat.le_of_eq g_31.symm))
  have f_33 := ((f_22.ext E_20).other W_28 (Ne.symm ne_a1_b_2))
  have ne_b_2_b_31 : b_2 ≠ b_31 := Nat.ne_of_lt (Nat.lt_of_lt_of_le f_33.lt (Nat.le_of_eq g_31.symm))
  have f_34 := ((f_23.ext E_20).other W_28 (Ne.symm ne_a1_b_10))
  have ne_b_10_b_31 : b_10 ≠ b_31 := Nat.ne_of_lt (Nat.lt_of_lt_of_le f_34.lt (Nat.le_of_eq g_31.symm))
  have f_35 := (V_20.other W_28 (Ne.symm ne_a1_b_20))
  have ne_b_20_b_31 : b_20 ≠ b_31 := Nat.ne_of_lt (Nat.lt_of_lt_of_le f_35.lt (Nat.le_of_eq g_31.symm))
  have V_31 : Arv Z h_31 b_31 k_31 .int (64 : Int32) [(.int (0 : Int32)), (.int (0 : Int32)), (.int (0 : Int32)), (.int (0 : Int32))] (.int (0 : Int32)) := (Arv.new A_31 (by decide)).pad (pad_rep [] (.int (0 : Int32)) 4)
  have Z_36 : n0 ≤ h_31.size := Nat.le_trans Z_29 E_31.1
  have K_37 : Keep h0 h_31 [a1] := K_30.ext E_31
  have f_38 := (f_32.ext E_31)
  have f_39 := (((((((F3_.ext E_2).other W_7 (Or.inr (slot_ne (Or.inl (hw _ (List.mem_of_getElem? (i := 17) rfl))) (Or.inl (hw _ (List.mem_of_getElem? (i := 11) rfl))) (by decide) (t := (.array .int)) (t' := (.array .int)) (by decide) (by decide)))).ext E_10).other W_17 (Or.inr (slot_ne (Or.inl (hw _ (List.mem_of_getElem? (i := 17) rfl))) (Or.inl (hw _ (List.mem_of_getElem? (i := 13) rfl))) (by decide) (t := (.array .int)) (t' := (.array .int)) (by decide) (by decide)))).ext E_20).other W_28 (Or.inr (slot_ne (Or.inl (hw _ (List.mem_of_getElem? (i := 17) rfl))) (Or.inl (hw _ (List.mem_of_getElem? (i := 15) rfl))) (by decide) (t := (.array .int)) (t' := (.array .int)) (by decide) (by decide)))).ext E_31)
  obtain ⟨T_40, h_40, X_40, e_40, W_40, st_40⟩ := putF X_31 hx hZ hown (host := "") (Or.inl (hw _ (List.mem_of_getElem? (i := 16) rfl))) Via.refl e_31 f_39 f_38 (Or.inl (hw _ (List.mem_of_getElem? (i := 17) rfl))) (hw _ (List.mem_of_getElem? (i := 1) rfl)) (ty := (.array .int)) (by decide) rfl rfl (g := (mkF m 33 #[.val (.ref a1)] [(.ref b_31), (.ref a1)])) rfl rfl (hb hby d_ci_33)
  obtain ⟨Lg_40, XG_40, N_40⟩ := own_gen X_40 (Fr.snoc X_40 N_28 g1)
  have F_40 := f_39.same W_40
  have Z_41 : n0 ≤ h_40.size := Nat.le_trans Z_36 (Keep.of_wr W_40).1
  have K_42 : Keep h0 h_40 [a1] := K_37.wr W_40 (Or.inl (List.mem_of_getElem? (i := 0) rfl))
  obtain ⟨T_43, h_43, k_43, X_43, e_43, E_43, A_43, st_43⟩ := newP XG_40 hx hZ (hw _ (List.mem_of_getElem? (i := 9) rfl)) e_40 (g := (mkF m 39 #[.val (.ref a1)] [(.int (64 : Int32)), (.ref a1)])) rfl (hb hby d_ci_39) rfl (by decide) (cap := 64) (by decide) (by decide) (by decide) (by decide)
  obtain ⟨b_43, g_43⟩ : ∃ z, z = h_40.size := ⟨_, rfl⟩
  rw [← g_43] at A_43 st_43
  have gn_b_43 : n0 ≤ b_43 := Nat.le_trans Z_41 (Nat.le_of_eq g_43.symm)
  have sz_b_43 : h0.size ≤ b_43 := Nat.le_trans K_42.1 (Nat.le_of_eq g_43.symm)
  have f_44 := (f_38.wr W_40)
  have ne_a1_b_43 : a1 ≠ b_43 := Nat.ne_of_lt (Nat.lt_of_lt_of_le f_44.lt (Nat.le_of_eq g_43.symm))
  have f_45 := ((f_33.ext E_31).other W_40 (Ne.symm ne_a1_b_2))
  have ne_b_2_b_43 : b_2 ≠ b_43 := Nat.ne_of_lt (Nat.lt_of_lt_of_le f_45.lt (Nat.le_of_eq g_43.symm))
  have f_46 := ((f_34.ext E_31).other W_40 (Ne.symm ne_a1_b_10))
  have ne_b_10_b_43 : b_10 ≠ b_43 := Nat.ne_of_lt (Nat.lt_of_lt_of_le f_46.lt (Nat.le_of_eq g_43.symm))
  have f_47 := ((f_35.ext E_31).other W_40 (Ne.symm ne_a1_b_20))
  have ne_b_20_b_43 : b_20 ≠ b_43 := Nat.ne_of_lt (Nat.lt_of_lt_of_le f_47.lt (Nat.le_of_eq g_43.symm))
  have f_48 := (V_31.other W_40 (Ne.symm ne_a1_b_31))
  have ne_b_31_b_43 : b_31 ≠ b_43 := Nat.ne_of_lt (Nat.lt_of_lt_of_le f_48.lt (Nat.le_of_eq g_43.symm))
  have V_43 : Arv Z h_43 b_43 k_43 .int (64 : Int32) [(.int (0 : Int32)), (.int (0 : Int32)), (.int (0 : Int32)), (.int (0 : Int32))] (.int (0 : Int32)) := (Arv.new A_43 (by decide)).pad (pad_rep [] (.int (0 : Int32)) 4)
  have Z_49 : n0 ≤ h_43.size := Nat.le_trans Z_41 E_43.1
  have K_50 : Keep h0 h_43 [a1] := K_42.ext E_43
  have f_51 := (f_44.ext E_43)
  have f_52 := (((((((((F4_.ext E_2).other W_7 (Or.inr (slot_ne (Or.inl (hw _ (List.mem_of_getElem? (i := 19) rfl))) (Or.inl (hw _ (List.mem_of_getElem? (i := 11) rfl))) (by decide) (t := (.array .int)) (t' := (.array .int)) (by decide) (by decide)))).ext E_10).other W_17 (Or.inr (slot_ne (Or.inl (hw _ (List.mem_of_getElem? (i := 19) rfl))) (Or.inl (hw _ (List.mem_of_getElem? (i := 13) rfl))) (by decide) (t := (.array .int)) (t' := (.array .int)) (by decide) (by decide)))).ext E_20).other W_28 (Or.inr (slot_ne (Or.inl (hw _ (List.mem_of_getElem? (i := 19) rfl))) (Or.inl (hw _ (List.mem_of_getElem? (i := 15) rfl))) (by decide) (t := (.array .int)) (t' := (.array .int)) (by decide) (by decide)))).ext E_31).other W_40 (Or.inr (slot_ne (Or.inl (hw _ (List.mem_of_getElem? (i := 19) rfl))) (Or.inl (hw _ (List.mem_of_getElem? (i := 17) rfl))) (by decide) (t := (.array .int)) (t' := (.array .int)) (by decide) (by decide)))).ext E_43)
  obtain ⟨T_53, h_53, X_53, e_53, W_53, st_53⟩ := putF X_43 hx hZ hown (host := "") (Or.inl (hw _ (List.mem_of_getElem? (i := 18) rfl))) Via.refl e_43 f_52 f_51 (Or.inl (hw _ (List.mem_of_getElem? (i := 19) rfl))) (hw _ (List.mem_of_getElem? (i := 1) rfl)) (ty := (.array .int)) (by decide) rfl rfl (g := (mkF m 41 #[.val (.ref a1)] [(.ref b_43), (.ref a1)])) rfl rfl (hb hby d_ci_41)
  obtain ⟨Lg_53, XG_53, N_53⟩ := own_gen X_53 (Fr.snoc X_53 N_40 g1)
  have F_53 := f_52.same W_53
  have Z_54 : n0 ≤ h_53.size := Nat.le_trans Z_49 (Keep.of_wr W_53).1
  have K_55 : Keep h0 h_53 [a1] := K_50.wr W_53 (Or.inl (List.mem_of_getElem? (i := 0) rfl))
  obtain ⟨T_56, h_56, k_56, X_56, e_56, E_56, A_56, st_56⟩ := newP XG_53 hx hZ (hw _ (List.mem_of_getElem? (i := 9) rfl)) e_53 (g := (mkF m 47 #[.val (.ref a1)] [(.int (64 : Int32)), (.ref a1)])) rfl (hb hby d_ci_47) rfl (by decide) (cap := 64) (by decide) (by decide) (by decide) (by decide)
  obtain ⟨b_56, g_56⟩ : ∃ z, z = h_53.size := ⟨_, rfl⟩
  rw [← g_56] at A_56 st_56
  have gn_b_56 : n0 ≤ b_56 := Nat.le_trans Z_54 (Nat.le_of_eq g_56.symm)
  have sz_b_56 : h0.size ≤ b_56 := Nat.le_trans K_55.1 (Nat.le_of_eq g_56.symm)
  have f_57 := (f_51.wr W_53)
  have ne_a1_b_56 : a1 ≠ b_56 := Nat.ne_of_lt (Nat.lt_of_lt_of_le f_57.lt (Nat.le_of_eq g_56.symm))
  have f_58 := ((f_45.ext E_43).other W_53 (Ne.symm ne_a1_b_2))
  have ne_b_2_b_56 : b_2 ≠ b_56 := Nat.ne_of_lt (Nat.lt_of_lt_of_le f_58.lt (Nat.le_of_eq g_56.symm))
  have f_59 := ((f_46.ext E_43).other W_53 (Ne.symm ne_a1_b_10))
  have ne_b_10_b_56 : b_10 ≠ b_56 := Nat.ne_of_lt (Nat.lt_of_lt_of_le f_59.lt (Nat.le_of_eq g_56.symm))
  have f_60 := ((f_47.ext E_43).other W_53 (Ne.symm ne_a1_b_20))
  have ne_b_20_b_56 : b_20 ≠ b_56 := Nat.ne_of_lt (Nat.lt_of_lt_of_le f_60.lt (Nat.le_of_eq g_56.symm))
  have f_61 := ((f_48.ext E_43).other W_53 (Ne.symm ne_a1_b_31))
  have ne_b_31_b_56 : b_31 ≠ b_56 := Nat.ne_of_lt (Nat.lt_of_lt_of_le f_61.lt (Nat.le_of_eq g_56.symm))
  have f_62 := (V_43.other W_53 (Ne.symm ne_a1_b_43))
  have ne_b_43_b_56 : b_43 ≠ b_56 := Nat.ne_of_lt (Nat.lt_of_lt_of_le f_62.lt (Nat.le_of_eq g_56.symm))
  have V_56 : Arv Z h_56 b_56 k_56 .int (64 : Int32) [(.int (0 : Int32)), (.int (0 : Int32)), (.int (0 : Int32)), (.int (0 : Int32))] (.int (0 : Int32)) := (Arv.new A_56 (by decide)).pad (pad_rep [] (.int (0 : Int32)) 4)
  have Z_63 : n0 ≤ h_56.size := Nat.le_trans Z_54 E_56.1
  have K_64 : Keep h0 h_56 [a1] := K_55.ext E_56
  have f_65 := (f_57.ext E_56)
  have f_66 := (((((((((((F5_.ext E_2).other W_7 (Or.inr (slot_ne (Or.inl (hw _ (List.mem_of_getElem? (i := 21) rfl))) (Or.inl (hw _ (List.mem_of_getElem? (i := 11) rfl))) (by decide) (t := (.array .int)) (t' := (.array .int)) (by decide) (by decide)))).ext E_10).other W_17 (Or.inr (slot_ne (Or.inl (hw _ (List.mem_of_getElem? (i := 21) rfl))) (Or.inl (hw _ (List.mem_of_getElem? (i := 13) rfl))) (by decide) (t := (.array .int)) (t' := (.array .int)) (by decide) (by decide)))).ext E_20).other W_28 (Or.inr (slot_ne (Or.inl (hw _ (List.mem_of_getElem? (i := 21) rfl))) (Or.inl (hw _ (List.mem_of_getElem? (i := 15) rfl))) (by decide) (t := (.array .int)) (t' := (.array .int)) (by decide) (by decide)))).ext E_31).other W_40 (Or.inr (slot_ne (Or.inl (hw _ (List.mem_of_getElem? (i := 21) rfl))) (Or.inl (hw _ (List.mem_of_getElem? (i := 17) rfl))) (by decide) (t := (.array .int)) (t' := (.array .int)) (by decide) (by decide)))).ext E_43).other W_53 (Or.inr (slot_ne (Or.inl (hw _ (List.mem_of_getElem? (i := 21) rfl))) (Or.inl (hw _ (List.mem_of_getElem? (i := 19) rfl))) (by decide) (t := (.array .int)) (t' := (.array .int)) (by decide) (by decide)))).ext E_56)
  obtain ⟨T_67, h_67, X_67, e_67, W_67, st_67⟩ := putF X_56 hx hZ hown (host := "") (Or.inl (hw _ (List.mem_of_getElem? (i := 20) rfl))) Via.refl e_56 f_66 f_65 (Or.inl (hw _ (List.mem_of_getElem? (i := 21) rfl))) (hw _ (List.mem_of_getElem? (i := 1) rfl)) (ty := (.array .int)) (by decide) rfl rfl (g := (mkF m 49 #[.val (.ref a1)] [(.ref b_56), (.ref a1)])) rfl rfl (hb hby d_ci_49)
  obtain ⟨Lg_67, XG_67, N_67⟩ := own_gen X_67 (Fr.snoc X_67 N_53 g1)
  have F_67 := f_66.same W_67
  have Z_68 : n0 ≤ h_67.size := Nat.le_trans Z_63 (Keep.of_wr W_67).1
  have K_69 : Keep h0 h_67 [a1] := K_64.wr W_67 (Or.inl (List.mem_of_getElem? (i := 0) rfl))
  obtain ⟨T_70, h_70, k_70, X_70, e_70, E_70, A_70, st_70⟩ := newP XG_67 hx hZ (hw _ (List.mem_of_getElem? (i := 22) rfl)) e_67 (g := (mkF m 55 #[.val (.ref a1)] [(.int (64 : Int32)), (.ref a1)])) rfl (hb hby d_ci_55) rfl (by decide) (cap := 64) (by decide) (by decide) (by decide) (by decide)
  obtain ⟨b_70, g_70⟩ : ∃ z, z = h_67.size := ⟨_, rfl⟩
  rw [← g_70] at A_70 st_70
  have gn_b_70 : n0 ≤ b_70 := Nat.le_trans Z_68 (Nat.le_of_eq g_70.symm)
  have sz_b_70 : h0.size ≤ b_70 := Nat.le_trans K_69.1 (Nat.le_of_eq g_70.symm)
  have f_71 := (f_65.wr W_67)
  have ne_a1_b_70 : a1 ≠ b_70 := Nat.ne_of_lt (Nat.lt_of_lt_of_le f_71.lt (Nat.le_of_eq g_70.symm))
  have f_72 := ((f_58.ext E_56).other W_67 (Ne.symm ne_a1_b_2))
  have ne_b_2_b_70 : b_2 ≠ b_70 := Nat.ne_of_lt (Nat.lt_of_lt_of_le f_72.lt (Nat.le_of_eq g_70.symm))
  have f_73 := ((f_59.ext E_56).other W_67 (Ne.symm ne_a1_b_10))
  have ne_b_10_b_70 : b_10 ≠ b_70 := Nat.ne_of_lt (Nat.lt_of_lt_of_le f_73.lt (Nat.le_of_eq g_70.symm))
  have f_74 := ((f_60.ext E_56).other W_67 (Ne.symm ne_a1_b_20))
  have ne_b_20_b_70 : b_20 ≠ b_70 := Nat.ne_of_lt (Nat.lt_of_lt_of_le f_74.lt (Nat.le_of_eq g_70.symm))
  have f_75 := ((f_61.ext E_56).other W_67 (Ne.symm ne_a1_b_31))
  have ne_b_31_b_70 : b_31 ≠ b_70 := Nat.ne_of_lt (Nat.lt_of_lt_of_le f_75.lt (Nat.le_of_eq g_70.symm))
  have f_76 := ((f_62.ext E_56).other W_67 (Ne.symm ne_a1_b_43))
  have ne_b_43_b_70 : b_43 ≠ b_70 := Nat.ne_of_lt (Nat.lt_of_lt_of_le f_76.lt (Nat.le_of_eq g_70.symm))
  have f_77 := (V_56.other W_67 (Ne.symm ne_a1_b_56))
  have ne_b_56_b_70 : b_56 ≠ b_70 := Nat.ne_of_lt (Nat.lt_of_lt_of_le f_77.lt (Nat.le_of_eq g_70.symm))
  have V_70 : Arv Z h_70 b_70 k_70 .boolean (64 : Int32) [(.int (0 : Int32)), (.int (0 : Int32)), (.int (0 : Int32)), (.int (0 : Int32))] (.int (0 : Int32)) := (Arv.new A_70 (by decide)).pad (pad_rep [] (.int (0 : Int32)) 4)
  have Z_78 : n0 ≤ h_70.size := Nat.le_trans Z_68 E_70.1
  have K_79 : Keep h0 h_70 [a1] := K_69.ext E_70
  have f_80 := (f_71.ext E_70)
  have f_81 := (((((((((((((F6_.ext E_2).other W_7 (Or.inr (slot_ne (Or.inl (hw _ (List.mem_of_getElem? (i := 24) rfl))) (Or.inl (hw _ (List.mem_of_getElem? (i := 11) rfl))) (by decide) (t := (.array .boolean)) (t' := (.array .int)) (by decide) (by decide)))).ext E_10).other W_17 (Or.inr (slot_ne (Or.inl (hw _ (List.mem_of_getElem? (i := 24) rfl))) (Or.inl (hw _ (List.mem_of_getElem? (i := 13) rfl))) (by decide) (t := (.array .boolean)) (t' := (.array .int)) (by decide) (by decide)))).ext E_20).other W_28 (Or.inr (slot_ne (Or.inl (hw _ (List.mem_of_getElem? (i := 24) rfl))) (Or.inl (hw _ (List.mem_of_getElem? (i := 15) rfl))) (by decide) (t := (.array .boolean)) (t' := (.array .int)) (by decide) (by decide)))).ext E_31).other W_40 (Or.inr (slot_ne (Or.inl (hw _ (List.mem_of_getElem? (i := 24) rfl))) (Or.inl (hw _ (List.mem_of_getElem? (i := 17) rfl))) (by decide) (t := (.array .boolean)) (t' := (.array .int)) (by decide) (by decide)))).ext E_43).other W_53 (Or.inr (slot_ne (Or.inl (hw _ (List.mem_of_getElem? (i := 24) rfl))) (Or.inl (hw _ (List.mem_of_getElem? (i := 19) rfl))) (by decide) (t := (.array .boolean)) (t' := (.array .int)) (by decide) (by decide)))).ext E_56).other W_67 (Or.inr (slot_ne (Or.inl (hw _ (List.mem_of_getElem? (i := 24) rfl))) (Or.inl (hw _ (List.mem_of_getElem? (i := 21) rfl))) (by decide) (t := (.array .boolean)) (t' := (.array .int)) (by decide) (by decide)))).ext E_70)
  obtain ⟨T_82, h_82, X_82, e_82, W_82, st_82⟩ := putF X_70 hx hZ hown (host := "") (Or.inl (hw _ (List.mem_of_getElem? (i := 23) rfl))) Via.refl e_70 f_81 f_80 (Or.inl (hw _ (List.mem_of_getElem? (i := 24) rfl))) (hw _ (List.mem_of_getElem? (i := 1) rfl)) (ty := (.array .boolean)) (by decide) rfl rfl (g := (mkF m 57 #[.val (.ref a1)] [(.ref b_70), (.ref a1)])) rfl rfl (hb hby d_ci_57)
  obtain ⟨Lg_82, XG_82, N_82⟩ := own_gen X_82 (Fr.snoc X_82 N_67 g1)
  have F_82 := f_81.same W_82
  have Z_83 : n0 ≤ h_82.size := Nat.le_trans Z_78 (Keep.of_wr W_82).1
  have K_84 : Keep h0 h_82 [a1] := K_79.wr W_82 (Or.inl (List.mem_of_getElem? (i := 0) rfl))
  have f_85 := (f_80.wr W_82)
  have f_86 := ((((((((((((((F7_.ext E_2).other W_7 (Or.inr (slot_ne (Or.inl (hw _ (List.mem_of_getElem? (i := 26) rfl))) (Or.inl (hw _ (List.mem_of_getElem? (i := 11) rfl))) (by decide) (t := .int) (t' := (.array .int)) (by decide) (by decide)))).ext E_10).other W_17 (Or.inr (slot_ne (Or.inl (hw _ (List.mem_of_getElem? (i := 26) rfl))) (Or.inl (hw _ (List.mem_of_getElem? (i := 13) rfl))) (by decide) (t := .int) (t' := (.array .int)) (by decide) (by decide)))).ext E_20).other W_28 (Or.inr (slot_ne (Or.inl (hw _ (List.mem_of_getElem? (i := 26) rfl))) (Or.inl (hw _ (List.mem_of_getElem? (i := 15) rfl))) (by decide) (t := .int) (t' := (.array .int)) (by decide) (by decide)))).ext E_31).other W_40 (Or.inr (slot_ne (Or.inl (hw _ (List.mem_of_getElem? (i := 26) rfl))) (Or.inl (hw _ (List.mem_of_getElem? (i := 17) rfl))) (by decide) (t := .int) (t' := (.array .int)) (by decide) (by decide)))).ext E_43).other W_53 (Or.inr (slot_ne (Or.inl (hw _ (List.mem_of_getElem? (i := 26) rfl))) (Or.inl (hw _ (List.mem_of_getElem? (i := 19) rfl))) (by decide) (t := .int) (t' := (.array .int)) (by decide) (by decide)))).ext E_56).other W_67 (Or.inr (slot_ne (Or.inl (hw _ (List.mem_of_getElem? (i := 26) rfl))) (Or.inl (hw _ (List.mem_of_getElem? (i := 21) rfl))) (by decide) (t := .int) (t' := (.array .int)) (by decide) (by decide)))).ext E_70).other W_82 (Or.inr (slot_ne (Or.inl (hw _ (List.mem_of_getElem? (i := 26) rfl))) (Or.inl (hw _ (List.mem_of_getElem? (i := 24) rfl))) (by decide) (t := .int) (t' := (.array .boolean)) (by decide) (by decide))))
  obtain ⟨T_87, h_87, X_87, e_87, W_87, st_87⟩ := putF XG_82 hx hZ hown (host := "") (Or.inl (hw _ (List.mem_of_getElem? (i := 25) rfl))) Via.refl e_82 f_86 f_85 (Or.inl (hw _ (List.mem_of_getElem? (i := 26) rfl))) (hw _ (List.mem_of_getElem? (i := 1) rfl)) (ty := .int) (by decide) rfl rfl (g := (mkF m 62 #[.val (.ref a1)] [(.int (1 : Int32)), (.ref a1)])) rfl rfl (hb hby d_ci_62)
  obtain ⟨Lg_87, XG_87, N_87⟩ := own_gen X_87 (Fr.snoc X_87 N_82 g1)
  have F_87 := f_86.same W_87
  have Z_88 : n0 ≤ h_87.size := Nat.le_trans Z_83 (Keep.of_wr W_87).1
  have K_89 : Keep h0 h_87 [a1] := K_84.wr W_87 (Or.inl (List.mem_of_getElem? (i := 0) rfl))
  have f_90 := (((((((((((((F_7.ext E_10).other W_17 (Or.inr (slot_ne (Or.inl (hw _ (List.mem_of_getElem? (i := 11) rfl))) (Or.inl (hw _ (List.mem_of_getElem? (i := 13) rfl))) (by decide) (t := (.array .int)) (t' := (.array .int)) (by decide) (by decide)))).ext E_20).other W_28 (Or.inr (slot_ne (Or.inl (hw _ (List.mem_of_getElem? (i := 11) rfl))) (Or.inl (hw _ (List.mem_of_getElem? (i := 15) rfl))) (by decide) (t := (.array .int)) (t' := (.array .int)) (by decide) (by decide)))).ext E_31).other W_40 (Or.inr (slot_ne (Or.inl (hw _ (List.mem_of_getElem? (i := 11) rfl))) (Or.inl (hw _ (List.mem_of_getElem? (i := 17) rfl))) (by decide) (t := (.array .int)) (t' := (.array .int)) (by decide) (by decide)))).ext E_43).other W_53 (Or.inr (slot_ne (Or.inl (hw _ (List.mem_of_getElem? (i := 11) rfl))) (Or.inl (hw _ (List.mem_of_getElem? (i := 19) rfl))) (by decide) (t := (.array .int)) (t' := (.array .int)) (by decide) (by decide)))).ext E_56).other W_67 (Or.inr (slot_ne (Or.inl (hw _ (List.mem_of_getElem? (i := 11) rfl))) (Or.inl (hw _ (List.mem_of_getElem? (i := 21) rfl))) (by decide) (t := (.array .int)) (t' := (.array .int)) (by decide) (by decide)))).ext E_70).other W_82 (Or.inr (slot_ne (Or.inl (hw _ (List.mem_of_getElem? (i := 11) rfl))) (Or.inl (hw _ (List.mem_of_getElem? (i := 24) rfl))) (by decide) (t := (.array .int)) (t' := (.array .boolean)) (by decide) (by decide)))).other W_87 (Or.inr (slot_ne (Or.inl (hw _ (List.mem_of_getElem? (i := 11) rfl))) (Or.inl (hw _ (List.mem_of_getElem? (i := 26) rfl))) (by decide) (t := (.array .int)) (t' := .int) (by decide) (by decide))))
  obtain ⟨T_91, X_91, e_91, st_91⟩ := getF XG_87 hx hZ hown (host := "") (Or.inl (hw _ (List.mem_of_getElem? (i := 10) rfl))) Via.refl e_87 f_90 (g := (mkF m 66 #[.val (.ref a1)] [(.ref a1)])) rfl rfl (hb hby d_ci_66)
  have f_92 := (((f_72.ext E_70).other W_82 (Ne.symm ne_a1_b_2)).other W_87 (Ne.symm ne_a1_b_2))
  obtain ⟨c_93, Ar_93, q_93, S_93, M_93, Hs_93, G_93⟩ := id f_92
  have hin_93 : ¬ ((0 : Int32) < 0 ∨ c_93.slots.size ≤ ((0 : Int32)).toNatClampNeg) := inb_of S_93 ⟨by decide, by decide⟩
  obtain ⟨T_93, h_93, X_93, e_93, W_93, st_93⟩ := stI X_91 hx hZ e_91 Ar_93 (j := (0 : Int32)) hin_93 (g := (mkF m 71 #[.val (.ref a1)] [(.int (-1 : Int32)), (.int (0 : Int32)), (.ref b_2)])) rfl rfl (hb hby d_ci_71)
  obtain ⟨Lg_93, XG_93, N_93⟩ := own_gen X_93 (Fr.snoc X_93 N_87 gn_b_2)
  have V_93 : Arv Z h_93 b_2 k_2 .int (64 : Int32) [(.int (-1 : Int32)), (.int (0 : Int32)), (.int (0 : Int32)), (.int (0 : Int32))] (.int (0 : Int32)) := Arv.set Ar_93 q_93 S_93 M_93 Hs_93 G_93 rfl W_93 0 rfl (Nat.le_of_ble_eq_true rfl)
  have Z_94 : n0 ≤ h_93.size := Nat.le_trans Z_88 (Keep.of_wr W_93).1
  have K_95 : Keep h0 h_93 [a1] := K_89.wr W_93 (Or.inr sz_b_2)
  have f_96 := ((((((((F_40.ext E_43).other W_53 (Or.inr (slot_ne (Or.inl (hw _ (List.mem_of_getElem? (i := 17) rfl))) (Or.inl (hw _ (List.mem_of_getElem? (i := 19) rfl))) (by decide) (t := (.array .int)) (t' := (.array .int)) (by decide) (by decide)))).ext E_56).other W_67 (Or.inr (slot_ne (Or.inl (hw _ (List.mem_of_getElem? (i := 17) rfl))) (Or.inl (hw _ (List.mem_of_getElem? (i := 21) rfl))) (by decide) (t := (.array .int)) (t' := (.array .int)) (by decide) (by decide)))).ext E_70).other W_82 (Or.inr (slot_ne (Or.inl (hw _ (List.mem_of_getElem? (i := 17) rfl))) (Or.inl (hw _ (List.mem_of_getElem? (i := 24) rfl))) (by decide) (t := (.array .int)) (t' := (.array .boolean)) (by decide) (by decide)))).other W_87 (Or.inr (slot_ne (Or.inl (hw _ (List.mem_of_getElem? (i := 17) rfl))) (Or.inl (hw _ (List.mem_of_getElem? (i := 26) rfl))) (by decide) (t := (.array .int)) (t' := .int) (by decide) (by decide)))).other W_93 (Or.inl ne_a1_b_2))
  obtain ⟨T_97, X_97, e_97, st_97⟩ := getF XG_93 hx hZ hown (host := "") (Or.inl (hw _ (List.mem_of_getElem? (i := 16) rfl))) Via.refl e_93 f_96 (g := (mkF m 73 #[.val (.ref a1)] [(.ref a1)])) rfl rfl (hb hby d_ci_73)
  have f_98 := ((((f_75.ext E_70).other W_82 (Ne.symm ne_a1_b_31)).other W_87 (Ne.symm ne_a1_b_31)).other W_93 (Ne.symm ne_b_2_b_31))
  obtain ⟨c_99, Ar_99, q_99, S_99, M_99, Hs_99, G_99⟩ := id f_98
  have hin_99 : ¬ ((0 : Int32) < 0 ∨ c_99.slots.size ≤ ((0 : Int32)).toNatClampNeg) := inb_of S_99 ⟨by decide, by decide⟩
  obtain ⟨T_99, h_99, X_99, e_99, W_99, st_99⟩ := stI X_97 hx hZ e_97 Ar_99 (j := (0 : Int32)) hin_99 (g := (mkF m 78 #[.val (.ref a1)] [(.int (-1 : Int32)), (.int (0 : Int32)), (.ref b_31)])) rfl rfl (hb hby d_ci_78)
  obtain ⟨Lg_99, XG_99, N_99⟩ := own_gen X_99 (Fr.snoc X_99 N_93 gn_b_31)
  have V_99 : Arv Z h_99 b_31 k_31 .int (64 : Int32) [(.int (-1 : Int32)), (.int (0 : Int32)), (.int (0 : Int32)), (.int (0 : Int32))] (.int (0 : Int32)) := Arv.set Ar_99 q_99 S_99 M_99 Hs_99 G_99 rfl W_99 0 rfl (Nat.le_of_ble_eq_true rfl)
  have Z_100 : n0 ≤ h_99.size := Nat.le_trans Z_94 (Keep.of_wr W_99).1
  have K_101 : Keep h0 h_99 [a1] := K_95.wr W_99 (Or.inr sz_b_31)
  refine own_go (S' := T_99.setTop (mkF m 79 #[.val (.ref a1)] [])) (fun target kt => ?_) ?_
  · show Steps p.tables e below (s₁.setTop (mkF m 0 #[.val (.ref a1)] [])) target
    refine XS.aloadN X0.here hx rfl (hb hby d_ci_0) rfl rfl ?_
    show Steps p.tables e below (s₁.setTop (mkF m 1 #[.val (.ref a1)] [(.ref a1)])) target
    refine st_1 _ ?_
    show Steps p.tables e below (T_1.setTop (mkF m 4 #[.val (.ref a1)] [])) target
    refine XS.aloadN X_1.here hx rfl (hb hby d_ci_4) rfl rfl ?_
    show Steps p.tables e below (T_1.setTop (mkF m 5 #[.val (.ref a1)] [(.ref a1)])) target
    refine XS.bipush X_1.here hx rfl (hb hby d_ci_5) ?_
    show Steps p.tables e below (T_1.setTop (mkF m 7 #[.val (.ref a1)] [(.int (64 : Int32)), (.ref a1)])) target
    refine st_2 _ ?_
    show Steps p.tables e below (T_2.setTop (mkF m 9 #[.val (.ref a1)] [(.ref b_2), (.ref a1)])) target
    refine st_7 _ ?_
    show Steps p.tables e below (T_7.setTop (mkF m 12 #[.val (.ref a1)] [])) target
    refine XS.aloadN XG_7.here hx rfl (hb hby d_ci_12) rfl rfl ?_
    show Steps p.tables e below (T_7.setTop (mkF m 13 #[.val (.ref a1)] [(.ref a1)])) target
    refine XS.bipush XG_7.here hx rfl (hb hby d_ci_13) ?_
    show Steps p.tables e below (T_7.setTop (mkF m 15 #[.val (.ref a1)] [(.int (64 : Int32)), (.ref a1)])) target
    refine st_10 _ ?_
    show Steps p.tables e below (T_10.setTop (mkF m 17 #[.val (.ref a1)] [(.ref b_10), (.ref a1)])) target
    refine st_17 _ ?_
    show Steps p.tables e below (T_17.setTop (mkF m 20 #[.val (.ref a1)] [])) target
    refine XS.aloadN XG_17.here hx rfl (hb hby d_ci_20) rfl rfl ?_
    show Steps p.tables e below (T_17.setTop (mkF m 21 #[.val (.ref a1)] [(.ref a1)])) target
    refine XS.bipush XG_17.here hx rfl (hb hby d_ci_21) ?_
    show Steps p.tables e below (T_17.setTop (mkF m 23 #[.val (.ref a1)] [(.int (64 : Int32)), (.ref a1)])) target
    refine st_20 _ ?_
    show Steps p.tables e below (T_20.setTop (mkF m 25 #[.val (.ref a1)] [(.ref b_20), (.ref a1)])) target
    refine st_28 _ ?_
    show Steps p.tables e below (T_28.setTop (mkF m 28 #[.val (.ref a1)] [])) target
    refine XS.aloadN XG_28.here hx rfl (hb hby d_ci_28) rfl rfl ?_
    show Steps p.tables e below (T_28.setTop (mkF m 29 #[.val (.ref a1)] [(.ref a1)])) target
    refine XS.bipush XG_28.here hx rfl (hb hby d_ci_29) ?_
    show Steps p.tables e below (T_28.setTop (mkF m 31 #[.val (.ref a1)] [(.int (64 : Int32)), (.ref a1)])) target
    refine st_31 _ ?_
    show Steps p.tables e below (T_31.setTop (mkF m 33 #[.val (.ref a1)] [(.ref b_31), (.ref a1)])) target
    refine st_40 _ ?_
    show Steps p.tables e below (T_40.setTop (mkF m 36 #[.val (.ref a1)] [])) target
    refine XS.aloadN XG_40.here hx rfl (hb hby d_ci_36) rfl rfl ?_
    show Steps p.tables e below (T_40.setTop (mkF m 37 #[.val (.ref a1)] [(.ref a1)])) target
    refine XS.bipush XG_40.here hx rfl (hb hby d_ci_37) ?_
    show Steps p.tables e below (T_40.setTop (mkF m 39 #[.val (.ref a1)] [(.int (64 : Int32)), (.ref a1)])) target
    refine st_43 _ ?_
    show Steps p.tables e below (T_43.setTop (mkF m 41 #[.val (.ref a1)] [(.ref b_43), (.ref a1)])) target
    refine st_53 _ ?_
    show Steps p.tables e below (T_53.setTop (mkF m 44 #[.val (.ref a1)] [])) target
    refine XS.aloadN XG_53.here hx rfl (hb hby d_ci_44) rfl rfl ?_
    show Steps p.tables e below (T_53.setTop (mkF m 45 #[.val (.ref a1)] [(.ref a1)])) target
    refine XS.bipush XG_53.here hx rfl (hb hby d_ci_45) ?_
    show Steps p.tables e below (T_53.setTop (mkF m 47 #[.val (.ref a1)] [(.int (64 : Int32)), (.ref a1)])) target
    refine st_56 _ ?_
    show Steps p.tables e below (T_56.setTop (mkF m 49 #[.val (.ref a1)] [(.ref b_56), (.ref a1)])) target
    refine st_67 _ ?_
    show Steps p.tables e below (T_67.setTop (mkF m 52 #[.val (.ref a1)] [])) target
    refine XS.aloadN XG_67.here hx rfl (hb hby d_ci_52) rfl rfl ?_
    show Steps p.tables e below (T_67.setTop (mkF m 53 #[.val (.ref a1)] [(.ref a1)])) target
    refine XS.bipush XG_67.here hx rfl (hb hby d_ci_53) ?_
    show Steps p.tables e below (T_67.setTop (mkF m 55 #[.val (.ref a1)] [(.int (64 : Int32)), (.ref a1)])) target
    refine st_70 _ ?_
    show Steps p.tables e below (T_70.setTop (mkF m 57 #[.val (.ref a1)] [(.ref b_70), (.ref a1)])) target
    refine st_82 _ ?_
    show Steps p.tables e below (T_82.setTop (mkF m 60 #[.val (.ref a1)] [])) target
    refine XS.aloadN XG_82.here hx rfl (hb hby d_ci_60) rfl rfl ?_
    show Steps p.tables e below (T_82.setTop (mkF m 61 #[.val (.ref a1)] [(.ref a1)])) target
    refine XS.iconst XG_82.here hx rfl (hb hby d_ci_61) ?_
    show Steps p.tables e below (T_82.setTop (mkF m 62 #[.val (.ref a1)] [(.int (1 : Int32)), (.ref a1)])) target
    refine st_87 _ ?_
    show Steps p.tables e below (T_87.setTop (mkF m 65 #[.val (.ref a1)] [])) target
    refine XS.aloadN XG_87.here hx rfl (hb hby d_ci_65) rfl rfl ?_
    show Steps p.tables e below (T_87.setTop (mkF m 66 #[.val (.ref a1)] [(.ref a1)])) target
    refine st_91 _ ?_
    show Steps p.tables e below (T_91.setTop (mkF m 69 #[.val (.ref a1)] [(.ref b_2)])) target
    refine XS.iconst X_91.here hx rfl (hb hby d_ci_69) ?_
    show Steps p.tables e below (T_91.setTop (mkF m 70 #[.val (.ref a1)] [(.int (0 : Int32)), (.ref b_2)])) target
    refine XS.iconst X_91.here hx rfl (hb hby d_ci_70) ?_
    show Steps p.tables e below (T_91.setTop (mkF m 71 #[.val (.ref a1)] [(.int (-1 : Int32)), (.int (0 : Int32)), (.ref b_2)])) target
    refine st_93 _ ?_
    show Steps p.tables e below (T_93.setTop (mkF m 72 #[.val (.ref a1)] [])) target
    refine XS.aloadN XG_93.here hx rfl (hb hby d_ci_72) rfl rfl ?_
    show Steps p.tables e below (T_93.setTop (mkF m 73 #[.val (.ref a1)] [(.ref a1)])) target
    refine st_97 _ ?_
    show Steps p.tables e below (T_97.setTop (mkF m 76 #[.val (.ref a1)] [(.ref b_31)])) target
    refine XS.iconst X_97.here hx rfl (hb hby d_ci_76) ?_
    show Steps p.tables e below (T_97.setTop (mkF m 77 #[.val (.ref a1)] [(.int (0 : Int32)), (.ref b_31)])) target
    refine XS.iconst X_97.here hx rfl (hb hby d_ci_77) ?_
    show Steps p.tables e below (T_97.setTop (mkF m 78 #[.val (.ref a1)] [(.int (-1 : Int32)), (.int (0 : Int32)), (.ref b_31)])) target
    refine st_99 _ ?_
    show Steps p.tables e below (T_99.setTop (mkF m 79 #[.val (.ref a1)] [])) target
    exact kt
  obtain ⟨fs, hr, hrun, hended, hW, hsame⟩ := XG_99.leave (v := none) (fun _ => rfl)
  refine ⟨_, _, XG_99.returnOut hx Bd.returns (hb hby d_ci_79) hr, hrun, hended, _, _, rfl, ?_, ⟨_, rfl⟩, hW, hsame.mono (by decide) (by decide)⟩
  show Q_ci Z a1 h0 n0 _ T_99.heap _
  rw [e_99]
  have f_102 := (((f_85.wr W_87).wr W_93).wr W_99)
  have f_103 := ((f_90.other W_93 (Or.inl ne_a1_b_2)).other W_99 (Or.inl ne_a1_b_31))
  have f_104 := (((((((((((((F_17.ext E_20).other W_28 (Or.inr (slot_ne (Or.inl (hw _ (List.mem_of_getElem? (i := 13) rfl))) (Or.inl (hw _ (List.mem_of_getElem? (i := 15) rfl))) (by decide) (t := (.array .int)) (t' := (.array .int)) (by decide) (by decide)))).ext E_31).other W_40 (Or.inr (slot_ne (Or.inl (hw _ (List.mem_of_getElem? (i := 13) rfl))) (Or.inl (hw _ (List.mem_of_getElem? (i := 17) rfl))) (by decide) (t := (.array .int)) (t' := (.array .int)) (by decide) (by decide)))).ext E_43).other W_53 (Or.inr (slot_ne (Or.inl (hw _ (List.mem_of_getElem? (i := 13) rfl))) (Or.inl (hw _ (List.mem_of_getElem? (i := 19) rfl))) (by decide) (t := (.array .int)) (t' := (.array .int)) (by decide) (by decide)))).ext E_56).other W_67 (Or.inr (slot_ne (Or.inl (hw _ (List.mem_of_getElem? (i := 13) rfl))) (Or.inl (hw _ (List.mem_of_getElem? (i := 21) rfl))) (by decide) (t := (.array .int)) (t' := (.array .int)) (by decide) (by decide)))).ext E_70).other W_82 (Or.inr (slot_ne (Or.inl (hw _ (List.mem_of_getElem? (i := 13) rfl))) (Or.inl (hw _ (List.mem_of_getElem? (i := 24) rfl))) (by decide) (t := (.array .int)) (t' := (.array .boolean)) (by decide) (by decide)))).other W_87 (Or.inr (slot_ne (Or.inl (hw _ (List.mem_of_getElem? (i := 13) rfl))) (Or.inl (hw _ (List.mem_of_getElem? (i := 26) rfl))) (by decide) (t := (.array .int)) (t' := .int) (by decide) (by decide)))).other W_93 (Or.inl ne_a1_b_2)).other W_99 (Or.inl ne_a1_b_31))
  have f_105 := (((((((((((F_28.ext E_31).other W_40 (Or.inr (slot_ne (Or.inl (hw _ (List.mem_of_getElem? (i := 15) rfl))) (Or.inl (hw _ (List.mem_of_getElem? (i := 17) rfl))) (by decide) (t := (.array .int)) (t' := (.array .int)) (by decide) (by decide)))).ext E_43).other W_53 (Or.inr (slot_ne (Or.inl (hw _ (List.mem_of_getElem? (i := 15) rfl))) (Or.inl (hw _ (List.mem_of_getElem? (i := 19) rfl))) (by decide) (t := (.array .int)) (t' := (.array .int)) (by decide) (by decide)))).ext E_56).other W_67 (Or.inr (slot_ne (Or.inl (hw _ (List.mem_of_getElem? (i := 15) rfl))) (Or.inl (hw _ (List.mem_of_getElem? (i := 21) rfl))) (by decide) (t := (.array .int)) (t' := (.array .int)) (by decide) (by decide)))).ext E_70).other W_82 (Or.inr (slot_ne (Or.inl (hw _ (List.mem_of_getElem? (i := 15) rfl))) (Or.inl (hw _ (List.mem_of_getElem? (i := 24) rfl))) (by decide) (t := (.array .int)) (t' := (.array .boolean)) (by decide) (by decide)))).other W_87 (Or.inr (slot_ne (Or.inl (hw _ (List.mem_of_getElem? (i := 15) rfl))) (Or.inl (hw _ (List.mem_of_getElem? (i := 26) rfl))) (by decide) (t := (.array .int)) (t' := .int) (by decide) (by decide)))).other W_93 (Or.inl ne_a1_b_2)).other W_99 (Or.inl ne_a1_b_31))
  have f_106 := (f_96.other W_99 (Or.inl ne_a1_b_31))
  have f_107 := (((((((F_53.ext E_56).other W_67 (Or.inr (slot_ne (Or.inl (hw _ (List.mem_of_getElem? (i := 19) rfl))) (Or.inl (hw _ (List.mem_of_getElem? (i := 21) rfl))) (by decide) (t := (.array .int)) (t' := (.array .int)) (by decide) (by decide)))).ext E_70).other W_82 (Or.inr (slot_ne (Or.inl (hw _ (List.mem_of_getElem? (i := 19) rfl))) (Or.inl (hw _ (List.mem_of_getElem? (i := 24) rfl))) (by decide) (t := (.array .int)) (t' := (.array .boolean)) (by decide) (by decide)))).other W_87 (Or.inr (slot_ne (Or.inl (hw _ (List.mem_of_getElem? (i := 19) rfl))) (Or.inl (hw _ (List.mem_of_getElem? (i := 26) rfl))) (by decide) (t := (.array .int)) (t' := .int) (by decide) (by decide)))).other W_93 (Or.inl ne_a1_b_2)).other W_99 (Or.inl ne_a1_b_31))
  have f_108 := (((((F_67.ext E_70).other W_82 (Or.inr (slot_ne (Or.inl (hw _ (List.mem_of_getElem? (i := 21) rfl))) (Or.inl (hw _ (List.mem_of_getElem? (i := 24) rfl))) (by decide) (t := (.array .int)) (t' := (.array .boolean)) (by decide) (by decide)))).other W_87 (Or.inr (slot_ne (Or.inl (hw _ (List.mem_of_getElem? (i := 21) rfl))) (Or.inl (hw _ (List.mem_of_getElem? (i := 26) rfl))) (by decide) (t := (.array .int)) (t' := .int) (by decide) (by decide)))).other W_93 (Or.inl ne_a1_b_2)).other W_99 (Or.inl ne_a1_b_31))
  have f_109 := (((F_82.other W_87 (Or.inr (slot_ne (Or.inl (hw _ (List.mem_of_getElem? (i := 24) rfl))) (Or.inl (hw _ (List.mem_of_getElem? (i := 26) rfl))) (by decide) (t := (.array .boolean)) (t' := .int) (by decide) (by decide)))).other W_93 (Or.inl ne_a1_b_2)).other W_99 (Or.inl ne_a1_b_31))
  have f_110 := ((F_87.other W_93 (Or.inl ne_a1_b_2)).other W_99 (Or.inl ne_a1_b_31))
  have f_111 := (V_93.other W_99 ne_b_2_b_31)
  have f_112 := (((((f_73.ext E_70).other W_82 (Ne.symm ne_a1_b_10)).other W_87 (Ne.symm ne_a1_b_10)).other W_93 (Ne.symm ne_b_2_b_10)).other W_99 ne_b_10_b_31)
  have f_113 := (((((f_74.ext E_70).other W_82 (Ne.symm ne_a1_b_20)).other W_87 (Ne.symm ne_a1_b_20)).other W_93 (Ne.symm ne_b_2_b_20)).other W_99 ne_b_20_b_31)
  have f_114 := (((((f_76.ext E_70).other W_82 (Ne.symm ne_a1_b_43)).other W_87 (Ne.symm ne_a1_b_43)).other W_93 (Ne.symm ne_b_2_b_43)).other W_99 (Ne.symm ne_b_31_b_43))
  have f_115 := (((((f_77.ext E_70).other W_82 (Ne.symm ne_a1_b_56)).other W_87 (Ne.symm ne_a1_b_56)).other W_93 (Ne.symm ne_b_2_b_56)).other W_99 (Ne.symm ne_b_31_b_56))
  have f_116 := ((((V_70.other W_82 (Ne.symm ne_a1_b_70)).other W_87 (Ne.symm ne_a1_b_70)).other W_93 (Ne.symm ne_b_2_b_70)).other W_99 (Ne.symm ne_b_31_b_70))
  exact ⟨b_2, b_10, b_20, b_31, b_43, b_56, b_70, k_2, k_10, k_20, k_31, k_43, k_56, k_70, rfl, N_99, K_101, f_102, f_103, f_104, f_105, f_106, f_107, f_108, f_109, f_110, sz_b_2, sz_b_10, sz_b_20, sz_b_31, sz_b_43, sz_b_56, sz_b_70, ne_a1_b_2, ne_a1_b_10, ne_a1_b_20, ne_a1_b_31, ne_a1_b_43, ne_a1_b_56, ne_a1_b_70, ne_b_2_b_10, ne_b_2_b_20, ne_b_2_b_31, ne_b_2_b_43, ne_b_2_b_56, ne_b_2_b_70, ne_b_10_b_20, ne_b_10_b_31, ne_b_10_b_43, ne_b_10_b_56, ne_b_10_b_70, ne_b_20_b_31, ne_b_20_b_43, ne_b_20_b_56, ne_b_20_b_70, ne_b_31_b_43, ne_b_31_b_56, ne_b_31_b_70, ne_b_43_b_56, ne_b_43_b_70, ne_b_56_b_70, f_111, f_112, f_113, V_99, f_114, f_115, f_116⟩
-- com/example/filigree/filigree/engine/DecisionTree.add:(II)I
theorem d_add1_0 : decode prog_11_method_2_code 0 = .ok (.aload_n 0, 1) := by decide +kernel
theorem d_add1_1 : decode prog_11_method_2_code 1 = .ok (.getfield 32, 3) := by decide +kernel
theorem d_add1_4 : decode prog_11_method_2_code 4 = .ok (.aload_n 0, 1) := by decide +kernel
theorem d_add1_5 : decode prog_11_method_2_code 5 = .ok (.getfield 7, 3) := by decide +kernel
theorem d_add1_8 : decode prog_11_method_2_code 8 = .ok (.arraylength, 1) := by decide +kernel
theorem d_add1_9 : decode prog_11_method_2_code 9 = .ok (.if_icmp .ne 94, 3) := by decide +kernel
theorem d_add1_103 : decode prog_11_method_2_code 103 = .ok (.aload_n 0, 1) := by decide +kernel
theorem d_add1_104 : decode prog_11_method_2_code 104 = .ok (.dup, 1) := by decide +kernel
theorem d_add1_105 : decode prog_11_method_2_code 105 = .ok (.getfield 32, 3) := by decide +kernel
theorem d_add1_108 : decode prog_11_method_2_code 108 = .ok (.dup_x1, 1) := by decide +kernel
theorem d_add1_109 : decode prog_11_method_2_code 109 = .ok (.iconst 1, 1) := by decide +kernel
theorem d_add1_110 : decode prog_11_method_2_code 110 = .ok (.iadd, 1) := by decide +kernel
theorem d_add1_111 : decode prog_11_method_2_code 111 = .ok (.putfield 32, 3) := by decide +kernel
theorem d_add1_114 : decode prog_11_method_2_code 114 = .ok (.istore_n 3, 1) := by decide +kernel
theorem d_add1_115 : decode prog_11_method_2_code 115 = .ok (.aload_n 0, 1) := by decide +kernel
theorem d_add1_116 : decode prog_11_method_2_code 116 = .ok (.getfield 7, 3) := by decide +kernel
theorem d_add1_119 : decode prog_11_method_2_code 119 = .ok (.iload_n 3, 1) := by decide +kernel
theorem d_add1_120 : decode prog_11_method_2_code 120 = .ok (.iload_n 1, 1) := by decide +kernel
theorem d_add1_121 : decode prog_11_method_2_code 121 = .ok (.iastore, 1) := by decide +kernel
theorem d_add1_122 : decode prog_11_method_2_code 122 = .ok (.aload_n 0, 1) := by decide +kernel
theorem d_add1_123 : decode prog_11_method_2_code 123 = .ok (.getfield 13, 3) := by decide +kernel
theorem d_add1_126 : decode prog_11_method_2_code 126 = .ok (.iload_n 3, 1) := by decide +kernel
theorem d_add1_127 : decode prog_11_method_2_code 127 = .ok (.iload_n 2, 1) := by decide +kernel
theorem d_add1_128 : decode prog_11_method_2_code 128 = .ok (.iastore, 1) := by decide +kernel
theorem d_add1_129 : decode prog_11_method_2_code 129 = .ok (.aload_n 0, 1) := by decide +kernel
theorem d_add1_130 : decode prog_11_method_2_code 130 = .ok (.getfield 16, 3) := by decide +kernel
theorem d_add1_133 : decode prog_11_method_2_code 133 = .ok (.iload_n 3, 1) := by decide +kernel
theorem d_add1_134 : decode prog_11_method_2_code 134 = .ok (.aload_n 0, 1) := by decide +kernel
theorem d_add1_135 : decode prog_11_method_2_code 135 = .ok (.getfield 16, 3) := by decide +kernel
theorem d_add1_138 : decode prog_11_method_2_code 138 = .ok (.iload_n 1, 1) := by decide +kernel
theorem d_add1_139 : decode prog_11_method_2_code 139 = .ok (.iaload, 1) := by decide +kernel
theorem d_add1_140 : decode prog_11_method_2_code 140 = .ok (.iconst 1, 1) := by decide +kernel
theorem d_add1_141 : decode prog_11_method_2_code 141 = .ok (.iadd, 1) := by decide +kernel
theorem d_add1_142 : decode prog_11_method_2_code 142 = .ok (.iastore, 1) := by decide +kernel
theorem d_add1_143 : decode prog_11_method_2_code 143 = .ok (.aload_n 0, 1) := by decide +kernel
theorem d_add1_144 : decode prog_11_method_2_code 144 = .ok (.getfield 19, 3) := by decide +kernel
theorem d_add1_147 : decode prog_11_method_2_code 147 = .ok (.iload_n 3, 1) := by decide +kernel
theorem d_add1_148 : decode prog_11_method_2_code 148 = .ok (.iconst (-1), 1) := by decide +kernel
theorem d_add1_149 : decode prog_11_method_2_code 149 = .ok (.iastore, 1) := by decide +kernel
theorem d_add1_150 : decode prog_11_method_2_code 150 = .ok (.aload_n 0, 1) := by decide +kernel
theorem d_add1_151 : decode prog_11_method_2_code 151 = .ok (.getfield 22, 3) := by decide +kernel
theorem d_add1_154 : decode prog_11_method_2_code 154 = .ok (.iload_n 3, 1) := by decide +kernel
theorem d_add1_155 : decode prog_11_method_2_code 155 = .ok (.iconst 0, 1) := by decide +kernel
theorem d_add1_156 : decode prog_11_method_2_code 156 = .ok (.iastore, 1) := by decide +kernel
theorem d_add1_157 : decode prog_11_method_2_code 157 = .ok (.aload_n 0, 1) := by decide +kernel
theorem d_add1_158 : decode prog_11_method_2_code 158 = .ok (.getfield 25, 3) := by decide +kernel
theorem d_add1_161 : decode prog_11_method_2_code 161 = .ok (.iload_n 3, 1) := by decide +kernel
theorem d_add1_162 : decode prog_11_method_2_code 162 = .ok (.iconst (-1), 1) := by decide +kernel
theorem d_add1_163 : decode prog_11_method_2_code 163 = .ok (.iastore, 1) := by decide +kernel
theorem d_add1_164 : decode prog_11_method_2_code 164 = .ok (.aload_n 0, 1) := by decide +kernel
theorem d_add1_165 : decode prog_11_method_2_code 165 = .ok (.getfield 28, 3) := by decide +kernel
theorem d_add1_168 : decode prog_11_method_2_code 168 = .ok (.iload_n 3, 1) := by decide +kernel
theorem d_add1_169 : decode prog_11_method_2_code 169 = .ok (.iconst 0, 1) := by decide +kernel
theorem d_add1_170 : decode prog_11_method_2_code 170 = .ok (.bastore, 1) := by decide +kernel
theorem d_add1_171 : decode prog_11_method_2_code 171 = .ok (.iload_n 3, 1) := by decide +kernel
theorem d_add1_172 : decode prog_11_method_2_code 172 = .ok (.ireturn, 1) := by decide +kernel
theorem pn_add1 : plainName "com/example/filigree/filigree/engine/DecisionTree" = true := by first | (simp [plainName, overriddenIn]; done) | decide +kernel
theorem ef_add1 (m : MethodId) (a1 : Addr) (p2 : Int32) (b0_ : Addr) (b1_ : Addr) (b2_ : Addr) (b3_ : Addr) (b4_ : Addr) (b5_ : Addr) (b6_ : Addr) (k0_ : ClassId) (k1_ : ClassId) (k2_ : ClassId) (k3_ : ClassId) (k4_ : ClassId) (k5_ : ClassId) (k6_ : ClassId) : entryFrame m #[(.ref a1), (.int (0 : Int32)), (.int p2)] 4 = mkF m 0 #[.val (.ref a1), .val (.int (0 : Int32)), .val (.int p2), .unset] [] := by first | (simp [entryFrame, mkF, argsToLocals, Value.category]; done) | rfl
def Q_add1 (Z : State) (a1 : Addr) (p2 : Int32) (b0_ : Addr) (b1_ : Addr) (b2_ : Addr) (b3_ : Addr) (b4_ : Addr) (b5_ : Addr) (b6_ : Addr) (k0_ : ClassId) (k1_ : ClassId) (k2_ : ClassId) (k3_ : ClassId) (k4_ : ClassId) (k5_ : ClassId) (k6_ : ClassId) (h0 : Heap) (n0 : Nat) (v : Option Value) (h : Heap) (L : List Loc) : Prop := v = some (.int (1 : Int32)) ∧ Fr n0 L ∧ Keep h0 h [a1, b0_, b1_, b2_, b3_, b4_, b5_, b6_] ∧ Exa Z h a1 "com/example/filigree/filigree/engine/DecisionTree" ∧ Fld Z h a1 "com/example/filigree/filigree/engine/DecisionTree" "m_aParent" "[I" (.ref b0_) ∧ Fld Z h a1 "com/example/filigree/filigree/engine/DecisionTree" "m_aDecision" "[I" (.ref b1_) ∧ Fld Z h a1 "com/example/filigree/filigree/engine/DecisionTree" "m_aDepth" "[I" (.ref b2_) ∧ Fld Z h a1 "com/example/filigree/filigree/engine/DecisionTree" "m_aFirstKept" "[I" (.ref b3_) ∧ Fld Z h a1 "com/example/filigree/filigree/engine/DecisionTree" "m_aKeptCount" "[I" (.ref b4_) ∧ Fld Z h a1 "com/example/filigree/filigree/engine/DecisionTree" "m_aNextKept" "[I" (.ref b5_) ∧ Fld Z h a1 "com/example/filigree/filigree/engine/DecisionTree" "m_aKept" "[Z" (.ref b6_) ∧ Fld Z h a1 "com/example/filigree/filigree/engine/DecisionTree" "m_nSize" "I" (.int (2 : Int32)) ∧ Arv Z h b0_ k0_ .int (64 : Int32) [(.int (-1 : Int32)), (.int (0 : Int32)), (.int (0 : Int32)), (.int (0 : Int32))] (.int (0 : Int32)) ∧ Arv Z h b1_ k1_ .int (64 : Int32) [(.int (0 : Int32)), (.int p2), (.int (0 : Int32)), (.int (0 : Int32))] (.int (0 : Int32)) ∧ Arv Z h b2_ k2_ .int (64 : Int32) [(.int (0 : Int32)), (.int (1 : Int32)), (.int (0 : Int32)), (.int (0 : Int32))] (.int (0 : Int32)) ∧ Arv Z h b3_ k3_ .int (64 : Int32) [(.int (-1 : Int32)), (.int (-1 : Int32)), (.int (0 : Int32)), (.int (0 : Int32))] (.int (0 : Int32)) ∧ Arv Z h b4_ k4_ .int (64 : Int32) [(.int (0 : Int32)), (.int (0 : Int32)), (.int (0 : Int32)), (.int (0 : Int32))] (.int (0 : Int32)) ∧ Arv Z h b5_ k5_ .int (64 : Int32) [(.int (0 : Int32)), (.int (-1 : Int32)), (.int (0 : Int32)), (.int (0 : Int32))] (.int (0 : Int32)) ∧ Arv Z h b6_ k6_ .boolean (64 : Int32) [(.int (0 : Int32)), (.int (0 : Int32)), (.int (0 : Int32)), (.int (0 : Int32))] (.int (0 : Int32))
set_option maxRecDepth 65536 in
set_option maxHeartbeats 40000000 in
theorem rm_add1 (l : Launch) (Z : State) (a0 : Array Value) (hw : ∀ d ∈ tables_1, d.before a0 Z = true) (ws : List Jvm.Cond) (a1 : Addr) (p2 : Int32) (b0_ : Addr) (b1_ : Addr) (b2_ : Addr) (b3_ : Addr) (b4_ : Addr) (b5_ : Addr) (b6_ : Addr) (k0_ : ClassId) (k1_ : ClassId) (k2_ : ClassId) (k3_ : ClassId) (k4_ : ClassId) (k5_ : ClassId) (k6_ : ClassId) (h0 : Heap) (n0 : Nat) (Z0 : n0 ≤ h0.size) (E1 : Exa Z h0 a1 "com/example/filigree/filigree/engine/DecisionTree") (F0_ : Fld Z h0 a1 "com/example/filigree/filigree/engine/DecisionTree" "m_aParent" "[I" (.ref b0_)) (F1_ : Fld Z h0 a1 "com/example/filigree/filigree/engine/DecisionTree" "m_aDecision" "[I" (.ref b1_)) (F2_ : Fld Z h0 a1 "com/example/filigree/filigree/engine/DecisionTree" "m_aDepth" "[I" (.ref b2_)) (F3_ : Fld Z h0 a1 "com/example/filigree/filigree/engine/DecisionTree" "m_aFirstKept" "[I" (.ref b3_)) (F4_ : Fld Z h0 a1 "com/example/filigree/filigree/engine/DecisionTree" "m_aKeptCount" "[I" (.ref b4_)) (F5_ : Fld Z h0 a1 "com/example/filigree/filigree/engine/DecisionTree" "m_aNextKept" "[I" (.ref b5_)) (F6_ : Fld Z h0 a1 "com/example/filigree/filigree/engine/DecisionTree" "m_aKept" "[Z" (.ref b6_)) (F7_ : Fld Z h0 a1 "com/example/filigree/filigree/engine/DecisionTree" "m_nSize" "I" (.int (1 : Int32))) (V0_ : Arv Z h0 b0_ k0_ .int (64 : Int32) [(.int (-1 : Int32)), (.int (0 : Int32)), (.int (0 : Int32)), (.int (0 : Int32))] (.int (0 : Int32))) (V1_ : Arv Z h0 b1_ k1_ .int (64 : Int32) [(.int (0 : Int32)), (.int (0 : Int32)), (.int (0 : Int32)), (.int (0 : Int32))] (.int (0 : Int32))) (V2_ : Arv Z h0 b2_ k2_ .int (64 : Int32) [(.int (0 : Int32)), (.int (0 : Int32)), (.int (0 : Int32)), (.int (0 : Int32))] (.int (0 : Int32))) (V3_ : Arv Z h0 b3_ k3_ .int (64 : Int32) [(.int (-1 : Int32)), (.int (0 : Int32)), (.int (0 : Int32)), (.int (0 : Int32))] (.int (0 : Int32))) (V4_ : Arv Z h0 b4_ k4_ .int (64 : Int32) [(.int (0 : Int32)), (.int (0 : Int32)), (.int (0 : Int32)), (.int (0 : Int32))] (.int (0 : Int32))) (V5_ : Arv Z h0 b5_ k5_ .int (64 : Int32) [(.int (0 : Int32)), (.int (0 : Int32)), (.int (0 : Int32)), (.int (0 : Int32))] (.int (0 : Int32))) (V6_ : Arv Z h0 b6_ k6_ .boolean (64 : Int32) [(.int (0 : Int32)), (.int (0 : Int32)), (.int (0 : Int32)), (.int (0 : Int32))] (.int (0 : Int32))) (g1 : n0 ≤ a1) (gb0 : n0 ≤ b0_) (gb1 : n0 ≤ b1_) (gb2 : n0 ≤ b2_) (gb3 : n0 ≤ b3_) (gb4 : n0 ≤ b4_) (gb5 : n0 ≤ b5_) (gb6 : n0 ≤ b6_) (n0_ : a1 ≠ b0_) (n1_ : a1 ≠ b1_) (n2_ : a1 ≠ b2_) (n3_ : a1 ≠ b3_) (n4_ : a1 ≠ b4_) (n5_ : a1 ≠ b5_) (n6_ : a1 ≠ b6_) (n7_ : b0_ ≠ b1_) (n8_ : b0_ ≠ b2_) (n9_ : b0_ ≠ b3_) (n10_ : b0_ ≠ b4_) (n11_ : b0_ ≠ b5_) (n12_ : b0_ ≠ b6_) (n13_ : b1_ ≠ b2_) (n14_ : b1_ ≠ b3_) (n15_ : b1_ ≠ b4_) (n16_ : b1_ ≠ b5_) (n17_ : b1_ ≠ b6_) (n18_ : b2_ ≠ b3_) (n19_ : b2_ ≠ b4_) (n20_ : b2_ ≠ b5_) (n21_ : b2_ ≠ b6_) (n22_ : b3_ ≠ b4_) (n23_ : b3_ ≠ b5_) (n24_ : b3_ ≠ b6_) (n25_ : b4_ ≠ b5_) (n26_ : b4_ ≠ b6_) (n27_ : b5_ ≠ b6_) :
    MetFree l (⟨"com/example/filigree/filigree/engine/DecisionTree", "add", "(II)I"⟩ : MethodName) (head1 (Jvm.Cond.code (⟨"com/example/filigree/filigree/engine/DecisionTree", "add", "(II)I"⟩ : MethodName) prog_11_method_2_code 4 (some .int) :: ws) ({ frames := 0, cells := 0, slots := 0, locals := 0 } : Room)) (fun a U => a = #[(.ref a1), (.int (0 : Int32)), (.int p2)] ∧ Z.Warmed39 U.vm ∧ U.heap = h0) (fun _ _ _ _ _ => True) (fun _ U o U' => ∃ v L, o = .returned v ∧ Q_add1 Z a1 p2 b0_ b1_ b2_ b3_ b4_ b5_ b6_ k0_ k1_ k2_ k3_ k4_ k5_ k6_ h0 n0 v U'.heap L ∧ FrameEnd U o U' L ({ frames := 0, cells := 0, slots := 0, locals := 0 } : Room).cells ({ frames := 0, cells := 0, slots := 0, locals := 0 } : Room).slots) := by
  refine MetFree.of_bodySF (plainFor_of_name pn_add1) hisR ?_
  intro p e s m args below meth c s₁ Bd hml0 hP hK
  obtain ⟨rfl, hZ, hh⟩ := hP
  have hx := Bd.exec
  have hby := Bd.bytes
  have hml : c.maxLocals = 4 := hml0
  have hown : s.vm.findClass "com/example/filigree/filigree/engine/DecisionTree" = some m.cls := findClass_of_methodNamed Bd.named
  have hnm := (name_of_methodNamed Bd.named Bd.method).1
  have X0 : Stand p l e ({ frames := 0, cells := 0, slots := 0, locals := 0 } : Room) s m #[(.ref a1), (.int (0 : Int32)), (.int p2)] below meth c s₁ [] 0 0 := Stand.of_body Bd
  have e0 : s₁.heap = h0 := by rw [← hh, Bd.state]; rfl
  have N0 := Fr.nil n0
  refine own_in ?_
  refine own_go (S' := s₁.setTop (mkF m 0 #[.val (.ref a1), .val (.int (0 : Int32)), .val (.int p2), .unset] [])) (fun tgt_ stp_ => castTop (ef_add1 m a1 p2 b0_ b1_ b2_ b3_ b4_ b5_ b6_ k0_ k1_ k2_ k3_ k4_ k5_ k6_) stp_) ?_
  have K0 : Keep h0 h0 [a1, b0_, b1_, b2_, b3_, b4_, b5_, b6_] := Keep.refl h0 _
  obtain ⟨T_1, X_1, e_1, st_1⟩ := getF X0 hx hZ hown (host := "") (Or.inl (hw _ (List.mem_of_getElem? (i := 25) rfl))) Via.refl e0 F7_ (g := (mkF m 1 #[.val (.ref a1), .val (.int (0 : Int32)), .val (.int p2), .unset] [(.ref a1)])) rfl rfl (hb hby d_add1_1)
  obtain ⟨T_2, X_2, e_2, st_2⟩ := getF X_1 hx hZ hown (host := "") (Or.inl (hw _ (List.mem_of_getElem? (i := 10) rfl))) Via.refl e_1 F0_ (g := (mkF m 5 #[.val (.ref a1), .val (.int (0 : Int32)), .val (.int p2), .unset] [(.ref a1), (.int (1 : Int32))])) rfl rfl (hb hby d_add1_5)
  obtain ⟨c_3, Ar_3, -, S_3, M_3, -, -⟩ := id V0_
  obtain ⟨T_4, X_4, e_4, st_4⟩ := getF X_2 hx hZ hown (host := "") (Or.inl (hw _ (List.mem_of_getElem? (i := 25) rfl))) Via.refl e_2 F7_ (g := (mkF m 105 #[.val (.ref a1), .val (.int (0 : Int32)), .val (.int p2), .unset] [(.ref a1), (.ref a1)])) rfl rfl (hb hby d_add1_105)
  obtain ⟨T_5, h_5, X_5, e_5, W_5, st_5⟩ := putF X_4 hx hZ hown (host := "") (Or.inl (hw _ (List.mem_of_getElem? (i := 25) rfl))) Via.refl e_4 F7_ E1 (Or.inl (hw _ (List.mem_of_getElem? (i := 26) rfl))) (hw _ (List.mem_of_getElem? (i := 1) rfl)) (ty := .int) (by decide) rfl rfl (g := (mkF m 111 #[.val (.ref a1), .val (.int (0 : Int32)), .val (.int p2), .unset] [(.int (2 : Int32)), (.ref a1), (.int (1 : Int32))])) rfl rfl (hb hby d_add1_111)
  obtain ⟨Lg_5, XG_5, N_5⟩ := own_gen X_5 (Fr.snoc X_5 N0 g1)
  have F_5 := F7_.same W_5
  have Z_6 : n0 ≤ h_5.size := Nat.le_trans Z0 (Keep.of_wr W_5).1
  have K_7 : Keep h0 h_5 [a1, b0_, b1_, b2_, b3_, b4_, b5_, b6_] := K0.wr W_5 (Or.inl (List.mem_of_getElem? (i := 0) rfl))
  have f_8 := (F0_.other W_5 (Or.inr (slot_ne (Or.inl (hw _ (List.mem_of_getElem? (i := 11) rfl))) (Or.inl (hw _ (List.mem_of_getElem? (i := 26) rfl))) (by decide) (t := (.array .int)) (t' := .int) (by decide) (by decide))))
  obtain ⟨T_9, X_9, e_9, st_9⟩ := getF XG_5 hx hZ hown (host := "") (Or.inl (hw _ (List.mem_of_getElem? (i := 10) rfl))) Via.refl e_5 f_8 (g := (mkF m 116 #[.val (.ref a1), .val (.int (0 : Int32)), .val (.int p2), .val (.int (1 : Int32))] [(.ref a1)])) rfl rfl (hb hby d_add1_116)
  have f_10 := (V0_.other W_5 (Ne.symm n0_))
  obtain ⟨c_11, Ar_11, q_11, S_11, M_11, Hs_11, G_11⟩ := id f_10
  have hin_11 : ¬ ((1 : Int32) < 0 ∨ c_11.slots.size ≤ ((1 : Int32)).toNatClampNeg) := inb_of S_11 ⟨by decide, by decide⟩
  obtain ⟨T_11, h_11, X_11, e_11, W_11, st_11⟩ := stI X_9 hx hZ e_9 Ar_11 (j := (1 : Int32)) hin_11 (g := (mkF m 121 #[.val (.ref a1), .val (.int (0 : Int32)), .val (.int p2), .val (.int (1 : Int32))] [(.int (0 : Int32)), (.int (1 : Int32)), (.ref b0_)])) rfl rfl (hb hby d_add1_121)
  obtain ⟨Lg_11, XG_11, N_11⟩ := own_gen X_11 (Fr.snoc X_11 N_5 gb0)
  have V_11 : Arv Z h_11 b0_ k0_ .int (64 : Int32) [(.int (-1 : Int32)), (.int (0 : Int32)), (.int (0 : Int32)), (.int (0 : Int32))] (.int (0 : Int32)) := Arv.set Ar_11 q_11 S_11 M_11 Hs_11 G_11 rfl W_11 1 rfl (Nat.le_of_ble_eq_true rfl)
  have Z_12 : n0 ≤ h_11.size := Nat.le_trans Z_6 (Keep.of_wr W_11).1
  have K_13 : Keep h0 h_11 [a1, b0_, b1_, b2_, b3_, b4_, b5_, b6_] := K_7.wr W_11 (Or.inl (List.mem_of_getElem? (i := 1) rfl))
  have f_14 := ((F1_.other W_5 (Or.inr (slot_ne (Or.inl (hw _ (List.mem_of_getElem? (i := 13) rfl))) (Or.inl (hw _ (List.mem_of_getElem? (i := 26) rfl))) (by decide) (t := (.array .int)) (t' := .int) (by decide) (by decide)))).other W_11 (Or.inl n0_))
  obtain ⟨T_15, X_15, e_15, st_15⟩ := getF XG_11 hx hZ hown (host := "") (Or.inl (hw _ (List.mem_of_getElem? (i := 12) rfl))) Via.refl e_11 f_14 (g := (mkF m 123 #[.val (.ref a1), .val (.int (0 : Int32)), .val (.int p2), .val (.int (1 : Int32))] [(.ref a1)])) rfl rfl (hb hby d_add1_123)
  have f_16 := ((V1_.other W_5 (Ne.symm n1_)).other W_11 (Ne.symm n7_))
  obtain ⟨c_17, Ar_17, q_17, S_17, M_17, Hs_17, G_17⟩ := id f_16
  have hin_17 : ¬ ((1 : Int32) < 0 ∨ c_17.slots.size ≤ ((1 : Int32)).toNatClampNeg) := inb_of S_17 ⟨by decide, by decide⟩
  obtain ⟨T_17, h_17, X_17, e_17, W_17, st_17⟩ := stI X_15 hx hZ e_15 Ar_17 (j := (1 : Int32)) hin_17 (g := (mkF m 128 #[.val (.ref a1), .val (.int (0 : Int32)), .val (.int p2), .val (.int (1 : Int32))] [(.int p2), (.int (1 : Int32)), (.ref b1_)])) rfl rfl (hb hby d_add1_128)
  obtain ⟨Lg_17, XG_17, N_17⟩ := own_gen X_17 (Fr.snoc X_17 N_11 gb1)
  have V_17 : Arv Z h_17 b1_ k1_ .int (64 : Int32) [(.int (0 : Int32)), (.int p2), (.int (0 : Int32)), (.int (0 : Int32))] (.int (0 : Int32)) := Arv.set Ar_17 q_17 S_17 M_17 Hs_17 G_17 rfl W_17 1 rfl (Nat.le_of_ble_eq_true rfl)
  have Z_18 : n0 ≤ h_17.size := Nat.le_trans Z_12 (Keep.of_wr W_17).1
  have K_19 : Keep h0 h_17 [a1, b0_, b1_, b2_, b3_, b4_, b5_, b6_] := K_13.wr W_17 (Or.inl (List.mem_of_getElem? (i := 2) rfl))
  have f_20 := (((F2_.other W_5 (Or.inr (slot_ne (Or.inl (hw _ (List.mem_of_getElem? (i := 15) rfl))) (Or.inl (hw _ (List.mem_of_getElem? (i := 26) rfl))) (by decide) (t := (.array .int)) (t' := .int) (by decide) (by decide)))).other W_11 (Or.inl n0_)).other W_17 (Or.inl n1_))
  obtain ⟨T_21, X_21, e_21, st_21⟩ := getF XG_17 hx hZ hown (host := "") (Or.inl (hw _ (List.mem_of_getElem? (i := 14) rfl))) Via.refl e_17 f_20 (g := (mkF m 130 #[.val (.ref a1), .val (.int (0 : Int32)), .val (.int p2), .val (.int (1 : Int32))] [(.ref a1)])) rfl rfl (hb hby d_add1_130)
  obtain ⟨T_22, X_22, e_22, st_22⟩ := getF X_21 hx hZ hown (host := "") (Or.inl (hw _ (List.mem_of_getElem? (i := 14) rfl))) Via.refl e_21 f_20 (g := (mkF m 135 #[.val (.ref a1), .val (.int (0 : Int32)), .val (.int p2), .val (.int (1 : Int32))] [(.ref a1), (.int (1 : Int32)), (.ref b2_)])) rfl rfl (hb hby d_add1_135)
  have f_23 := (((V2_.other W_5 (Ne.symm n2_)).other W_11 (Ne.symm n8_)).other W_17 (Ne.symm n13_))
  obtain ⟨c_24, Ar_24, q_24, S_24, M_24, Hs_24, G_24⟩ := id f_23
  have hin_24 : ¬ ((0 : Int32) < 0 ∨ c_24.slots.size ≤ ((0 : Int32)).toNatClampNeg) := inb_of S_24 ⟨by decide, by decide⟩
  have hat_24 : c_24.slots[((0 : Int32)).toNatClampNeg]? = some (.int (0 : Int32)) := Hs_24.at hin_24 rfl
  obtain ⟨c_25, Ar_25, q_25, S_25, M_25, Hs_25, G_25⟩ := id f_23
  have hin_25 : ¬ ((1 : Int32) < 0 ∨ c_25.slots.size ≤ ((1 : Int32)).toNatClampNeg) := inb_of S_25 ⟨by decide, by decide⟩
  obtain ⟨T_25, h_25, X_25, e_25, W_25, st_25⟩ := stI X_22 hx hZ e_22 Ar_25 (j := (1 : Int32)) hin_25 (g := (mkF m 142 #[.val (.ref a1), .val (.int (0 : Int32)), .val (.int p2), .val (.int (1 : Int32))] [(.int (1 : Int32)), (.int (1 : Int32)), (.ref b2_)])) rfl rfl (hb hby d_add1_142)
  obtain ⟨Lg_25, XG_25, N_25⟩ := own_gen X_25 (Fr.snoc X_25 N_17 gb2)
  have V_25 : Arv Z h_25 b2_ k2_ .int (64 : Int32) [(.int (0 : Int32)), (.int (1 : Int32)), (.int (0 : Int32)), (.int (0 : Int32))] (.int (0 : Int32)) := Arv.set Ar_25 q_25 S_25 M_25 Hs_25 G_25 rfl W_25 1 rfl (Nat.le_of_ble_eq_true rfl)
  have Z_26 : n0 ≤ h_25.size := Nat.le_trans Z_18 (Keep.of_wr W_25).1
  have K_27 : Keep h0 h_25 [a1, b0_, b1_, b2_, b3_, b4_, b5_, b6_] := K_19.wr W_25 (Or.inl (List.mem_of_getElem? (i := 3) rfl))
  have f_28 := ((((F3_.other W_5 (Or.inr (slot_ne (Or.inl (hw _ (List.mem_of_getElem? (i := 17) rfl))) (Or.inl (hw _ (List.mem_of_getElem? (i := 26) rfl))) (by decide) (t := (.array .int)) (t' := .int) (by decide) (by decide)))).other W_11 (Or.inl n0_)).other W_17 (Or.inl n1_)).other W_25 (Or.inl n2_))
  obtain ⟨T_29, X_29, e_29, st_29⟩ := getF XG_25 hx hZ hown (host := "") (Or.inl (hw _ (List.mem_of_getElem? (i := 16) rfl))) Via.refl e_25 f_28 (g := (mkF m 144 #[.val (.ref a1), .val (.int (0 : Int32)), .val (.int p2), .val (.int (1 : Int32))] [(.ref a1)])) rfl rfl (hb hby d_add1_144)
  have f_30 := ((((V3_.other W_5 (Ne.symm n3_)).other W_11 (Ne.symm n9_)).other W_17 (Ne.symm n14_)).other W_25 (Ne.symm n18_))
  obtain ⟨c_31, Ar_31, q_31, S_31, M_31, Hs_31, G_31⟩ := id f_30
  have hin_31 : ¬ ((1 : Int32) < 0 ∨ c_31.slots.size ≤ ((1 : Int32)).toNatClampNeg) := inb_of S_31 ⟨by decide, by decide⟩
  obtain ⟨T_31, h_31, X_31, e_31, W_31, st_31⟩ := stI X_29 hx hZ e_29 Ar_31 (j := (1 : Int32)) hin_31 (g := (mkF m 149 #[.val (.ref a1), .val (.int (0 : Int32)), .val (.int p2), .val (.int (1 : Int32))] [(.int (-1 : Int32)), (.int (1 : Int32)), (.ref b3_)])) rfl rfl (hb hby d_add1_149)
  obtain ⟨Lg_31, XG_31, N_31⟩ := own_gen X_31 (Fr.snoc X_31 N_25 gb3)
  have V_31 : Arv Z h_31 b3_ k3_ .int (64 : Int32) [(.int (-1 : Int32)), (.int (-1 : Int32)), (.int (0 : Int32)), (.int (0 : Int32))] (.int (0 : Int32)) := Arv.set Ar_31 q_31 S_31 M_31 Hs_31 G_31 rfl W_31 1 rfl (Nat.le_of_ble_eq_true rfl)
  have Z_32 : n0 ≤ h_31.size := Nat.le_trans Z_26 (Keep.of_wr W_31).1
  have K_33 : Keep h0 h_31 [a1, b0_, b1_, b2_, b3_, b4_, b5_, b6_] := K_27.wr W_31 (Or.inl (List.mem_of_getElem? (i := 4) rfl))
  have f_34 := (((((F4_.other W_5 (Or.inr (slot_ne (Or.inl (hw _ (List.mem_of_getElem? (i := 19) rfl))) (Or.inl (hw _ (List.mem_of_getElem? (i := 26) rfl))) (by decide) (t := (.array .int)) (t' := .int) (by decide) (by decide)))).other W_11 (Or.inl n0_)).other W_17 (Or.inl n1_)).other W_25 (Or.inl n2_)).other W_31 (Or.inl n3_))
  obtain ⟨T_35, X_35, e_35, st_35⟩ := getF XG_31 hx hZ hown (host := "") (Or.inl (hw _ (List.mem_of_getElem? (i := 18) rfl))) Via.refl e_31 f_34 (g := (mkF m 151 #[.val (.ref a1), .val (.int (0 : Int32)), .val (.int p2), .val (.int (1 : Int32))] [(.ref a1)])) rfl rfl (hb hby d_add1_151)
  have f_36 := (((((V4_.other W_5 (Ne.symm n4_)).other W_11 (Ne.symm n10_)).other W_17 (Ne.symm n15_)).other W_25 (Ne.symm n19_)).other W_31 (Ne.symm n22_))
  obtain ⟨c_37, Ar_37, q_37, S_37, M_37, Hs_37, G_37⟩ := id f_36
  have hin_37 : ¬ ((1 : Int32) < 0 ∨ c_37.slots.size ≤ ((1 : Int32)).toNatClampNeg) := inb_of S_37 ⟨by decide, by decide⟩
  obtain ⟨T_37, h_37, X_37, e_37, W_37, st_37⟩ := stI X_35 hx hZ e_35 Ar_37 (j := (1 : Int32)) hin_37 (g := (mkF m 156 #[.val (.ref a1), .val (.int (0 : Int32)), .val (.int p2), .val (.int (1 : Int32))] [(.int (0 : Int32)), (.int (1 : Int32)), (.ref b4_)])) rfl rfl (hb hby d_add1_156)
  obtain ⟨Lg_37, XG_37, N_37⟩ := own_gen X_37 (Fr.snoc X_37 N_31 gb4)
  have V_37 : Arv Z h_37 b4_ k4_ .int (64 : Int32) [(.int (0 : Int32)), (.int (0 : Int32)), (.int (0 : Int32)), (.int (0 : Int32))] (.int (0 : Int32)) := Arv.set Ar_37 q_37 S_37 M_37 Hs_37 G_37 rfl W_37 1 rfl (Nat.le_of_ble_eq_true rfl)
  have Z_38 : n0 ≤ h_37.size := Nat.le_trans Z_32 (Keep.of_wr W_37).1
  have K_39 : Keep h0 h_37 [a1, b0_, b1_, b2_, b3_, b4_, b5_, b6_] := K_33.wr W_37 (Or.inl (List.mem_of_getElem? (i := 5) rfl))
  have f_40 := ((((((F5_.other W_5 (Or.inr (slot_ne (Or.inl (hw _ (List.mem_of_getElem? (i := 21) rfl))) (Or.inl (hw _ (List.mem_of_getElem? (i := 26) rfl))) (by decide) (t := (.array .int)) (t' := .int) (by decide) (by decide)))).other W_11 (Or.inl n0_)).other W_17 (Or.inl n1_)).other W_25 (Or.inl n2_)).other W_31 (Or.inl n3_)).other W_37 (Or.inl n4_))
  obtain ⟨T_41, X_41, e_41, st_41⟩ := getF XG_37 hx hZ hown (host := "") (Or.inl (hw _ (List.mem_of_getElem? (i := 20) rfl))) Via.refl e_37 f_40 (g := (mkF m 158 #[.val (.ref a1), .val (.int (0 : Int32)), .val (.int p2), .val (.int (1 : Int32))] [(.ref a1)])) rfl rfl (hb hby d_add1_158)
  have f_42 := ((((((V5_.other W_5 (Ne.symm n5_)).other W_11 (Ne.symm n11_)).other W_17 (Ne.symm n16_)).other W_25 (Ne.symm n20_)).other W_31 (Ne.symm n23_)).other W_37 (Ne.symm n25_))
  obtain ⟨c_43, Ar_43, q_43, S_43, M_43, Hs_43, G_43⟩ := id f_42
  have hin_43 : ¬ ((1 : Int32) < 0 ∨ c_43.slots.size ≤ ((1 : Int32)).toNatClampNeg) := inb_of S_43 ⟨by decide, by decide⟩
  obtain ⟨T_43, h_43, X_43, e_43, W_43, st_43⟩ := stI X_41 hx hZ e_41 Ar_43 (j := (1 : Int32)) hin_43 (g := (mkF m 163 #[.val (.ref a1), .val (.int (0 : Int32)), .val (.int p2), .val (.int (1 : Int32))] [(.int (-1 : Int32)), (.int (1 : Int32)), (.ref b5_)])) rfl rfl (hb hby d_add1_163)
  obtain ⟨Lg_43, XG_43, N_43⟩ := own_gen X_43 (Fr.snoc X_43 N_37 gb5)
  have V_43 : Arv Z h_43 b5_ k5_ .int (64 : Int32) [(.int (0 : Int32)), (.int (-1 : Int32)), (.int (0 : Int32)), (.int (0 : Int32))] (.int (0 : Int32)) := Arv.set Ar_43 q_43 S_43 M_43 Hs_43 G_43 rfl W_43 1 rfl (Nat.le_of_ble_eq_true rfl)
  have Z_44 : n0 ≤ h_43.size := Nat.le_trans Z_38 (Keep.of_wr W_43).1
  have K_45 : Keep h0 h_43 [a1, b0_, b1_, b2_, b3_, b4_, b5_, b6_] := K_39.wr W_43 (Or.inl (List.mem_of_getElem? (i := 6) rfl))
  have f_46 := (((((((F6_.other W_5 (Or.inr (slot_ne (Or.inl (hw _ (List.mem_of_getElem? (i := 24) rfl))) (Or.inl (hw _ (List.mem_of_getElem? (i := 26) rfl))) (by decide) (t := (.array .boolean)) (t' := .int) (by decide) (by decide)))).other W_11 (Or.inl n0_)).other W_17 (Or.inl n1_)).other W_25 (Or.inl n2_)).other W_31 (Or.inl n3_)).other W_37 (Or.inl n4_)).other W_43 (Or.inl n5_))
  obtain ⟨T_47, X_47, e_47, st_47⟩ := getF XG_43 hx hZ hown (host := "") (Or.inl (hw _ (List.mem_of_getElem? (i := 23) rfl))) Via.refl e_43 f_46 (g := (mkF m 165 #[.val (.ref a1), .val (.int (0 : Int32)), .val (.int p2), .val (.int (1 : Int32))] [(.ref a1)])) rfl rfl (hb hby d_add1_165)
  have f_48 := (((((((V6_.other W_5 (Ne.symm n6_)).other W_11 (Ne.symm n12_)).other W_17 (Ne.symm n17_)).other W_25 (Ne.symm n21_)).other W_31 (Ne.symm n24_)).other W_37 (Ne.symm n26_)).other W_43 (Ne.symm n27_))
  obtain ⟨c_49, Ar_49, q_49, S_49, M_49, Hs_49, G_49⟩ := id f_48
  have hin_49 : ¬ ((1 : Int32) < 0 ∨ c_49.slots.size ≤ ((1 : Int32)).toNatClampNeg) := inb_of S_49 ⟨by decide, by decide⟩
  obtain ⟨T_49, h_49, X_49, e_49, W_49, st_49⟩ := stZ X_47 hx hZ e_47 Ar_49 (j := (1 : Int32)) hin_49 (g := (mkF m 170 #[.val (.ref a1), .val (.int (0 : Int32)), .val (.int p2), .val (.int (1 : Int32))] [(.int (0 : Int32)), (.int (1 : Int32)), (.ref b6_)])) rfl rfl (hb hby d_add1_170)
  obtain ⟨Lg_49, XG_49, N_49⟩ := own_gen X_49 (Fr.snoc X_49 N_43 gb6)
  have V_49 : Arv Z h_49 b6_ k6_ .boolean (64 : Int32) [(.int (0 : Int32)), (.int (nar .boolean (0 : Int32))), (.int (0 : Int32)), (.int (0 : Int32))] (.int (0 : Int32)) := Arv.set Ar_49 q_49 S_49 M_49 Hs_49 G_49 (fits_nar_bool _) W_49 1 rfl (Nat.le_of_ble_eq_true rfl)
  have Z_50 : n0 ≤ h_49.size := Nat.le_trans Z_44 (Keep.of_wr W_49).1
  have K_51 : Keep h0 h_49 [a1, b0_, b1_, b2_, b3_, b4_, b5_, b6_] := K_45.wr W_49 (Or.inl (List.mem_of_getElem? (i := 7) rfl))
  refine own_go (S' := T_49.setTop (mkF m 172 #[.val (.ref a1), .val (.int (0 : Int32)), .val (.int p2), .val (.int (1 : Int32))] [(.int (1 : Int32))])) (fun target kt => ?_) ?_
  · show Steps p.tables e below (s₁.setTop (mkF m 0 #[.val (.ref a1), .val (.int (0 : Int32)), .val (.int p2), .unset] [])) target
    refine XS.aloadN X0.here hx rfl (hb hby d_add1_0) rfl rfl ?_
    show Steps p.tables e below (s₁.setTop (mkF m 1 #[.val (.ref a1), .val (.int (0 : Int32)), .val (.int p2), .unset] [(.ref a1)])) target
    refine st_1 _ ?_
    show Steps p.tables e below (T_1.setTop (mkF m 4 #[.val (.ref a1), .val (.int (0 : Int32)), .val (.int p2), .unset] [(.int (1 : Int32))])) target
    refine XS.aloadN X_1.here hx rfl (hb hby d_add1_4) rfl rfl ?_
    show Steps p.tables e below (T_1.setTop (mkF m 5 #[.val (.ref a1), .val (.int (0 : Int32)), .val (.int p2), .unset] [(.ref a1), (.int (1 : Int32))])) target
    refine st_2 _ ?_
    show Steps p.tables e below (T_2.setTop (mkF m 8 #[.val (.ref a1), .val (.int (0 : Int32)), .val (.int p2), .unset] [(.ref b0_), (.int (1 : Int32))])) target
    refine X_2.arraylength hx (by rw [e_2]; exact Ar_3.1) (State.isArrayOf_alike hZ.alike Ar_3.2.1) (g := (mkF m 8 #[.val (.ref a1), .val (.int (0 : Int32)), .val (.int p2), .unset] [(.ref b0_), (.int (1 : Int32))])) rfl rfl (hb hby d_add1_8) _ ?_
    rw [len_of S_3 M_3]
    show Steps p.tables e below (T_2.setTop (mkF m 9 #[.val (.ref a1), .val (.int (0 : Int32)), .val (.int p2), .unset] [(.int (64 : Int32)), (.int (1 : Int32))])) target
    refine XS.icmpYes X_2.here hx rfl (pc0 := 9) (pc' := 103) rfl (hb hby d_add1_9) rfl (feq (by decide : ¬ ((1 : Int32) = (64 : Int32)))).2 (by decide) (by decide) ?_
    show Steps p.tables e below (T_2.setTop (mkF m 103 #[.val (.ref a1), .val (.int (0 : Int32)), .val (.int p2), .unset] [])) target
    refine XS.aloadN X_2.here hx rfl (hb hby d_add1_103) rfl rfl ?_
    show Steps p.tables e below (T_2.setTop (mkF m 104 #[.val (.ref a1), .val (.int (0 : Int32)), .val (.int p2), .unset] [(.ref a1)])) target
    refine XS.dup X_2.here hx rfl (hb hby d_add1_104) rfl rfl ?_
    show Steps p.tables e below (T_2.setTop (mkF m 105 #[.val (.ref a1), .val (.int (0 : Int32)), .val (.int p2), .unset] [(.ref a1), (.ref a1)])) target
    refine st_4 _ ?_
    show Steps p.tables e below (T_4.setTop (mkF m 108 #[.val (.ref a1), .val (.int (0 : Int32)), .val (.int p2), .unset] [(.int (1 : Int32)), (.ref a1)])) target
    refine XS.dupX1 X_4.here hx rfl (hb hby d_add1_108) rfl rfl rfl ?_
    show Steps p.tables e below (T_4.setTop (mkF m 109 #[.val (.ref a1), .val (.int (0 : Int32)), .val (.int p2), .unset] [(.int (1 : Int32)), (.ref a1), (.int (1 : Int32))])) target
    refine XS.iconst X_4.here hx rfl (hb hby d_add1_109) ?_
    show Steps p.tables e below (T_4.setTop (mkF m 110 #[.val (.ref a1), .val (.int (0 : Int32)), .val (.int p2), .unset] [(.int (1 : Int32)), (.int (1 : Int32)), (.ref a1), (.int (1 : Int32))])) target
    refine XS.iadd X_4.here hx rfl (hb hby d_add1_110) rfl ?_
    show Steps p.tables e below (T_4.setTop (mkF m 111 #[.val (.ref a1), .val (.int (0 : Int32)), .val (.int p2), .unset] [(.int ((1 : Int32) + (1 : Int32))), (.ref a1), (.int (1 : Int32))])) target
    rw [show (1 : Int32) + (1 : Int32) = (2 : Int32) from by decide]
    show Steps p.tables e below (T_4.setTop (mkF m 111 #[.val (.ref a1), .val (.int (0 : Int32)), .val (.int p2), .unset] [(.int (2 : Int32)), (.ref a1), (.int (1 : Int32))])) target
    refine st_5 _ ?_
    show Steps p.tables e below (T_5.setTop (mkF m 114 #[.val (.ref a1), .val (.int (0 : Int32)), .val (.int p2), .unset] [(.int (1 : Int32))])) target
    refine XS.istoreN XG_5.here hx rfl (hb hby d_add1_114) rfl (l' := #[.val (.ref a1), .val (.int (0 : Int32)), .val (.int p2), .val (.int (1 : Int32))]) rfl ?_
    show Steps p.tables e below (T_5.setTop (mkF m 115 #[.val (.ref a1), .val (.int (0 : Int32)), .val (.int p2), .val (.int (1 : Int32))] [])) target
    refine XS.aloadN XG_5.here hx rfl (hb hby d_add1_115) rfl rfl ?_
    show Steps p.tables e below (T_5.setTop (mkF m 116 #[.val (.ref a1), .val (.int (0 : Int32)), .val (.int p2), .val (.int (1 : Int32))] [(.ref a1)])) target
    refine st_9 _ ?_
    show Steps p.tables e below (T_9.setTop (mkF m 119 #[.val (.ref a1), .val (.int (0 : Int32)), .val (.int p2), .val (.int (1 : Int32))] [(.ref b0_)])) target
    refine XS.iloadN X_9.here hx rfl (hb hby d_add1_119) rfl ?_
    show Steps p.tables e below (T_9.setTop (mkF m 120 #[.val (.ref a1), .val (.int (0 : Int32)), .val (.int p2), .val (.int (1 : Int32))] [(.int (1 : Int32)), (.ref b0_)])) target
    refine XS.iloadN X_9.here hx rfl (hb hby d_add1_120) rfl ?_
    show Steps p.tables e below (T_9.setTop (mkF m 121 #[.val (.ref a1), .val (.int (0 : Int32)), .val (.int p2), .val (.int (1 : Int32))] [(.int (0 : Int32)), (.int (1 : Int32)), (.ref b0_)])) target
    refine st_11 _ ?_
    show Steps p.tables e below (T_11.setTop (mkF m 122 #[.val (.ref a1), .val (.int (0 : Int32)), .val (.int p2), .val (.int (1 : Int32))] [])) target
    refine XS.aloadN XG_11.here hx rfl (hb hby d_add1_122) rfl rfl ?_
    show Steps p.tables e below (T_11.setTop (mkF m 123 #[.val (.ref a1), .val (.int (0 : Int32)), .val (.int p2), .val (.int (1 : Int32))] [(.ref a1)])) target
    refine st_15 _ ?_
    show Steps p.tables e below (T_15.setTop (mkF m 126 #[.val (.ref a1), .val (.int (0 : Int32)), .val (.int p2), .val (.int (1 : Int32))] [(.ref b1_)])) target
    refine XS.iloadN X_15.here hx rfl (hb hby d_add1_126) rfl ?_
    show Steps p.tables e below (T_15.setTop (mkF m 127 #[.val (.ref a1), .val (.int (0 : Int32)), .val (.int p2), .val (.int (1 : Int32))] [(.int (1 : Int32)), (.ref b1_)])) target
    refine XS.iloadN X_15.here hx rfl (hb hby d_add1_127) rfl ?_
    show Steps p.tables e below (T_15.setTop (mkF m 128 #[.val (.ref a1), .val (.int (0 : Int32)), .val (.int p2), .val (.int (1 : Int32))] [(.int p2), (.int (1 : Int32)), (.ref b1_)])) target
    refine st_17 _ ?_
    show Steps p.tables e below (T_17.setTop (mkF m 129 #[.val (.ref a1), .val (.int (0 : Int32)), .val (.int p2), .val (.int (1 : Int32))] [])) target
    refine XS.aloadN XG_17.here hx rfl (hb hby d_add1_129) rfl rfl ?_
    show Steps p.tables e below (T_17.setTop (mkF m 130 #[.val (.ref a1), .val (.int (0 : Int32)), .val (.int p2), .val (.int (1 : Int32))] [(.ref a1)])) target
    refine st_21 _ ?_
    show Steps p.tables e below (T_21.setTop (mkF m 133 #[.val (.ref a1), .val (.int (0 : Int32)), .val (.int p2), .val (.int (1 : Int32))] [(.ref b2_)])) target
    refine XS.iloadN X_21.here hx rfl (hb hby d_add1_133) rfl ?_
    show Steps p.tables e below (T_21.setTop (mkF m 134 #[.val (.ref a1), .val (.int (0 : Int32)), .val (.int p2), .val (.int (1 : Int32))] [(.int (1 : Int32)), (.ref b2_)])) target
    refine XS.aloadN X_21.here hx rfl (hb hby d_add1_134) rfl rfl ?_
    show Steps p.tables e below (T_21.setTop (mkF m 135 #[.val (.ref a1), .val (.int (0 : Int32)), .val (.int p2), .val (.int (1 : Int32))] [(.ref a1), (.int (1 : Int32)), (.ref b2_)])) target
    refine st_22 _ ?_
    show Steps p.tables e below (T_22.setTop (mkF m 138 #[.val (.ref a1), .val (.int (0 : Int32)), .val (.int p2), .val (.int (1 : Int32))] [(.ref b2_), (.int (1 : Int32)), (.ref b2_)])) target
    refine XS.iloadN X_22.here hx rfl (hb hby d_add1_138) rfl ?_
    show Steps p.tables e below (T_22.setTop (mkF m 139 #[.val (.ref a1), .val (.int (0 : Int32)), .val (.int p2), .val (.int (1 : Int32))] [(.int (0 : Int32)), (.ref b2_), (.int (1 : Int32)), (.ref b2_)])) target
    refine X_22.iaload hx (j := (0 : Int32)) (v := (.int (0 : Int32))) (by rw [e_22]; exact Ar_24.1) (State.isArrayOf_alike hZ.alike Ar_24.2.1) Ar_24.2.2 hin_24 hat_24 (g := (mkF m 139 #[.val (.ref a1), .val (.int (0 : Int32)), .val (.int p2), .val (.int (1 : Int32))] [(.int (0 : Int32)), (.ref b2_), (.int (1 : Int32)), (.ref b2_)])) rfl rfl (hb hby d_add1_139) _ ?_
    show Steps p.tables e below (T_22.setTop (mkF m 140 #[.val (.ref a1), .val (.int (0 : Int32)), .val (.int p2), .val (.int (1 : Int32))] [(.int (0 : Int32)), (.int (1 : Int32)), (.ref b2_)])) target
    refine XS.iconst X_22.here hx rfl (hb hby d_add1_140) ?_
    show Steps p.tables e below (T_22.setTop (mkF m 141 #[.val (.ref a1), .val (.int (0 : Int32)), .val (.int p2), .val (.int (1 : Int32))] [(.int (1 : Int32)), (.int (0 : Int32)), (.int (1 : Int32)), (.ref b2_)])) target
    refine XS.iadd X_22.here hx rfl (hb hby d_add1_141) rfl ?_
    show Steps p.tables e below (T_22.setTop (mkF m 142 #[.val (.ref a1), .val (.int (0 : Int32)), .val (.int p2), .val (.int (1 : Int32))] [(.int ((0 : Int32) + (1 : Int32))), (.int (1 : Int32)), (.ref b2_)])) target
    rw [show (0 : Int32) + (1 : Int32) = (1 : Int32) from by decide]
    show Steps p.tables e below (T_22.setTop (mkF m 142 #[.val (.ref a1), .val (.int (0 : Int32)), .val (.int p2), .val (.int (1 : Int32))] [(.int (1 : Int32)), (.int (1 : Int32)), (.ref b2_)])) target
    refine st_25 _ ?_
    show Steps p.tables e below (T_25.setTop (mkF m 143 #[.val (.ref a1), .val (.int (0 : Int32)), .val (.int p2), .val (.int (1 : Int32))] [])) target
    refine XS.aloadN XG_25.here hx rfl (hb hby d_add1_143) rfl rfl ?_
    show Steps p.tables e below (T_25.setTop (mkF m 144 #[.val (.ref a1), .val (.int (0 : Int32)), .val (.int p2), .val (.int (1 : Int32))] [(.ref a1)])) target
    refine st_29 _ ?_
    show Steps p.tables e below (T_29.setTop (mkF m 147 #[.val (.ref a1), .val (.int (0 : Int32)), .val (.int p2), .val (.int (1 : Int32))] [(.ref b3_)])) target
    refine XS.iloadN X_29.here hx rfl (hb hby d_add1_147) rfl ?_
    show Steps p.tables e below (T_29.setTop (mkF m 148 #[.val (.ref a1), .val (.int (0 : Int32)), .val (.int p2), .val (.int (1 : Int32))] [(.int (1 : Int32)), (.ref b3_)])) target
    refine XS.iconst X_29.here hx rfl (hb hby d_add1_148) ?_
    show Steps p.tables e below (T_29.setTop (mkF m 149 #[.val (.ref a1), .val (.int (0 : Int32)), .val (.int p2), .val (.int (1 : Int32))] [(.int (-1 : Int32)), (.int (1 : Int32)), (.ref b3_)])) target
    refine st_31 _ ?_
    show Steps p.tables e below (T_31.setTop (mkF m 150 #[.val (.ref a1), .val (.int (0 : Int32)), .val (.int p2), .val (.int (1 : Int32))] [])) target
    refine XS.aloadN XG_31.here hx rfl (hb hby d_add1_150) rfl rfl ?_
    show Steps p.tables e below (T_31.setTop (mkF m 151 #[.val (.ref a1), .val (.int (0 : Int32)), .val (.int p2), .val (.int (1 : Int32))] [(.ref a1)])) target
    refine st_35 _ ?_
    show Steps p.tables e below (T_35.setTop (mkF m 154 #[.val (.ref a1), .val (.int (0 : Int32)), .val (.int p2), .val (.int (1 : Int32))] [(.ref b4_)])) target
    refine XS.iloadN X_35.here hx rfl (hb hby d_add1_154) rfl ?_
    show Steps p.tables e below (T_35.setTop (mkF m 155 #[.val (.ref a1), .val (.int (0 : Int32)), .val (.int p2), .val (.int (1 : Int32))] [(.int (1 : Int32)), (.ref b4_)])) target
    refine XS.iconst X_35.here hx rfl (hb hby d_add1_155) ?_
    show Steps p.tables e below (T_35.setTop (mkF m 156 #[.val (.ref a1), .val (.int (0 : Int32)), .val (.int p2), .val (.int (1 : Int32))] [(.int (0 : Int32)), (.int (1 : Int32)), (.ref b4_)])) target
    refine st_37 _ ?_
    show Steps p.tables e below (T_37.setTop (mkF m 157 #[.val (.ref a1), .val (.int (0 : Int32)), .val (.int p2), .val (.int (1 : Int32))] [])) target
    refine XS.aloadN XG_37.here hx rfl (hb hby d_add1_157) rfl rfl ?_
    show Steps p.tables e below (T_37.setTop (mkF m 158 #[.val (.ref a1), .val (.int (0 : Int32)), .val (.int p2), .val (.int (1 : Int32))] [(.ref a1)])) target
    refine st_41 _ ?_
    show Steps p.tables e below (T_41.setTop (mkF m 161 #[.val (.ref a1), .val (.int (0 : Int32)), .val (.int p2), .val (.int (1 : Int32))] [(.ref b5_)])) target
    refine XS.iloadN X_41.here hx rfl (hb hby d_add1_161) rfl ?_
    show Steps p.tables e below (T_41.setTop (mkF m 162 #[.val (.ref a1), .val (.int (0 : Int32)), .val (.int p2), .val (.int (1 : Int32))] [(.int (1 : Int32)), (.ref b5_)])) target
    refine XS.iconst X_41.here hx rfl (hb hby d_add1_162) ?_
    show Steps p.tables e below (T_41.setTop (mkF m 163 #[.val (.ref a1), .val (.int (0 : Int32)), .val (.int p2), .val (.int (1 : Int32))] [(.int (-1 : Int32)), (.int (1 : Int32)), (.ref b5_)])) target
    refine st_43 _ ?_
    show Steps p.tables e below (T_43.setTop (mkF m 164 #[.val (.ref a1), .val (.int (0 : Int32)), .val (.int p2), .val (.int (1 : Int32))] [])) target
    refine XS.aloadN XG_43.here hx rfl (hb hby d_add1_164) rfl rfl ?_
    show Steps p.tables e below (T_43.setTop (mkF m 165 #[.val (.ref a1), .val (.int (0 : Int32)), .val (.int p2), .val (.int (1 : Int32))] [(.ref a1)])) target
    refine st_47 _ ?_
    show Steps p.tables e below (T_47.setTop (mkF m 168 #[.val (.ref a1), .val (.int (0 : Int32)), .val (.int p2), .val (.int (1 : Int32))] [(.ref b6_)])) target
    refine XS.iloadN X_47.here hx rfl (hb hby d_add1_168) rfl ?_
    show Steps p.tables e below (T_47.setTop (mkF m 169 #[.val (.ref a1), .val (.int (0 : Int32)), .val (.int p2), .val (.int (1 : Int32))] [(.int (1 : Int32)), (.ref b6_)])) target
    refine XS.iconst X_47.here hx rfl (hb hby d_add1_169) ?_
    show Steps p.tables e below (T_47.setTop (mkF m 170 #[.val (.ref a1), .val (.int (0 : Int32)), .val (.int p2), .val (.int (1 : Int32))] [(.int (0 : Int32)), (.int (1 : Int32)), (.ref b6_)])) target
    refine st_49 _ ?_
    show Steps p.tables e below (T_49.setTop (mkF m 171 #[.val (.ref a1), .val (.int (0 : Int32)), .val (.int p2), .val (.int (1 : Int32))] [])) target
    refine XS.iloadN XG_49.here hx rfl (hb hby d_add1_171) rfl ?_
    show Steps p.tables e below (T_49.setTop (mkF m 172 #[.val (.ref a1), .val (.int (0 : Int32)), .val (.int p2), .val (.int (1 : Int32))] [(.int (1 : Int32))])) target
    exact kt
  obtain ⟨fs, hr, hrun, hended, hW, hsame⟩ := XG_49.leave (v := some (.int (1 : Int32))) (fun h => by rw [Bd.returns] at h; cases h)
  refine ⟨_, _, retI XG_49 hx Bd.returns (hb hby d_add1_172) hr, hrun, hended, _, _, rfl, ?_, ⟨_, rfl⟩, hW, hsame.mono (by decide) (by decide)⟩
  show Q_add1 Z a1 p2 b0_ b1_ b2_ b3_ b4_ b5_ b6_ k0_ k1_ k2_ k3_ k4_ k5_ k6_ h0 n0 _ T_49.heap _
  rw [e_49]
  have f_52 := ((((((((E1.wr W_5).wr W_11).wr W_17).wr W_25).wr W_31).wr W_37).wr W_43).wr W_49)
  have f_53 := (((((((f_8.other W_11 (Or.inl n0_)).other W_17 (Or.inl n1_)).other W_25 (Or.inl n2_)).other W_31 (Or.inl n3_)).other W_37 (Or.inl n4_)).other W_43 (Or.inl n5_)).other W_49 (Or.inl n6_))
  have f_54 := ((((((f_14.other W_17 (Or.inl n1_)).other W_25 (Or.inl n2_)).other W_31 (Or.inl n3_)).other W_37 (Or.inl n4_)).other W_43 (Or.inl n5_)).other W_49 (Or.inl n6_))
  have f_55 := (((((f_20.other W_25 (Or.inl n2_)).other W_31 (Or.inl n3_)).other W_37 (Or.inl n4_)).other W_43 (Or.inl n5_)).other W_49 (Or.inl n6_))
  have f_56 := ((((f_28.other W_31 (Or.inl n3_)).other W_37 (Or.inl n4_)).other W_43 (Or.inl n5_)).other W_49 (Or.inl n6_))
  have f_57 := (((f_34.other W_37 (Or.inl n4_)).other W_43 (Or.inl n5_)).other W_49 (Or.inl n6_))
  have f_58 := ((f_40.other W_43 (Or.inl n5_)).other W_49 (Or.inl n6_))
  have f_59 := (f_46.other W_49 (Or.inl n6_))
  have f_60 := (((((((F_5.other W_11 (Or.inl n0_)).other W_17 (Or.inl n1_)).other W_25 (Or.inl n2_)).other W_31 (Or.inl n3_)).other W_37 (Or.inl n4_)).other W_43 (Or.inl n5_)).other W_49 (Or.inl n6_))
  have f_61 := ((((((V_11.other W_17 n7_).other W_25 n8_).other W_31 n9_).other W_37 n10_).other W_43 n11_).other W_49 n12_)
  have f_62 := (((((V_17.other W_25 n13_).other W_31 n14_).other W_37 n15_).other W_43 n16_).other W_49 n17_)
  have f_63 := ((((V_25.other W_31 n18_).other W_37 n19_).other W_43 n20_).other W_49 n21_)
  have f_64 := (((V_31.other W_37 n22_).other W_43 n23_).other W_49 n24_)
  have f_65 := ((V_37.other W_43 n25_).other W_49 n26_)
  have f_66 := (V_43.other W_49 n27_)
  exact ⟨rfl, N_49, K_51, f_52, f_53, f_54, f_55, f_56, f_57, f_58, f_59, f_60, f_61, f_62, f_63, f_64, f_65, f_66, V_49⟩
-- com/example/filigree/filigree/engine/DecisionTree.add:(II)I
theorem d_add2_0 : decode prog_11_method_2_code 0 = .ok (.aload_n 0, 1) := by decide +kernel
theorem d_add2_1 : decode prog_11_method_2_code 1 = .ok (.getfield 32, 3) := by decide +kernel
theorem d_add2_4 : decode prog_11_method_2_code 4 = .ok (.aload_n 0, 1) := by decide +kernel
theorem d_add2_5 : decode prog_11_method_2_code 5 = .ok (.getfield 7, 3) := by decide +kernel
theorem d_add2_8 : decode prog_11_method_2_code 8 = .ok (.arraylength, 1) := by decide +kernel
theorem d_add2_9 : decode prog_11_method_2_code 9 = .ok (.if_icmp .ne 94, 3) := by decide +kernel
theorem d_add2_103 : decode prog_11_method_2_code 103 = .ok (.aload_n 0, 1) := by decide +kernel
theorem d_add2_104 : decode prog_11_method_2_code 104 = .ok (.dup, 1) := by decide +kernel
theorem d_add2_105 : decode prog_11_method_2_code 105 = .ok (.getfield 32, 3) := by decide +kernel
theorem d_add2_108 : decode prog_11_method_2_code 108 = .ok (.dup_x1, 1) := by decide +kernel
theorem d_add2_109 : decode prog_11_method_2_code 109 = .ok (.iconst 1, 1) := by decide +kernel
theorem d_add2_110 : decode prog_11_method_2_code 110 = .ok (.iadd, 1) := by decide +kernel
theorem d_add2_111 : decode prog_11_method_2_code 111 = .ok (.putfield 32, 3) := by decide +kernel
theorem d_add2_114 : decode prog_11_method_2_code 114 = .ok (.istore_n 3, 1) := by decide +kernel
theorem d_add2_115 : decode prog_11_method_2_code 115 = .ok (.aload_n 0, 1) := by decide +kernel
theorem d_add2_116 : decode prog_11_method_2_code 116 = .ok (.getfield 7, 3) := by decide +kernel
theorem d_add2_119 : decode prog_11_method_2_code 119 = .ok (.iload_n 3, 1) := by decide +kernel
theorem d_add2_120 : decode prog_11_method_2_code 120 = .ok (.iload_n 1, 1) := by decide +kernel
theorem d_add2_121 : decode prog_11_method_2_code 121 = .ok (.iastore, 1) := by decide +kernel
theorem d_add2_122 : decode prog_11_method_2_code 122 = .ok (.aload_n 0, 1) := by decide +kernel
theorem d_add2_123 : decode prog_11_method_2_code 123 = .ok (.getfield 13, 3) := by decide +kernel
theorem d_add2_126 : decode prog_11_method_2_code 126 = .ok (.iload_n 3, 1) := by decide +kernel
theorem d_add2_127 : decode prog_11_method_2_code 127 = .ok (.iload_n 2, 1) := by decide +kernel
theorem d_add2_128 : decode prog_11_method_2_code 128 = .ok (.iastore, 1) := by decide +kernel
theorem d_add2_129 : decode prog_11_method_2_code 129 = .ok (.aload_n 0, 1) := by decide +kernel
theorem d_add2_130 : decode prog_11_method_2_code 130 = .ok (.getfield 16, 3) := by decide +kernel
theorem d_add2_133 : decode prog_11_method_2_code 133 = .ok (.iload_n 3, 1) := by decide +kernel
theorem d_add2_134 : decode prog_11_method_2_code 134 = .ok (.aload_n 0, 1) := by decide +kernel
theorem d_add2_135 : decode prog_11_method_2_code 135 = .ok (.getfield 16, 3) := by decide +kernel
theorem d_add2_138 : decode prog_11_method_2_code 138 = .ok (.iload_n 1, 1) := by decide +kernel
theorem d_add2_139 : decode prog_11_method_2_code 139 = .ok (.iaload, 1) := by decide +kernel
theorem d_add2_140 : decode prog_11_method_2_code 140 = .ok (.iconst 1, 1) := by decide +kernel
theorem d_add2_141 : decode prog_11_method_2_code 141 = .ok (.iadd, 1) := by decide +kernel
theorem d_add2_142 : decode prog_11_method_2_code 142 = .ok (.iastore, 1) := by decide +kernel
theorem d_add2_143 : decode prog_11_method_2_code 143 = .ok (.aload_n 0, 1) := by decide +kernel
theorem d_add2_144 : decode prog_11_method_2_code 144 = .ok (.getfield 19, 3) := by decide +kernel
theorem d_add2_147 : decode prog_11_method_2_code 147 = .ok (.iload_n 3, 1) := by decide +kernel
theorem d_add2_148 : decode prog_11_method_2_code 148 = .ok (.iconst (-1), 1) := by decide +kernel
theorem d_add2_149 : decode prog_11_method_2_code 149 = .ok (.iastore, 1) := by decide +kernel
theorem d_add2_150 : decode prog_11_method_2_code 150 = .ok (.aload_n 0, 1) := by decide +kernel
theorem d_add2_151 : decode prog_11_method_2_code 151 = .ok (.getfield 22, 3) := by decide +kernel
theorem d_add2_154 : decode prog_11_method_2_code 154 = .ok (.iload_n 3, 1) := by decide +kernel
theorem d_add2_155 : decode prog_11_method_2_code 155 = .ok (.iconst 0, 1) := by decide +kernel
theorem d_add2_156 : decode prog_11_method_2_code 156 = .ok (.iastore, 1) := by decide +kernel
theorem d_add2_157 : decode prog_11_method_2_code 157 = .ok (.aload_n 0, 1) := by decide +kernel
theorem d_add2_158 : decode prog_11_method_2_code 158 = .ok (.getfield 25, 3) := by decide +kernel
theorem d_add2_161 : decode prog_11_method_2_code 161 = .ok (.iload_n 3, 1) := by decide +kernel
theorem d_add2_162 : decode prog_11_method_2_code 162 = .ok (.iconst (-1), 1) := by decide +kernel
theorem d_add2_163 : decode prog_11_method_2_code 163 = .ok (.iastore, 1) := by decide +kernel
theorem d_add2_164 : decode prog_11_method_2_code 164 = .ok (.aload_n 0, 1) := by decide +kernel
theorem d_add2_165 : decode prog_11_method_2_code 165 = .ok (.getfield 28, 3) := by decide +kernel
theorem d_add2_168 : decode prog_11_method_2_code 168 = .ok (.iload_n 3, 1) := by decide +kernel
theorem d_add2_169 : decode prog_11_method_2_code 169 = .ok (.iconst 0, 1) := by decide +kernel
theorem d_add2_170 : decode prog_11_method_2_code 170 = .ok (.bastore, 1) := by decide +kernel
theorem d_add2_171 : decode prog_11_method_2_code 171 = .ok (.iload_n 3, 1) := by decide +kernel
theorem d_add2_172 : decode prog_11_method_2_code 172 = .ok (.ireturn, 1) := by decide +kernel
theorem pn_add2 : plainName "com/example/filigree/filigree/engine/DecisionTree" = true := by first | (simp [plainName, overriddenIn]; done) | decide +kernel
theorem ef_add2 (m : MethodId) (a1 : Addr) (p2 : Int32) (b0_ : Addr) (b1_ : Addr) (b2_ : Addr) (b3_ : Addr) (b4_ : Addr) (b5_ : Addr) (b6_ : Addr) (k0_ : ClassId) (k1_ : ClassId) (k2_ : ClassId) (k3_ : ClassId) (k4_ : ClassId) (k5_ : ClassId) (k6_ : ClassId) (d1 : Int32) : entryFrame m #[(.ref a1), (.int (1 : Int32)), (.int p2)] 4 = mkF m 0 #[.val (.ref a1), .val (.int (1 : Int32)), .val (.int p2), .unset] [] := by first | (simp [entryFrame, mkF, argsToLocals, Value.category]; done) | rfl
def Q_add2 (Z : State) (a1 : Addr) (p2 : Int32) (b0_ : Addr) (b1_ : Addr) (b2_ : Addr) (b3_ : Addr) (b4_ : Addr) (b5_ : Addr) (b6_ : Addr) (k0_ : ClassId) (k1_ : ClassId) (k2_ : ClassId) (k3_ : ClassId) (k4_ : ClassId) (k5_ : ClassId) (k6_ : ClassId) (d1 : Int32) (h0 : Heap) (n0 : Nat) (v : Option Value) (h : Heap) (L : List Loc) : Prop := v = some (.int (2 : Int32)) ∧ Fr n0 L ∧ Keep h0 h [a1, b0_, b1_, b2_, b3_, b4_, b5_, b6_] ∧ Exa Z h a1 "com/example/filigree/filigree/engine/DecisionTree" ∧ Fld Z h a1 "com/example/filigree/filigree/engine/DecisionTree" "m_aParent" "[I" (.ref b0_) ∧ Fld Z h a1 "com/example/filigree/filigree/engine/DecisionTree" "m_aDecision" "[I" (.ref b1_) ∧ Fld Z h a1 "com/example/filigree/filigree/engine/DecisionTree" "m_aDepth" "[I" (.ref b2_) ∧ Fld Z h a1 "com/example/filigree/filigree/engine/DecisionTree" "m_aFirstKept" "[I" (.ref b3_) ∧ Fld Z h a1 "com/example/filigree/filigree/engine/DecisionTree" "m_aKeptCount" "[I" (.ref b4_) ∧ Fld Z h a1 "com/example/filigree/filigree/engine/DecisionTree" "m_aNextKept" "[I" (.ref b5_) ∧ Fld Z h a1 "com/example/filigree/filigree/engine/DecisionTree" "m_aKept" "[Z" (.ref b6_) ∧ Fld Z h a1 "com/example/filigree/filigree/engine/DecisionTree" "m_nSize" "I" (.int (3 : Int32)) ∧ Arv Z h b0_ k0_ .int (64 : Int32) [(.int (-1 : Int32)), (.int (0 : Int32)), (.int (1 : Int32)), (.int (0 : Int32))] (.int (0 : Int32)) ∧ Arv Z h b1_ k1_ .int (64 : Int32) [(.int (0 : Int32)), (.int d1), (.int p2), (.int (0 : Int32))] (.int (0 : Int32)) ∧ Arv Z h b2_ k2_ .int (64 : Int32) [(.int (0 : Int32)), (.int (1 : Int32)), (.int (2 : Int32)), (.int (0 : Int32))] (.int (0 : Int32)) ∧ Arv Z h b3_ k3_ .int (64 : Int32) [(.int (-1 : Int32)), (.int (-1 : Int32)), (.int (-1 : Int32)), (.int (0 : Int32))] (.int (0 : Int32)) ∧ Arv Z h b4_ k4_ .int (64 : Int32) [(.int (0 : Int32)), (.int (0 : Int32)), (.int (0 : Int32)), (.int (0 : Int32))] (.int (0 : Int32)) ∧ Arv Z h b5_ k5_ .int (64 : Int32) [(.int (0 : Int32)), (.int (-1 : Int32)), (.int (-1 : Int32)), (.int (0 : Int32))] (.int (0 : Int32)) ∧ Arv Z h b6_ k6_ .boolean (64 : Int32) [(.int (0 : Int32)), (.int (0 : Int32)), (.int (0 : Int32)), (.int (0 : Int32))] (.int (0 : Int32))
set_option maxRecDepth 65536 in
set_option maxHeartbeats 40000000 in
theorem rm_add2 (l : Launch) (Z : State) (a0 : Array Value) (hw : ∀ d ∈ tables_1, d.before a0 Z = true) (ws : List Jvm.Cond) (a1 : Addr) (p2 : Int32) (b0_ : Addr) (b1_ : Addr) (b2_ : Addr) (b3_ : Addr) (b4_ : Addr) (b5_ : Addr) (b6_ : Addr) (k0_ : ClassId) (k1_ : ClassId) (k2_ : ClassId) (k3_ : ClassId) (k4_ : ClassId) (k5_ : ClassId) (k6_ : ClassId) (d1 : Int32) (h0 : Heap) (n0 : Nat) (Z0 : n0 ≤ h0.size) (E1 : Exa Z h0 a1 "com/example/filigree/filigree/engine/DecisionTree") (F0_ : Fld Z h0 a1 "com/example/filigree/filigree/engine/DecisionTree" "m_aParent" "[I" (.ref b0_)) (F1_ : Fld Z h0 a1 "com/example/filigree/filigree/engine/DecisionTree" "m_aDecision" "[I" (.ref b1_)) (F2_ : Fld Z h0 a1 "com/example/filigree/filigree/engine/DecisionTree" "m_aDepth" "[I" (.ref b2_)) (F3_ : Fld Z h0 a1 "com/example/filigree/filigree/engine/DecisionTree" "m_aFirstKept" "[I" (.ref b3_)) (F4_ : Fld Z h0 a1 "com/example/filigree/filigree/engine/DecisionTree" "m_aKeptCount" "[I" (.ref b4_)) (F5_ : Fld Z h0 a1 "com/example/filigree/filigree/engine/DecisionTree" "m_aNextKept" "[I" (.ref b5_)) (F6_ : Fld Z h0 a1 "com/example/filigree/filigree/engine/DecisionTree" "m_aKept" "[Z" (.ref b6_)) (F7_ : Fld Z h0 a1 "com/example/filigree/filigree/engine/DecisionTree" "m_nSize" "I" (.int (2 : Int32))) (V0_ : Arv Z h0 b0_ k0_ .int (64 : Int32) [(.int (-1 : Int32)), (.int (0 : Int32)), (.int (0 : Int32)), (.int (0 : Int32))] (.int (0 : Int32))) (V1_ : Arv Z h0 b1_ k1_ .int (64 : Int32) [(.int (0 : Int32)), (.int d1), (.int (0 : Int32)), (.int (0 : Int32))] (.int (0 : Int32))) (V2_ : Arv Z h0 b2_ k2_ .int (64 : Int32) [(.int (0 : Int32)), (.int (1 : Int32)), (.int (0 : Int32)), (.int (0 : Int32))] (.int (0 : Int32))) (V3_ : Arv Z h0 b3_ k3_ .int (64 : Int32) [(.int (-1 : Int32)), (.int (-1 : Int32)), (.int (0 : Int32)), (.int (0 : Int32))] (.int (0 : Int32))) (V4_ : Arv Z h0 b4_ k4_ .int (64 : Int32) [(.int (0 : Int32)), (.int (0 : Int32)), (.int (0 : Int32)), (.int (0 : Int32))] (.int (0 : Int32))) (V5_ : Arv Z h0 b5_ k5_ .int (64 : Int32) [(.int (0 : Int32)), (.int (-1 : Int32)), (.int (0 : Int32)), (.int (0 : Int32))] (.int (0 : Int32))) (V6_ : Arv Z h0 b6_ k6_ .boolean (64 : Int32) [(.int (0 : Int32)), (.int (0 : Int32)), (.int (0 : Int32)), (.int (0 : Int32))] (.int (0 : Int32))) (g1 : n0 ≤ a1) (gb0 : n0 ≤ b0_) (gb1 : n0 ≤ b1_) (gb2 : n0 ≤ b2_) (gb3 : n0 ≤ b3_) (gb4 : n0 ≤ b4_) (gb5 : n0 ≤ b5_) (gb6 : n0 ≤ b6_) (n0_ : a1 ≠ b0_) (n1_ : a1 ≠ b1_) (n2_ : a1 ≠ b2_) (n3_ : a1 ≠ b3_) (n4_ : a1 ≠ b4_) (n5_ : a1 ≠ b5_) (n6_ : a1 ≠ b6_) (n7_ : b0_ ≠ b1_) (n8_ : b0_ ≠ b2_) (n9_ : b0_ ≠ b3_) (n10_ : b0_ ≠ b4_) (n11_ : b0_ ≠ b5_) (n12_ : b0_ ≠ b6_) (n13_ : b1_ ≠ b2_) (n14_ : b1_ ≠ b3_) (n15_ : b1_ ≠ b4_) (n16_ : b1_ ≠ b5_) (n17_ : b1_ ≠ b6_) (n18_ : b2_ ≠ b3_) (n19_ : b2_ ≠ b4_) (n20_ : b2_ ≠ b5_) (n21_ : b2_ ≠ b6_) (n22_ : b3_ ≠ b4_) (n23_ : b3_ ≠ b5_) (n24_ : b3_ ≠ b6_) (n25_ : b4_ ≠ b5_) (n26_ : b4_ ≠ b6_) (n27_ : b5_ ≠ b6_) :
    MetFree l (⟨"com/example/filigree/filigree/engine/DecisionTree", "add", "(II)I"⟩ : MethodName) (head1 (Jvm.Cond.code (⟨"com/example/filigree/filigree/engine/DecisionTree", "add", "(II)I"⟩ : MethodName) prog_11_method_2_code 4 (some .int) :: ws) ({ frames := 0, cells := 0, slots := 0, locals := 0 } : Room)) (fun a U => a = #[(.ref a1), (.int (1 : Int32)), (.int p2)] ∧ Z.Warmed39 U.vm ∧ U.heap = h0) (fun _ _ _ _ _ => True) (fun _ U o U' => ∃ v L, o = .returned v ∧ Q_add2 Z a1 p2 b0_ b1_ b2_ b3_ b4_ b5_ b6_ k0_ k1_ k2_ k3_ k4_ k5_ k6_ d1 h0 n0 v U'.heap L ∧ FrameEnd U o U' L ({ frames := 0, cells := 0, slots := 0, locals := 0 } : Room).cells ({ frames := 0, cells := 0, slots := 0, locals := 0 } : Room).slots) := by
  refine MetFree.of_bodySF (plainFor_of_name pn_add2) hisR ?_
  intro p e s m args below meth c s₁ Bd hml0 hP hK
  obtain ⟨rfl, hZ, hh⟩ := hP
  have hx := Bd.exec
  have hby := Bd.bytes
  have hml : c.maxLocals = 4 := hml0
  have hown : s.vm.findClass "com/example/filigree/filigree/engine/DecisionTree" = some m.cls := findClass_of_methodNamed Bd.named
  have hnm := (name_of_methodNamed Bd.named Bd.method).1
  have X0 : Stand p l e ({ frames := 0, cells := 0, slots := 0, locals := 0 } : Room) s m #[(.ref a1), (.int (1 : Int32)), (.int p2)] below meth c s₁ [] 0 0 := Stand.of_body Bd
  have e0 : s₁.heap = h0 := by rw [← hh, Bd.state]; rfl
  have N0 := Fr.nil n0
  refine own_in ?_
  refine own_go (S' := s₁.setTop (mkF m 0 #[.val (.ref a1), .val (.int (1 : Int32)), .val (.int p2), .unset] [])) (fun tgt_ stp_ => castTop (ef_add2 m a1 p2 b0_ b1_ b2_ b3_ b4_ b5_ b6_ k0_ k1_ k2_ k3_ k4_ k5_ k6_ d1) stp_) ?_
  have K0 : Keep h0 h0 [a1, b0_, b1_, b2_, b3_, b4_, b5_, b6_] := Keep.refl h0 _
  obtain ⟨T_1, X_1, e_1, st_1⟩ := getF X0 hx hZ hown (host := "") (Or.inl (hw _ (List.mem_of_getElem? (i := 25) rfl))) Via.refl e0 F7_ (g := (mkF m 1 #[.val (.ref a1), .val (.int (1 : Int32)), .val (.int p2), .unset] [(.ref a1)])) rfl rfl (hb hby d_add2_1)
  obtain ⟨T_2, X_2, e_2, st_2⟩ := getF X_1 hx hZ hown (host := "") (Or.inl (hw _ (List.mem_of_getElem? (i := 10) rfl))) Via.refl e_1 F0_ (g := (mkF m 5 #[.val (.ref a1), .val (.int (1 : Int32)), .val (.int p2), .unset] [(.ref a1), (.int (2 : Int32))])) rfl rfl (hb hby d_add2_5)
  obtain ⟨c_3, Ar_3, -, S_3, M_3, -, -⟩ := id V0_
  obtain ⟨T_4, X_4, e_4, st_4⟩ := getF X_2 hx hZ hown (host := "") (Or.inl (hw _ (List.mem_of_getElem? (i := 25) rfl))) Via.refl e_2 F7_ (g := (mkF m 105 #[.val (.ref a1), .val (.int (1 : Int32)), .val (.int p2), .unset] [(.ref a1), (.ref a1)])) rfl rfl (hb hby d_add2_105)
  obtain ⟨T_5, h_5, X_5, e_5, W_5, st_5⟩ := putF X_4 hx hZ hown (host := "") (Or.inl (hw _ (List.mem_of_getElem? (i := 25) rfl))) Via.refl e_4 F7_ E1 (Or.inl (hw _ (List.mem_of_getElem? (i := 26) rfl))) (hw _ (List.mem_of_getElem? (i := 1) rfl)) (ty := .int) (by decide) rfl rfl (g := (mkF m 111 #[.val (.ref a1), .val (.int (1 : Int32)), .val (.int p2), .unset] [(.int (3 : Int32)), (.ref a1), (.int (2 : Int32))])) rfl rfl (hb hby d_add2_111)
  obtain ⟨Lg_5, XG_5, N_5⟩ := own_gen X_5 (Fr.snoc X_5 N0 g1)
  have F_5 := F7_.same W_5
  have Z_6 : n0 ≤ h_5.size := Nat.le_trans Z0 (Keep.of_wr W_5).1
  have K_7 : Keep h0 h_5 [a1, b0_, b1_, b2_, b3_, b4_, b5_, b6_] := K0.wr W_5 (Or.inl (List.mem_of_getElem? (i := 0) rfl))
  have f_8 := (F0_.other W_5 (Or.inr (slot_ne (Or.inl (hw _ (List.mem_of_getElem? (i := 11) rfl))) (Or.inl (hw _ (List.mem_of_getElem? (i := 26) rfl))) (by decide) (t := (.array .int)) (t' := .int) (by decide) (by decide))))
  obtain ⟨T_9, X_9, e_9, st_9⟩ := getF XG_5 hx hZ hown (host := "") (Or.inl (hw _ (List.mem_of_getElem? (i := 10) rfl))) Via.refl e_5 f_8 (g := (mkF m 116 #[.val (.ref a1), .val (.int (1 : Int32)), .val (.int p2), .val (.int (2 : Int32))] [(.ref a1)])) rfl rfl (hb hby d_add2_116)
  have f_10 := (V0_.other W_5 (Ne.symm n0_))
  obtain ⟨c_11, Ar_11, q_11, S_11, M_11, Hs_11, G_11⟩ := id f_10
  have hin_11 : ¬ ((2 : Int32) < 0 ∨ c_11.slots.size ≤ ((2 : Int32)).toNatClampNeg) := inb_of S_11 ⟨by decide, by decide⟩
  obtain ⟨T_11, h_11, X_11, e_11, W_11, st_11⟩ := stI X_9 hx hZ e_9 Ar_11 (j := (2 : Int32)) hin_11 (g := (mkF m 121 #[.val (.ref a1), .val (.int (1 : Int32)), .val (.int p2), .val (.int (2 : Int32))] [(.int (1 : Int32)), (.int (2 : Int32)), (.ref b0_)])) rfl rfl (hb hby d_add2_121)
  obtain ⟨Lg_11, XG_11, N_11⟩ := own_gen X_11 (Fr.snoc X_11 N_5 gb0)
  have V_11 : Arv Z h_11 b0_ k0_ .int (64 : Int32) [(.int (-1 : Int32)), (.int (0 : Int32)), (.int (1 : Int32)), (.int (0 : Int32))] (.int (0 : Int32)) := Arv.set Ar_11 q_11 S_11 M_11 Hs_11 G_11 rfl W_11 2 rfl (Nat.le_of_ble_eq_true rfl)
  have Z_12 : n0 ≤ h_11.size := Nat.le_trans Z_6 (Keep.of_wr W_11).1
  have K_13 : Keep h0 h_11 [a1, b0_, b1_, b2_, b3_, b4_, b5_, b6_] := K_7.wr W_11 (Or.inl (List.mem_of_getElem? (i := 1) rfl))
  have f_14 := ((F1_.other W_5 (Or.inr (slot_ne (Or.inl (hw _ (List.mem_of_getElem? (i := 13) rfl))) (Or.inl (hw _ (List.mem_of_getElem? (i := 26) rfl))) (by decide) (t := (.array .int)) (t' := .int) (by decide) (by decide)))).other W_11 (Or.inl n0_))
  obtain ⟨T_15, X_15, e_15, st_15⟩ := getF XG_11 hx hZ hown (host := "") (Or.inl (hw _ (List.mem_of_getElem? (i := 12) rfl))) Via.refl e_11 f_14 (g := (mkF m 123 #[.val (.ref a1), .val (.int (1 : Int32)), .val (.int p2), .val (.int (2 : Int32))] [(.ref a1)])) rfl rfl (hb hby d_add2_123)
  have f_16 := ((V1_.other W_5 (Ne.symm n1_)).other W_11 (Ne.symm n7_))
  obtain ⟨c_17, Ar_17, q_17, S_17, M_17, Hs_17, G_17⟩ := id f_16
  have hin_17 : ¬ ((2 : Int32) < 0 ∨ c_17.slots.size ≤ ((2 : Int32)).toNatClampNeg) := inb_of S_17 ⟨by decide, by decide⟩
  obtain ⟨T_17, h_17, X_17, e_17, W_17, st_17⟩ := stI X_15 hx hZ e_15 Ar_17 (j := (2 : Int32)) hin_17 (g := (mkF m 128 #[.val (.ref a1), .val (.int (1 : Int32)), .val (.int p2), .val (.int (2 : Int32))] [(.int p2), (.int (2 : Int32)), (.ref b1_)])) rfl rfl (hb hby d_add2_128)
  obtain ⟨Lg_17, XG_17, N_17⟩ := own_gen X_17 (Fr.snoc X_17 N_11 gb1)
  have V_17 : Arv Z h_17 b1_ k1_ .int (64 : Int32) [(.int (0 : Int32)), (.int d1), (.int p2), (.int (0 : Int32))] (.int (0 : Int32)) := Arv.set Ar_17 q_17 S_17 M_17 Hs_17 G_17 rfl W_17 2 rfl (Nat.le_of_ble_eq_true rfl)
  have Z_18 : n0 ≤ h_17.size := Nat.le_trans Z_12 (Keep.of_wr W_17).1
  have K_19 : Keep h0 h_17 [a1, b0_, b1_, b2_, b3_, b4_, b5_, b6_] := K_13.wr W_17 (Or.inl (List.mem_of_getElem? (i := 2) rfl))
  have f_20 := (((F2_.other W_5 (Or.inr (slot_ne (Or.inl (hw _ (List.mem_of_getElem? (i := 15) rfl))) (Or.inl (hw _ (List.mem_of_getElem? (i := 26) rfl))) (by decide) (t := (.array .int)) (t' := .int) (by decide) (by decide)))).other W_11 (Or.inl n0_)).other W_17 (Or.inl n1_))
  obtain ⟨T_21, X_21, e_21, st_21⟩ := getF XG_17 hx hZ hown (host := "") (Or.inl (hw _ (List.mem_of_getElem? (i := 14) rfl))) Via.refl e_17 f_20 (g := (mkF m 130 #[.val (.ref a1), .val (.int (1 : Int32)), .val (.int p2), .val (.int (2 : Int32))] [(.ref a1)])) rfl rfl (hb hby d_add2_130)
  obtain ⟨T_22, X_22, e_22, st_22⟩ := getF X_21 hx hZ hown (host := "") (Or.inl (hw _ (List.mem_of_getElem? (i := 14) rfl))) Via.refl e_21 f_20 (g := (mkF m 135 #[.val (.ref a1), .val (.int (1 : Int32)), .val (.int p2), .val (.int (2 : Int32))] [(.ref a1), (.int (2 : Int32)), (.ref b2_)])) rfl rfl (hb hby d_add2_135)
  have f_23 := (((V2_.other W_5 (Ne.symm n2_)).other W_11 (Ne.symm n8_)).other W_17 (Ne.symm n13_))
  obtain ⟨c_24, Ar_24, q_24, S_24, M_24, Hs_24, G_24⟩ := id f_23
  have hin_24 : ¬ ((1 : Int32) < 0 ∨ c_24.slots.size ≤ ((1 : Int32)).toNatClampNeg) := inb_of S_24 ⟨by decide, by decide⟩
  have hat_24 : c_24.slots[((1 : Int32)).toNatClampNeg]? = some (.int (1 : Int32)) := Hs_24.at hin_24 rfl
  obtain ⟨c_25, Ar_25, q_25, S_25, M_25, Hs_25, G_25⟩ := id f_23
  have hin_25 : ¬ ((2 : Int32) < 0 ∨ c_25.slots.size ≤ ((2 : Int32)).toNatClampNeg) := inb_of S_25 ⟨by decide, by decide⟩
  obtain ⟨T_25, h_25, X_25, e_25, W_25, st_25⟩ := stI X_22 hx hZ e_22 Ar_25 (j := (2 : Int32)) hin_25 (g := (mkF m 142 #[.val (.ref a1), .val (.int (1 : Int32)), .val (.int p2), .val (.int (2 : Int32))] [(.int (2 : Int32)), (.int (2 : Int32)), (.ref b2_)])) rfl rfl (hb hby d_add2_142)
  obtain ⟨Lg_25, XG_25, N_25⟩ := own_gen X_25 (Fr.snoc X_25 N_17 gb2)
  have V_25 : Arv Z h_25 b2_ k2_ .int (64 : Int32) [(.int (0 : Int32)), (.int (1 : Int32)), (.int (2 : Int32)), (.int (0 : Int32))] (.int (0 : Int32)) := Arv.set Ar_25 q_25 S_25 M_25 Hs_25 G_25 rfl W_25 2 rfl (Nat.le_of_ble_eq_true rfl)
  have Z_26 : n0 ≤ h_25.size := Nat.le_trans Z_18 (Keep.of_wr W_25).1
  have K_27 : Keep h0 h_25 [a1, b0_, b1_, b2_, b3_, b4_, b5_, b6_] := K_19.wr W_25 (Or.inl (List.mem_of_getElem? (i := 3) rfl))
  have f_28 := ((((F3_.other W_5 (Or.inr (slot_ne (Or.inl (hw _ (List.mem_of_getElem? (i := 17) rfl))) (Or.inl (hw _ (List.mem_of_getElem? (i := 26) rfl))) (by decide) (t := (.array .int)) (t' := .int) (by decide) (by decide)))).other W_11 (Or.inl n0_)).other W_17 (Or.inl n1_)).other W_25 (Or.inl n2_))
  obtain ⟨T_29, X_29, e_29, st_29⟩ := getF XG_25 hx hZ hown (host := "") (Or.inl (hw _ (List.mem_of_getElem? (i := 16) rfl))) Via.refl e_25 f_28 (g := (mkF m 144 #[.val (.ref a1), .val (.int (1 : Int32)), .val (.int p2), .val (.int (2 : Int32))] [(.ref a1)])) rfl rfl (hb hby d_add2_144)
  have f_30 := ((((V3_.other W_5 (Ne.symm n3_)).other W_11 (Ne.symm n9_)).other W_17 (Ne.symm n14_)).other W_25 (Ne.symm n18_))
  obtain ⟨c_31, Ar_31, q_31, S_31, M_31, Hs_31, G_31⟩ := id f_30
  have hin_31 : ¬ ((2 : Int32) < 0 ∨ c_31.slots.size ≤ ((2 : Int32)).toNatClampNeg) := inb_of S_31 ⟨by decide, by decide⟩
  obtain ⟨T_31, h_31, X_31, e_31, W_31, st_31⟩ := stI X_29 hx hZ e_29 Ar_31 (j := (2 : Int32)) hin_31 (g := (mkF m 149 #[.val (.ref a1), .val (.int (1 : Int32)), .val (.int p2), .val (.int (2 : Int32))] [(.int (-1 : Int32)), (.int (2 : Int32)), (.ref b3_)])) rfl rfl (hb hby d_add2_149)
  obtain ⟨Lg_31, XG_31, N_31⟩ := own_gen X_31 (Fr.snoc X_31 N_25 gb3)
  have V_31 : Arv Z h_31 b3_ k3_ .int (64 : Int32) [(.int (-1 : Int32)), (.int (-1 : Int32)), (.int (-1 : Int32)), (.int (0 : Int32))] (.int (0 : Int32)) := Arv.set Ar_31 q_31 S_31 M_31 Hs_31 G_31 rfl W_31 2 rfl (Nat.le_of_ble_eq_true rfl)
  have Z_32 : n0 ≤ h_31.size := Nat.le_trans Z_26 (Keep.of_wr W_31).1
  have K_33 : Keep h0 h_31 [a1, b0_, b1_, b2_, b3_, b4_, b5_, b6_] := K_27.wr W_31 (Or.inl (List.mem_of_getElem? (i := 4) rfl))
  have f_34 := (((((F4_.other W_5 (Or.inr (slot_ne (Or.inl (hw _ (List.mem_of_getElem? (i := 19) rfl))) (Or.inl (hw _ (List.mem_of_getElem? (i := 26) rfl))) (by decide) (t := (.array .int)) (t' := .int) (by decide) (by decide)))).other W_11 (Or.inl n0_)).other W_17 (Or.inl n1_)).other W_25 (Or.inl n2_)).other W_31 (Or.inl n3_))
  obtain ⟨T_35, X_35, e_35, st_35⟩ := getF XG_31 hx hZ hown (host := "") (Or.inl (hw _ (List.mem_of_getElem? (i := 18) rfl))) Via.refl e_31 f_34 (g := (mkF m 151 #[.val (.ref a1), .val (.int (1 : Int32)), .val (.int p2), .val (.int (2 : Int32))] [(.ref a1)])) rfl rfl (hb hby d_add2_151)
  have f_36 := (((((V4_.other W_5 (Ne.symm n4_)).other W_11 (Ne.symm n10_)).other W_17 (Ne.symm n15_)).other W_25 (Ne.symm n19_)).other W_31 (Ne.symm n22_))
  obtain ⟨c_37, Ar_37, q_37, S_37, M_37, Hs_37, G_37⟩ := id f_36
  have hin_37 : ¬ ((2 : Int32) < 0 ∨ c_37.slots.size ≤ ((2 : Int32)).toNatClampNeg) := inb_of S_37 ⟨by decide, by decide⟩
  obtain ⟨T_37, h_37, X_37, e_37, W_37, st_37⟩ := stI X_35 hx hZ e_35 Ar_37 (j := (2 : Int32)) hin_37 (g := (mkF m 156 #[.val (.ref a1), .val (.int (1 : Int32)), .val (.int p2), .val (.int (2 : Int32))] [(.int (0 : Int32)), (.int (2 : Int32)), (.ref b4_)])) rfl rfl (hb hby d_add2_156)
  obtain ⟨Lg_37, XG_37, N_37⟩ := own_gen X_37 (Fr.snoc X_37 N_31 gb4)
  have V_37 : Arv Z h_37 b4_ k4_ .int (64 : Int32) [(.int (0 : Int32)), (.int (0 : Int32)), (.int (0 : Int32)), (.int (0 : Int32))] (.int (0 : Int32)) := Arv.set Ar_37 q_37 S_37 M_37 Hs_37 G_37 rfl W_37 2 rfl (Nat.le_of_ble_eq_true rfl)
  have Z_38 : n0 ≤ h_37.size := Nat.le_trans Z_32 (Keep.of_wr W_37).1
  have K_39 : Keep h0 h_37 [a1, b0_, b1_, b2_, b3_, b4_, b5_, b6_] := K_33.wr W_37 (Or.inl (List.mem_of_getElem? (i := 5) rfl))
  have f_40 := ((((((F5_.other W_5 (Or.inr (slot_ne (Or.inl (hw _ (List.mem_of_getElem? (i := 21) rfl))) (Or.inl (hw _ (List.mem_of_getElem? (i := 26) rfl))) (by decide) (t := (.array .int)) (t' := .int) (by decide) (by decide)))).other W_11 (Or.inl n0_)).other W_17 (Or.inl n1_)).other W_25 (Or.inl n2_)).other W_31 (Or.inl n3_)).other W_37 (Or.inl n4_))
  obtain ⟨T_41, X_41, e_41, st_41⟩ := getF XG_37 hx hZ hown (host := "") (Or.inl (hw _ (List.mem_of_getElem? (i := 20) rfl))) Via.refl e_37 f_40 (g := (mkF m 158 #[.val (.ref a1), .val (.int (1 : Int32)), .val (.int p2), .val (.int (2 : Int32))] [(.ref a1)])) rfl rfl (hb hby d_add2_158)
  have f_42 := ((((((V5_.other W_5 (Ne.symm n5_)).other W_11 (Ne.symm n11_)).other W_17 (Ne.symm n16_)).other W_25 (Ne.symm n20_)).other W_31 (Ne.symm n23_)).other W_37 (Ne.symm n25_))
  obtain ⟨c_43, Ar_43, q_43, S_43, M_43, Hs_43, G_43⟩ := id f_42
  have hin_43 : ¬ ((2 : Int32) < 0 ∨ c_43.slots.size ≤ ((2 : Int32)).toNatClampNeg) := inb_of S_43 ⟨by decide, by decide⟩
  obtain ⟨T_43, h_43, X_43, e_43, W_43, st_43⟩ := stI X_41 hx hZ e_41 Ar_43 (j := (2 : Int32)) hin_43 (g := (mkF m 163 #[.val (.ref a1), .val (.int (1 : Int32)), .val (.int p2), .val (.int (2 : Int32))] [(.int (-1 : Int32)), (.int (2 : Int32)), (.ref b5_)])) rfl rfl (hb hby d_add2_163)
  obtain ⟨Lg_43, XG_43, N_43⟩ := own_gen X_43 (Fr.snoc X_43 N_37 gb5)
  have V_43 : Arv Z h_43 b5_ k5_ .int (64 : Int32) [(.int (0 : Int32)), (.int (-1 : Int32)), (.int (-1 : Int32)), (.int (0 : Int32))] (.int (0 : Int32)) := Arv.set Ar_43 q_43 S_43 M_43 Hs_43 G_43 rfl W_43 2 rfl (Nat.le_of_ble_eq_true rfl)
  have Z_44 : n0 ≤ h_43.size := Nat.le_trans Z_38 (Keep.of_wr W_43).1
  have K_45 : Keep h0 h_43 [a1, b0_, b1_, b2_, b3_, b4_, b5_, b6_] := K_39.wr W_43 (Or.inl (List.mem_of_getElem? (i := 6) rfl))
  have f_46 := (((((((F6_.other W_5 (Or.inr (slot_ne (Or.inl (hw _ (List.mem_of_getElem? (i := 24) rfl))) (Or.inl (hw _ (List.mem_of_getElem? (i := 26) rfl))) (by decide) (t := (.array .boolean)) (t' := .int) (by decide) (by decide)))).other W_11 (Or.inl n0_)).other W_17 (Or.inl n1_)).other W_25 (Or.inl n2_)).other W_31 (Or.inl n3_)).other W_37 (Or.inl n4_)).other W_43 (Or.inl n5_))
  obtain ⟨T_47, X_47, e_47, st_47⟩ := getF XG_43 hx hZ hown (host := "") (Or.inl (hw _ (List.mem_of_getElem? (i := 23) rfl))) Via.refl e_43 f_46 (g := (mkF m 165 #[.val (.ref a1), .val (.int (1 : Int32)), .val (.int p2), .val (.int (2 : Int32))] [(.ref a1)])) rfl rfl (hb hby d_add2_165)
  have f_48 := (((((((V6_.other W_5 (Ne.symm n6_)).other W_11 (Ne.symm n12_)).other W_17 (Ne.symm n17_)).other W_25 (Ne.symm n21_)).other W_31 (Ne.symm n24_)).other W_37 (Ne.symm n26_)).other W_43 (Ne.symm n27_))
  obtain ⟨c_49, Ar_49, q_49, S_49, M_49, Hs_49, G_49⟩ := id f_48
  have hin_49 : ¬ ((2 : Int32) < 0 ∨ c_49.slots.size ≤ ((2 : Int32)).toNatClampNeg) := inb_of S_49 ⟨by decide, by decide⟩
  obtain ⟨T_49, h_49, X_49, e_49, W_49, st_49⟩ := stZ X_47 hx hZ e_47 Ar_49 (j := (2 : Int32)) hin_49 (g := (mkF m 170 #[.val (.ref a1), .val (.int (1 : Int32)), .val (.int p2), .val (.int (2 : Int32))] [(.int (0 : Int32)), (.int (2 : Int32)), (.ref b6_)])) rfl rfl (hb hby d_add2_170)
  obtain ⟨Lg_49, XG_49, N_49⟩ := own_gen X_49 (Fr.snoc X_49 N_43 gb6)
  have V_49 : Arv Z h_49 b6_ k6_ .boolean (64 : Int32) [(.int (0 : Int32)), (.int (0 : Int32)), (.int (nar .boolean (0 : Int32))), (.int (0 : Int32))] (.int (0 : Int32)) := Arv.set Ar_49 q_49 S_49 M_49 Hs_49 G_49 (fits_nar_bool _) W_49 2 rfl (Nat.le_of_ble_eq_true rfl)
  have Z_50 : n0 ≤ h_49.size := Nat.le_trans Z_44 (Keep.of_wr W_49).1
  have K_51 : Keep h0 h_49 [a1, b0_, b1_, b2_, b3_, b4_, b5_, b6_] := K_45.wr W_49 (Or.inl (List.mem_of_getElem? (i := 7) rfl))
  refine own_go (S' := T_49.setTop (mkF m 172 #[.val (.ref a1), .val (.int (1 : Int32)), .val (.int p2), .val (.int (2 : Int32))] [(.int (2 : Int32))])) (fun target kt => ?_) ?_
  · show Steps p.tables e below (s₁.setTop (mkF m 0 #[.val (.ref a1), .val (.int (1 : Int32)), .val (.int p2), .unset] [])) target
    refine XS.aloadN X0.here hx rfl (hb hby d_add2_0) rfl rfl ?_
    show Steps p.tables e below (s₁.setTop (mkF m 1 #[.val (.ref a1), .val (.int (1 : Int32)), .val (.int p2), .unset] [(.ref a1)])) target
    refine st_1 _ ?_
    show Steps p.tables e below (T_1.setTop (mkF m 4 #[.val (.ref a1), .val (.int (1 : Int32)), .val (.int p2), .unset] [(.int (2 : Int32))])) target
    refine XS.aloadN X_1.here hx rfl (hb hby d_add2_4) rfl rfl ?_
    show Steps p.tables e below (T_1.setTop (mkF m 5 #[.val (.ref a1), .val (.int (1 : Int32)), .val (.int p2), .unset] [(.ref a1), (.int (2 : Int32))])) target
    refine st_2 _ ?_
    show Steps p.tables e below (T_2.setTop (mkF m 8 #[.val (.ref a1), .val (.int (1 : Int32)), .val (.int p2), .unset] [(.ref b0_), (.int (2 : Int32))])) target
    refine X_2.arraylength hx (by rw [e_2]; exact Ar_3.1) (State.isArrayOf_alike hZ.alike Ar_3.2.1) (g := (mkF m 8 #[.val (.ref a1), .val (.int (1 : Int32)), .val (.int p2), .unset] [(.ref b0_), (.int (2 : Int32))])) rfl rfl (hb hby d_add2_8) _ ?_
    rw [len_of S_3 M_3]
    show Steps p.tables e below (T_2.setTop (mkF m 9 #[.val (.ref a1), .val (.int (1 : Int32)), .val (.int p2), .unset] [(.int (64 : Int32)), (.int (2 : Int32))])) target
    refine XS.icmpYes X_2.here hx rfl (pc0 := 9) (pc' := 103) rfl (hb hby d_add2_9) rfl (feq (by decide : ¬ ((2 : Int32) = (64 : Int32)))).2 (by decide) (by decide) ?_
    show Steps p.tables e below (T_2.setTop (mkF m 103 #[.val (.ref a1), .val (.int (1 : Int32)), .val (.int p2), .unset] [])) target
    refine XS.aloadN X_2.here hx rfl (hb hby d_add2_103) rfl rfl ?_
    show Steps p.tables e below (T_2.setTop (mkF m 104 #[.val (.ref a1), .val (.int (1 : Int32)), .val (.int p2), .unset] [(.ref a1)])) target
    refine XS.dup X_2.here hx rfl (hb hby d_add2_104) rfl rfl ?_
    show Steps p.tables e below (T_2.setTop (mkF m 105 #[.val (.ref a1), .val (.int (1 : Int32)), .val (.int p2), .unset] [(.ref a1), (.ref a1)])) target
    refine st_4 _ ?_
    show Steps p.tables e below (T_4.setTop (mkF m 108 #[.val (.ref a1), .val (.int (1 : Int32)), .val (.int p2), .unset] [(.int (2 : Int32)), (.ref a1)])) target
    refine XS.dupX1 X_4.here hx rfl (hb hby d_add2_108) rfl rfl rfl ?_
    show Steps p.tables e below (T_4.setTop (mkF m 109 #[.val (.ref a1), .val (.int (1 : Int32)), .val (.int p2), .unset] [(.int (2 : Int32)), (.ref a1), (.int (2 : Int32))])) target
    refine XS.iconst X_4.here hx rfl (hb hby d_add2_109) ?_
    show Steps p.tables e below (T_4.setTop (mkF m 110 #[.val (.ref a1), .val (.int (1 : Int32)), .val (.int p2), .unset] [(.int (1 : Int32)), (.int (2 : Int32)), (.ref a1), (.int (2 : Int32))])) target
    refine XS.iadd X_4.here hx rfl (hb hby d_add2_110) rfl ?_
    show Steps p.tables e below (T_4.setTop (mkF m 111 #[.val (.ref a1), .val (.int (1 : Int32)), .val (.int p2), .unset] [(.int ((2 : Int32) + (1 : Int32))), (.ref a1), (.int (2 : Int32))])) target
    rw [show (2 : Int32) + (1 : Int32) = (3 : Int32) from by decide]
    show Steps p.tables e below (T_4.setTop (mkF m 111 #[.val (.ref a1), .val (.int (1 : Int32)), .val (.int p2), .unset] [(.int (3 : Int32)), (.ref a1), (.int (2 : Int32))])) target
    refine st_5 _ ?_
    show Steps p.tables e below (T_5.setTop (mkF m 114 #[.val (.ref a1), .val (.int (1 : Int32)), .val (.int p2), .unset] [(.int (2 : Int32))])) target
    refine XS.istoreN XG_5.here hx rfl (hb hby d_add2_114) rfl (l' := #[.val (.ref a1), .val (.int (1 : Int32)), .val (.int p2), .val (.int (2 : Int32))]) rfl ?_
    show Steps p.tables e below (T_5.setTop (mkF m 115 #[.val (.ref a1), .val (.int (1 : Int32)), .val (.int p2), .val (.int (2 : Int32))] [])) target
    refine XS.aloadN XG_5.here hx rfl (hb hby d_add2_115) rfl rfl ?_
    show Steps p.tables e below (T_5.setTop (mkF m 116 #[.val (.ref a1), .val (.int (1 : Int32)), .val (.int p2), .val (.int (2 : Int32))] [(.ref a1)])) target
    refine st_9 _ ?_
    show Steps p.tables e below (T_9.setTop (mkF m 119 #[.val (.ref a1), .val (.int (1 : Int32)), .val (.int p2), .val (.int (2 : Int32))] [(.ref b0_)])) target
    refine XS.iloadN X_9.here hx rfl (hb hby d_add2_119) rfl ?_
    show Steps p.tables e below (T_9.setTop (mkF m 120 #[.val (.ref a1), .val (.int (1 : Int32)), .val (.int p2), .val (.int (2 : Int32))] [(.int (2 : Int32)), (.ref b0_)])) target
    refine XS.iloadN X_9.here hx rfl (hb hby d_add2_120) rfl ?_
    show Steps p.tables e below (T_9.setTop (mkF m 121 #[.val (.ref a1), .val (.int (1 : Int32)), .val (.int p2), .val (.int (2 : Int32))] [(.int (1 : Int32)), (.int (2 : Int32)), (.ref b0_)])) target
    refine st_11 _ ?_
    show Steps p.tables e below (T_11.setTop (mkF m 122 #[.val (.ref a1), .val (.int (1 : Int32)), .val (.int p2), .val (.int (2 : Int32))] [])) target
    refine XS.aloadN XG_11.here hx rfl (hb hby d_add2_122) rfl rfl ?_
    show Steps p.tables e below (T_11.setTop (mkF m 123 #[.val (.ref a1), .val (.int (1 : Int32)), .val (.int p2), .val (.int (2 : Int32))] [(.ref a1)])) target
    refine st_15 _ ?_
    show Steps p.tables e below (T_15.setTop (mkF m 126 #[.val (.ref a1), .val (.int (1 : Int32)), .val (.int p2), .val (.int (2 : Int32))] [(.ref b1_)])) target
    refine XS.iloadN X_15.here hx rfl (hb hby d_add2_126) rfl ?_
    show Steps p.tables e below (T_15.setTop (mkF m 127 #[.val (.ref a1), .val (.int (1 : Int32)), .val (.int p2), .val (.int (2 : Int32))] [(.int (2 : Int32)), (.ref b1_)])) target
    refine XS.iloadN X_15.here hx rfl (hb hby d_add2_127) rfl ?_
    show Steps p.tables e below (T_15.setTop (mkF m 128 #[.val (.ref a1), .val (.int (1 : Int32)), .val (.int p2), .val (.int (2 : Int32))] [(.int p2), (.int (2 : Int32)), (.ref b1_)])) target
    refine st_17 _ ?_
    show Steps p.tables e below (T_17.setTop (mkF m 129 #[.val (.ref a1), .val (.int (1 : Int32)), .val (.int p2), .val (.int (2 : Int32))] [])) target
    refine XS.aloadN XG_17.here hx rfl (hb hby d_add2_129) rfl rfl ?_
    show Steps p.tables e below (T_17.setTop (mkF m 130 #[.val (.ref a1), .val (.int (1 : Int32)), .val (.int p2), .val (.int (2 : Int32))] [(.ref a1)])) target
    refine st_21 _ ?_
    show Steps p.tables e below (T_21.setTop (mkF m 133 #[.val (.ref a1), .val (.int (1 : Int32)), .val (.int p2), .val (.int (2 : Int32))] [(.ref b2_)])) target
    refine XS.iloadN X_21.here hx rfl (hb hby d_add2_133) rfl ?_
    show Steps p.tables e below (T_21.setTop (mkF m 134 #[.val (.ref a1), .val (.int (1 : Int32)), .val (.int p2), .val (.int (2 : Int32))] [(.int (2 : Int32)), (.ref b2_)])) target
    refine XS.aloadN X_21.here hx rfl (hb hby d_add2_134) rfl rfl ?_
    show Steps p.tables e below (T_21.setTop (mkF m 135 #[.val (.ref a1), .val (.int (1 : Int32)), .val (.int p2), .val (.int (2 : Int32))] [(.ref a1), (.int (2 : Int32)), (.ref b2_)])) target
    refine st_22 _ ?_
    show Steps p.tables e below (T_22.setTop (mkF m 138 #[.val (.ref a1), .val (.int (1 : Int32)), .val (.int p2), .val (.int (2 : Int32))] [(.ref b2_), (.int (2 : Int32)), (.ref b2_)])) target
    refine XS.iloadN X_22.here hx rfl (hb hby d_add2_138) rfl ?_
    show Steps p.tables e below (T_22.setTop (mkF m 139 #[.val (.ref a1), .val (.int (1 : Int32)), .val (.int p2), .val (.int (2 : Int32))] [(.int (1 : Int32)), (.ref b2_), (.int (2 : Int32)), (.ref b2_)])) target
    refine X_22.iaload hx (j := (1 : Int32)) (v := (.int (1 : Int32))) (by rw [e_22]; exact Ar_24.1) (State.isArrayOf_alike hZ.alike Ar_24.2.1) Ar_24.2.2 hin_24 hat_24 (g := (mkF m 139 #[.val (.ref a1), .val (.int (1 : Int32)), .val (.int p2), .val (.int (2 : Int32))] [(.int (1 : Int32)), (.ref b2_), (.int (2 : Int32)), (.ref b2_)])) rfl rfl (hb hby d_add2_139) _ ?_
    show Steps p.tables e below (T_22.setTop (mkF m 140 #[.val (.ref a1), .val (.int (1 : Int32)), .val (.int p2), .val (.int (2 : Int32))] [(.int (1 : Int32)), (.int (2 : Int32)), (.ref b2_)])) target
    refine XS.iconst X_22.here hx rfl (hb hby d_add2_140) ?_
    show Steps p.tables e below (T_22.setTop (mkF m 141 #[.val (.ref a1), .val (.int (1 : Int32)), .val (.int p2), .val (.int (2 : Int32))] [(.int (1 : Int32)), (.int (1 : Int32)), (.int (2 : Int32)), (.ref b2_)])) target
    refine XS.iadd X_22.here hx rfl (hb hby d_add2_141) rfl ?_
    show Steps p.tables e below (T_22.setTop (mkF m 142 #[.val (.ref a1), .val (.int (1 : Int32)), .val (.int p2), .val (.int (2 : Int32))] [(.int ((1 : Int32) + (1 : Int32))), (.int (2 : Int32)), (.ref b2_)])) target
    rw [show (1 : Int32) + (1 : Int32) = (2 : Int32) from by decide]
    show Steps p.tables e below (T_22.setTop (mkF m 142 #[.val (.ref a1), .val (.int (1 : Int32)), .val (.int p2), .val (.int (2 : Int32))] [(.int (2 : Int32)), (.int (2 : Int32)), (.ref b2_)])) target
    refine st_25 _ ?_
    show Steps p.tables e below (T_25.setTop (mkF m 143 #[.val (.ref a1), .val (.int (1 : Int32)), .val (.int p2), .val (.int (2 : Int32))] [])) target
    refine XS.aloadN XG_25.here hx rfl (hb hby d_add2_143) rfl rfl ?_
    show Steps p.tables e below (T_25.setTop (mkF m 144 #[.val (.ref a1), .val (.int (1 : Int32)), .val (.int p2), .val (.int (2 : Int32))] [(.ref a1)])) target
    refine st_29 _ ?_
    show Steps p.tables e below (T_29.setTop (mkF m 147 #[.val (.ref a1), .val (.int (1 : Int32)), .val (.int p2), .val (.int (2 : Int32))] [(.ref b3_)])) target
    refine XS.iloadN X_29.here hx rfl (hb hby d_add2_147) rfl ?_
    show Steps p.tables e below (T_29.setTop (mkF m 148 #[.val (.ref a1), .val (.int (1 : Int32)), .val (.int p2), .val (.int (2 : Int32))] [(.int (2 : Int32)), (.ref b3_)])) target
    refine XS.iconst X_29.here hx rfl (hb hby d_add2_148) ?_
    show Steps p.tables e below (T_29.setTop (mkF m 149 #[.val (.ref a1), .val (.int (1 : Int32)), .val (.int p2), .val (.int (2 : Int32))] [(.int (-1 : Int32)), (.int (2 : Int32)), (.ref b3_)])) target
    refine st_31 _ ?_
    show Steps p.tables e below (T_31.setTop (mkF m 150 #[.val (.ref a1), .val (.int (1 : Int32)), .val (.int p2), .val (.int (2 : Int32))] [])) target
    refine XS.aloadN XG_31.here hx rfl (hb hby d_add2_150) rfl rfl ?_
    show Steps p.tables e below (T_31.setTop (mkF m 151 #[.val (.ref a1), .val (.int (1 : Int32)), .val (.int p2), .val (.int (2 : Int32))] [(.ref a1)])) target
    refine st_35 _ ?_
    show Steps p.tables e below (T_35.setTop (mkF m 154 #[.val (.ref a1), .val (.int (1 : Int32)), .val (.int p2), .val (.int (2 : Int32))] [(.ref b4_)])) target
    refine XS.iloadN X_35.here hx rfl (hb hby d_add2_154) rfl ?_
    show Steps p.tables e below (T_35.setTop (mkF m 155 #[.val (.ref a1), .val (.int (1 : Int32)), .val (.int p2), .val (.int (2 : Int32))] [(.int (2 : Int32)), (.ref b4_)])) target
    refine XS.iconst X_35.here hx rfl (hb hby d_add2_155) ?_
    show Steps p.tables e below (T_35.setTop (mkF m 156 #[.val (.ref a1), .val (.int (1 : Int32)), .val (.int p2), .val (.int (2 : Int32))] [(.int (0 : Int32)), (.int (2 : Int32)), (.ref b4_)])) target
    refine st_37 _ ?_
    show Steps p.tables e below (T_37.setTop (mkF m 157 #[.val (.ref a1), .val (.int (1 : Int32)), .val (.int p2), .val (.int (2 : Int32))] [])) target
    refine XS.aloadN XG_37.here hx rfl (hb hby d_add2_157) rfl rfl ?_
    show Steps p.tables e below (T_37.setTop (mkF m 158 #[.val (.ref a1), .val (.int (1 : Int32)), .val (.int p2), .val (.int (2 : Int32))] [(.ref a1)])) target
    refine st_41 _ ?_
    show Steps p.tables e below (T_41.setTop (mkF m 161 #[.val (.ref a1), .val (.int (1 : Int32)), .val (.int p2), .val (.int (2 : Int32))] [(.ref b5_)])) target
    refine XS.iloadN X_41.here hx rfl (hb hby d_add2_161) rfl ?_
    show Steps p.tables e below (T_41.setTop (mkF m 162 #[.val (.ref a1), .val (.int (1 : Int32)), .val (.int p2), .val (.int (2 : Int32))] [(.int (2 : Int32)), (.ref b5_)])) target
    refine XS.iconst X_41.here hx rfl (hb hby d_add2_162) ?_
    show Steps p.tables e below (T_41.setTop (mkF m 163 #[.val (.ref a1), .val (.int (1 : Int32)), .val (.int p2), .val (.int (2 : Int32))] [(.int (-1 : Int32)), (.int (2 : Int32)), (.ref b5_)])) target
    refine st_43 _ ?_
    show Steps p.tables e below (T_43.setTop (mkF m 164 #[.val (.ref a1), .val (.int (1 : Int32)), .val (.int p2), .val (.int (2 : Int32))] [])) target
    refine XS.aloadN XG_43.here hx rfl (hb hby d_add2_164) rfl rfl ?_
    show Steps p.tables e below (T_43.setTop (mkF m 165 #[.val (.ref a1), .val (.int (1 : Int32)), .val (.int p2), .val (.int (2 : Int32))] [(.ref a1)])) target
    refine st_47 _ ?_
    show Steps p.tables e below (T_47.setTop (mkF m 168 #[.val (.ref a1), .val (.int (1 : Int32)), .val (.int p2), .val (.int (2 : Int32))] [(.ref b6_)])) target
    refine XS.iloadN X_47.here hx rfl (hb hby d_add2_168) rfl ?_
    show Steps p.tables e below (T_47.setTop (mkF m 169 #[.val (.ref a1), .val (.int (1 : Int32)), .val (.int p2), .val (.int (2 : Int32))] [(.int (2 : Int32)), (.ref b6_)])) target
    refine XS.iconst X_47.here hx rfl (hb hby d_add2_169) ?_
    show Steps p.tables e below (T_47.setTop (mkF m 170 #[.val (.ref a1), .val (.int (1 : Int32)), .val (.int p2), .val (.int (2 : Int32))] [(.int (0 : Int32)), (.int (2 : Int32)), (.ref b6_)])) target
    refine st_49 _ ?_
    show Steps p.tables e below (T_49.setTop (mkF m 171 #[.val (.ref a1), .val (.int (1 : Int32)), .val (.int p2), .val (.int (2 : Int32))] [])) target
    refine XS.iloadN XG_49.here hx rfl (hb hby d_add2_171) rfl ?_
    show Steps p.tables e below (T_49.setTop (mkF m 172 #[.val (.ref a1), .val (.int (1 : Int32)), .val (.int p2), .val (.int (2 : Int32))] [(.int (2 : Int32))])) target
    exact kt
  obtain ⟨fs, hr, hrun, hended, hW, hsame⟩ := XG_49.leave (v := some (.int (2 : Int32))) (fun h => by rw [Bd.returns] at h; cases h)
  refine ⟨_, _, retI XG_49 hx Bd.returns (hb hby d_add2_172) hr, hrun, hended, _, _, rfl, ?_, ⟨_, rfl⟩, hW, hsame.mono (by decide) (by decide)⟩
  show Q_add2 Z a1 p2 b0_ b1_ b2_ b3_ b4_ b5_ b6_ k0_ k1_ k2_ k3_ k4_ k5_ k6_ d1 h0 n0 _ T_49.heap _
  rw [e_49]
  have f_52 := ((((((((E1.wr W_5).wr W_11).wr W_17).wr W_25).wr W_31).wr W_37).wr W_43).wr W_49)
  have f_53 := (((((((f_8.other W_11 (Or.inl n0_)).other W_17 (Or.inl n1_)).other W_25 (Or.inl n2_)).other W_31 (Or.inl n3_)).other W_37 (Or.inl n4_)).other W_43 (Or.inl n5_)).other W_49 (Or.inl n6_))
  have f_54 := ((((((f_14.other W_17 (Or.inl n1_)).other W_25 (Or.inl n2_)).other W_31 (Or.inl n3_)).other W_37 (Or.inl n4_)).other W_43 (Or.inl n5_)).other W_49 (Or.inl n6_))
  have f_55 := (((((f_20.other W_25 (Or.inl n2_)).other W_31 (Or.inl n3_)).other W_37 (Or.inl n4_)).other W_43 (Or.inl n5_)).other W_49 (Or.inl n6_))
  have f_56 := ((((f_28.other W_31 (Or.inl n3_)).other W_37 (Or.inl n4_)).other W_43 (Or.inl n5_)).other W_49 (Or.inl n6_))
  have f_57 := (((f_34.other W_37 (Or.inl n4_)).other W_43 (Or.inl n5_)).other W_49 (Or.inl n6_))
  have f_58 := ((f_40.other W_43 (Or.inl n5_)).other W_49 (Or.inl n6_))
  have f_59 := (f_46.other W_49 (Or.inl n6_))
  have f_60 := (((((((F_5.other W_11 (Or.inl n0_)).other W_17 (Or.inl n1_)).other W_25 (Or.inl n2_)).other W_31 (Or.inl n3_)).other W_37 (Or.inl n4_)).other W_43 (Or.inl n5_)).other W_49 (Or.inl n6_))
  have f_61 := ((((((V_11.other W_17 n7_).other W_25 n8_).other W_31 n9_).other W_37 n10_).other W_43 n11_).other W_49 n12_)
  have f_62 := (((((V_17.other W_25 n13_).other W_31 n14_).other W_37 n15_).other W_43 n16_).other W_49 n17_)
  have f_63 := ((((V_25.other W_31 n18_).other W_37 n19_).other W_43 n20_).other W_49 n21_)
  have f_64 := (((V_31.other W_37 n22_).other W_43 n23_).other W_49 n24_)
  have f_65 := ((V_37.other W_43 n25_).other W_49 n26_)
  have f_66 := (V_43.other W_49 n27_)
  exact ⟨rfl, N_49, K_51, f_52, f_53, f_54, f_55, f_56, f_57, f_58, f_59, f_60, f_61, f_62, f_63, f_64, f_65, f_66, V_49⟩
-- com/example/filigree/filigree/engine/DecisionTree.add:(II)I
theorem d_add30_0 : decode prog_11_method_2_code 0 = .ok (.aload_n 0, 1) := by decide +kernel
theorem d_add30_1 : decode prog_11_method_2_code 1 = .ok (.getfield 32, 3) := by decide +kernel
theorem d_add30_4 : decode prog_11_method_2_code 4 = .ok (.aload_n 0, 1) := by decide +kernel
theorem d_add30_5 : decode prog_11_method_2_code 5 = .ok (.getfield 7, 3) := by decide +kernel
theorem d_add30_8 : decode prog_11_method_2_code 8 = .ok (.arraylength, 1) := by decide +kernel
theorem d_add30_9 : decode prog_11_method_2_code 9 = .ok (.if_icmp .ne 94, 3) := by decide +kernel
theorem d_add30_103 : decode prog_11_method_2_code 103 = .ok (.aload_n 0, 1) := by decide +kernel
theorem d_add30_104 : decode prog_11_method_2_code 104 = .ok (.dup, 1) := by decide +kernel
theorem d_add30_105 : decode prog_11_method_2_code 105 = .ok (.getfield 32, 3) := by decide +kernel
theorem d_add30_108 : decode prog_11_method_2_code 108 = .ok (.dup_x1, 1) := by decide +kernel
theorem d_add30_109 : decode prog_11_method_2_code 109 = .ok (.iconst 1, 1) := by decide +kernel
theorem d_add30_110 : decode prog_11_method_2_code 110 = .ok (.iadd, 1) := by decide +kernel
theorem d_add30_111 : decode prog_11_method_2_code 111 = .ok (.putfield 32, 3) := by decide +kernel
theorem d_add30_114 : decode prog_11_method_2_code 114 = .ok (.istore_n 3, 1) := by decide +kernel
theorem d_add30_115 : decode prog_11_method_2_code 115 = .ok (.aload_n 0, 1) := by decide +kernel
theorem d_add30_116 : decode prog_11_method_2_code 116 = .ok (.getfield 7, 3) := by decide +kernel
theorem d_add30_119 : decode prog_11_method_2_code 119 = .ok (.iload_n 3, 1) := by decide +kernel
theorem d_add30_120 : decode prog_11_method_2_code 120 = .ok (.iload_n 1, 1) := by decide +kernel
theorem d_add30_121 : decode prog_11_method_2_code 121 = .ok (.iastore, 1) := by decide +kernel
theorem d_add30_122 : decode prog_11_method_2_code 122 = .ok (.aload_n 0, 1) := by decide +kernel
theorem d_add30_123 : decode prog_11_method_2_code 123 = .ok (.getfield 13, 3) := by decide +kernel
theorem d_add30_126 : decode prog_11_method_2_code 126 = .ok (.iload_n 3, 1) := by decide +kernel
theorem d_add30_127 : decode prog_11_method_2_code 127 = .ok (.iload_n 2, 1) := by decide +kernel
theorem d_add30_128 : decode prog_11_method_2_code 128 = .ok (.iastore, 1) := by decide +kernel
theorem d_add30_129 : decode prog_11_method_2_code 129 = .ok (.aload_n 0, 1) := by decide +kernel
theorem d_add30_130 : decode prog_11_method_2_code 130 = .ok (.getfield 16, 3) := by decide +kernel
theorem d_add30_133 : decode prog_11_method_2_code 133 = .ok (.iload_n 3, 1) := by decide +kernel
theorem d_add30_134 : decode prog_11_method_2_code 134 = .ok (.aload_n 0, 1) := by decide +kernel
theorem d_add30_135 : decode prog_11_method_2_code 135 = .ok (.getfield 16, 3) := by decide +kernel
theorem d_add30_138 : decode prog_11_method_2_code 138 = .ok (.iload_n 1, 1) := by decide +kernel
theorem d_add30_139 : decode prog_11_method_2_code 139 = .ok (.iaload, 1) := by decide +kernel
theorem d_add30_140 : decode prog_11_method_2_code 140 = .ok (.iconst 1, 1) := by decide +kernel
theorem d_add30_141 : decode prog_11_method_2_code 141 = .ok (.iadd, 1) := by decide +kernel
theorem d_add30_142 : decode prog_11_method_2_code 142 = .ok (.iastore, 1) := by decide +kernel
theorem d_add30_143 : decode prog_11_method_2_code 143 = .ok (.aload_n 0, 1) := by decide +kernel
theorem d_add30_144 : decode prog_11_method_2_code 144 = .ok (.getfield 19, 3) := by decide +kernel
theorem d_add30_147 : decode prog_11_method_2_code 147 = .ok (.iload_n 3, 1) := by decide +kernel
theorem d_add30_148 : decode prog_11_method_2_code 148 = .ok (.iconst (-1), 1) := by decide +kernel
theorem d_add30_149 : decode prog_11_method_2_code 149 = .ok (.iastore, 1) := by decide +kernel
theorem d_add30_150 : decode prog_11_method_2_code 150 = .ok (.aload_n 0, 1) := by decide +kernel
theorem d_add30_151 : decode prog_11_method_2_code 151 = .ok (.getfield 22, 3) := by decide +kernel
theorem d_add30_154 : decode prog_11_method_2_code 154 = .ok (.iload_n 3, 1) := by decide +kernel
theorem d_add30_155 : decode prog_11_method_2_code 155 = .ok (.iconst 0, 1) := by decide +kernel
theorem d_add30_156 : decode prog_11_method_2_code 156 = .ok (.iastore, 1) := by decide +kernel
theorem d_add30_157 : decode prog_11_method_2_code 157 = .ok (.aload_n 0, 1) := by decide +kernel
theorem d_add30_158 : decode prog_11_method_2_code 158 = .ok (.getfield 25, 3) := by decide +kernel
theorem d_add30_161 : decode prog_11_method_2_code 161 = .ok (.iload_n 3, 1) := by decide +kernel
theorem d_add30_162 : decode prog_11_method_2_code 162 = .ok (.iconst (-1), 1) := by decide +kernel
theorem d_add30_163 : decode prog_11_method_2_code 163 = .ok (.iastore, 1) := by decide +kernel
theorem d_add30_164 : decode prog_11_method_2_code 164 = .ok (.aload_n 0, 1) := by decide +kernel
theorem d_add30_165 : decode prog_11_method_2_code 165 = .ok (.getfield 28, 3) := by decide +kernel
theorem d_add30_168 : decode prog_11_method_2_code 168 = .ok (.iload_n 3, 1) := by decide +kernel
theorem d_add30_169 : decode prog_11_method_2_code 169 = .ok (.iconst 0, 1) := by decide +kernel
theorem d_add30_170 : decode prog_11_method_2_code 170 = .ok (.bastore, 1) := by decide +kernel
theorem d_add30_171 : decode prog_11_method_2_code 171 = .ok (.iload_n 3, 1) := by decide +kernel
theorem d_add30_172 : decode prog_11_method_2_code 172 = .ok (.ireturn, 1) := by decide +kernel
theorem pn_add30 : plainName "com/example/filigree/filigree/engine/DecisionTree" = true := by first | (simp [plainName, overriddenIn]; done) | decide +kernel
theorem ef_add30 (m : MethodId) (a1 : Addr) (p2 : Int32) (b0_ : Addr) (b1_ : Addr) (b2_ : Addr) (b3_ : Addr) (b4_ : Addr) (b5_ : Addr) (b6_ : Addr) (k0_ : ClassId) (k1_ : ClassId) (k2_ : ClassId) (k3_ : ClassId) (k4_ : ClassId) (k5_ : ClassId) (k6_ : ClassId) (d1 : Int32) (d2 : Int32) : entryFrame m #[(.ref a1), (.int (0 : Int32)), (.int p2)] 4 = mkF m 0 #[.val (.ref a1), .val (.int (0 : Int32)), .val (.int p2), .unset] [] := by first | (simp [entryFrame, mkF, argsToLocals, Value.category]; done) | rfl
def Q_add30 (Z : State) (a1 : Addr) (p2 : Int32) (b0_ : Addr) (b1_ : Addr) (b2_ : Addr) (b3_ : Addr) (b4_ : Addr) (b5_ : Addr) (b6_ : Addr) (k0_ : ClassId) (k1_ : ClassId) (k2_ : ClassId) (k3_ : ClassId) (k4_ : ClassId) (k5_ : ClassId) (k6_ : ClassId) (d1 : Int32) (d2 : Int32) (h0 : Heap) (n0 : Nat) (v : Option Value) (h : Heap) (L : List Loc) : Prop := v = some (.int (3 : Int32)) ∧ Fr n0 L ∧ Keep h0 h [a1, b0_, b1_, b2_, b3_, b4_, b5_, b6_] ∧ Exa Z h a1 "com/example/filigree/filigree/engine/DecisionTree" ∧ Fld Z h a1 "com/example/filigree/filigree/engine/DecisionTree" "m_aParent" "[I" (.ref b0_) ∧ Fld Z h a1 "com/example/filigree/filigree/engine/DecisionTree" "m_aDecision" "[I" (.ref b1_) ∧ Fld Z h a1 "com/example/filigree/filigree/engine/DecisionTree" "m_aDepth" "[I" (.ref b2_) ∧ Fld Z h a1 "com/example/filigree/filigree/engine/DecisionTree" "m_aFirstKept" "[I" (.ref b3_) ∧ Fld Z h a1 "com/example/filigree/filigree/engine/DecisionTree" "m_aKeptCount" "[I" (.ref b4_) ∧ Fld Z h a1 "com/example/filigree/filigree/engine/DecisionTree" "m_aNextKept" "[I" (.ref b5_) ∧ Fld Z h a1 "com/example/filigree/filigree/engine/DecisionTree" "m_aKept" "[Z" (.ref b6_) ∧ Fld Z h a1 "com/example/filigree/filigree/engine/DecisionTree" "m_nSize" "I" (.int (4 : Int32)) ∧ Arv Z h b0_ k0_ .int (64 : Int32) [(.int (-1 : Int32)), (.int (0 : Int32)), (.int (1 : Int32)), (.int (0 : Int32))] (.int (0 : Int32)) ∧ Arv Z h b1_ k1_ .int (64 : Int32) [(.int (0 : Int32)), (.int d1), (.int d2), (.int p2)] (.int (0 : Int32)) ∧ Arv Z h b2_ k2_ .int (64 : Int32) [(.int (0 : Int32)), (.int (1 : Int32)), (.int (2 : Int32)), (.int (1 : Int32))] (.int (0 : Int32)) ∧ Arv Z h b3_ k3_ .int (64 : Int32) [(.int (-1 : Int32)), (.int (-1 : Int32)), (.int (-1 : Int32)), (.int (-1 : Int32))] (.int (0 : Int32)) ∧ Arv Z h b4_ k4_ .int (64 : Int32) [(.int (0 : Int32)), (.int (0 : Int32)), (.int (0 : Int32)), (.int (0 : Int32))] (.int (0 : Int32)) ∧ Arv Z h b5_ k5_ .int (64 : Int32) [(.int (0 : Int32)), (.int (-1 : Int32)), (.int (-1 : Int32)), (.int (-1 : Int32))] (.int (0 : Int32)) ∧ Arv Z h b6_ k6_ .boolean (64 : Int32) [(.int (0 : Int32)), (.int (0 : Int32)), (.int (0 : Int32)), (.int (0 : Int32))] (.int (0 : Int32))
set_option maxRecDepth 65536 in
set_option maxHeartbeats 40000000 in
theorem rm_add30 (l : Launch) (Z : State) (a0 : Array Value) (hw : ∀ d ∈ tables_1, d.before a0 Z = true) (ws : List Jvm.Cond) (a1 : Addr) (p2 : Int32) (b0_ : Addr) (b1_ : Addr) (b2_ : Addr) (b3_ : Addr) (b4_ : Addr) (b5_ : Addr) (b6_ : Addr) (k0_ : ClassId) (k1_ : ClassId) (k2_ : ClassId) (k3_ : ClassId) (k4_ : ClassId) (k5_ : ClassId) (k6_ : ClassId) (d1 : Int32) (d2 : Int32) (h0 : Heap) (n0 : Nat) (Z0 : n0 ≤ h0.size) (E1 : Exa Z h0 a1 "com/example/filigree/filigree/engine/DecisionTree") (F0_ : Fld Z h0 a1 "com/example/filigree/filigree/engine/DecisionTree" "m_aParent" "[I" (.ref b0_)) (F1_ : Fld Z h0 a1 "com/example/filigree/filigree/engine/DecisionTree" "m_aDecision" "[I" (.ref b1_)) (F2_ : Fld Z h0 a1 "com/example/filigree/filigree/engine/DecisionTree" "m_aDepth" "[I" (.ref b2_)) (F3_ : Fld Z h0 a1 "com/example/filigree/filigree/engine/DecisionTree" "m_aFirstKept" "[I" (.ref b3_)) (F4_ : Fld Z h0 a1 "com/example/filigree/filigree/engine/DecisionTree" "m_aKeptCount" "[I" (.ref b4_)) (F5_ : Fld Z h0 a1 "com/example/filigree/filigree/engine/DecisionTree" "m_aNextKept" "[I" (.ref b5_)) (F6_ : Fld Z h0 a1 "com/example/filigree/filigree/engine/DecisionTree" "m_aKept" "[Z" (.ref b6_)) (F7_ : Fld Z h0 a1 "com/example/filigree/filigree/engine/DecisionTree" "m_nSize" "I" (.int (3 : Int32))) (V0_ : Arv Z h0 b0_ k0_ .int (64 : Int32) [(.int (-1 : Int32)), (.int (0 : Int32)), (.int (1 : Int32)), (.int (0 : Int32))] (.int (0 : Int32))) (V1_ : Arv Z h0 b1_ k1_ .int (64 : Int32) [(.int (0 : Int32)), (.int d1), (.int d2), (.int (0 : Int32))] (.int (0 : Int32))) (V2_ : Arv Z h0 b2_ k2_ .int (64 : Int32) [(.int (0 : Int32)), (.int (1 : Int32)), (.int (2 : Int32)), (.int (0 : Int32))] (.int (0 : Int32))) (V3_ : Arv Z h0 b3_ k3_ .int (64 : Int32) [(.int (-1 : Int32)), (.int (-1 : Int32)), (.int (-1 : Int32)), (.int (0 : Int32))] (.int (0 : Int32))) (V4_ : Arv Z h0 b4_ k4_ .int (64 : Int32) [(.int (0 : Int32)), (.int (0 : Int32)), (.int (0 : Int32)), (.int (0 : Int32))] (.int (0 : Int32))) (V5_ : Arv Z h0 b5_ k5_ .int (64 : Int32) [(.int (0 : Int32)), (.int (-1 : Int32)), (.int (-1 : Int32)), (.int (0 : Int32))] (.int (0 : Int32))) (V6_ : Arv Z h0 b6_ k6_ .boolean (64 : Int32) [(.int (0 : Int32)), (.int (0 : Int32)), (.int (0 : Int32)), (.int (0 : Int32))] (.int (0 : Int32))) (g1 : n0 ≤ a1) (gb0 : n0 ≤ b0_) (gb1 : n0 ≤ b1_) (gb2 : n0 ≤ b2_) (gb3 : n0 ≤ b3_) (gb4 : n0 ≤ b4_) (gb5 : n0 ≤ b5_) (gb6 : n0 ≤ b6_) (n0_ : a1 ≠ b0_) (n1_ : a1 ≠ b1_) (n2_ : a1 ≠ b2_) (n3_ : a1 ≠ b3_) (n4_ : a1 ≠ b4_) (n5_ : a1 ≠ b5_) (n6_ : a1 ≠ b6_) (n7_ : b0_ ≠ b1_) (n8_ : b0_ ≠ b2_) (n9_ : b0_ ≠ b3_) (n10_ : b0_ ≠ b4_) (n11_ : b0_ ≠ b5_) (n12_ : b0_ ≠ b6_) (n13_ : b1_ ≠ b2_) (n14_ : b1_ ≠ b3_) (n15_ : b1_ ≠ b4_) (n16_ : b1_ ≠ b5_) (n17_ : b1_ ≠ b6_) (n18_ : b2_ ≠ b3_) (n19_ : b2_ ≠ b4_) (n20_ : b2_ ≠ b5_) (n21_ : b2_ ≠ b6_) (n22_ : b3_ ≠ b4_) (n23_ : b3_ ≠ b5_) (n24_ : b3_ ≠ b6_) (n25_ : b4_ ≠ b5_) (n26_ : b4_ ≠ b6_) (n27_ : b5_ ≠ b6_) :
    MetFree l (⟨"com/example/filigree/filigree/engine/DecisionTree", "add", "(II)I"⟩ : MethodName) (head1 (Jvm.Cond.code (⟨"com/example/filigree/filigree/engine/DecisionTree", "add", "(II)I"⟩ : MethodName) prog_11_method_2_code 4 (some .int) :: ws) ({ frames := 0, cells := 0, slots := 0, locals := 0 } : Room)) (fun a U => a = #[(.ref a1), (.int (0 : Int32)), (.int p2)] ∧ Z.Warmed39 U.vm ∧ U.heap = h0) (fun _ _ _ _ _ => True) (fun _ U o U' => ∃ v L, o = .returned v ∧ Q_add30 Z a1 p2 b0_ b1_ b2_ b3_ b4_ b5_ b6_ k0_ k1_ k2_ k3_ k4_ k5_ k6_ d1 d2 h0 n0 v U'.heap L ∧ FrameEnd U o U' L ({ frames := 0, cells := 0, slots := 0, locals := 0 } : Room).cells ({ frames := 0, cells := 0, slots := 0, locals := 0 } : Room).slots) := by
  refine MetFree.of_bodySF (plainFor_of_name pn_add30) hisR ?_
  intro p e s m args below meth c s₁ Bd hml0 hP hK
  obtain ⟨rfl, hZ, hh⟩ := hP
  have hx := Bd.exec
  have hby := Bd.bytes
  have hml : c.maxLocals = 4 := hml0
  have hown : s.vm.findClass "com/example/filigree/filigree/engine/DecisionTree" = some m.cls := findClass_of_methodNamed Bd.named
  have hnm := (name_of_methodNamed Bd.named Bd.method).1
  have X0 : Stand p l e ({ frames := 0, cells := 0, slots := 0, locals := 0 } : Room) s m #[(.ref a1), (.int (0 : Int32)), (.int p2)] below meth c s₁ [] 0 0 := Stand.of_body Bd
  have e0 : s₁.heap = h0 := by rw [← hh, Bd.state]; rfl
  have N0 := Fr.nil n0
  refine own_in ?_
  refine own_go (S' := s₁.setTop (mkF m 0 #[.val (.ref a1), .val (.int (0 : Int32)), .val (.int p2), .unset] [])) (fun tgt_ stp_ => castTop (ef_add30 m a1 p2 b0_ b1_ b2_ b3_ b4_ b5_ b6_ k0_ k1_ k2_ k3_ k4_ k5_ k6_ d1 d2) stp_) ?_
  have K0 : Keep h0 h0 [a1, b0_, b1_, b2_, b3_, b4_, b5_, b6_] := Keep.refl h0 _
  obtain ⟨T_1, X_1, e_1, st_1⟩ := getF X0 hx hZ hown (host := "") (Or.inl (hw _ (List.mem_of_getElem? (i := 25) rfl))) Via.refl e0 F7_ (g := (mkF m 1 #[.val (.ref a1), .val (.int (0 : Int32)), .val (.int p2), .unset] [(.ref a1)])) rfl rfl (hb hby d_add30_1)
  obtain ⟨T_2, X_2, e_2, st_2⟩ := getF X_1 hx hZ hown (host := "") (Or.inl (hw _ (List.mem_of_getElem? (i := 10) rfl))) Via.refl e_1 F0_ (g := (mkF m 5 #[.val (.ref a1), .val (.int (0 : Int32)), .val (.int p2), .unset] [(.ref a1), (.int (3 : Int32))])) rfl rfl (hb hby d_add30_5)
  obtain ⟨c_3, Ar_3, -, S_3, M_3, -, -⟩ := id V0_
  obtain ⟨T_4, X_4, e_4, st_4⟩ := getF X_2 hx hZ hown (host := "") (Or.inl (hw _ (List.mem_of_getElem? (i := 25) rfl))) Via.refl e_2 F7_ (g := (mkF m 105 #[.val (.ref a1), .val (.int (0 : Int32)), .val (.int p2), .unset] [(.ref a1), (.ref a1)])) rfl rfl (hb hby d_add30_105)
  obtain ⟨T_5, h_5, X_5, e_5, W_5, st_5⟩ := putF X_4 hx hZ hown (host := "") (Or.inl (hw _ (List.mem_of_getElem? (i := 25) rfl))) Via.refl e_4 F7_ E1 (Or.inl (hw _ (List.mem_of_getElem? (i := 26) rfl))) (hw _ (List.mem_of_getElem? (i := 1) rfl)) (ty := .int) (by decide) rfl rfl (g := (mkF m 111 #[.val (.ref a1), .val (.int (0 : Int32)), .val (.int p2), .unset] [(.int (4 : Int32)), (.ref a1), (.int (3 : Int32))])) rfl rfl (hb hby d_add30_111)
  obtain ⟨Lg_5, XG_5, N_5⟩ := own_gen X_5 (Fr.snoc X_5 N0 g1)
  have F_5 := F7_.same W_5
  have Z_6 : n0 ≤ h_5.size := Nat.le_trans Z0 (Keep.of_wr W_5).1
  have K_7 : Keep h0 h_5 [a1, b0_, b1_, b2_, b3_, b4_, b5_, b6_] := K0.wr W_5 (Or.inl (List.mem_of_getElem? (i := 0) rfl))
  have f_8 := (F0_.other W_5 (Or.inr (slot_ne (Or.inl (hw _ (List.mem_of_getElem? (i := 11) rfl))) (Or.inl (hw _ (List.mem_of_getElem? (i := 26) rfl))) (by decide) (t := (.array .int)) (t' := .int) (by decide) (by decide))))
  obtain ⟨T_9, X_9, e_9, st_9⟩ := getF XG_5 hx hZ hown (host := "") (Or.inl (hw _ (List.mem_of_getElem? (i := 10) rfl))) Via.refl e_5 f_8 (g := (mkF m 116 #[.val (.ref a1), .val (.int (0 : Int32)), .val (.int p2), .val (.int (3 : Int32))] [(.ref a1)])) rfl rfl (hb hby d_add30_116)
  have f_10 := (V0_.other W_5 (Ne.symm n0_))
  obtain ⟨c_11, Ar_11, q_11, S_11, M_11, Hs_11, G_11⟩ := id f_10
  have hin_11 : ¬ ((3 : Int32) < 0 ∨ c_11.slots.size ≤ ((3 : Int32)).toNatClampNeg) := inb_of S_11 ⟨by decide, by decide⟩
  obtain ⟨T_11, h_11, X_11, e_11, W_11, st_11⟩ := stI X_9 hx hZ e_9 Ar_11 (j := (3 : Int32)) hin_11 (g := (mkF m 121 #[.val (.ref a1), .val (.int (0 : Int32)), .val (.int p2), .val (.int (3 : Int32))] [(.int (0 : Int32)), (.int (3 : Int32)), (.ref b0_)])) rfl rfl (hb hby d_add30_121)
  obtain ⟨Lg_11, XG_11, N_11⟩ := own_gen X_11 (Fr.snoc X_11 N_5 gb0)
  have V_11 : Arv Z h_11 b0_ k0_ .int (64 : Int32) [(.int (-1 : Int32)), (.int (0 : Int32)), (.int (1 : Int32)), (.int (0 : Int32))] (.int (0 : Int32)) := Arv.set Ar_11 q_11 S_11 M_11 Hs_11 G_11 rfl W_11 3 rfl (Nat.le_of_ble_eq_true rfl)
  have Z_12 : n0 ≤ h_11.size := Nat.le_trans Z_6 (Keep.of_wr W_11).1
  have K_13 : Keep h0 h_11 [a1, b0_, b1_, b2_, b3_, b4_, b5_, b6_] := K_7.wr W_11 (Or.inl (List.mem_of_getElem? (i := 1) rfl))
  have f_14 := ((F1_.other W_5 (Or.inr (slot_ne (Or.inl (hw _ (List.mem_of_getElem? (i := 13) rfl))) (Or.inl (hw _ (List.mem_of_getElem? (i := 26) rfl))) (by decide) (t := (.array .int)) (t' := .int) (by decide) (by decide)))).other W_11 (Or.inl n0_))
  obtain ⟨T_15, X_15, e_15, st_15⟩ := getF XG_11 hx hZ hown (host := "") (Or.inl (hw _ (List.mem_of_getElem? (i := 12) rfl))) Via.refl e_11 f_14 (g := (mkF m 123 #[.val (.ref a1), .val (.int (0 : Int32)), .val (.int p2), .val (.int (3 : Int32))] [(.ref a1)])) rfl rfl (hb hby d_add30_123)
  have f_16 := ((V1_.other W_5 (Ne.symm n1_)).other W_11 (Ne.symm n7_))
  obtain ⟨c_17, Ar_17, q_17, S_17, M_17, Hs_17, G_17⟩ := id f_16
  have hin_17 : ¬ ((3 : Int32) < 0 ∨ c_17.slots.size ≤ ((3 : Int32)).toNatClampNeg) := inb_of S_17 ⟨by decide, by decide⟩
  obtain ⟨T_17, h_17, X_17, e_17, W_17, st_17⟩ := stI X_15 hx hZ e_15 Ar_17 (j := (3 : Int32)) hin_17 (g := (mkF m 128 #[.val (.ref a1), .val (.int (0 : Int32)), .val (.int p2), .val (.int (3 : Int32))] [(.int p2), (.int (3 : Int32)), (.ref b1_)])) rfl rfl (hb hby d_add30_128)
  obtain ⟨Lg_17, XG_17, N_17⟩ := own_gen X_17 (Fr.snoc X_17 N_11 gb1)
  have V_17 : Arv Z h_17 b1_ k1_ .int (64 : Int32) [(.int (0 : Int32)), (.int d1), (.int d2), (.int p2)] (.int (0 : Int32)) := Arv.set Ar_17 q_17 S_17 M_17 Hs_17 G_17 rfl W_17 3 rfl (Nat.le_of_ble_eq_true rfl)
  have Z_18 : n0 ≤ h_17.size := Nat.le_trans Z_12 (Keep.of_wr W_17).1
  have K_19 : Keep h0 h_17 [a1, b0_, b1_, b2_, b3_, b4_, b5_, b6_] := K_13.wr W_17 (Or.inl (List.mem_of_getElem? (i := 2) rfl))
  have f_20 := (((F2_.other W_5 (Or.inr (slot_ne (Or.inl (hw _ (List.mem_of_getElem? (i := 15) rfl))) (Or.inl (hw _ (List.mem_of_getElem? (i := 26) rfl))) (by decide) (t := (.array .int)) (t' := .int) (by decide) (by decide)))).other W_11 (Or.inl n0_)).other W_17 (Or.inl n1_))
  obtain ⟨T_21, X_21, e_21, st_21⟩ := getF XG_17 hx hZ hown (host := "") (Or.inl (hw _ (List.mem_of_getElem? (i := 14) rfl))) Via.refl e_17 f_20 (g := (mkF m 130 #[.val (.ref a1), .val (.int (0 : Int32)), .val (.int p2), .val (.int (3 : Int32))] [(.ref a1)])) rfl rfl (hb hby d_add30_130)
  obtain ⟨T_22, X_22, e_22, st_22⟩ := getF X_21 hx hZ hown (host := "") (Or.inl (hw _ (List.mem_of_getElem? (i := 14) rfl))) Via.refl e_21 f_20 (g := (mkF m 135 #[.val (.ref a1), .val (.int (0 : Int32)), .val (.int p2), .val (.int (3 : Int32))] [(.ref a1), (.int (3 : Int32)), (.ref b2_)])) rfl rfl (hb hby d_add30_135)
  have f_23 := (((V2_.other W_5 (Ne.symm n2_)).other W_11 (Ne.symm n8_)).other W_17 (Ne.symm n13_))
  obtain ⟨c_24, Ar_24, q_24, S_24, M_24, Hs_24, G_24⟩ := id f_23
  have hin_24 : ¬ ((0 : Int32) < 0 ∨ c_24.slots.size ≤ ((0 : Int32)).toNatClampNeg) := inb_of S_24 ⟨by decide, by decide⟩
  have hat_24 : c_24.slots[((0 : Int32)).toNatClampNeg]? = some (.int (0 : Int32)) := Hs_24.at hin_24 rfl
  obtain ⟨c_25, Ar_25, q_25, S_25, M_25, Hs_25, G_25⟩ := id f_23
  have hin_25 : ¬ ((3 : Int32) < 0 ∨ c_25.slots.size ≤ ((3 : Int32)).toNatClampNeg) := inb_of S_25 ⟨by decide, by decide⟩
  obtain ⟨T_25, h_25, X_25, e_25, W_25, st_25⟩ := stI X_22 hx hZ e_22 Ar_25 (j := (3 : Int32)) hin_25 (g := (mkF m 142 #[.val (.ref a1), .val (.int (0 : Int32)), .val (.int p2), .val (.int (3 : Int32))] [(.int (1 : Int32)), (.int (3 : Int32)), (.ref b2_)])) rfl rfl (hb hby d_add30_142)
  obtain ⟨Lg_25, XG_25, N_25⟩ := own_gen X_25 (Fr.snoc X_25 N_17 gb2)
  have V_25 : Arv Z h_25 b2_ k2_ .int (64 : Int32) [(.int (0 : Int32)), (.int (1 : Int32)), (.int (2 : Int32)), (.int (1 : Int32))] (.int (0 : Int32)) := Arv.set Ar_25 q_25 S_25 M_25 Hs_25 G_25 rfl W_25 3 rfl (Nat.le_of_ble_eq_true rfl)
  have Z_26 : n0 ≤ h_25.size := Nat.le_trans Z_18 (Keep.of_wr W_25).1
  have K_27 : Keep h0 h_25 [a1, b0_, b1_, b2_, b3_, b4_, b5_, b6_] := K_19.wr W_25 (Or.inl (List.mem_of_getElem? (i := 3) rfl))
  have f_28 := ((((F3_.other W_5 (Or.inr (slot_ne (Or.inl (hw _ (List.mem_of_getElem? (i := 17) rfl))) (Or.inl (hw _ (List.mem_of_getElem? (i := 26) rfl))) (by decide) (t := (.array .int)) (t' := .int) (by decide) (by decide)))).other W_11 (Or.inl n0_)).other W_17 (Or.inl n1_)).other W_25 (Or.inl n2_))
  obtain ⟨T_29, X_29, e_29, st_29⟩ := getF XG_25 hx hZ hown (host := "") (Or.inl (hw _ (List.mem_of_getElem? (i := 16) rfl))) Via.refl e_25 f_28 (g := (mkF m 144 #[.val (.ref a1), .val (.int (0 : Int32)), .val (.int p2), .val (.int (3 : Int32))] [(.ref a1)])) rfl rfl (hb hby d_add30_144)
  have f_30 := ((((V3_.other W_5 (Ne.symm n3_)).other W_11 (Ne.symm n9_)).other W_17 (Ne.symm n14_)).other W_25 (Ne.symm n18_))
  obtain ⟨c_31, Ar_31, q_31, S_31, M_31, Hs_31, G_31⟩ := id f_30
  have hin_31 : ¬ ((3 : Int32) < 0 ∨ c_31.slots.size ≤ ((3 : Int32)).toNatClampNeg) := inb_of S_31 ⟨by decide, by decide⟩
  obtain ⟨T_31, h_31, X_31, e_31, W_31, st_31⟩ := stI X_29 hx hZ e_29 Ar_31 (j := (3 : Int32)) hin_31 (g := (mkF m 149 #[.val (.ref a1), .val (.int (0 : Int32)), .val (.int p2), .val (.int (3 : Int32))] [(.int (-1 : Int32)), (.int (3 : Int32)), (.ref b3_)])) rfl rfl (hb hby d_add30_149)
  obtain ⟨Lg_31, XG_31, N_31⟩ := own_gen X_31 (Fr.snoc X_31 N_25 gb3)
  have V_31 : Arv Z h_31 b3_ k3_ .int (64 : Int32) [(.int (-1 : Int32)), (.int (-1 : Int32)), (.int (-1 : Int32)), (.int (-1 : Int32))] (.int (0 : Int32)) := Arv.set Ar_31 q_31 S_31 M_31 Hs_31 G_31 rfl W_31 3 rfl (Nat.le_of_ble_eq_true rfl)
  have Z_32 : n0 ≤ h_31.size := Nat.le_trans Z_26 (Keep.of_wr W_31).1
  have K_33 : Keep h0 h_31 [a1, b0_, b1_, b2_, b3_, b4_, b5_, b6_] := K_27.wr W_31 (Or.inl (List.mem_of_getElem? (i := 4) rfl))
  have f_34 := (((((F4_.other W_5 (Or.inr (slot_ne (Or.inl (hw _ (List.mem_of_getElem? (i := 19) rfl))) (Or.inl (hw _ (List.mem_of_getElem? (i := 26) rfl))) (by decide) (t := (.array .int)) (t' := .int) (by decide) (by decide)))).other W_11 (Or.inl n0_)).other W_17 (Or.inl n1_)).other W_25 (Or.inl n2_)).other W_31 (Or.inl n3_))
  obtain ⟨T_35, X_35, e_35, st_35⟩ := getF XG_31 hx hZ hown (host := "") (Or.inl (hw _ (List.mem_of_getElem? (i := 18) rfl))) Via.refl e_31 f_34 (g := (mkF m 151 #[.val (.ref a1), .val (.int (0 : Int32)), .val (.int p2), .val (.int (3 : Int32))] [(.ref a1)])) rfl rfl (hb hby d_add30_151)
  have f_36 := (((((V4_.other W_5 (Ne.symm n4_)).other W_11 (Ne.symm n10_)).other W_17 (Ne.symm n15_)).other W_25 (Ne.symm n19_)).other W_31 (Ne.symm n22_))
  obtain ⟨c_37, Ar_37, q_37, S_37, M_37, Hs_37, G_37⟩ := id f_36
  have hin_37 : ¬ ((3 : Int32) < 0 ∨ c_37.slots.size ≤ ((3 : Int32)).toNatClampNeg) := inb_of S_37 ⟨by decide, by decide⟩
  obtain ⟨T_37, h_37, X_37, e_37, W_37, st_37⟩ := stI X_35 hx hZ e_35 Ar_37 (j := (3 : Int32)) hin_37 (g := (mkF m 156 #[.val (.ref a1), .val (.int (0 : Int32)), .val (.int p2), .val (.int (3 : Int32))] [(.int (0 : Int32)), (.int (3 : Int32)), (.ref b4_)])) rfl rfl (hb hby d_add30_156)
  obtain ⟨Lg_37, XG_37, N_37⟩ := own_gen X_37 (Fr.snoc X_37 N_31 gb4)
  have V_37 : Arv Z h_37 b4_ k4_ .int (64 : Int32) [(.int (0 : Int32)), (.int (0 : Int32)), (.int (0 : Int32)), (.int (0 : Int32))] (.int (0 : Int32)) := Arv.set Ar_37 q_37 S_37 M_37 Hs_37 G_37 rfl W_37 3 rfl (Nat.le_of_ble_eq_true rfl)
  have Z_38 : n0 ≤ h_37.size := Nat.le_trans Z_32 (Keep.of_wr W_37).1
  have K_39 : Keep h0 h_37 [a1, b0_, b1_, b2_, b3_, b4_, b5_, b6_] := K_33.wr W_37 (Or.inl (List.mem_of_getElem? (i := 5) rfl))
  have f_40 := ((((((F5_.other W_5 (Or.inr (slot_ne (Or.inl (hw _ (List.mem_of_getElem? (i := 21) rfl))) (Or.inl (hw _ (List.mem_of_getElem? (i := 26) rfl))) (by decide) (t := (.array .int)) (t' := .int) (by decide) (by decide)))).other W_11 (Or.inl n0_)).other W_17 (Or.inl n1_)).other W_25 (Or.inl n2_)).other W_31 (Or.inl n3_)).other W_37 (Or.inl n4_))
  obtain ⟨T_41, X_41, e_41, st_41⟩ := getF XG_37 hx hZ hown (host := "") (Or.inl (hw _ (List.mem_of_getElem? (i := 20) rfl))) Via.refl e_37 f_40 (g := (mkF m 158 #[.val (.ref a1), .val (.int (0 : Int32)), .val (.int p2), .val (.int (3 : Int32))] [(.ref a1)])) rfl rfl (hb hby d_add30_158)
  have f_42 := ((((((V5_.other W_5 (Ne.symm n5_)).other W_11 (Ne.symm n11_)).other W_17 (Ne.symm n16_)).other W_25 (Ne.symm n20_)).other W_31 (Ne.symm n23_)).other W_37 (Ne.symm n25_))
  obtain ⟨c_43, Ar_43, q_43, S_43, M_43, Hs_43, G_43⟩ := id f_42
  have hin_43 : ¬ ((3 : Int32) < 0 ∨ c_43.slots.size ≤ ((3 : Int32)).toNatClampNeg) := inb_of S_43 ⟨by decide, by decide⟩
  obtain ⟨T_43, h_43, X_43, e_43, W_43, st_43⟩ := stI X_41 hx hZ e_41 Ar_43 (j := (3 : Int32)) hin_43 (g := (mkF m 163 #[.val (.ref a1), .val (.int (0 : Int32)), .val (.int p2), .val (.int (3 : Int32))] [(.int (-1 : Int32)), (.int (3 : Int32)), (.ref b5_)])) rfl rfl (hb hby d_add30_163)
  obtain ⟨Lg_43, XG_43, N_43⟩ := own_gen X_43 (Fr.snoc X_43 N_37 gb5)
  have V_43 : Arv Z h_43 b5_ k5_ .int (64 : Int32) [(.int (0 : Int32)), (.int (-1 : Int32)), (.int (-1 : Int32)), (.int (-1 : Int32))] (.int (0 : Int32)) := Arv.set Ar_43 q_43 S_43 M_43 Hs_43 G_43 rfl W_43 3 rfl (Nat.le_of_ble_eq_true rfl)
  have Z_44 : n0 ≤ h_43.size := Nat.le_trans Z_38 (Keep.of_wr W_43).1
  have K_45 : Keep h0 h_43 [a1, b0_, b1_, b2_, b3_, b4_, b5_, b6_] := K_39.wr W_43 (Or.inl (List.mem_of_getElem? (i := 6) rfl))
  have f_46 := (((((((F6_.other W_5 (Or.inr (slot_ne (Or.inl (hw _ (List.mem_of_getElem? (i := 24) rfl))) (Or.inl (hw _ (List.mem_of_getElem? (i := 26) rfl))) (by decide) (t := (.array .boolean)) (t' := .int) (by decide) (by decide)))).other W_11 (Or.inl n0_)).other W_17 (Or.inl n1_)).other W_25 (Or.inl n2_)).other W_31 (Or.inl n3_)).other W_37 (Or.inl n4_)).other W_43 (Or.inl n5_))
  obtain ⟨T_47, X_47, e_47, st_47⟩ := getF XG_43 hx hZ hown (host := "") (Or.inl (hw _ (List.mem_of_getElem? (i := 23) rfl))) Via.refl e_43 f_46 (g := (mkF m 165 #[.val (.ref a1), .val (.int (0 : Int32)), .val (.int p2), .val (.int (3 : Int32))] [(.ref a1)])) rfl rfl (hb hby d_add30_165)
  have f_48 := (((((((V6_.other W_5 (Ne.symm n6_)).other W_11 (Ne.symm n12_)).other W_17 (Ne.symm n17_)).other W_25 (Ne.symm n21_)).other W_31 (Ne.symm n24_)).other W_37 (Ne.symm n26_)).other W_43 (Ne.symm n27_))
  obtain ⟨c_49, Ar_49, q_49, S_49, M_49, Hs_49, G_49⟩ := id f_48
  have hin_49 : ¬ ((3 : Int32) < 0 ∨ c_49.slots.size ≤ ((3 : Int32)).toNatClampNeg) := inb_of S_49 ⟨by decide, by decide⟩
  obtain ⟨T_49, h_49, X_49, e_49, W_49, st_49⟩ := stZ X_47 hx hZ e_47 Ar_49 (j := (3 : Int32)) hin_49 (g := (mkF m 170 #[.val (.ref a1), .val (.int (0 : Int32)), .val (.int p2), .val (.int (3 : Int32))] [(.int (0 : Int32)), (.int (3 : Int32)), (.ref b6_)])) rfl rfl (hb hby d_add30_170)
  obtain ⟨Lg_49, XG_49, N_49⟩ := own_gen X_49 (Fr.snoc X_49 N_43 gb6)
  have V_49 : Arv Z h_49 b6_ k6_ .boolean (64 : Int32) [(.int (0 : Int32)), (.int (0 : Int32)), (.int (0 : Int32)), (.int (nar .boolean (0 : Int32)))] (.int (0 : Int32)) := Arv.set Ar_49 q_49 S_49 M_49 Hs_49 G_49 (fits_nar_bool _) W_49 3 rfl (Nat.le_of_ble_eq_true rfl)
  have Z_50 : n0 ≤ h_49.size := Nat.le_trans Z_44 (Keep.of_wr W_49).1
  have K_51 : Keep h0 h_49 [a1, b0_, b1_, b2_, b3_, b4_, b5_, b6_] := K_45.wr W_49 (Or.inl (List.mem_of_getElem? (i := 7) rfl))
  refine own_go (S' := T_49.setTop (mkF m 172 #[.val (.ref a1), .val (.int (0 : Int32)), .val (.int p2), .val (.int (3 : Int32))] [(.int (3 : Int32))])) (fun target kt => ?_) ?_
  · show Steps p.tables e below (s₁.setTop (mkF m 0 #[.val (.ref a1), .val (.int (0 : Int32)), .val (.int p2), .unset] [])) target
    refine XS.aloadN X0.here hx rfl (hb hby d_add30_0) rfl rfl ?_
    show Steps p.tables e below (s₁.setTop (mkF m 1 #[.val (.ref a1), .val (.int (0 : Int32)), .val (.int p2), .unset] [(.ref a1)])) target
    refine st_1 _ ?_
    show Steps p.tables e below (T_1.setTop (mkF m 4 #[.val (.ref a1), .val (.int (0 : Int32)), .val (.int p2), .unset] [(.int (3 : Int32))])) target
    refine XS.aloadN X_1.here hx rfl (hb hby d_add30_4) rfl rfl ?_
    show Steps p.tables e below (T_1.setTop (mkF m 5 #[.val (.ref a1), .val (.int (0 : Int32)), .val (.int p2), .unset] [(.ref a1), (.int (3 : Int32))])) target
    refine st_2 _ ?_
    show Steps p.tables e below (T_2.setTop (mkF m 8 #[.val (.ref a1), .val (.int (0 : Int32)), .val (.int p2), .unset] [(.ref b0_), (.int (3 : Int32))])) target
    refine X_2.arraylength hx (by rw [e_2]; exact Ar_3.1) (State.isArrayOf_alike hZ.alike Ar_3.2.1) (g := (mkF m 8 #[.val (.ref a1), .val (.int (0 : Int32)), .val (.int p2), .unset] [(.ref b0_), (.int (3 : Int32))])) rfl rfl (hb hby d_add30_8) _ ?_
    rw [len_of S_3 M_3]
    show Steps p.tables e below (T_2.setTop (mkF m 9 #[.val (.ref a1), .val (.int (0 : Int32)), .val (.int p2), .unset] [(.int (64 : Int32)), (.int (3 : Int32))])) target
    refine XS.icmpYes X_2.here hx rfl (pc0 := 9) (pc' := 103) rfl (hb hby d_add30_9) rfl (feq (by decide : ¬ ((3 : Int32) = (64 : Int32)))).2 (by decide) (by decide) ?_
    show Steps p.tables e below (T_2.setTop (mkF m 103 #[.val (.ref a1), .val (.int (0 : Int32)), .val (.int p2), .unset] [])) target
    refine XS.aloadN X_2.here hx rfl (hb hby d_add30_103) rfl rfl ?_
    show Steps p.tables e below (T_2.setTop (mkF m 104 #[.val (.ref a1), .val (.int (0 : Int32)), .val (.int p2), .unset] [(.ref a1)])) target
    refine XS.dup X_2.here hx rfl (hb hby d_add30_104) rfl rfl ?_
    show Steps p.tables e below (T_2.setTop (mkF m 105 #[.val (.ref a1), .val (.int (0 : Int32)), .val (.int p2), .unset] [(.ref a1), (.ref a1)])) target
    refine st_4 _ ?_
    show Steps p.tables e below (T_4.setTop (mkF m 108 #[.val (.ref a1), .val (.int (0 : Int32)), .val (.int p2), .unset] [(.int (3 : Int32)), (.ref a1)])) target
    refine XS.dupX1 X_4.here hx rfl (hb hby d_add30_108) rfl rfl rfl ?_
    show Steps p.tables e below (T_4.setTop (mkF m 109 #[.val (.ref a1), .val (.int (0 : Int32)), .val (.int p2), .unset] [(.int (3 : Int32)), (.ref a1), (.int (3 : Int32))])) target
    refine XS.iconst X_4.here hx rfl (hb hby d_add30_109) ?_
    show Steps p.tables e below (T_4.setTop (mkF m 110 #[.val (.ref a1), .val (.int (0 : Int32)), .val (.int p2), .unset] [(.int (1 : Int32)), (.int (3 : Int32)), (.ref a1), (.int (3 : Int32))])) target
    refine XS.iadd X_4.here hx rfl (hb hby d_add30_110) rfl ?_
    show Steps p.tables e below (T_4.setTop (mkF m 111 #[.val (.ref a1), .val (.int (0 : Int32)), .val (.int p2), .unset] [(.int ((3 : Int32) + (1 : Int32))), (.ref a1), (.int (3 : Int32))])) target
    rw [show (3 : Int32) + (1 : Int32) = (4 : Int32) from by decide]
    show Steps p.tables e below (T_4.setTop (mkF m 111 #[.val (.ref a1), .val (.int (0 : Int32)), .val (.int p2), .unset] [(.int (4 : Int32)), (.ref a1), (.int (3 : Int32))])) target
    refine st_5 _ ?_
    show Steps p.tables e below (T_5.setTop (mkF m 114 #[.val (.ref a1), .val (.int (0 : Int32)), .val (.int p2), .unset] [(.int (3 : Int32))])) target
    refine XS.istoreN XG_5.here hx rfl (hb hby d_add30_114) rfl (l' := #[.val (.ref a1), .val (.int (0 : Int32)), .val (.int p2), .val (.int (3 : Int32))]) rfl ?_
    show Steps p.tables e below (T_5.setTop (mkF m 115 #[.val (.ref a1), .val (.int (0 : Int32)), .val (.int p2), .val (.int (3 : Int32))] [])) target
    refine XS.aloadN XG_5.here hx rfl (hb hby d_add30_115) rfl rfl ?_
    show Steps p.tables e below (T_5.setTop (mkF m 116 #[.val (.ref a1), .val (.int (0 : Int32)), .val (.int p2), .val (.int (3 : Int32))] [(.ref a1)])) target
    refine st_9 _ ?_
    show Steps p.tables e below (T_9.setTop (mkF m 119 #[.val (.ref a1), .val (.int (0 : Int32)), .val (.int p2), .val (.int (3 : Int32))] [(.ref b0_)])) target
    refine XS.iloadN X_9.here hx rfl (hb hby d_add30_119) rfl ?_
    show Steps p.tables e below (T_9.setTop (mkF m 120 #[.val (.ref a1), .val (.int (0 : Int32)), .val (.int p2), .val (.int (3 : Int32))] [(.int (3 : Int32)), (.ref b0_)])) target
    refine XS.iloadN X_9.here hx rfl (hb hby d_add30_120) rfl ?_
    show Steps p.tables e below (T_9.setTop (mkF m 121 #[.val (.ref a1), .val (.int (0 : Int32)), .val (.int p2), .val (.int (3 : Int32))] [(.int (0 : Int32)), (.int (3 : Int32)), (.ref b0_)])) target
    refine st_11 _ ?_
    show Steps p.tables e below (T_11.setTop (mkF m 122 #[.val (.ref a1), .val (.int (0 : Int32)), .val (.int p2), .val (.int (3 : Int32))] [])) target
    refine XS.aloadN XG_11.here hx rfl (hb hby d_add30_122) rfl rfl ?_
    show Steps p.tables e below (T_11.setTop (mkF m 123 #[.val (.ref a1), .val (.int (0 : Int32)), .val (.int p2), .val (.int (3 : Int32))] [(.ref a1)])) target
    refine st_15 _ ?_
    show Steps p.tables e below (T_15.setTop (mkF m 126 #[.val (.ref a1), .val (.int (0 : Int32)), .val (.int p2), .val (.int (3 : Int32))] [(.ref b1_)])) target
    refine XS.iloadN X_15.here hx rfl (hb hby d_add30_126) rfl ?_
    show Steps p.tables e below (T_15.setTop (mkF m 127 #[.val (.ref a1), .val (.int (0 : Int32)), .val (.int p2), .val (.int (3 : Int32))] [(.int (3 : Int32)), (.ref b1_)])) target
    refine XS.iloadN X_15.here hx rfl (hb hby d_add30_127) rfl ?_
    show Steps p.tables e below (T_15.setTop (mkF m 128 #[.val (.ref a1), .val (.int (0 : Int32)), .val (.int p2), .val (.int (3 : Int32))] [(.int p2), (.int (3 : Int32)), (.ref b1_)])) target
    refine st_17 _ ?_
    show Steps p.tables e below (T_17.setTop (mkF m 129 #[.val (.ref a1), .val (.int (0 : Int32)), .val (.int p2), .val (.int (3 : Int32))] [])) target
    refine XS.aloadN XG_17.here hx rfl (hb hby d_add30_129) rfl rfl ?_
    show Steps p.tables e below (T_17.setTop (mkF m 130 #[.val (.ref a1), .val (.int (0 : Int32)), .val (.int p2), .val (.int (3 : Int32))] [(.ref a1)])) target
    refine st_21 _ ?_
    show Steps p.tables e below (T_21.setTop (mkF m 133 #[.val (.ref a1), .val (.int (0 : Int32)), .val (.int p2), .val (.int (3 : Int32))] [(.ref b2_)])) target
    refine XS.iloadN X_21.here hx rfl (hb hby d_add30_133) rfl ?_
    show Steps p.tables e below (T_21.setTop (mkF m 134 #[.val (.ref a1), .val (.int (0 : Int32)), .val (.int p2), .val (.int (3 : Int32))] [(.int (3 : Int32)), (.ref b2_)])) target
    refine XS.aloadN X_21.here hx rfl (hb hby d_add30_134) rfl rfl ?_
    show Steps p.tables e below (T_21.setTop (mkF m 135 #[.val (.ref a1), .val (.int (0 : Int32)), .val (.int p2), .val (.int (3 : Int32))] [(.ref a1), (.int (3 : Int32)), (.ref b2_)])) target
    refine st_22 _ ?_
    show Steps p.tables e below (T_22.setTop (mkF m 138 #[.val (.ref a1), .val (.int (0 : Int32)), .val (.int p2), .val (.int (3 : Int32))] [(.ref b2_), (.int (3 : Int32)), (.ref b2_)])) target
    refine XS.iloadN X_22.here hx rfl (hb hby d_add30_138) rfl ?_
    show Steps p.tables e below (T_22.setTop (mkF m 139 #[.val (.ref a1), .val (.int (0 : Int32)), .val (.int p2), .val (.int (3 : Int32))] [(.int (0 : Int32)), (.ref b2_), (.int (3 : Int32)), (.ref b2_)])) target
    refine X_22.iaload hx (j := (0 : Int32)) (v := (.int (0 : Int32))) (by rw [e_22]; exact Ar_24.1) (State.isArrayOf_alike hZ.alike Ar_24.2.1) Ar_24.2.2 hin_24 hat_24 (g := (mkF m 139 #[.val (.ref a1), .val (.int (0 : Int32)), .val (.int p2), .val (.int (3 : Int32))] [(.int (0 : Int32)), (.ref b2_), (.int (3 : Int32)), (.ref b2_)])) rfl rfl (hb hby d_add30_139) _ ?_
    show Steps p.tables e below (T_22.setTop (mkF m 140 #[.val (.ref a1), .val (.int (0 : Int32)), .val (.int p2), .val (.int (3 : Int32))] [(.int (0 : Int32)), (.int (3 : Int32)), (.ref b2_)])) target
    refine XS.iconst X_22.here hx rfl (hb hby d_add30_140) ?_
    show Steps p.tables e below (T_22.setTop (mkF m 141 #[.val (.ref a1), .val (.int (0 : Int32)), .val (.int p2), .val (.int (3 : Int32))] [(.int (1 : Int32)), (.int (0 : Int32)), (.int (3 : Int32)), (.ref b2_)])) target
    refine XS.iadd X_22.here hx rfl (hb hby d_add30_141) rfl ?_
    show Steps p.tables e below (T_22.setTop (mkF m 142 #[.val (.ref a1), .val (.int (0 : Int32)), .val (.int p2), .val (.int (3 : Int32))] [(.int ((0 : Int32) + (1 : Int32))), (.int (3 : Int32)), (.ref b2_)])) target
    rw [show (0 : Int32) + (1 : Int32) = (1 : Int32) from by decide]
    show Steps p.tables e below (T_22.setTop (mkF m 142 #[.val (.ref a1), .val (.int (0 : Int32)), .val (.int p2), .val (.int (3 : Int32))] [(.int (1 : Int32)), (.int (3 : Int32)), (.ref b2_)])) target
    refine st_25 _ ?_
    show Steps p.tables e below (T_25.setTop (mkF m 143 #[.val (.ref a1), .val (.int (0 : Int32)), .val (.int p2), .val (.int (3 : Int32))] [])) target
    refine XS.aloadN XG_25.here hx rfl (hb hby d_add30_143) rfl rfl ?_
    show Steps p.tables e below (T_25.setTop (mkF m 144 #[.val (.ref a1), .val (.int (0 : Int32)), .val (.int p2), .val (.int (3 : Int32))] [(.ref a1)])) target
    refine st_29 _ ?_
    show Steps p.tables e below (T_29.setTop (mkF m 147 #[.val (.ref a1), .val (.int (0 : Int32)), .val (.int p2), .val (.int (3 : Int32))] [(.ref b3_)])) target
    refine XS.iloadN X_29.here hx rfl (hb hby d_add30_147) rfl ?_
    show Steps p.tables e below (T_29.setTop (mkF m 148 #[.val (.ref a1), .val (.int (0 : Int32)), .val (.int p2), .val (.int (3 : Int32))] [(.int (3 : Int32)), (.ref b3_)])) target
    refine XS.iconst X_29.here hx rfl (hb hby d_add30_148) ?_
    show Steps p.tables e below (T_29.setTop (mkF m 149 #[.val (.ref a1), .val (.int (0 : Int32)), .val (.int p2), .val (.int (3 : Int32))] [(.int (-1 : Int32)), (.int (3 : Int32)), (.ref b3_)])) target
    refine st_31 _ ?_
    show Steps p.tables e below (T_31.setTop (mkF m 150 #[.val (.ref a1), .val (.int (0 : Int32)), .val (.int p2), .val (.int (3 : Int32))] [])) target
    refine XS.aloadN XG_31.here hx rfl (hb hby d_add30_150) rfl rfl ?_
    show Steps p.tables e below (T_31.setTop (mkF m 151 #[.val (.ref a1), .val (.int (0 : Int32)), .val (.int p2), .val (.int (3 : Int32))] [(.ref a1)])) target
    refine st_35 _ ?_
    show Steps p.tables e below (T_35.setTop (mkF m 154 #[.val (.ref a1), .val (.int (0 : Int32)), .val (.int p2), .val (.int (3 : Int32))] [(.ref b4_)])) target
    refine XS.iloadN X_35.here hx rfl (hb hby d_add30_154) rfl ?_
    show Steps p.tables e below (T_35.setTop (mkF m 155 #[.val (.ref a1), .val (.int (0 : Int32)), .val (.int p2), .val (.int (3 : Int32))] [(.int (3 : Int32)), (.ref b4_)])) target
    refine XS.iconst X_35.here hx rfl (hb hby d_add30_155) ?_
    show Steps p.tables e below (T_35.setTop (mkF m 156 #[.val (.ref a1), .val (.int (0 : Int32)), .val (.int p2), .val (.int (3 : Int32))] [(.int (0 : Int32)), (.int (3 : Int32)), (.ref b4_)])) target
    refine st_37 _ ?_
    show Steps p.tables e below (T_37.setTop (mkF m 157 #[.val (.ref a1), .val (.int (0 : Int32)), .val (.int p2), .val (.int (3 : Int32))] [])) target
    refine XS.aloadN XG_37.here hx rfl (hb hby d_add30_157) rfl rfl ?_
    show Steps p.tables e below (T_37.setTop (mkF m 158 #[.val (.ref a1), .val (.int (0 : Int32)), .val (.int p2), .val (.int (3 : Int32))] [(.ref a1)])) target
    refine st_41 _ ?_
    show Steps p.tables e below (T_41.setTop (mkF m 161 #[.val (.ref a1), .val (.int (0 : Int32)), .val (.int p2), .val (.int (3 : Int32))] [(.ref b5_)])) target
    refine XS.iloadN X_41.here hx rfl (hb hby d_add30_161) rfl ?_
    show Steps p.tables e below (T_41.setTop (mkF m 162 #[.val (.ref a1), .val (.int (0 : Int32)), .val (.int p2), .val (.int (3 : Int32))] [(.int (3 : Int32)), (.ref b5_)])) target
    refine XS.iconst X_41.here hx rfl (hb hby d_add30_162) ?_
    show Steps p.tables e below (T_41.setTop (mkF m 163 #[.val (.ref a1), .val (.int (0 : Int32)), .val (.int p2), .val (.int (3 : Int32))] [(.int (-1 : Int32)), (.int (3 : Int32)), (.ref b5_)])) target
    refine st_43 _ ?_
    show Steps p.tables e below (T_43.setTop (mkF m 164 #[.val (.ref a1), .val (.int (0 : Int32)), .val (.int p2), .val (.int (3 : Int32))] [])) target
    refine XS.aloadN XG_43.here hx rfl (hb hby d_add30_164) rfl rfl ?_
    show Steps p.tables e below (T_43.setTop (mkF m 165 #[.val (.ref a1), .val (.int (0 : Int32)), .val (.int p2), .val (.int (3 : Int32))] [(.ref a1)])) target
    refine st_47 _ ?_
    show Steps p.tables e below (T_47.setTop (mkF m 168 #[.val (.ref a1), .val (.int (0 : Int32)), .val (.int p2), .val (.int (3 : Int32))] [(.ref b6_)])) target
    refine XS.iloadN X_47.here hx rfl (hb hby d_add30_168) rfl ?_
    show Steps p.tables e below (T_47.setTop (mkF m 169 #[.val (.ref a1), .val (.int (0 : Int32)), .val (.int p2), .val (.int (3 : Int32))] [(.int (3 : Int32)), (.ref b6_)])) target
    refine XS.iconst X_47.here hx rfl (hb hby d_add30_169) ?_
    show Steps p.tables e below (T_47.setTop (mkF m 170 #[.val (.ref a1), .val (.int (0 : Int32)), .val (.int p2), .val (.int (3 : Int32))] [(.int (0 : Int32)), (.int (3 : Int32)), (.ref b6_)])) target
    refine st_49 _ ?_
    show Steps p.tables e below (T_49.setTop (mkF m 171 #[.val (.ref a1), .val (.int (0 : Int32)), .val (.int p2), .val (.int (3 : Int32))] [])) target
    refine XS.iloadN XG_49.here hx rfl (hb hby d_add30_171) rfl ?_
    show Steps p.tables e below (T_49.setTop (mkF m 172 #[.val (.ref a1), .val (.int (0 : Int32)), .val (.int p2), .val (.int (3 : Int32))] [(.int (3 : Int32))])) target
    exact kt
  obtain ⟨fs, hr, hrun, hended, hW, hsame⟩ := XG_49.leave (v := some (.int (3 : Int32))) (fun h => by rw [Bd.returns] at h; cases h)
  refine ⟨_, _, retI XG_49 hx Bd.returns (hb hby d_add30_172) hr, hrun, hended, _, _, rfl, ?_, ⟨_, rfl⟩, hW, hsame.mono (by decide) (by decide)⟩
  show Q_add30 Z a1 p2 b0_ b1_ b2_ b3_ b4_ b5_ b6_ k0_ k1_ k2_ k3_ k4_ k5_ k6_ d1 d2 h0 n0 _ T_49.heap _
  rw [e_49]
  have f_52 := ((((((((E1.wr W_5).wr W_11).wr W_17).wr W_25).wr W_31).wr W_37).wr W_43).wr W_49)
  have f_53 := (((((((f_8.other W_11 (Or.inl n0_)).other W_17 (Or.inl n1_)).other W_25 (Or.inl n2_)).other W_31 (Or.inl n3_)).other W_37 (Or.inl n4_)).other W_43 (Or.inl n5_)).other W_49 (Or.inl n6_))
  have f_54 := ((((((f_14.other W_17 (Or.inl n1_)).other W_25 (Or.inl n2_)).other W_31 (Or.inl n3_)).other W_37 (Or.inl n4_)).other W_43 (Or.inl n5_)).other W_49 (Or.inl n6_))
  have f_55 := (((((f_20.other W_25 (Or.inl n2_)).other W_31 (Or.inl n3_)).other W_37 (Or.inl n4_)).other W_43 (Or.inl n5_)).other W_49 (Or.inl n6_))
  have f_56 := ((((f_28.other W_31 (Or.inl n3_)).other W_37 (Or.inl n4_)).other W_43 (Or.inl n5_)).other W_49 (Or.inl n6_))
  have f_57 := (((f_34.other W_37 (Or.inl n4_)).other W_43 (Or.inl n5_)).other W_49 (Or.inl n6_))
  have f_58 := ((f_40.other W_43 (Or.inl n5_)).other W_49 (Or.inl n6_))
  have f_59 := (f_46.other W_49 (Or.inl n6_))
  have f_60 := (((((((F_5.other W_11 (Or.inl n0_)).other W_17 (Or.inl n1_)).other W_25 (Or.inl n2_)).other W_31 (Or.inl n3_)).other W_37 (Or.inl n4_)).other W_43 (Or.inl n5_)).other W_49 (Or.inl n6_))
  have f_61 := ((((((V_11.other W_17 n7_).other W_25 n8_).other W_31 n9_).other W_37 n10_).other W_43 n11_).other W_49 n12_)
  have f_62 := (((((V_17.other W_25 n13_).other W_31 n14_).other W_37 n15_).other W_43 n16_).other W_49 n17_)
  have f_63 := ((((V_25.other W_31 n18_).other W_37 n19_).other W_43 n20_).other W_49 n21_)
  have f_64 := (((V_31.other W_37 n22_).other W_43 n23_).other W_49 n24_)
  have f_65 := ((V_37.other W_43 n25_).other W_49 n26_)
  have f_66 := (V_43.other W_49 n27_)
  exact ⟨rfl, N_49, K_51, f_52, f_53, f_54, f_55, f_56, f_57, f_58, f_59, f_60, f_61, f_62, f_63, f_64, f_65, f_66, V_49⟩
-- com/example/filigree/filigree/engine/DecisionTree.add:(II)I
theorem d_add31_0 : decode prog_11_method_2_code 0 = .ok (.aload_n 0, 1) := by decide +kernel
theorem d_add31_1 : decode prog_11_method_2_code 1 = .ok (.getfield 32, 3) := by decide +kernel
theorem d_add31_4 : decode prog_11_method_2_code 4 = .ok (.aload_n 0, 1) := by decide +kernel
theorem d_add31_5 : decode prog_11_method_2_code 5 = .ok (.getfield 7, 3) := by decide +kernel
theorem d_add31_8 : decode prog_11_method_2_code 8 = .ok (.arraylength, 1) := by decide +kernel
theorem d_add31_9 : decode prog_11_method_2_code 9 = .ok (.if_icmp .ne 94, 3) := by decide +kernel
theorem d_add31_103 : decode prog_11_method_2_code 103 = .ok (.aload_n 0, 1) := by decide +kernel
theorem d_add31_104 : decode prog_11_method_2_code 104 = .ok (.dup, 1) := by decide +kernel
theorem d_add31_105 : decode prog_11_method_2_code 105 = .ok (.getfield 32, 3) := by decide +kernel
theorem d_add31_108 : decode prog_11_method_2_code 108 = .ok (.dup_x1, 1) := by decide +kernel
theorem d_add31_109 : decode prog_11_method_2_code 109 = .ok (.iconst 1, 1) := by decide +kernel
theorem d_add31_110 : decode prog_11_method_2_code 110 = .ok (.iadd, 1) := by decide +kernel
theorem d_add31_111 : decode prog_11_method_2_code 111 = .ok (.putfield 32, 3) := by decide +kernel
theorem d_add31_114 : decode prog_11_method_2_code 114 = .ok (.istore_n 3, 1) := by decide +kernel
theorem d_add31_115 : decode prog_11_method_2_code 115 = .ok (.aload_n 0, 1) := by decide +kernel
theorem d_add31_116 : decode prog_11_method_2_code 116 = .ok (.getfield 7, 3) := by decide +kernel
theorem d_add31_119 : decode prog_11_method_2_code 119 = .ok (.iload_n 3, 1) := by decide +kernel
theorem d_add31_120 : decode prog_11_method_2_code 120 = .ok (.iload_n 1, 1) := by decide +kernel
theorem d_add31_121 : decode prog_11_method_2_code 121 = .ok (.iastore, 1) := by decide +kernel
theorem d_add31_122 : decode prog_11_method_2_code 122 = .ok (.aload_n 0, 1) := by decide +kernel
theorem d_add31_123 : decode prog_11_method_2_code 123 = .ok (.getfield 13, 3) := by decide +kernel
theorem d_add31_126 : decode prog_11_method_2_code 126 = .ok (.iload_n 3, 1) := by decide +kernel
theorem d_add31_127 : decode prog_11_method_2_code 127 = .ok (.iload_n 2, 1) := by decide +kernel
theorem d_add31_128 : decode prog_11_method_2_code 128 = .ok (.iastore, 1) := by decide +kernel
theorem d_add31_129 : decode prog_11_method_2_code 129 = .ok (.aload_n 0, 1) := by decide +kernel
theorem d_add31_130 : decode prog_11_method_2_code 130 = .ok (.getfield 16, 3) := by decide +kernel
theorem d_add31_133 : decode prog_11_method_2_code 133 = .ok (.iload_n 3, 1) := by decide +kernel
theorem d_add31_134 : decode prog_11_method_2_code 134 = .ok (.aload_n 0, 1) := by decide +kernel
theorem d_add31_135 : decode prog_11_method_2_code 135 = .ok (.getfield 16, 3) := by decide +kernel
theorem d_add31_138 : decode prog_11_method_2_code 138 = .ok (.iload_n 1, 1) := by decide +kernel
theorem d_add31_139 : decode prog_11_method_2_code 139 = .ok (.iaload, 1) := by decide +kernel
theorem d_add31_140 : decode prog_11_method_2_code 140 = .ok (.iconst 1, 1) := by decide +kernel
theorem d_add31_141 : decode prog_11_method_2_code 141 = .ok (.iadd, 1) := by decide +kernel
theorem d_add31_142 : decode prog_11_method_2_code 142 = .ok (.iastore, 1) := by decide +kernel
theorem d_add31_143 : decode prog_11_method_2_code 143 = .ok (.aload_n 0, 1) := by decide +kernel
theorem d_add31_144 : decode prog_11_method_2_code 144 = .ok (.getfield 19, 3) := by decide +kernel
theorem d_add31_147 : decode prog_11_method_2_code 147 = .ok (.iload_n 3, 1) := by decide +kernel
theorem d_add31_148 : decode prog_11_method_2_code 148 = .ok (.iconst (-1), 1) := by decide +kernel
theorem d_add31_149 : decode prog_11_method_2_code 149 = .ok (.iastore, 1) := by decide +kernel
theorem d_add31_150 : decode prog_11_method_2_code 150 = .ok (.aload_n 0, 1) := by decide +kernel
theorem d_add31_151 : decode prog_11_method_2_code 151 = .ok (.getfield 22, 3) := by decide +kernel
theorem d_add31_154 : decode prog_11_method_2_code 154 = .ok (.iload_n 3, 1) := by decide +kernel
theorem d_add31_155 : decode prog_11_method_2_code 155 = .ok (.iconst 0, 1) := by decide +kernel
theorem d_add31_156 : decode prog_11_method_2_code 156 = .ok (.iastore, 1) := by decide +kernel
theorem d_add31_157 : decode prog_11_method_2_code 157 = .ok (.aload_n 0, 1) := by decide +kernel
theorem d_add31_158 : decode prog_11_method_2_code 158 = .ok (.getfield 25, 3) := by decide +kernel
theorem d_add31_161 : decode prog_11_method_2_code 161 = .ok (.iload_n 3, 1) := by decide +kernel
theorem d_add31_162 : decode prog_11_method_2_code 162 = .ok (.iconst (-1), 1) := by decide +kernel
theorem d_add31_163 : decode prog_11_method_2_code 163 = .ok (.iastore, 1) := by decide +kernel
theorem d_add31_164 : decode prog_11_method_2_code 164 = .ok (.aload_n 0, 1) := by decide +kernel
theorem d_add31_165 : decode prog_11_method_2_code 165 = .ok (.getfield 28, 3) := by decide +kernel
theorem d_add31_168 : decode prog_11_method_2_code 168 = .ok (.iload_n 3, 1) := by decide +kernel
theorem d_add31_169 : decode prog_11_method_2_code 169 = .ok (.iconst 0, 1) := by decide +kernel
theorem d_add31_170 : decode prog_11_method_2_code 170 = .ok (.bastore, 1) := by decide +kernel
theorem d_add31_171 : decode prog_11_method_2_code 171 = .ok (.iload_n 3, 1) := by decide +kernel
theorem d_add31_172 : decode prog_11_method_2_code 172 = .ok (.ireturn, 1) := by decide +kernel
theorem pn_add31 : plainName "com/example/filigree/filigree/engine/DecisionTree" = true := by first | (simp [plainName, overriddenIn]; done) | decide +kernel
theorem ef_add31 (m : MethodId) (a1 : Addr) (p2 : Int32) (b0_ : Addr) (b1_ : Addr) (b2_ : Addr) (b3_ : Addr) (b4_ : Addr) (b5_ : Addr) (b6_ : Addr) (k0_ : ClassId) (k1_ : ClassId) (k2_ : ClassId) (k3_ : ClassId) (k4_ : ClassId) (k5_ : ClassId) (k6_ : ClassId) (d1 : Int32) (d2 : Int32) : entryFrame m #[(.ref a1), (.int (1 : Int32)), (.int p2)] 4 = mkF m 0 #[.val (.ref a1), .val (.int (1 : Int32)), .val (.int p2), .unset] [] := by first | (simp [entryFrame, mkF, argsToLocals, Value.category]; done) | rfl
def Q_add31 (Z : State) (a1 : Addr) (p2 : Int32) (b0_ : Addr) (b1_ : Addr) (b2_ : Addr) (b3_ : Addr) (b4_ : Addr) (b5_ : Addr) (b6_ : Addr) (k0_ : ClassId) (k1_ : ClassId) (k2_ : ClassId) (k3_ : ClassId) (k4_ : ClassId) (k5_ : ClassId) (k6_ : ClassId) (d1 : Int32) (d2 : Int32) (h0 : Heap) (n0 : Nat) (v : Option Value) (h : Heap) (L : List Loc) : Prop := v = some (.int (3 : Int32)) ∧ Fr n0 L ∧ Keep h0 h [a1, b0_, b1_, b2_, b3_, b4_, b5_, b6_] ∧ Exa Z h a1 "com/example/filigree/filigree/engine/DecisionTree" ∧ Fld Z h a1 "com/example/filigree/filigree/engine/DecisionTree" "m_aParent" "[I" (.ref b0_) ∧ Fld Z h a1 "com/example/filigree/filigree/engine/DecisionTree" "m_aDecision" "[I" (.ref b1_) ∧ Fld Z h a1 "com/example/filigree/filigree/engine/DecisionTree" "m_aDepth" "[I" (.ref b2_) ∧ Fld Z h a1 "com/example/filigree/filigree/engine/DecisionTree" "m_aFirstKept" "[I" (.ref b3_) ∧ Fld Z h a1 "com/example/filigree/filigree/engine/DecisionTree" "m_aKeptCount" "[I" (.ref b4_) ∧ Fld Z h a1 "com/example/filigree/filigree/engine/DecisionTree" "m_aNextKept" "[I" (.ref b5_) ∧ Fld Z h a1 "com/example/filigree/filigree/engine/DecisionTree" "m_aKept" "[Z" (.ref b6_) ∧ Fld Z h a1 "com/example/filigree/filigree/engine/DecisionTree" "m_nSize" "I" (.int (4 : Int32)) ∧ Arv Z h b0_ k0_ .int (64 : Int32) [(.int (-1 : Int32)), (.int (0 : Int32)), (.int (1 : Int32)), (.int (1 : Int32))] (.int (0 : Int32)) ∧ Arv Z h b1_ k1_ .int (64 : Int32) [(.int (0 : Int32)), (.int d1), (.int d2), (.int p2)] (.int (0 : Int32)) ∧ Arv Z h b2_ k2_ .int (64 : Int32) [(.int (0 : Int32)), (.int (1 : Int32)), (.int (2 : Int32)), (.int (2 : Int32))] (.int (0 : Int32)) ∧ Arv Z h b3_ k3_ .int (64 : Int32) [(.int (-1 : Int32)), (.int (-1 : Int32)), (.int (-1 : Int32)), (.int (-1 : Int32))] (.int (0 : Int32)) ∧ Arv Z h b4_ k4_ .int (64 : Int32) [(.int (0 : Int32)), (.int (0 : Int32)), (.int (0 : Int32)), (.int (0 : Int32))] (.int (0 : Int32)) ∧ Arv Z h b5_ k5_ .int (64 : Int32) [(.int (0 : Int32)), (.int (-1 : Int32)), (.int (-1 : Int32)), (.int (-1 : Int32))] (.int (0 : Int32)) ∧ Arv Z h b6_ k6_ .boolean (64 : Int32) [(.int (0 : Int32)), (.int (0 : Int32)), (.int (0 : Int32)), (.int (0 : Int32))] (.int (0 : Int32))
set_option maxRecDepth 65536 in
set_option maxHeartbeats 40000000 in
theorem rm_add31 (l : Launch) (Z : State) (a0 : Array Value) (hw : ∀ d ∈ tables_1, d.before a0 Z = true) (ws : List Jvm.Cond) (a1 : Addr) (p2 : Int32) (b0_ : Addr) (b1_ : Addr) (b2_ : Addr) (b3_ : Addr) (b4_ : Addr) (b5_ : Addr) (b6_ : Addr) (k0_ : ClassId) (k1_ : ClassId) (k2_ : ClassId) (k3_ : ClassId) (k4_ : ClassId) (k5_ : ClassId) (k6_ : ClassId) (d1 : Int32) (d2 : Int32) (h0 : Heap) (n0 : Nat) (Z0 : n0 ≤ h0.size) (E1 : Exa Z h0 a1 "com/example/filigree/filigree/engine/DecisionTree") (F0_ : Fld Z h0 a1 "com/example/filigree/filigree/engine/DecisionTree" "m_aParent" "[I" (.ref b0_)) (F1_ : Fld Z h0 a1 "com/example/filigree/filigree/engine/DecisionTree" "m_aDecision" "[I" (.ref b1_)) (F2_ : Fld Z h0 a1 "com/example/filigree/filigree/engine/DecisionTree" "m_aDepth" "[I" (.ref b2_)) (F3_ : Fld Z h0 a1 "com/example/filigree/filigree/engine/DecisionTree" "m_aFirstKept" "[I" (.ref b3_)) (F4_ : Fld Z h0 a1 "com/example/filigree/filigree/engine/DecisionTree" "m_aKeptCount" "[I" (.ref b4_)) (F5_ : Fld Z h0 a1 "com/example/filigree/filigree/engine/DecisionTree" "m_aNextKept" "[I" (.ref b5_)) (F6_ : Fld Z h0 a1 "com/example/filigree/filigree/engine/DecisionTree" "m_aKept" "[Z" (.ref b6_)) (F7_ : Fld Z h0 a1 "com/example/filigree/filigree/engine/DecisionTree" "m_nSize" "I" (.int (3 : Int32))) (V0_ : Arv Z h0 b0_ k0_ .int (64 : Int32) [(.int (-1 : Int32)), (.int (0 : Int32)), (.int (1 : Int32)), (.int (0 : Int32))] (.int (0 : Int32))) (V1_ : Arv Z h0 b1_ k1_ .int (64 : Int32) [(.int (0 : Int32)), (.int d1), (.int d2), (.int (0 : Int32))] (.int (0 : Int32))) (V2_ : Arv Z h0 b2_ k2_ .int (64 : Int32) [(.int (0 : Int32)), (.int (1 : Int32)), (.int (2 : Int32)), (.int (0 : Int32))] (.int (0 : Int32))) (V3_ : Arv Z h0 b3_ k3_ .int (64 : Int32) [(.int (-1 : Int32)), (.int (-1 : Int32)), (.int (-1 : Int32)), (.int (0 : Int32))] (.int (0 : Int32))) (V4_ : Arv Z h0 b4_ k4_ .int (64 : Int32) [(.int (0 : Int32)), (.int (0 : Int32)), (.int (0 : Int32)), (.int (0 : Int32))] (.int (0 : Int32))) (V5_ : Arv Z h0 b5_ k5_ .int (64 : Int32) [(.int (0 : Int32)), (.int (-1 : Int32)), (.int (-1 : Int32)), (.int (0 : Int32))] (.int (0 : Int32))) (V6_ : Arv Z h0 b6_ k6_ .boolean (64 : Int32) [(.int (0 : Int32)), (.int (0 : Int32)), (.int (0 : Int32)), (.int (0 : Int32))] (.int (0 : Int32))) (g1 : n0 ≤ a1) (gb0 : n0 ≤ b0_) (gb1 : n0 ≤ b1_) (gb2 : n0 ≤ b2_) (gb3 : n0 ≤ b3_) (gb4 : n0 ≤ b4_) (gb5 : n0 ≤ b5_) (gb6 : n0 ≤ b6_) (n0_ : a1 ≠ b0_) (n1_ : a1 ≠ b1_) (n2_ : a1 ≠ b2_) (n3_ : a1 ≠ b3_) (n4_ : a1 ≠ b4_) (n5_ : a1 ≠ b5_) (n6_ : a1 ≠ b6_) (n7_ : b0_ ≠ b1_) (n8_ : b0_ ≠ b2_) (n9_ : b0_ ≠ b3_) (n10_ : b0_ ≠ b4_) (n11_ : b0_ ≠ b5_) (n12_ : b0_ ≠ b6_) (n13_ : b1_ ≠ b2_) (n14_ : b1_ ≠ b3_) (n15_ : b1_ ≠ b4_) (n16_ : b1_ ≠ b5_) (n17_ : b1_ ≠ b6_) (n18_ : b2_ ≠ b3_) (n19_ : b2_ ≠ b4_) (n20_ : b2_ ≠ b5_) (n21_ : b2_ ≠ b6_) (n22_ : b3_ ≠ b4_) (n23_ : b3_ ≠ b5_) (n24_ : b3_ ≠ b6_) (n25_ : b4_ ≠ b5_) (n26_ : b4_ ≠ b6_) (n27_ : b5_ ≠ b6_) :
    MetFree l (⟨"com/example/filigree/filigree/engine/DecisionTree", "add", "(II)I"⟩ : MethodName) (head1 (Jvm.Cond.code (⟨"com/example/filigree/filigree/engine/DecisionTree", "add", "(II)I"⟩ : MethodName) prog_11_method_2_code 4 (some .int) :: ws) ({ frames := 0, cells := 0, slots := 0, locals := 0 } : Room)) (fun a U => a = #[(.ref a1), (.int (1 : Int32)), (.int p2)] ∧ Z.Warmed39 U.vm ∧ U.heap = h0) (fun _ _ _ _ _ => True) (fun _ U o U' => ∃ v L, o = .returned v ∧ Q_add31 Z a1 p2 b0_ b1_ b2_ b3_ b4_ b5_ b6_ k0_ k1_ k2_ k3_ k4_ k5_ k6_ d1 d2 h0 n0 v U'.heap L ∧ FrameEnd U o U' L ({ frames := 0, cells := 0, slots := 0, locals := 0 } : Room).cells ({ frames := 0, cells := 0, slots := 0, locals := 0 } : Room).slots) := by
  refine MetFree.of_bodySF (plainFor_of_name pn_add31) hisR ?_
  intro p e s m args below meth c s₁ Bd hml0 hP hK
  obtain ⟨rfl, hZ, hh⟩ := hP
  have hx := Bd.exec
  have hby := Bd.bytes
  have hml : c.maxLocals = 4 := hml0
  have hown : s.vm.findClass "com/example/filigree/filigree/engine/DecisionTree" = some m.cls := findClass_of_methodNamed Bd.named
  have hnm := (name_of_methodNamed Bd.named Bd.method).1
  have X0 : Stand p l e ({ frames := 0, cells := 0, slots := 0, locals := 0 } : Room) s m #[(.ref a1), (.int (1 : Int32)), (.int p2)] below meth c s₁ [] 0 0 := Stand.of_body Bd
  have e0 : s₁.heap = h0 := by rw [← hh, Bd.state]; rfl
  have N0 := Fr.nil n0
  refine own_in ?_
  refine own_go (S' := s₁.setTop (mkF m 0 #[.val (.ref a1), .val (.int (1 : Int32)), .val (.int p2), .unset] [])) (fun tgt_ stp_ => castTop (ef_add31 m a1 p2 b0_ b1_ b2_ b3_ b4_ b5_ b6_ k0_ k1_ k2_ k3_ k4_ k5_ k6_ d1 d2) stp_) ?_
  have K0 : Keep h0 h0 [a1, b0_, b1_, b2_, b3_, b4_, b5_, b6_] := Keep.refl h0 _
  obtain ⟨T_1, X_1, e_1, st_1⟩ := getF X0 hx hZ hown (host := "") (Or.inl (hw _ (List.mem_of_getElem? (i := 25) rfl))) Via.refl e0 F7_ (g := (mkF m 1 #[.val (.ref a1), .val (.int (1 : Int32)), .val (.int p2), .unset] [(.ref a1)])) rfl rfl (hb hby d_add31_1)
  obtain ⟨T_2, X_2, e_2, st_2⟩ := getF X_1 hx hZ hown (host := "") (Or.inl (hw _ (List.mem_of_getElem? (i := 10) rfl))) Via.refl e_1 F0_ (g := (mkF m 5 #[.val (.ref a1), .val (.int (1 : Int32)), .val (.int p2), .unset] [(.ref a1), (.int (3 : Int32))])) rfl rfl (hb hby d_add31_5)
  obtain ⟨c_3, Ar_3, -, S_3, M_3, -, -⟩ := id V0_
  obtain ⟨T_4, X_4, e_4, st_4⟩ := getF X_2 hx hZ hown (host := "") (Or.inl (hw _ (List.mem_of_getElem? (i := 25) rfl))) Via.refl e_2 F7_ (g := (mkF m 105 #[.val (.ref a1), .val (.int (1 : Int32)), .val (.int p2), .unset] [(.ref a1), (.ref a1)])) rfl rfl (hb hby d_add31_105)
  obtain ⟨T_5, h_5, X_5, e_5, W_5, st_5⟩ := putF X_4 hx hZ hown (host := "") (Or.inl (hw _ (List.mem_of_getElem? (i := 25) rfl))) Via.refl e_4 F7_ E1 (Or.inl (hw _ (List.mem_of_getElem? (i := 26) rfl))) (hw _ (List.mem_of_getElem? (i := 1) rfl)) (ty := .int) (by decide) rfl rfl (g := (mkF m 111 #[.val (.ref a1), .val (.int (1 : Int32)), .val (.int p2), .unset] [(.int (4 : Int32)), (.ref a1), (.int (3 : Int32))])) rfl rfl (hb hby d_add31_111)
  obtain ⟨Lg_5, XG_5, N_5⟩ := own_gen X_5 (Fr.snoc X_5 N0 g1)
  have F_5 := F7_.same W_5
  have Z_6 : n0 ≤ h_5.size := Nat.le_trans Z0 (Keep.of_wr W_5).1
  have K_7 : Keep h0 h_5 [a1, b0_, b1_, b2_, b3_, b4_, b5_, b6_] := K0.wr W_5 (Or.inl (List.mem_of_getElem? (i := 0) rfl))
  have f_8 := (F0_.other W_5 (Or.inr (slot_ne (Or.inl (hw _ (List.mem_of_getElem? (i := 11) rfl))) (Or.inl (hw _ (List.mem_of_getElem? (i := 26) rfl))) (by decide) (t := (.array .int)) (t' := .int) (by decide) (by decide))))
  obtain ⟨T_9, X_9, e_9, st_9⟩ := getF XG_5 hx hZ hown (host := "") (Or.inl (hw _ (List.mem_of_getElem? (i := 10) rfl))) Via.refl e_5 f_8 (g := (mkF m 116 #[.val (.ref a1), .val (.int (1 : Int32)), .val (.int p2), .val (.int (3 : Int32))] [(.ref a1)])) rfl rfl (hb hby d_add31_116)
  have f_10 := (V0_.other W_5 (Ne.symm n0_))
  obtain ⟨c_11, Ar_11, q_11, S_11, M_11, Hs_11, G_11⟩ := id f_10
  have hin_11 : ¬ ((3 : Int32) < 0 ∨ c_11.slots.size ≤ ((3 : Int32)).toNatClampNeg) := inb_of S_11 ⟨by decide, by decide⟩
  obtain ⟨T_11, h_11, X_11, e_11, W_11, st_11⟩ := stI X_9 hx hZ e_9 Ar_11 (j := (3 : Int32)) hin_11 (g := (mkF m 121 #[.val (.ref a1), .val (.int (1 : Int32)), .val (.int p2), .val (.int (3 : Int32))] [(.int (1 : Int32)), (.int (3 : Int32)), (.ref b0_)])) rfl rfl (hb hby d_add31_121)
  obtain ⟨Lg_11, XG_11, N_11⟩ := own_gen X_11 (Fr.snoc X_11 N_5 gb0)
  have V_11 : Arv Z h_11 b0_ k0_ .int (64 : Int32) [(.int (-1 : Int32)), (.int (0 : Int32)), (.int (1 : Int32)), (.int (1 : Int32))] (.int (0 : Int32)) := Arv.set Ar_11 q_11 S_11 M_11 Hs_11 G_11 rfl W_11 3 rfl (Nat.le_of_ble_eq_true rfl)
  have Z_12 : n0 ≤ h_11.size := Nat.le_trans Z_6 (Keep.of_wr W_11).1
  have K_13 : Keep h0 h_11 [a1, b0_, b1_, b2_, b3_, b4_, b5_, b6_] := K_7.wr W_11 (Or.inl (List.mem_of_getElem? (i := 1) rfl))
  have f_14 := ((F1_.other W_5 (Or.inr (slot_ne (Or.inl (hw _ (List.mem_of_getElem? (i := 13) rfl))) (Or.inl (hw _ (List.mem_of_getElem? (i := 26) rfl))) (by decide) (t := (.array .int)) (t' := .int) (by decide) (by decide)))).other W_11 (Or.inl n0_))
  obtain ⟨T_15, X_15, e_15, st_15⟩ := getF XG_11 hx hZ hown (host := "") (Or.inl (hw _ (List.mem_of_getElem? (i := 12) rfl))) Via.refl e_11 f_14 (g := (mkF m 123 #[.val (.ref a1), .val (.int (1 : Int32)), .val (.int p2), .val (.int (3 : Int32))] [(.ref a1)])) rfl rfl (hb hby d_add31_123)
  have f_16 := ((V1_.other W_5 (Ne.symm n1_)).other W_11 (Ne.symm n7_))
  obtain ⟨c_17, Ar_17, q_17, S_17, M_17, Hs_17, G_17⟩ := id f_16
  have hin_17 : ¬ ((3 : Int32) < 0 ∨ c_17.slots.size ≤ ((3 : Int32)).toNatClampNeg) := inb_of S_17 ⟨by decide, by decide⟩
  obtain ⟨T_17, h_17, X_17, e_17, W_17, st_17⟩ := stI X_15 hx hZ e_15 Ar_17 (j := (3 : Int32)) hin_17 (g := (mkF m 128 #[.val (.ref a1), .val (.int (1 : Int32)), .val (.int p2), .val (.int (3 : Int32))] [(.int p2), (.int (3 : Int32)), (.ref b1_)])) rfl rfl (hb hby d_add31_128)
  obtain ⟨Lg_17, XG_17, N_17⟩ := own_gen X_17 (Fr.snoc X_17 N_11 gb1)
  have V_17 : Arv Z h_17 b1_ k1_ .int (64 : Int32) [(.int (0 : Int32)), (.int d1), (.int d2), (.int p2)] (.int (0 : Int32)) := Arv.set Ar_17 q_17 S_17 M_17 Hs_17 G_17 rfl W_17 3 rfl (Nat.le_of_ble_eq_true rfl)
  have Z_18 : n0 ≤ h_17.size := Nat.le_trans Z_12 (Keep.of_wr W_17).1
  have K_19 : Keep h0 h_17 [a1, b0_, b1_, b2_, b3_, b4_, b5_, b6_] := K_13.wr W_17 (Or.inl (List.mem_of_getElem? (i := 2) rfl))
  have f_20 := (((F2_.other W_5 (Or.inr (slot_ne (Or.inl (hw _ (List.mem_of_getElem? (i := 15) rfl))) (Or.inl (hw _ (List.mem_of_getElem? (i := 26) rfl))) (by decide) (t := (.array .int)) (t' := .int) (by decide) (by decide)))).other W_11 (Or.inl n0_)).other W_17 (Or.inl n1_))
  obtain ⟨T_21, X_21, e_21, st_21⟩ := getF XG_17 hx hZ hown (host := "") (Or.inl (hw _ (List.mem_of_getElem? (i := 14) rfl))) Via.refl e_17 f_20 (g := (mkF m 130 #[.val (.ref a1), .val (.int (1 : Int32)), .val (.int p2), .val (.int (3 : Int32))] [(.ref a1)])) rfl rfl (hb hby d_add31_130)
  obtain ⟨T_22, X_22, e_22, st_22⟩ := getF X_21 hx hZ hown (host := "") (Or.inl (hw _ (List.mem_of_getElem? (i := 14) rfl))) Via.refl e_21 f_20 (g := (mkF m 135 #[.val (.ref a1), .val (.int (1 : Int32)), .val (.int p2), .val (.int (3 : Int32))] [(.ref a1), (.int (3 : Int32)), (.ref b2_)])) rfl rfl (hb hby d_add31_135)
  have f_23 := (((V2_.other W_5 (Ne.symm n2_)).other W_11 (Ne.symm n8_)).other W_17 (Ne.symm n13_))
  obtain ⟨c_24, Ar_24, q_24, S_24, M_24, Hs_24, G_24⟩ := id f_23
  have hin_24 : ¬ ((1 : Int32) < 0 ∨ c_24.slots.size ≤ ((1 : Int32)).toNatClampNeg) := inb_of S_24 ⟨by decide, by decide⟩
  have hat_24 : c_24.slots[((1 : Int32)).toNatClampNeg]? = some (.int (1 : Int32)) := Hs_24.at hin_24 rfl
  obtain ⟨c_25, Ar_25, q_25, S_25, M_25, Hs_25, G_25⟩ := id f_23
  have hin_25 : ¬ ((3 : Int32) < 0 ∨ c_25.slots.size ≤ ((3 : Int32)).toNatClampNeg) := inb_of S_25 ⟨by decide, by decide⟩
  obtain ⟨T_25, h_25, X_25, e_25, W_25, st_25⟩ := stI X_22 hx hZ e_22 Ar_25 (j := (3 : Int32)) hin_25 (g := (mkF m 142 #[.val (.ref a1), .val (.int (1 : Int32)), .val (.int p2), .val (.int (3 : Int32))] [(.int (2 : Int32)), (.int (3 : Int32)), (.ref b2_)])) rfl rfl (hb hby d_add31_142)
  obtain ⟨Lg_25, XG_25, N_25⟩ := own_gen X_25 (Fr.snoc X_25 N_17 gb2)
  have V_25 : Arv Z h_25 b2_ k2_ .int (64 : Int32) [(.int (0 : Int32)), (.int (1 : Int32)), (.int (2 : Int32)), (.int (2 : Int32))] (.int (0 : Int32)) := Arv.set Ar_25 q_25 S_25 M_25 Hs_25 G_25 rfl W_25 3 rfl (Nat.le_of_ble_eq_true rfl)
  have Z_26 : n0 ≤ h_25.size := Nat.le_trans Z_18 (Keep.of_wr W_25).1
  have K_27 : Keep h0 h_25 [a1, b0_, b1_, b2_, b3_, b4_, b5_, b6_] := K_19.wr W_25 (Or.inl (List.mem_of_getElem? (i := 3) rfl))
  have f_28 := ((((F3_.other W_5 (Or.inr (slot_ne (Or.inl (hw _ (List.mem_of_getElem? (i := 17) rfl))) (Or.inl (hw _ (List.mem_of_getElem? (i := 26) rfl))) (by decide) (t := (.array .int)) (t' := .int) (by decide) (by decide)))).other W_11 (Or.inl n0_)).other W_17 (Or.inl n1_)).other W_25 (Or.inl n2_))
  obtain ⟨T_29, X_29, e_29, st_29⟩ := getF XG_25 hx hZ hown (host := "") (Or.inl (hw _ (List.mem_of_getElem? (i := 16) rfl))) Via.refl e_25 f_28 (g := (mkF m 144 #[.val (.ref a1), .val (.int (1 : Int32)), .val (.int p2), .val (.int (3 : Int32))] [(.ref a1)])) rfl rfl (hb hby d_add31_144)
  have f_30 := ((((V3_.other W_5 (Ne.symm n3_)).other W_11 (Ne.symm n9_)).other W_17 (Ne.symm n14_)).other W_25 (Ne.symm n18_))
  obtain ⟨c_31, Ar_31, q_31, S_31, M_31, Hs_31, G_31⟩ := id f_30
  have hin_31 : ¬ ((3 : Int32) < 0 ∨ c_31.slots.size ≤ ((3 : Int32)).toNatClampNeg) := inb_of S_31 ⟨by decide, by decide⟩
  obtain ⟨T_31, h_31, X_31, e_31, W_31, st_31⟩ := stI X_29 hx hZ e_29 Ar_31 (j := (3 : Int32)) hin_31 (g := (mkF m 149 #[.val (.ref a1), .val (.int (1 : Int32)), .val (.int p2), .val (.int (3 : Int32))] [(.int (-1 : Int32)), (.int (3 : Int32)), (.ref b3_)])) rfl rfl (hb hby d_add31_149)
  obtain ⟨Lg_31, XG_31, N_31⟩ := own_gen X_31 (Fr.snoc X_31 N_25 gb3)
  have V_31 : Arv Z h_31 b3_ k3_ .int (64 : Int32) [(.int (-1 : Int32)), (.int (-1 : Int32)), (.int (-1 : Int32)), (.int (-1 : Int32))] (.int (0 : Int32)) := Arv.set Ar_31 q_31 S_31 M_31 Hs_31 G_31 rfl W_31 3 rfl (Nat.le_of_ble_eq_true rfl)
  have Z_32 : n0 ≤ h_31.size := Nat.le_trans Z_26 (Keep.of_wr W_31).1
  have K_33 : Keep h0 h_31 [a1, b0_, b1_, b2_, b3_, b4_, b5_, b6_] := K_27.wr W_31 (Or.inl (List.mem_of_getElem? (i := 4) rfl))
  have f_34 := (((((F4_.other W_5 (Or.inr (slot_ne (Or.inl (hw _ (List.mem_of_getElem? (i := 19) rfl))) (Or.inl (hw _ (List.mem_of_getElem? (i := 26) rfl))) (by decide) (t := (.array .int)) (t' := .int) (by decide) (by decide)))).other W_11 (Or.inl n0_)).other W_17 (Or.inl n1_)).other W_25 (Or.inl n2_)).other W_31 (Or.inl n3_))
  obtain ⟨T_35, X_35, e_35, st_35⟩ := getF XG_31 hx hZ hown (host := "") (Or.inl (hw _ (List.mem_of_getElem? (i := 18) rfl))) Via.refl e_31 f_34 (g := (mkF m 151 #[.val (.ref a1), .val (.int (1 : Int32)), .val (.int p2), .val (.int (3 : Int32))] [(.ref a1)])) rfl rfl (hb hby d_add31_151)
  have f_36 := (((((V4_.other W_5 (Ne.symm n4_)).other W_11 (Ne.symm n10_)).other W_17 (Ne.symm n15_)).other W_25 (Ne.symm n19_)).other W_31 (Ne.symm n22_))
  obtain ⟨c_37, Ar_37, q_37, S_37, M_37, Hs_37, G_37⟩ := id f_36
  have hin_37 : ¬ ((3 : Int32) < 0 ∨ c_37.slots.size ≤ ((3 : Int32)).toNatClampNeg) := inb_of S_37 ⟨by decide, by decide⟩
  obtain ⟨T_37, h_37, X_37, e_37, W_37, st_37⟩ := stI X_35 hx hZ e_35 Ar_37 (j := (3 : Int32)) hin_37 (g := (mkF m 156 #[.val (.ref a1), .val (.int (1 : Int32)), .val (.int p2), .val (.int (3 : Int32))] [(.int (0 : Int32)), (.int (3 : Int32)), (.ref b4_)])) rfl rfl (hb hby d_add31_156)
  obtain ⟨Lg_37, XG_37, N_37⟩ := own_gen X_37 (Fr.snoc X_37 N_31 gb4)
  have V_37 : Arv Z h_37 b4_ k4_ .int (64 : Int32) [(.int (0 : Int32)), (.int (0 : Int32)), (.int (0 : Int32)), (.int (0 : Int32))] (.int (0 : Int32)) := Arv.set Ar_37 q_37 S_37 M_37 Hs_37 G_37 rfl W_37 3 rfl (Nat.le_of_ble_eq_true rfl)
  have Z_38 : n0 ≤ h_37.size := Nat.le_trans Z_32 (Keep.of_wr W_37).1
  have K_39 : Keep h0 h_37 [a1, b0_, b1_, b2_, b3_, b4_, b5_, b6_] := K_33.wr W_37 (Or.inl (List.mem_of_getElem? (i := 5) rfl))
  have f_40 := ((((((F5_.other W_5 (Or.inr (slot_ne (Or.inl (hw _ (List.mem_of_getElem? (i := 21) rfl))) (Or.inl (hw _ (List.mem_of_getElem? (i := 26) rfl))) (by decide) (t := (.array .int)) (t' := .int) (by decide) (by decide)))).other W_11 (Or.inl n0_)).other W_17 (Or.inl n1_)).other W_25 (Or.inl n2_)).other W_31 (Or.inl n3_)).other W_37 (Or.inl n4_))
  obtain ⟨T_41, X_41, e_41, st_41⟩ := getF XG_37 hx hZ hown (host := "") (Or.inl (hw _ (List.mem_of_getElem? (i := 20) rfl))) Via.refl e_37 f_40 (g := (mkF m 158 #[.val (.ref a1), .val (.int (1 : Int32)), .val (.int p2), .val (.int (3 : Int32))] [(.ref a1)])) rfl rfl (hb hby d_add31_158)
  have f_42 := ((((((V5_.other W_5 (Ne.symm n5_)).other W_11 (Ne.symm n11_)).other W_17 (Ne.symm n16_)).other W_25 (Ne.symm n20_)).other W_31 (Ne.symm n23_)).other W_37 (Ne.symm n25_))
  obtain ⟨c_43, Ar_43, q_43, S_43, M_43, Hs_43, G_43⟩ := id f_42
  have hin_43 : ¬ ((3 : Int32) < 0 ∨ c_43.slots.size ≤ ((3 : Int32)).toNatClampNeg) := inb_of S_43 ⟨by decide, by decide⟩
  obtain ⟨T_43, h_43, X_43, e_43, W_43, st_43⟩ := stI X_41 hx hZ e_41 Ar_43 (j := (3 : Int32)) hin_43 (g := (mkF m 163 #[.val (.ref a1), .val (.int (1 : Int32)), .val (.int p2), .val (.int (3 : Int32))] [(.int (-1 : Int32)), (.int (3 : Int32)), (.ref b5_)])) rfl rfl (hb hby d_add31_163)
  obtain ⟨Lg_43, XG_43, N_43⟩ := own_gen X_43 (Fr.snoc X_43 N_37 gb5)
  have V_43 : Arv Z h_43 b5_ k5_ .int (64 : Int32) [(.int (0 : Int32)), (.int (-1 : Int32)), (.int (-1 : Int32)), (.int (-1 : Int32))] (.int (0 : Int32)) := Arv.set Ar_43 q_43 S_43 M_43 Hs_43 G_43 rfl W_43 3 rfl (Nat.le_of_ble_eq_true rfl)
  have Z_44 : n0 ≤ h_43.size := Nat.le_trans Z_38 (Keep.of_wr W_43).1
  have K_45 : Keep h0 h_43 [a1, b0_, b1_, b2_, b3_, b4_, b5_, b6_] := K_39.wr W_43 (Or.inl (List.mem_of_getElem? (i := 6) rfl))
  have f_46 := (((((((F6_.other W_5 (Or.inr (slot_ne (Or.inl (hw _ (List.mem_of_getElem? (i := 24) rfl))) (Or.inl (hw _ (List.mem_of_getElem? (i := 26) rfl))) (by decide) (t := (.array .boolean)) (t' := .int) (by decide) (by decide)))).other W_11 (Or.inl n0_)).other W_17 (Or.inl n1_)).other W_25 (Or.inl n2_)).other W_31 (Or.inl n3_)).other W_37 (Or.inl n4_)).other W_43 (Or.inl n5_))
  obtain ⟨T_47, X_47, e_47, st_47⟩ := getF XG_43 hx hZ hown (host := "") (Or.inl (hw _ (List.mem_of_getElem? (i := 23) rfl))) Via.refl e_43 f_46 (g := (mkF m 165 #[.val (.ref a1), .val (.int (1 : Int32)), .val (.int p2), .val (.int (3 : Int32))] [(.ref a1)])) rfl rfl (hb hby d_add31_165)
  have f_48 := (((((((V6_.other W_5 (Ne.symm n6_)).other W_11 (Ne.symm n12_)).other W_17 (Ne.symm n17_)).other W_25 (Ne.symm n21_)).other W_31 (Ne.symm n24_)).other W_37 (Ne.symm n26_)).other W_43 (Ne.symm n27_))
  obtain ⟨c_49, Ar_49, q_49, S_49, M_49, Hs_49, G_49⟩ := id f_48
  have hin_49 : ¬ ((3 : Int32) < 0 ∨ c_49.slots.size ≤ ((3 : Int32)).toNatClampNeg) := inb_of S_49 ⟨by decide, by decide⟩
  obtain ⟨T_49, h_49, X_49, e_49, W_49, st_49⟩ := stZ X_47 hx hZ e_47 Ar_49 (j := (3 : Int32)) hin_49 (g := (mkF m 170 #[.val (.ref a1), .val (.int (1 : Int32)), .val (.int p2), .val (.int (3 : Int32))] [(.int (0 : Int32)), (.int (3 : Int32)), (.ref b6_)])) rfl rfl (hb hby d_add31_170)
  obtain ⟨Lg_49, XG_49, N_49⟩ := own_gen X_49 (Fr.snoc X_49 N_43 gb6)
  have V_49 : Arv Z h_49 b6_ k6_ .boolean (64 : Int32) [(.int (0 : Int32)), (.int (0 : Int32)), (.int (0 : Int32)), (.int (nar .boolean (0 : Int32)))] (.int (0 : Int32)) := Arv.set Ar_49 q_49 S_49 M_49 Hs_49 G_49 (fits_nar_bool _) W_49 3 rfl (Nat.le_of_ble_eq_true rfl)
  have Z_50 : n0 ≤ h_49.size := Nat.le_trans Z_44 (Keep.of_wr W_49).1
  have K_51 : Keep h0 h_49 [a1, b0_, b1_, b2_, b3_, b4_, b5_, b6_] := K_45.wr W_49 (Or.inl (List.mem_of_getElem? (i := 7) rfl))
  refine own_go (S' := T_49.setTop (mkF m 172 #[.val (.ref a1), .val (.int (1 : Int32)), .val (.int p2), .val (.int (3 : Int32))] [(.int (3 : Int32))])) (fun target kt => ?_) ?_
  · show Steps p.tables e below (s₁.setTop (mkF m 0 #[.val (.ref a1), .val (.int (1 : Int32)), .val (.int p2), .unset] [])) target
    refine XS.aloadN X0.here hx rfl (hb hby d_add31_0) rfl rfl ?_
    show Steps p.tables e below (s₁.setTop (mkF m 1 #[.val (.ref a1), .val (.int (1 : Int32)), .val (.int p2), .unset] [(.ref a1)])) target
    refine st_1 _ ?_
    show Steps p.tables e below (T_1.setTop (mkF m 4 #[.val (.ref a1), .val (.int (1 : Int32)), .val (.int p2), .unset] [(.int (3 : Int32))])) target
    refine XS.aloadN X_1.here hx rfl (hb hby d_add31_4) rfl rfl ?_
    show Steps p.tables e below (T_1.setTop (mkF m 5 #[.val (.ref a1), .val (.int (1 : Int32)), .val (.int p2), .unset] [(.ref a1), (.int (3 : Int32))])) target
    refine st_2 _ ?_
    show Steps p.tables e below (T_2.setTop (mkF m 8 #[.val (.ref a1), .val (.int (1 : Int32)), .val (.int p2), .unset] [(.ref b0_), (.int (3 : Int32))])) target
    refine X_2.arraylength hx (by rw [e_2]; exact Ar_3.1) (State.isArrayOf_alike hZ.alike Ar_3.2.1) (g := (mkF m 8 #[.val (.ref a1), .val (.int (1 : Int32)), .val (.int p2), .unset] [(.ref b0_), (.int (3 : Int32))])) rfl rfl (hb hby d_add31_8) _ ?_
    rw [len_of S_3 M_3]
    show Steps p.tables e below (T_2.setTop (mkF m 9 #[.val (.ref a1), .val (.int (1 : Int32)), .val (.int p2), .unset] [(.int (64 : Int32)), (.int (3 : Int32))])) target
    refine XS.icmpYes X_2.here hx rfl (pc0 := 9) (pc' := 103) rfl (hb hby d_add31_9) rfl (feq (by decide : ¬ ((3 : Int32) = (64 : Int32)))).2 (by decide) (by decide) ?_
    show Steps p.tables e below (T_2.setTop (mkF m 103 #[.val (.ref a1), .val (.int (1 : Int32)), .val (.int p2), .unset] [])) target
    refine XS.aloadN X_2.here hx rfl (hb hby d_add31_103) rfl rfl ?_
    show Steps p.tables e below (T_2.setTop (mkF m 104 #[.val (.ref a1), .val (.int (1 : Int32)), .val (.int p2), .unset] [(.ref a1)])) target
    refine XS.dup X_2.here hx rfl (hb hby d_add31_104) rfl rfl ?_
    show Steps p.tables e below (T_2.setTop (mkF m 105 #[.val (.ref a1), .val (.int (1 : Int32)), .val (.int p2), .unset] [(.ref a1), (.ref a1)])) target
    refine st_4 _ ?_
    show Steps p.tables e below (T_4.setTop (mkF m 108 #[.val (.ref a1), .val (.int (1 : Int32)), .val (.int p2), .unset] [(.int (3 : Int32)), (.ref a1)])) target
    refine XS.dupX1 X_4.here hx rfl (hb hby d_add31_108) rfl rfl rfl ?_
    show Steps p.tables e below (T_4.setTop (mkF m 109 #[.val (.ref a1), .val (.int (1 : Int32)), .val (.int p2), .unset] [(.int (3 : Int32)), (.ref a1), (.int (3 : Int32))])) target
    refine XS.iconst X_4.here hx rfl (hb hby d_add31_109) ?_
    show Steps p.tables e below (T_4.setTop (mkF m 110 #[.val (.ref a1), .val (.int (1 : Int32)), .val (.int p2), .unset] [(.int (1 : Int32)), (.int (3 : Int32)), (.ref a1), (.int (3 : Int32))])) target
    refine XS.iadd X_4.here hx rfl (hb hby d_add31_110) rfl ?_
    show Steps p.tables e below (T_4.setTop (mkF m 111 #[.val (.ref a1), .val (.int (1 : Int32)), .val (.int p2), .unset] [(.int ((3 : Int32) + (1 : Int32))), (.ref a1), (.int (3 : Int32))])) target
    rw [show (3 : Int32) + (1 : Int32) = (4 : Int32) from by decide]
    show Steps p.tables e below (T_4.setTop (mkF m 111 #[.val (.ref a1), .val (.int (1 : Int32)), .val (.int p2), .unset] [(.int (4 : Int32)), (.ref a1), (.int (3 : Int32))])) target
    refine st_5 _ ?_
    show Steps p.tables e below (T_5.setTop (mkF m 114 #[.val (.ref a1), .val (.int (1 : Int32)), .val (.int p2), .unset] [(.int (3 : Int32))])) target
    refine XS.istoreN XG_5.here hx rfl (hb hby d_add31_114) rfl (l' := #[.val (.ref a1), .val (.int (1 : Int32)), .val (.int p2), .val (.int (3 : Int32))]) rfl ?_
    show Steps p.tables e below (T_5.setTop (mkF m 115 #[.val (.ref a1), .val (.int (1 : Int32)), .val (.int p2), .val (.int (3 : Int32))] [])) target
    refine XS.aloadN XG_5.here hx rfl (hb hby d_add31_115) rfl rfl ?_
    show Steps p.tables e below (T_5.setTop (mkF m 116 #[.val (.ref a1), .val (.int (1 : Int32)), .val (.int p2), .val (.int (3 : Int32))] [(.ref a1)])) target
    refine st_9 _ ?_
    show Steps p.tables e below (T_9.setTop (mkF m 119 #[.val (.ref a1), .val (.int (1 : Int32)), .val (.int p2), .val (.int (3 : Int32))] [(.ref b0_)])) target
    refine XS.iloadN X_9.here hx rfl (hb hby d_add31_119) rfl ?_
    show Steps p.tables e below (T_9.setTop (mkF m 120 #[.val (.ref a1), .val (.int (1 : Int32)), .val (.int p2), .val (.int (3 : Int32))] [(.int (3 : Int32)), (.ref b0_)])) target
    refine XS.iloadN X_9.here hx rfl (hb hby d_add31_120) rfl ?_
    show Steps p.tables e below (T_9.setTop (mkF m 121 #[.val (.ref a1), .val (.int (1 : Int32)), .val (.int p2), .val (.int (3 : Int32))] [(.int (1 : Int32)), (.int (3 : Int32)), (.ref b0_)])) target
    refine st_11 _ ?_
    show Steps p.tables e below (T_11.setTop (mkF m 122 #[.val (.ref a1), .val (.int (1 : Int32)), .val (.int p2), .val (.int (3 : Int32))] [])) target
    refine XS.aloadN XG_11.here hx rfl (hb hby d_add31_122) rfl rfl ?_
    show Steps p.tables e below (T_11.setTop (mkF m 123 #[.val (.ref a1), .val (.int (1 : Int32)), .val (.int p2), .val (.int (3 : Int32))] [(.ref a1)])) target
    refine st_15 _ ?_
    show Steps p.tables e below (T_15.setTop (mkF m 126 #[.val (.ref a1), .val (.int (1 : Int32)), .val (.int p2), .val (.int (3 : Int32))] [(.ref b1_)])) target
    refine XS.iloadN X_15.here hx rfl (hb hby d_add31_126) rfl ?_
    show Steps p.tables e below (T_15.setTop (mkF m 127 #[.val (.ref a1), .val (.int (1 : Int32)), .val (.int p2), .val (.int (3 : Int32))] [(.int (3 : Int32)), (.ref b1_)])) target
    refine XS.iloadN X_15.here hx rfl (hb hby d_add31_127) rfl ?_
    show Steps p.tables e below (T_15.setTop (mkF m 128 #[.val (.ref a1), .val (.int (1 : Int32)), .val (.int p2), .val (.int (3 : Int32))] [(.int p2), (.int (3 : Int32)), (.ref b1_)])) target
    refine st_17 _ ?_
    show Steps p.tables e below (T_17.setTop (mkF m 129 #[.val (.ref a1), .val (.int (1 : Int32)), .val (.int p2), .val (.int (3 : Int32))] [])) target
    refine XS.aloadN XG_17.here hx rfl (hb hby d_add31_129) rfl rfl ?_
    show Steps p.tables e below (T_17.setTop (mkF m 130 #[.val (.ref a1), .val (.int (1 : Int32)), .val (.int p2), .val (.int (3 : Int32))] [(.ref a1)])) target
    refine st_21 _ ?_
    show Steps p.tables e below (T_21.setTop (mkF m 133 #[.val (.ref a1), .val (.int (1 : Int32)), .val (.int p2), .val (.int (3 : Int32))] [(.ref b2_)])) target
    refine XS.iloadN X_21.here hx rfl (hb hby d_add31_133) rfl ?_
    show Steps p.tables e below (T_21.setTop (mkF m 134 #[.val (.ref a1), .val (.int (1 : Int32)), .val (.int p2), .val (.int (3 : Int32))] [(.int (3 : Int32)), (.ref b2_)])) target
    refine XS.aloadN X_21.here hx rfl (hb hby d_add31_134) rfl rfl ?_
    show Steps p.tables e below (T_21.setTop (mkF m 135 #[.val (.ref a1), .val (.int (1 : Int32)), .val (.int p2), .val (.int (3 : Int32))] [(.ref a1), (.int (3 : Int32)), (.ref b2_)])) target
    refine st_22 _ ?_
    show Steps p.tables e below (T_22.setTop (mkF m 138 #[.val (.ref a1), .val (.int (1 : Int32)), .val (.int p2), .val (.int (3 : Int32))] [(.ref b2_), (.int (3 : Int32)), (.ref b2_)])) target
    refine XS.iloadN X_22.here hx rfl (hb hby d_add31_138) rfl ?_
    show Steps p.tables e below (T_22.setTop (mkF m 139 #[.val (.ref a1), .val (.int (1 : Int32)), .val (.int p2), .val (.int (3 : Int32))] [(.int (1 : Int32)), (.ref b2_), (.int (3 : Int32)), (.ref b2_)])) target
    refine X_22.iaload hx (j := (1 : Int32)) (v := (.int (1 : Int32))) (by rw [e_22]; exact Ar_24.1) (State.isArrayOf_alike hZ.alike Ar_24.2.1) Ar_24.2.2 hin_24 hat_24 (g := (mkF m 139 #[.val (.ref a1), .val (.int (1 : Int32)), .val (.int p2), .val (.int (3 : Int32))] [(.int (1 : Int32)), (.ref b2_), (.int (3 : Int32)), (.ref b2_)])) rfl rfl (hb hby d_add31_139) _ ?_
    show Steps p.tables e below (T_22.setTop (mkF m 140 #[.val (.ref a1), .val (.int (1 : Int32)), .val (.int p2), .val (.int (3 : Int32))] [(.int (1 : Int32)), (.int (3 : Int32)), (.ref b2_)])) target
    refine XS.iconst X_22.here hx rfl (hb hby d_add31_140) ?_
    show Steps p.tables e below (T_22.setTop (mkF m 141 #[.val (.ref a1), .val (.int (1 : Int32)), .val (.int p2), .val (.int (3 : Int32))] [(.int (1 : Int32)), (.int (1 : Int32)), (.int (3 : Int32)), (.ref b2_)])) target
    refine XS.iadd X_22.here hx rfl (hb hby d_add31_141) rfl ?_
    show Steps p.tables e below (T_22.setTop (mkF m 142 #[.val (.ref a1), .val (.int (1 : Int32)), .val (.int p2), .val (.int (3 : Int32))] [(.int ((1 : Int32) + (1 : Int32))), (.int (3 : Int32)), (.ref b2_)])) target
    rw [show (1 : Int32) + (1 : Int32) = (2 : Int32) from by decide]
    show Steps p.tables e below (T_22.setTop (mkF m 142 #[.val (.ref a1), .val (.int (1 : Int32)), .val (.int p2), .val (.int (3 : Int32))] [(.int (2 : Int32)), (.int (3 : Int32)), (.ref b2_)])) target
    refine st_25 _ ?_
    show Steps p.tables e below (T_25.setTop (mkF m 143 #[.val (.ref a1), .val (.int (1 : Int32)), .val (.int p2), .val (.int (3 : Int32))] [])) target
    refine XS.aloadN XG_25.here hx rfl (hb hby d_add31_143) rfl rfl ?_
    show Steps p.tables e below (T_25.setTop (mkF m 144 #[.val (.ref a1), .val (.int (1 : Int32)), .val (.int p2), .val (.int (3 : Int32))] [(.ref a1)])) target
    refine st_29 _ ?_
    show Steps p.tables e below (T_29.setTop (mkF m 147 #[.val (.ref a1), .val (.int (1 : Int32)), .val (.int p2), .val (.int (3 : Int32))] [(.ref b3_)])) target
    refine XS.iloadN X_29.here hx rfl (hb hby d_add31_147) rfl ?_
    show Steps p.tables e below (T_29.setTop (mkF m 148 #[.val (.ref a1), .val (.int (1 : Int32)), .val (.int p2), .val (.int (3 : Int32))] [(.int (3 : Int32)), (.ref b3_)])) target
    refine XS.iconst X_29.here hx rfl (hb hby d_add31_148) ?_
    show Steps p.tables e below (T_29.setTop (mkF m 149 #[.val (.ref a1), .val (.int (1 : Int32)), .val (.int p2), .val (.int (3 : Int32))] [(.int (-1 : Int32)), (.int (3 : Int32)), (.ref b3_)])) target
    refine st_31 _ ?_
    show Steps p.tables e below (T_31.setTop (mkF m 150 #[.val (.ref a1), .val (.int (1 : Int32)), .val (.int p2), .val (.int (3 : Int32))] [])) target
    refine XS.aloadN XG_31.here hx rfl (hb hby d_add31_150) rfl rfl ?_
    show Steps p.tables e below (T_31.setTop (mkF m 151 #[.val (.ref a1), .val (.int (1 : Int32)), .val (.int p2), .val (.int (3 : Int32))] [(.ref a1)])) target
    refine st_35 _ ?_
    show Steps p.tables e below (T_35.setTop (mkF m 154 #[.val (.ref a1), .val (.int (1 : Int32)), .val (.int p2), .val (.int (3 : Int32))] [(.ref b4_)])) target
    refine XS.iloadN X_35.here hx rfl (hb hby d_add31_154) rfl ?_
    show Steps p.tables e below (T_35.setTop (mkF m 155 #[.val (.ref a1), .val (.int (1 : Int32)), .val (.int p2), .val (.int (3 : Int32))] [(.int (3 : Int32)), (.ref b4_)])) target
    refine XS.iconst X_35.here hx rfl (hb hby d_add31_155) ?_
    show Steps p.tables e below (T_35.setTop (mkF m 156 #[.val (.ref a1), .val (.int (1 : Int32)), .val (.int p2), .val (.int (3 : Int32))] [(.int (0 : Int32)), (.int (3 : Int32)), (.ref b4_)])) target
    refine st_37 _ ?_
    show Steps p.tables e below (T_37.setTop (mkF m 157 #[.val (.ref a1), .val (.int (1 : Int32)), .val (.int p2), .val (.int (3 : Int32))] [])) target
    refine XS.aloadN XG_37.here hx rfl (hb hby d_add31_157) rfl rfl ?_
    show Steps p.tables e below (T_37.setTop (mkF m 158 #[.val (.ref a1), .val (.int (1 : Int32)), .val (.int p2), .val (.int (3 : Int32))] [(.ref a1)])) target
    refine st_41 _ ?_
    show Steps p.tables e below (T_41.setTop (mkF m 161 #[.val (.ref a1), .val (.int (1 : Int32)), .val (.int p2), .val (.int (3 : Int32))] [(.ref b5_)])) target
    refine XS.iloadN X_41.here hx rfl (hb hby d_add31_161) rfl ?_
    show Steps p.tables e below (T_41.setTop (mkF m 162 #[.val (.ref a1), .val (.int (1 : Int32)), .val (.int p2), .val (.int (3 : Int32))] [(.int (3 : Int32)), (.ref b5_)])) target
    refine XS.iconst X_41.here hx rfl (hb hby d_add31_162) ?_
    show Steps p.tables e below (T_41.setTop (mkF m 163 #[.val (.ref a1), .val (.int (1 : Int32)), .val (.int p2), .val (.int (3 : Int32))] [(.int (-1 : Int32)), (.int (3 : Int32)), (.ref b5_)])) target
    refine st_43 _ ?_
    show Steps p.tables e below (T_43.setTop (mkF m 164 #[.val (.ref a1), .val (.int (1 : Int32)), .val (.int p2), .val (.int (3 : Int32))] [])) target
    refine XS.aloadN XG_43.here hx rfl (hb hby d_add31_164) rfl rfl ?_
    show Steps p.tables e below (T_43.setTop (mkF m 165 #[.val (.ref a1), .val (.int (1 : Int32)), .val (.int p2), .val (.int (3 : Int32))] [(.ref a1)])) target
    refine st_47 _ ?_
    show Steps p.tables e below (T_47.setTop (mkF m 168 #[.val (.ref a1), .val (.int (1 : Int32)), .val (.int p2), .val (.int (3 : Int32))] [(.ref b6_)])) target
    refine XS.iloadN X_47.here hx rfl (hb hby d_add31_168) rfl ?_
    show Steps p.tables e below (T_47.setTop (mkF m 169 #[.val (.ref a1), .val (.int (1 : Int32)), .val (.int p2), .val (.int (3 : Int32))] [(.int (3 : Int32)), (.ref b6_)])) target
    refine XS.iconst X_47.here hx rfl (hb hby d_add31_169) ?_
    show Steps p.tables e below (T_47.setTop (mkF m 170 #[.val (.ref a1), .val (.int (1 : Int32)), .val (.int p2), .val (.int (3 : Int32))] [(.int (0 : Int32)), (.int (3 : Int32)), (.ref b6_)])) target
    refine st_49 _ ?_
    show Steps p.tables e below (T_49.setTop (mkF m 171 #[.val (.ref a1), .val (.int (1 : Int32)), .val (.int p2), .val (.int (3 : Int32))] [])) target
    refine XS.iloadN XG_49.here hx rfl (hb hby d_add31_171) rfl ?_
    show Steps p.tables e below (T_49.setTop (mkF m 172 #[.val (.ref a1), .val (.int (1 : Int32)), .val (.int p2), .val (.int (3 : Int32))] [(.int (3 : Int32))])) target
    exact kt
  obtain ⟨fs, hr, hrun, hended, hW, hsame⟩ := XG_49.leave (v := some (.int (3 : Int32))) (fun h => by rw [Bd.returns] at h; cases h)
  refine ⟨_, _, retI XG_49 hx Bd.returns (hb hby d_add31_172) hr, hrun, hended, _, _, rfl, ?_, ⟨_, rfl⟩, hW, hsame.mono (by decide) (by decide)⟩
  show Q_add31 Z a1 p2 b0_ b1_ b2_ b3_ b4_ b5_ b6_ k0_ k1_ k2_ k3_ k4_ k5_ k6_ d1 d2 h0 n0 _ T_49.heap _
  rw [e_49]
  have f_52 := ((((((((E1.wr W_5).wr W_11).wr W_17).wr W_25).wr W_31).wr W_37).wr W_43).wr W_49)
  have f_53 := (((((((f_8.other W_11 (Or.inl n0_)).other W_17 (Or.inl n1_)).other W_25 (Or.inl n2_)).other W_31 (Or.inl n3_)).other W_37 (Or.inl n4_)).other W_43 (Or.inl n5_)).other W_49 (Or.inl n6_))
  have f_54 := ((((((f_14.other W_17 (Or.inl n1_)).other W_25 (Or.inl n2_)).other W_31 (Or.inl n3_)).other W_37 (Or.inl n4_)).other W_43 (Or.inl n5_)).other W_49 (Or.inl n6_))
  have f_55 := (((((f_20.other W_25 (Or.inl n2_)).other W_31 (Or.inl n3_)).other W_37 (Or.inl n4_)).other W_43 (Or.inl n5_)).other W_49 (Or.inl n6_))
  have f_56 := ((((f_28.other W_31 (Or.inl n3_)).other W_37 (Or.inl n4_)).other W_43 (Or.inl n5_)).other W_49 (Or.inl n6_))
  have f_57 := (((f_34.other W_37 (Or.inl n4_)).other W_43 (Or.inl n5_)).other W_49 (Or.inl n6_))
  have f_58 := ((f_40.other W_43 (Or.inl n5_)).other W_49 (Or.inl n6_))
  have f_59 := (f_46.other W_49 (Or.inl n6_))
  have f_60 := (((((((F_5.other W_11 (Or.inl n0_)).other W_17 (Or.inl n1_)).other W_25 (Or.inl n2_)).other W_31 (Or.inl n3_)).other W_37 (Or.inl n4_)).other W_43 (Or.inl n5_)).other W_49 (Or.inl n6_))
  have f_61 := ((((((V_11.other W_17 n7_).other W_25 n8_).other W_31 n9_).other W_37 n10_).other W_43 n11_).other W_49 n12_)
  have f_62 := (((((V_17.other W_25 n13_).other W_31 n14_).other W_37 n15_).other W_43 n16_).other W_49 n17_)
  have f_63 := ((((V_25.other W_31 n18_).other W_37 n19_).other W_43 n20_).other W_49 n21_)
  have f_64 := (((V_31.other W_37 n22_).other W_43 n23_).other W_49 n24_)
  have f_65 := ((V_37.other W_43 n25_).other W_49 n26_)
  have f_66 := (V_43.other W_49 n27_)
  exact ⟨rfl, N_49, K_51, f_52, f_53, f_54, f_55, f_56, f_57, f_58, f_59, f_60, f_61, f_62, f_63, f_64, f_65, f_66, V_49⟩
-- com/example/filigree/filigree/engine/DecisionTree.kept:(I)Z
theorem d_kept_0 : decode prog_11_method_6_code 0 = .ok (.aload_n 0, 1) := by decide +kernel
theorem d_kept_1 : decode prog_11_method_6_code 1 = .ok (.getfield 28, 3) := by decide +kernel
theorem d_kept_4 : decode prog_11_method_6_code 4 = .ok (.iload_n 1, 1) := by decide +kernel
theorem d_kept_5 : decode prog_11_method_6_code 5 = .ok (.baload, 1) := by decide +kernel
theorem d_kept_6 : decode prog_11_method_6_code 6 = .ok (.ireturn, 1) := by decide +kernel
theorem pn_kept : plainName "com/example/filigree/filigree/engine/DecisionTree" = true := by first | (simp [plainName, overriddenIn]; done) | decide +kernel
theorem ef_kept (m : MethodId) (a1 : Addr) (i1 : Int32) : entryFrame m #[(.ref a1), (.int i1)] 2 = mkF m 0 #[.val (.ref a1), .val (.int i1)] [] := by first | (simp [entryFrame, mkF, argsToLocals, Value.category]; done) | rfl
def Q_kept (Z : State) (a1 : Addr) (i1 : Int32) (b6_ : Addr) (k6_ : ClassId) (f : Nat → Int32) (h0 : Heap) (n0 : Nat) (v : Option Value) (h : Heap) (L : List Loc) : Prop := v = some (.int (nar .boolean (f i1.toNatClampNeg))) ∧ Fr n0 L ∧ h = h0
set_option maxRecDepth 65536 in
set_option maxHeartbeats 40000000 in
theorem rm_kept (l : Launch) (Z : State) (a0 : Array Value) (hw : ∀ d ∈ tables_1, d.before a0 Z = true) (ws : List Jvm.Cond) (a1 : Addr) (i1 : Int32) (b6_ : Addr) (k6_ : ClassId) (f : Nat → Int32) (h0 : Heap) (n0 : Nat) (Z0 : n0 ≤ h0.size) (F1 : Fld Z h0 a1 "com/example/filigree/filigree/engine/DecisionTree" "m_aKept" "[Z" (.ref b6_)) (V1 : Arv Z h0 b6_ k6_ .boolean (64 : Int32) [(.int (f 0)), (.int (f 1)), (.int (f 2)), (.int (f 3))] (.int (0 : Int32))) (hi : (¬ i1 < (0 : Int32) ∧ ¬ (3 : Int32) < i1)) :
    MetFree l (⟨"com/example/filigree/filigree/engine/DecisionTree", "kept", "(I)Z"⟩ : MethodName) (head1 (Jvm.Cond.code (⟨"com/example/filigree/filigree/engine/DecisionTree", "kept", "(I)Z"⟩ : MethodName) prog_11_method_6_code 2 (some .boolean) :: ws) ({ frames := 0, cells := 0, slots := 0, locals := 0 } : Room)) (fun a U => a = #[(.ref a1), (.int i1)] ∧ Z.Warmed39 U.vm ∧ U.heap = h0) (fun _ _ _ _ _ => True) (fun _ U o U' => ∃ v L, o = .returned v ∧ Q_kept Z a1 i1 b6_ k6_ f h0 n0 v U'.heap L ∧ FrameEnd U o U' L ({ frames := 0, cells := 0, slots := 0, locals := 0 } : Room).cells ({ frames := 0, cells := 0, slots := 0, locals := 0 } : Room).slots) := by
  refine MetFree.of_bodySF (plainFor_of_name pn_kept) hisR ?_
  intro p e s m args below meth c s₁ Bd hml0 hP hK
  obtain ⟨rfl, hZ, hh⟩ := hP
  have hx := Bd.exec
  have hby := Bd.bytes
  have hml : c.maxLocals = 2 := hml0
  have hown : s.vm.findClass "com/example/filigree/filigree/engine/DecisionTree" = some m.cls := findClass_of_methodNamed Bd.named
  have hnm := (name_of_methodNamed Bd.named Bd.method).1
  have X0 : Stand p l e ({ frames := 0, cells := 0, slots := 0, locals := 0 } : Room) s m #[(.ref a1), (.int i1)] below meth c s₁ [] 0 0 := Stand.of_body Bd
  have e0 : s₁.heap = h0 := by rw [← hh, Bd.state]; rfl
  have N0 := Fr.nil n0
  refine own_in ?_
  refine own_go (S' := s₁.setTop (mkF m 0 #[.val (.ref a1), .val (.int i1)] [])) (fun tgt_ stp_ => castTop (ef_kept m a1 i1) stp_) ?_
  obtain ⟨T_1, X_1, e_1, st_1⟩ := getF X0 hx hZ hown (host := "") (Or.inl (hw _ (List.mem_of_getElem? (i := 23) rfl))) Via.refl e0 F1 (g := (mkF m 1 #[.val (.ref a1), .val (.int i1)] [(.ref a1)])) rfl rfl (hb hby d_kept_1)
  obtain ⟨c_2, Ar_2, q_2, S_2, M_2, Hs_2, G_2⟩ := id V1
  have hin_2 : ¬ (i1 < 0 ∨ c_2.slots.size ≤ (i1).toNatClampNeg) := inb_of S_2 (own_inb4 hi)
  have hat_2 : c_2.slots[(i1).toNatClampNeg]? = some (.int (f i1.toNatClampNeg)) := Hs_2.at hin_2 (own_get4 f hi)
  refine own_go (S' := T_1.setTop (mkF m 6 #[.val (.ref a1), .val (.int i1)] [(.int (f i1.toNatClampNeg))])) (fun target kt => ?_) ?_
  · show Steps p.tables e below (s₁.setTop (mkF m 0 #[.val (.ref a1), .val (.int i1)] [])) target
    refine XS.aloadN X0.here hx rfl (hb hby d_kept_0) rfl rfl ?_
    show Steps p.tables e below (s₁.setTop (mkF m 1 #[.val (.ref a1), .val (.int i1)] [(.ref a1)])) target
    refine st_1 _ ?_
    show Steps p.tables e below (T_1.setTop (mkF m 4 #[.val (.ref a1), .val (.int i1)] [(.ref b6_)])) target
    refine XS.iloadN X_1.here hx rfl (hb hby d_kept_4) rfl ?_
    show Steps p.tables e below (T_1.setTop (mkF m 5 #[.val (.ref a1), .val (.int i1)] [(.int i1), (.ref b6_)])) target
    refine X_1.baloadBooleans hx (j := i1) (v := (.int (f i1.toNatClampNeg))) (by rw [e_1]; exact Ar_2.1) (State.isArrayOf_alike hZ.alike Ar_2.2.1) Ar_2.2.2 hin_2 hat_2 (g := (mkF m 5 #[.val (.ref a1), .val (.int i1)] [(.int i1), (.ref b6_)])) rfl rfl (hb hby d_kept_5) _ ?_
    show Steps p.tables e below (T_1.setTop (mkF m 6 #[.val (.ref a1), .val (.int i1)] [(.int (f i1.toNatClampNeg))])) target
    exact kt
  obtain ⟨fs, hr, hrun, hended, hW, hsame⟩ := X_1.leave (v := some (.int (nar .boolean (f i1.toNatClampNeg)))) (fun h => by rw [Bd.returns] at h; cases h)
  refine ⟨_, _, retN X_1 hx (t := .boolean) Bd.returns (by simp) (hb hby d_kept_6) hr, hrun, hended, _, _, rfl, ?_, ⟨_, rfl⟩, hW, hsame.mono (by decide) (by decide)⟩
  show Q_kept Z a1 i1 b6_ k6_ f h0 n0 _ T_1.heap _
  rw [e_1]
  exact ⟨rfl, N0, rfl⟩
-- com/example/filigree/filigree/engine/DecisionTree.keptCount:(I)I
theorem d_kcnt_0 : decode prog_11_method_9_code 0 = .ok (.aload_n 0, 1) := by decide +kernel
theorem d_kcnt_1 : decode prog_11_method_9_code 1 = .ok (.getfield 22, 3) := by decide +kernel
theorem d_kcnt_4 : decode prog_11_method_9_code 4 = .ok (.iload_n 1, 1) := by decide +kernel
theorem d_kcnt_5 : decode prog_11_method_9_code 5 = .ok (.iaload, 1) := by decide +kernel
theorem d_kcnt_6 : decode prog_11_method_9_code 6 = .ok (.ireturn, 1) := by decide +kernel
theorem pn_kcnt : plainName "com/example/filigree/filigree/engine/DecisionTree" = true := by first | (simp [plainName, overriddenIn]; done) | decide +kernel
theorem ef_kcnt (m : MethodId) (a1 : Addr) (i1 : Int32) : entryFrame m #[(.ref a1), (.int i1)] 2 = mkF m 0 #[.val (.ref a1), .val (.int i1)] [] := by first | (simp [entryFrame, mkF, argsToLocals, Value.category]; done) | rfl
def Q_kcnt (Z : State) (a1 : Addr) (i1 : Int32) (b4_ : Addr) (k4_ : ClassId) (f : Nat → Int32) (h0 : Heap) (n0 : Nat) (v : Option Value) (h : Heap) (L : List Loc) : Prop := v = some (.int (f i1.toNatClampNeg)) ∧ Fr n0 L ∧ h = h0
set_option maxRecDepth 65536 in
set_option maxHeartbeats 40000000 in
theorem rm_kcnt (l : Launch) (Z : State) (a0 : Array Value) (hw : ∀ d ∈ tables_1, d.before a0 Z = true) (ws : List Jvm.Cond) (a1 : Addr) (i1 : Int32) (b4_ : Addr) (k4_ : ClassId) (f : Nat → Int32) (h0 : Heap) (n0 : Nat) (Z0 : n0 ≤ h0.size) (F1 : Fld Z h0 a1 "com/example/filigree/filigree/engine/DecisionTree" "m_aKeptCount" "[I" (.ref b4_)) (V1 : Arv Z h0 b4_ k4_ .int (64 : Int32) [(.int (f 0)), (.int (f 1)), (.int (f 2)), (.int (f 3))] (.int (0 : Int32))) (hi : (¬ i1 < (0 : Int32) ∧ ¬ (3 : Int32) < i1)) :
    MetFree l (⟨"com/example/filigree/filigree/engine/DecisionTree", "keptCount", "(I)I"⟩ : MethodName) (head1 (Jvm.Cond.code (⟨"com/example/filigree/filigree/engine/DecisionTree", "keptCount", "(I)I"⟩ : MethodName) prog_11_method_9_code 2 (some .int) :: ws) ({ frames := 0, cells := 0, slots := 0, locals := 0 } : Room)) (fun a U => a = #[(.ref a1), (.int i1)] ∧ Z.Warmed39 U.vm ∧ U.heap = h0) (fun _ _ _ _ _ => True) (fun _ U o U' => ∃ v L, o = .returned v ∧ Q_kcnt Z a1 i1 b4_ k4_ f h0 n0 v U'.heap L ∧ FrameEnd U o U' L ({ frames := 0, cells := 0, slots := 0, locals := 0 } : Room).cells ({ frames := 0, cells := 0, slots := 0, locals := 0 } : Room).slots) := by
  refine MetFree.of_bodySF (plainFor_of_name pn_kcnt) hisR ?_
  intro p e s m args below meth c s₁ Bd hml0 hP hK
  obtain ⟨rfl, hZ, hh⟩ := hP
  have hx := Bd.exec
  have hby := Bd.bytes
  have hml : c.maxLocals = 2 := hml0
  have hown : s.vm.findClass "com/example/filigree/filigree/engine/DecisionTree" = some m.cls := findClass_of_methodNamed Bd.named
  have hnm := (name_of_methodNamed Bd.named Bd.method).1
  have X0 : Stand p l e ({ frames := 0, cells := 0, slots := 0, locals := 0 } : Room) s m #[(.ref a1), (.int i1)] below meth c s₁ [] 0 0 := Stand.of_body Bd
  have e0 : s₁.heap = h0 := by rw [← hh, Bd.state]; rfl
  have N0 := Fr.nil n0
  refine own_in ?_
  refine own_go (S' := s₁.setTop (mkF m 0 #[.val (.ref a1), .val (.int i1)] [])) (fun tgt_ stp_ => castTop (ef_kcnt m a1 i1) stp_) ?_
  obtain ⟨T_1, X_1, e_1, st_1⟩ := getF X0 hx hZ hown (host := "") (Or.inl (hw _ (List.mem_of_getElem? (i := 18) rfl))) Via.refl e0 F1 (g := (mkF m 1 #[.val (.ref a1), .val (.int i1)] [(.ref a1)])) rfl rfl (hb hby d_kcnt_1)
  obtain ⟨c_2, Ar_2, q_2, S_2, M_2, Hs_2, G_2⟩ := id V1
  have hin_2 : ¬ (i1 < 0 ∨ c_2.slots.size ≤ (i1).toNatClampNeg) := inb_of S_2 (own_inb4 hi)
  have hat_2 : c_2.slots[(i1).toNatClampNeg]? = some (.int (f i1.toNatClampNeg)) := Hs_2.at hin_2 (own_get4 f hi)
  refine own_go (S' := T_1.setTop (mkF m 6 #[.val (.ref a1), .val (.int i1)] [(.int (f i1.toNatClampNeg))])) (fun target kt => ?_) ?_
  · show Steps p.tables e below (s₁.setTop (mkF m 0 #[.val (.ref a1), .val (.int i1)] [])) target
    refine XS.aloadN X0.here hx rfl (hb hby d_kcnt_0) rfl rfl ?_
    show Steps p.tables e below (s₁.setTop (mkF m 1 #[.val (.ref a1), .val (.int i1)] [(.ref a1)])) target
    refine st_1 _ ?_
    show Steps p.tables e below (T_1.setTop (mkF m 4 #[.val (.ref a1), .val (.int i1)] [(.ref b4_)])) target
    refine XS.iloadN X_1.here hx rfl (hb hby d_kcnt_4) rfl ?_
    show Steps p.tables e below (T_1.setTop (mkF m 5 #[.val (.ref a1), .val (.int i1)] [(.int i1), (.ref b4_)])) target
    refine X_1.iaload hx (j := i1) (v := (.int (f i1.toNatClampNeg))) (by rw [e_1]; exact Ar_2.1) (State.isArrayOf_alike hZ.alike Ar_2.2.1) Ar_2.2.2 hin_2 hat_2 (g := (mkF m 5 #[.val (.ref a1), .val (.int i1)] [(.int i1), (.ref b4_)])) rfl rfl (hb hby d_kcnt_5) _ ?_
    show Steps p.tables e below (T_1.setTop (mkF m 6 #[.val (.ref a1), .val (.int i1)] [(.int (f i1.toNatClampNeg))])) target
    exact kt
  obtain ⟨fs, hr, hrun, hended, hW, hsame⟩ := X_1.leave (v := some (.int (f i1.toNatClampNeg))) (fun h => by rw [Bd.returns] at h; cases h)
  refine ⟨_, _, retI X_1 hx Bd.returns (hb hby d_kcnt_6) hr, hrun, hended, _, _, rfl, ?_, ⟨_, rfl⟩, hW, hsame.mono (by decide) (by decide)⟩
  show Q_kcnt Z a1 i1 b4_ k4_ f h0 n0 _ T_1.heap _
  rw [e_1]
  exact ⟨rfl, N0, rfl⟩
-- com/example/filigree/filigree/engine/DecisionTree.firstKept:(I)I
theorem d_fst_0 : decode prog_11_method_7_code 0 = .ok (.aload_n 0, 1) := by decide +kernel
theorem d_fst_1 : decode prog_11_method_7_code 1 = .ok (.getfield 19, 3) := by decide +kernel
theorem d_fst_4 : decode prog_11_method_7_code 4 = .ok (.iload_n 1, 1) := by decide +kernel
theorem d_fst_5 : decode prog_11_method_7_code 5 = .ok (.iaload, 1) := by decide +kernel
theorem d_fst_6 : decode prog_11_method_7_code 6 = .ok (.ireturn, 1) := by decide +kernel
theorem pn_fst : plainName "com/example/filigree/filigree/engine/DecisionTree" = true := by first | (simp [plainName, overriddenIn]; done) | decide +kernel
theorem ef_fst (m : MethodId) (a1 : Addr) (i1 : Int32) : entryFrame m #[(.ref a1), (.int i1)] 2 = mkF m 0 #[.val (.ref a1), .val (.int i1)] [] := by first | (simp [entryFrame, mkF, argsToLocals, Value.category]; done) | rfl
def Q_fst (Z : State) (a1 : Addr) (i1 : Int32) (b3_ : Addr) (k3_ : ClassId) (f : Nat → Int32) (h0 : Heap) (n0 : Nat) (v : Option Value) (h : Heap) (L : List Loc) : Prop := v = some (.int (f i1.toNatClampNeg)) ∧ Fr n0 L ∧ h = h0
set_option maxRecDepth 65536 in
set_option maxHeartbeats 40000000 in
theorem rm_fst (l : Launch) (Z : State) (a0 : Array Value) (hw : ∀ d ∈ tables_1, d.before a0 Z = true) (ws : List Jvm.Cond) (a1 : Addr) (i1 : Int32) (b3_ : Addr) (k3_ : ClassId) (f : Nat → Int32) (h0 : Heap) (n0 : Nat) (Z0 : n0 ≤ h0.size) (F1 : Fld Z h0 a1 "com/example/filigree/filigree/engine/DecisionTree" "m_aFirstKept" "[I" (.ref b3_)) (V1 : Arv Z h0 b3_ k3_ .int (64 : Int32) [(.int (f 0)), (.int (f 1)), (.int (f 2)), (.int (f 3))] (.int (0 : Int32))) (hi : (¬ i1 < (0 : Int32) ∧ ¬ (3 : Int32) < i1)) :
    MetFree l (⟨"com/example/filigree/filigree/engine/DecisionTree", "firstKept", "(I)I"⟩ : MethodName) (head1 (Jvm.Cond.code (⟨"com/example/filigree/filigree/engine/DecisionTree", "firstKept", "(I)I"⟩ : MethodName) prog_11_method_7_code 2 (some .int) :: ws) ({ frames := 0, cells := 0, slots := 0, locals := 0 } : Room)) (fun a U => a = #[(.ref a1), (.int i1)] ∧ Z.Warmed39 U.vm ∧ U.heap = h0) (fun _ _ _ _ _ => True) (fun _ U o U' => ∃ v L, o = .returned v ∧ Q_fst Z a1 i1 b3_ k3_ f h0 n0 v U'.heap L ∧ FrameEnd U o U' L ({ frames := 0, cells := 0, slots := 0, locals := 0 } : Room).cells ({ frames := 0, cells := 0, slots := 0, locals := 0 } : Room).slots) := by
  refine MetFree.of_bodySF (plainFor_of_name pn_fst) hisR ?_
  intro p e s m args below meth c s₁ Bd hml0 hP hK
  obtain ⟨rfl, hZ, hh⟩ := hP
  have hx := Bd.exec
  have hby := Bd.bytes
  have hml : c.maxLocals = 2 := hml0
  have hown : s.vm.findClass "com/example/filigree/filigree/engine/DecisionTree" = some m.cls := findClass_of_methodNamed Bd.named
  have hnm := (name_of_methodNamed Bd.named Bd.method).1
  have X0 : Stand p l e ({ frames := 0, cells := 0, slots := 0, locals := 0 } : Room) s m #[(.ref a1), (.int i1)] below meth c s₁ [] 0 0 := Stand.of_body Bd
  have e0 : s₁.heap = h0 := by rw [← hh, Bd.state]; rfl
  have N0 := Fr.nil n0
  refine own_in ?_
  refine own_go (S' := s₁.setTop (mkF m 0 #[.val (.ref a1), .val (.int i1)] [])) (fun tgt_ stp_ => castTop (ef_fst m a1 i1) stp_) ?_
  obtain ⟨T_1, X_1, e_1, st_1⟩ := getF X0 hx hZ hown (host := "") (Or.inl (hw _ (List.mem_of_getElem? (i := 16) rfl))) Via.refl e0 F1 (g := (mkF m 1 #[.val (.ref a1), .val (.int i1)] [(.ref a1)])) rfl rfl (hb hby d_fst_1)
  obtain ⟨c_2, Ar_2, q_2, S_2, M_2, Hs_2, G_2⟩ := id V1
  have hin_2 : ¬ (i1 < 0 ∨ c_2.slots.size ≤ (i1).toNatClampNeg) := inb_of S_2 (own_inb4 hi)
  have hat_2 : c_2.slots[(i1).toNatClampNeg]? = some (.int (f i1.toNatClampNeg)) := Hs_2.at hin_2 (own_get4 f hi)
  refine own_go (S' := T_1.setTop (mkF m 6 #[.val (.ref a1), .val (.int i1)] [(.int (f i1.toNatClampNeg))])) (fun target kt => ?_) ?_
  · show Steps p.tables e below (s₁.setTop (mkF m 0 #[.val (.ref a1), .val (.int i1)] [])) target
    refine XS.aloadN X0.here hx rfl (hb hby d_fst_0) rfl rfl ?_
    show Steps p.tables e below (s₁.setTop (mkF m 1 #[.val (.ref a1), .val (.int i1)] [(.ref a1)])) target
    refine st_1 _ ?_
    show Steps p.tables e below (T_1.setTop (mkF m 4 #[.val (.ref a1), .val (.int i1)] [(.ref b3_)])) target
    refine XS.iloadN X_1.here hx rfl (hb hby d_fst_4) rfl ?_
    show Steps p.tables e below (T_1.setTop (mkF m 5 #[.val (.ref a1), .val (.int i1)] [(.int i1), (.ref b3_)])) target
    refine X_1.iaload hx (j := i1) (v := (.int (f i1.toNatClampNeg))) (by rw [e_1]; exact Ar_2.1) (State.isArrayOf_alike hZ.alike Ar_2.2.1) Ar_2.2.2 hin_2 hat_2 (g := (mkF m 5 #[.val (.ref a1), .val (.int i1)] [(.int i1), (.ref b3_)])) rfl rfl (hb hby d_fst_5) _ ?_
    show Steps p.tables e below (T_1.setTop (mkF m 6 #[.val (.ref a1), .val (.int i1)] [(.int (f i1.toNatClampNeg))])) target
    exact kt
  obtain ⟨fs, hr, hrun, hended, hW, hsame⟩ := X_1.leave (v := some (.int (f i1.toNatClampNeg))) (fun h => by rw [Bd.returns] at h; cases h)
  refine ⟨_, _, retI X_1 hx Bd.returns (hb hby d_fst_6) hr, hrun, hended, _, _, rfl, ?_, ⟨_, rfl⟩, hW, hsame.mono (by decide) (by decide)⟩
  show Q_fst Z a1 i1 b3_ k3_ f h0 n0 _ T_1.heap _
  rw [e_1]
  exact ⟨rfl, N0, rfl⟩
-- com/example/filigree/filigree/engine/DecisionTree.nextKept:(I)I
theorem d_nxt_0 : decode prog_11_method_8_code 0 = .ok (.aload_n 0, 1) := by decide +kernel
theorem d_nxt_1 : decode prog_11_method_8_code 1 = .ok (.getfield 25, 3) := by decide +kernel
theorem d_nxt_4 : decode prog_11_method_8_code 4 = .ok (.iload_n 1, 1) := by decide +kernel
theorem d_nxt_5 : decode prog_11_method_8_code 5 = .ok (.iaload, 1) := by decide +kernel
theorem d_nxt_6 : decode prog_11_method_8_code 6 = .ok (.ireturn, 1) := by decide +kernel
theorem pn_nxt : plainName "com/example/filigree/filigree/engine/DecisionTree" = true := by first | (simp [plainName, overriddenIn]; done) | decide +kernel
theorem ef_nxt (m : MethodId) (a1 : Addr) (i1 : Int32) : entryFrame m #[(.ref a1), (.int i1)] 2 = mkF m 0 #[.val (.ref a1), .val (.int i1)] [] := by first | (simp [entryFrame, mkF, argsToLocals, Value.category]; done) | rfl
def Q_nxt (Z : State) (a1 : Addr) (i1 : Int32) (b5_ : Addr) (k5_ : ClassId) (f : Nat → Int32) (h0 : Heap) (n0 : Nat) (v : Option Value) (h : Heap) (L : List Loc) : Prop := v = some (.int (f i1.toNatClampNeg)) ∧ Fr n0 L ∧ h = h0
set_option maxRecDepth 65536 in
set_option maxHeartbeats 40000000 in
theorem rm_nxt (l : Launch) (Z : State) (a0 : Array Value) (hw : ∀ d ∈ tables_1, d.before a0 Z = true) (ws : List Jvm.Cond) (a1 : Addr) (i1 : Int32) (b5_ : Addr) (k5_ : ClassId) (f : Nat → Int32) (h0 : Heap) (n0 : Nat) (Z0 : n0 ≤ h0.size) (F1 : Fld Z h0 a1 "com/example/filigree/filigree/engine/DecisionTree" "m_aNextKept" "[I" (.ref b5_)) (V1 : Arv Z h0 b5_ k5_ .int (64 : Int32) [(.int (f 0)), (.int (f 1)), (.int (f 2)), (.int (f 3))] (.int (0 : Int32))) (hi : (¬ i1 < (0 : Int32) ∧ ¬ (3 : Int32) < i1)) :
    MetFree l (⟨"com/example/filigree/filigree/engine/DecisionTree", "nextKept", "(I)I"⟩ : MethodName) (head1 (Jvm.Cond.code (⟨"com/example/filigree/filigree/engine/DecisionTree", "nextKept", "(I)I"⟩ : MethodName) prog_11_method_8_code 2 (some .int) :: ws) ({ frames := 0, cells := 0, slots := 0, locals := 0 } : Room)) (fun a U => a = #[(.ref a1), (.int i1)] ∧ Z.Warmed39 U.vm ∧ U.heap = h0) (fun _ _ _ _ _ => True) (fun _ U o U' => ∃ v L, o = .returned v ∧ Q_nxt Z a1 i1 b5_ k5_ f h0 n0 v U'.heap L ∧ FrameEnd U o U' L ({ frames := 0, cells := 0, slots := 0, locals := 0 } : Room).cells ({ frames := 0, cells := 0, slots := 0, locals := 0 } : Room).slots) := by
  refine MetFree.of_bodySF (plainFor_of_name pn_nxt) hisR ?_
  intro p e s m args below meth c s₁ Bd hml0 hP hK
  obtain ⟨rfl, hZ, hh⟩ := hP
  have hx := Bd.exec
  have hby := Bd.bytes
  have hml : c.maxLocals = 2 := hml0
  have hown : s.vm.findClass "com/example/filigree/filigree/engine/DecisionTree" = some m.cls := findClass_of_methodNamed Bd.named
  have hnm := (name_of_methodNamed Bd.named Bd.method).1
  have X0 : Stand p l e ({ frames := 0, cells := 0, slots := 0, locals := 0 } : Room) s m #[(.ref a1), (.int i1)] below meth c s₁ [] 0 0 := Stand.of_body Bd
  have e0 : s₁.heap = h0 := by rw [← hh, Bd.state]; rfl
  have N0 := Fr.nil n0
  refine own_in ?_
  refine own_go (S' := s₁.setTop (mkF m 0 #[.val (.ref a1), .val (.int i1)] [])) (fun tgt_ stp_ => castTop (ef_nxt m a1 i1) stp_) ?_
  obtain ⟨T_1, X_1, e_1, st_1⟩ := getF X0 hx hZ hown (host := "") (Or.inl (hw _ (List.mem_of_getElem? (i := 20) rfl))) Via.refl e0 F1 (g := (mkF m 1 #[.val (.ref a1), .val (.int i1)] [(.ref a1)])) rfl rfl (hb hby d_nxt_1)
  obtain ⟨c_2, Ar_2, q_2, S_2, M_2, Hs_2, G_2⟩ := id V1
  have hin_2 : ¬ (i1 < 0 ∨ c_2.slots.size ≤ (i1).toNatClampNeg) := inb_of S_2 (own_inb4 hi)
  have hat_2 : c_2.slots[(i1).toNatClampNeg]? = some (.int (f i1.toNatClampNeg)) := Hs_2.at hin_2 (own_get4 f hi)
  refine own_go (S' := T_1.setTop (mkF m 6 #[.val (.ref a1), .val (.int i1)] [(.int (f i1.toNatClampNeg))])) (fun target kt => ?_) ?_
  · show Steps p.tables e below (s₁.setTop (mkF m 0 #[.val (.ref a1), .val (.int i1)] [])) target
    refine XS.aloadN X0.here hx rfl (hb hby d_nxt_0) rfl rfl ?_
    show Steps p.tables e below (s₁.setTop (mkF m 1 #[.val (.ref a1), .val (.int i1)] [(.ref a1)])) target
    refine st_1 _ ?_
    show Steps p.tables e below (T_1.setTop (mkF m 4 #[.val (.ref a1), .val (.int i1)] [(.ref b5_)])) target
    refine XS.iloadN X_1.here hx rfl (hb hby d_nxt_4) rfl ?_
    show Steps p.tables e below (T_1.setTop (mkF m 5 #[.val (.ref a1), .val (.int i1)] [(.int i1), (.ref b5_)])) target
    refine X_1.iaload hx (j := i1) (v := (.int (f i1.toNatClampNeg))) (by rw [e_1]; exact Ar_2.1) (State.isArrayOf_alike hZ.alike Ar_2.2.1) Ar_2.2.2 hin_2 hat_2 (g := (mkF m 5 #[.val (.ref a1), .val (.int i1)] [(.int i1), (.ref b5_)])) rfl rfl (hb hby d_nxt_5) _ ?_
    show Steps p.tables e below (T_1.setTop (mkF m 6 #[.val (.ref a1), .val (.int i1)] [(.int (f i1.toNatClampNeg))])) target
    exact kt
  obtain ⟨fs, hr, hrun, hended, hW, hsame⟩ := X_1.leave (v := some (.int (f i1.toNatClampNeg))) (fun h => by rw [Bd.returns] at h; cases h)
  refine ⟨_, _, retI X_1 hx Bd.returns (hb hby d_nxt_6) hr, hrun, hended, _, _, rfl, ?_, ⟨_, rfl⟩, hW, hsame.mono (by decide) (by decide)⟩
  show Q_nxt Z a1 i1 b5_ k5_ f h0 n0 _ T_1.heap _
  rw [e_1]
  exact ⟨rfl, N0, rfl⟩
-- com/example/filigree/filigree/engine/DecisionTree.keep:(I)V
theorem d_keep_0 : decode prog_11_method_5_code 0 = .ok (.iload_n 1, 1) := by decide +kernel
theorem d_keep_1 : decode prog_11_method_5_code 1 = .ok (.istore_n 2, 1) := by decide +kernel
theorem d_keep_2 : decode prog_11_method_5_code 2 = .ok (.iload_n 2, 1) := by decide +kernel
theorem d_keep_3 : decode prog_11_method_5_code 3 = .ok (.ifCond .eq 60, 3) := by decide +kernel
theorem d_keep_6 : decode prog_11_method_5_code 6 = .ok (.aload_n 0, 1) := by decide +kernel
theorem d_keep_7 : decode prog_11_method_5_code 7 = .ok (.getfield 28, 3) := by decide +kernel
theorem d_keep_10 : decode prog_11_method_5_code 10 = .ok (.iload_n 2, 1) := by decide +kernel
theorem d_keep_11 : decode prog_11_method_5_code 11 = .ok (.baload, 1) := by decide +kernel
theorem d_keep_12 : decode prog_11_method_5_code 12 = .ok (.ifCond .ne 51, 3) := by decide +kernel
theorem d_keep_15 : decode prog_11_method_5_code 15 = .ok (.aload_n 0, 1) := by decide +kernel
theorem d_keep_16 : decode prog_11_method_5_code 16 = .ok (.getfield 7, 3) := by decide +kernel
theorem d_keep_19 : decode prog_11_method_5_code 19 = .ok (.iload_n 2, 1) := by decide +kernel
theorem d_keep_20 : decode prog_11_method_5_code 20 = .ok (.iaload, 1) := by decide +kernel
theorem d_keep_21 : decode prog_11_method_5_code 21 = .ok (.istore_n 3, 1) := by decide +kernel
theorem d_keep_22 : decode prog_11_method_5_code 22 = .ok (.aload_n 0, 1) := by decide +kernel
theorem d_keep_23 : decode prog_11_method_5_code 23 = .ok (.getfield 28, 3) := by decide +kernel
theorem d_keep_26 : decode prog_11_method_5_code 26 = .ok (.iload_n 2, 1) := by decide +kernel
theorem d_keep_27 : decode prog_11_method_5_code 27 = .ok (.iconst 1, 1) := by decide +kernel
theorem d_keep_28 : decode prog_11_method_5_code 28 = .ok (.bastore, 1) := by decide +kernel
theorem d_keep_29 : decode prog_11_method_5_code 29 = .ok (.aload_n 0, 1) := by decide +kernel
theorem d_keep_30 : decode prog_11_method_5_code 30 = .ok (.getfield 25, 3) := by decide +kernel
theorem d_keep_33 : decode prog_11_method_5_code 33 = .ok (.iload_n 2, 1) := by decide +kernel
theorem d_keep_34 : decode prog_11_method_5_code 34 = .ok (.aload_n 0, 1) := by decide +kernel
theorem d_keep_35 : decode prog_11_method_5_code 35 = .ok (.getfield 19, 3) := by decide +kernel
theorem d_keep_38 : decode prog_11_method_5_code 38 = .ok (.iload_n 3, 1) := by decide +kernel
theorem d_keep_39 : decode prog_11_method_5_code 39 = .ok (.iaload, 1) := by decide +kernel
theorem d_keep_40 : decode prog_11_method_5_code 40 = .ok (.iastore, 1) := by decide +kernel
theorem d_keep_41 : decode prog_11_method_5_code 41 = .ok (.aload_n 0, 1) := by decide +kernel
theorem d_keep_42 : decode prog_11_method_5_code 42 = .ok (.getfield 19, 3) := by decide +kernel
theorem d_keep_45 : decode prog_11_method_5_code 45 = .ok (.iload_n 3, 1) := by decide +kernel
theorem d_keep_46 : decode prog_11_method_5_code 46 = .ok (.iload_n 2, 1) := by decide +kernel
theorem d_keep_47 : decode prog_11_method_5_code 47 = .ok (.iastore, 1) := by decide +kernel
theorem d_keep_48 : decode prog_11_method_5_code 48 = .ok (.aload_n 0, 1) := by decide +kernel
theorem d_keep_49 : decode prog_11_method_5_code 49 = .ok (.getfield 22, 3) := by decide +kernel
theorem d_keep_52 : decode prog_11_method_5_code 52 = .ok (.iload_n 3, 1) := by decide +kernel
theorem d_keep_53 : decode prog_11_method_5_code 53 = .ok (.dup2, 1) := by decide +kernel
theorem d_keep_54 : decode prog_11_method_5_code 54 = .ok (.iaload, 1) := by decide +kernel
theorem d_keep_55 : decode prog_11_method_5_code 55 = .ok (.iconst 1, 1) := by decide +kernel
theorem d_keep_56 : decode prog_11_method_5_code 56 = .ok (.iadd, 1) := by decide +kernel
theorem d_keep_57 : decode prog_11_method_5_code 57 = .ok (.iastore, 1) := by decide +kernel
theorem d_keep_58 : decode prog_11_method_5_code 58 = .ok (.iload_n 3, 1) := by decide +kernel
theorem d_keep_59 : decode prog_11_method_5_code 59 = .ok (.istore_n 2, 1) := by decide +kernel
theorem d_keep_60 : decode prog_11_method_5_code 60 = .ok (.goto (-58), 3) := by decide +kernel
theorem d_keep_63 : decode prog_11_method_5_code 63 = .ok (.return_, 1) := by decide +kernel
theorem pn_keep : plainName "com/example/filigree/filigree/engine/DecisionTree" = true := by first | (simp [plainName, overriddenIn]; done) | decide +kernel
theorem os_keep_21 {z0 : Value} {z1 : Value} {z2 : Value} {t3 : Slot} {v : Int32} (h : One t3) : storeLocals #[.val z0, .val z1, .val z2, t3] 3 (.int v) = some #[.val z0, .val z1, .val z2, .val (.int v)] := by
  rcases h with rfl | ⟨w, rfl, hw⟩
  · rfl
  · cases w <;> first | rfl | (simp [Value.category] at hw)
theorem ef_keep (m : MethodId) (a1 : Addr) (xn : Nat) (p3 : Nat) (sq : (Nat → Int32) × (Nat → Int32) × (Nat → Int32) × (Nat → Int32)) (b0_ : Addr) (b3_ : Addr) (b4_ : Addr) (b5_ : Addr) (b6_ : Addr) (k0_ : ClassId) (k3_ : ClassId) (k4_ : ClassId) (k5_ : ClassId) (k6_ : ClassId) : entryFrame m #[(.ref a1), (.int (Int32.ofNat xn))] 4 = mkF m 0 #[.val (.ref a1), .val (.int (Int32.ofNat xn)), .unset, .unset] [] := by first | (simp [entryFrame, mkF, argsToLocals, Value.category]; done) | rfl
def Q_keep (Z : State) (a1 : Addr) (xn : Nat) (p3 : Nat) (sq : (Nat → Int32) × (Nat → Int32) × (Nat → Int32) × (Nat → Int32)) (b0_ : Addr) (b3_ : Addr) (b4_ : Addr) (b5_ : Addr) (b6_ : Addr) (k0_ : ClassId) (k3_ : ClassId) (k4_ : ClassId) (k5_ : ClassId) (k6_ : ClassId) (h0 : Heap) (n0 : Nat) (v : Option Value) (h : Heap) (L : List Loc) : Prop := v = none ∧ Fr n0 L ∧ Keep h0 h [b3_, b4_, b5_, b6_] ∧ Arv Z h b3_ k3_ .int (64 : Int32) [(.int ((own_keep p3 4 xn sq).2.1 0)), (.int ((own_keep p3 4 xn sq).2.1 1)), (.int ((own_keep p3 4 xn sq).2.1 2)), (.int ((own_keep p3 4 xn sq).2.1 3))] (.int (0 : Int32)) ∧ Arv Z h b4_ k4_ .int (64 : Int32) [(.int ((own_keep p3 4 xn sq).2.2.2 0)), (.int ((own_keep p3 4 xn sq).2.2.2 1)), (.int ((own_keep p3 4 xn sq).2.2.2 2)), (.int ((own_keep p3 4 xn sq).2.2.2 3))] (.int (0 : Int32)) ∧ Arv Z h b5_ k5_ .int (64 : Int32) [(.int ((own_keep p3 4 xn sq).2.2.1 0)), (.int ((own_keep p3 4 xn sq).2.2.1 1)), (.int ((own_keep p3 4 xn sq).2.2.1 2)), (.int ((own_keep p3 4 xn sq).2.2.1 3))] (.int (0 : Int32)) ∧ Arv Z h b6_ k6_ .boolean (64 : Int32) [(.int ((own_keep p3 4 xn sq).1 0)), (.int ((own_keep p3 4 xn sq).1 1)), (.int ((own_keep p3 4 xn sq).1 2)), (.int ((own_keep p3 4 xn sq).1 3))] (.int (0 : Int32))
set_option maxRecDepth 65536 in
set_option maxHeartbeats 40000000 in
theorem rm_keep (l : Launch) (Z : State) (a0 : Array Value) (hw : ∀ d ∈ tables_1, d.before a0 Z = true) (ws : List Jvm.Cond) (a1 : Addr) (xn : Nat) (p3 : Nat) (sq : (Nat → Int32) × (Nat → Int32) × (Nat → Int32) × (Nat → Int32)) (b0_ : Addr) (b3_ : Addr) (b4_ : Addr) (b5_ : Addr) (b6_ : Addr) (k0_ : ClassId) (k3_ : ClassId) (k4_ : ClassId) (k5_ : ClassId) (k6_ : ClassId) (h0 : Heap) (n0 : Nat) (Z0 : n0 ≤ h0.size) (F0_ : Fld Z h0 a1 "com/example/filigree/filigree/engine/DecisionTree" "m_aParent" "[I" (.ref b0_)) (F3_ : Fld Z h0 a1 "com/example/filigree/filigree/engine/DecisionTree" "m_aFirstKept" "[I" (.ref b3_)) (F4_ : Fld Z h0 a1 "com/example/filigree/filigree/engine/DecisionTree" "m_aKeptCount" "[I" (.ref b4_)) (F5_ : Fld Z h0 a1 "com/example/filigree/filigree/engine/DecisionTree" "m_aNextKept" "[I" (.ref b5_)) (F6_ : Fld Z h0 a1 "com/example/filigree/filigree/engine/DecisionTree" "m_aKept" "[Z" (.ref b6_)) (V0_ : Arv Z h0 b0_ k0_ .int (64 : Int32) [(.int (-1 : Int32)), (.int (Int32.ofNat 0)), (.int (Int32.ofNat 1)), (.int (Int32.ofNat p3))] (.int (0 : Int32))) (V3_ : Arv Z h0 b3_ k3_ .int (64 : Int32) [(.int (sq.2.1 0)), (.int (sq.2.1 1)), (.int (sq.2.1 2)), (.int (sq.2.1 3))] (.int (0 : Int32))) (V4_ : Arv Z h0 b4_ k4_ .int (64 : Int32) [(.int (sq.2.2.2 0)), (.int (sq.2.2.2 1)), (.int (sq.2.2.2 2)), (.int (sq.2.2.2 3))] (.int (0 : Int32))) (V5_ : Arv Z h0 b5_ k5_ .int (64 : Int32) [(.int (sq.2.2.1 0)), (.int (sq.2.2.1 1)), (.int (sq.2.2.1 2)), (.int (sq.2.2.1 3))] (.int (0 : Int32))) (V6_ : Arv Z h0 b6_ k6_ .boolean (64 : Int32) [(.int (sq.1 0)), (.int (sq.1 1)), (.int (sq.1 2)), (.int (sq.1 3))] (.int (0 : Int32))) (gb3 : n0 ≤ b3_) (gb4 : n0 ≤ b4_) (gb5 : n0 ≤ b5_) (gb6 : n0 ≤ b6_) (n0_ : a1 ≠ b0_) (n1_ : a1 ≠ b3_) (n2_ : a1 ≠ b4_) (n3_ : a1 ≠ b5_) (n4_ : a1 ≠ b6_) (n5_ : b0_ ≠ b3_) (n6_ : b0_ ≠ b4_) (n7_ : b0_ ≠ b5_) (n8_ : b0_ ≠ b6_) (n9_ : b3_ ≠ b4_) (n10_ : b3_ ≠ b5_) (n11_ : b3_ ≠ b6_) (n12_ : b4_ ≠ b5_) (n13_ : b4_ ≠ b6_) (n14_ : b5_ ≠ b6_) (hxn : (xn ≤ 3)) (hp3 : (p3 ≤ 1)) :
    MetFree l (⟨"com/example/filigree/filigree/engine/DecisionTree", "keep", "(I)V"⟩ : MethodName) (head1 (Jvm.Cond.code (⟨"com/example/filigree/filigree/engine/DecisionTree", "keep", "(I)V"⟩ : MethodName) prog_11_method_5_code 4 none :: ws) ({ frames := 0, cells := 0, slots := 0, locals := 0 } : Room)) (fun a U => a = #[(.ref a1), (.int (Int32.ofNat xn))] ∧ Z.Warmed39 U.vm ∧ U.heap = h0) (fun _ _ _ _ _ => True) (fun _ U o U' => ∃ v L, o = .returned v ∧ Q_keep Z a1 xn p3 sq b0_ b3_ b4_ b5_ b6_ k0_ k3_ k4_ k5_ k6_ h0 n0 v U'.heap L ∧ FrameEnd U o U' L ({ frames := 0, cells := 0, slots := 0, locals := 0 } : Room).cells ({ frames := 0, cells := 0, slots := 0, locals := 0 } : Room).slots) := by
  refine MetFree.of_bodySF (plainFor_of_name pn_keep) hisR ?_
  intro p e s m args below meth c s₁ Bd hml0 hP hK
  obtain ⟨rfl, hZ, hh⟩ := hP
  have hx := Bd.exec
  have hby := Bd.bytes
  have hml : c.maxLocals = 4 := hml0
  have hown : s.vm.findClass "com/example/filigree/filigree/engine/DecisionTree" = some m.cls := findClass_of_methodNamed Bd.named
  have hnm := (name_of_methodNamed Bd.named Bd.method).1
  have X0 : Stand p l e ({ frames := 0, cells := 0, slots := 0, locals := 0 } : Room) s m #[(.ref a1), (.int (Int32.ofNat xn))] below meth c s₁ [] 0 0 := Stand.of_body Bd
  have e0 : s₁.heap = h0 := by rw [← hh, Bd.state]; rfl
  have N0 := Fr.nil n0
  refine own_in ?_
  refine own_go (S' := s₁.setTop (mkF m 0 #[.val (.ref a1), .val (.int (Int32.ofNat xn)), .unset, .unset] [])) (fun tgt_ stp_ => castTop (ef_keep m a1 xn p3 sq b0_ b3_ b4_ b5_ b6_ k0_ k3_ k4_ k5_ k6_) stp_) ?_
  have K0 : Keep h0 h0 [b3_, b4_, b5_, b6_] := Keep.refl h0 _
  refine own_go (S' := s₁.setTop (mkF m 2 #[.val (.ref a1), .val (.int (Int32.ofNat xn)), .val (.int (Int32.ofNat xn)), .unset] [])) (fun target kt => ?_) ?_
  · show Steps p.tables e below (s₁.setTop (mkF m 0 #[.val (.ref a1), .val (.int (Int32.ofNat xn)), .unset, .unset] [])) target
    refine XS.iloadN X0.here hx rfl (hb hby d_keep_0) rfl ?_
    show Steps p.tables e below (s₁.setTop (mkF m 1 #[.val (.ref a1), .val (.int (Int32.ofNat xn)), .unset, .unset] [(.int (Int32.ofNat xn))])) target
    refine XS.istoreN X0.here hx rfl (hb hby d_keep_1) rfl (l' := #[.val (.ref a1), .val (.int (Int32.ofNat xn)), .val (.int (Int32.ofNat xn)), .unset]) rfl ?_
    show Steps p.tables e below (s₁.setTop (mkF m 2 #[.val (.ref a1), .val (.int (Int32.ofNat xn)), .val (.int (Int32.ofNat xn)), .unset] [])) target
    exact kt
  refine own_loop (α := State × Heap × (List Loc) × Nat × Nat × ((Nat → Int32) × (Nat → Int32) × (Nat → Int32) × (Nat → Int32)) × Slot) (fun a => a.2.2.2.1) (fun a => (Stand p l e ({ frames := 0, cells := 0, slots := 0, locals := 0 } : Room) s m #[(.ref a1), (.int (Int32.ofNat xn))] below meth c a.1 a.2.2.1 0 0) ∧ (a.1.heap = a.2.1) ∧ (Fr n0 a.2.2.1) ∧ (n0 ≤ a.2.1.size) ∧ (Keep h0 a.2.1 [b3_, b4_, b5_, b6_]) ∧ (Fld Z a.2.1 a1 "com/example/filigree/filigree/engine/DecisionTree" "m_aParent" "[I" (.ref b0_)) ∧ (Fld Z a.2.1 a1 "com/example/filigree/filigree/engine/DecisionTree" "m_aFirstKept" "[I" (.ref b3_)) ∧ (Fld Z a.2.1 a1 "com/example/filigree/filigree/engine/DecisionTree" "m_aKeptCount" "[I" (.ref b4_)) ∧ (Fld Z a.2.1 a1 "com/example/filigree/filigree/engine/DecisionTree" "m_aNextKept" "[I" (.ref b5_)) ∧ (Fld Z a.2.1 a1 "com/example/filigree/filigree/engine/DecisionTree" "m_aKept" "[Z" (.ref b6_)) ∧ (Arv Z a.2.1 b0_ k0_ .int (64 : Int32) [(.int (-1 : Int32)), (.int (Int32.ofNat 0)), (.int (Int32.ofNat 1)), (.int (Int32.ofNat p3))] (.int (0 : Int32))) ∧ (Arv Z a.2.1 b3_ k3_ .int (64 : Int32) [(.int (a.2.2.2.2.2.1.2.1 0)), (.int (a.2.2.2.2.2.1.2.1 1)), (.int (a.2.2.2.2.2.1.2.1 2)), (.int (a.2.2.2.2.2.1.2.1 3))] (.int (0 : Int32))) ∧ (Arv Z a.2.1 b4_ k4_ .int (64 : Int32) [(.int (a.2.2.2.2.2.1.2.2.2 0)), (.int (a.2.2.2.2.2.1.2.2.2 1)), (.int (a.2.2.2.2.2.1.2.2.2 2)), (.int (a.2.2.2.2.2.1.2.2.2 3))] (.int (0 : Int32))) ∧ (Arv Z a.2.1 b5_ k5_ .int (64 : Int32) [(.int (a.2.2.2.2.2.1.2.2.1 0)), (.int (a.2.2.2.2.2.1.2.2.1 1)), (.int (a.2.2.2.2.2.1.2.2.1 2)), (.int (a.2.2.2.2.2.1.2.2.1 3))] (.int (0 : Int32))) ∧ (Arv Z a.2.1 b6_ k6_ .boolean (64 : Int32) [(.int (a.2.2.2.2.2.1.1 0)), (.int (a.2.2.2.2.2.1.1 1)), (.int (a.2.2.2.2.2.1.1 2)), (.int (a.2.2.2.2.2.1.1 3))] (.int (0 : Int32))) ∧ (a.2.2.2.2.1 ≤ 3) ∧ (a.2.2.2.2.1 < a.2.2.2.1) ∧ (own_keep p3 a.2.2.2.1 a.2.2.2.2.1 a.2.2.2.2.2.1 = own_keep p3 4 xn sq) ∧ (One a.2.2.2.2.2.2)) (fun a => a.1.setTop (mkF m 2 #[.val (.ref a1), .val (.int (Int32.ofNat xn)), .val (.int (Int32.ofNat a.2.2.2.2.1)), a.2.2.2.2.2.2] [])) ?_ ?_
  · rintro ⟨T2j, h2j, lo2j, n_, yn, sw, s3⟩ ⟨X2j_, e2j_, N2j_, Z2j_, K2j_, G0__, G1__, G2__, G3__, G4__, W0__, W3__, W4__, W5__, W6__, hy_, hfu_, hR_, hs3_⟩ ih2
    have X2j : Stand p l e ({ frames := 0, cells := 0, slots := 0, locals := 0 } : Room) s m #[(.ref a1), (.int (Int32.ofNat xn))] below meth c T2j lo2j 0 0 := X2j_
    have e2j : T2j.heap = h2j := e2j_
    have N2j : Fr n0 lo2j := N2j_
    have Z2j : n0 ≤ h2j.size := Z2j_
    have K2j : Keep h0 h2j [b3_, b4_, b5_, b6_] := K2j_
    have G0_ : Fld Z h2j a1 "com/example/filigree/filigree/engine/DecisionTree" "m_aParent" "[I" (.ref b0_) := G0__
    have G1_ : Fld Z h2j a1 "com/example/filigree/filigree/engine/DecisionTree" "m_aFirstKept" "[I" (.ref b3_) := G1__
    have G2_ : Fld Z h2j a1 "com/example/filigree/filigree/engine/DecisionTree" "m_aKeptCount" "[I" (.ref b4_) := G2__
    have G3_ : Fld Z h2j a1 "com/example/filigree/filigree/engine/DecisionTree" "m_aNextKept" "[I" (.ref b5_) := G3__
    have G4_ : Fld Z h2j a1 "com/example/filigree/filigree/engine/DecisionTree" "m_aKept" "[Z" (.ref b6_) := G4__
    have W0_ : Arv Z h2j b0_ k0_ .int (64 : Int32) [(.int (-1 : Int32)), (.int (Int32.ofNat 0)), (.int (Int32.ofNat 1)), (.int (Int32.ofNat p3))] (.int (0 : Int32)) := W0__
    have W3_ : Arv Z h2j b3_ k3_ .int (64 : Int32) [(.int (sw.2.1 0)), (.int (sw.2.1 1)), (.int (sw.2.1 2)), (.int (sw.2.1 3))] (.int (0 : Int32)) := W3__
    have W4_ : Arv Z h2j b4_ k4_ .int (64 : Int32) [(.int (sw.2.2.2 0)), (.int (sw.2.2.2 1)), (.int (sw.2.2.2 2)), (.int (sw.2.2.2 3))] (.int (0 : Int32)) := W4__
    have W5_ : Arv Z h2j b5_ k5_ .int (64 : Int32) [(.int (sw.2.2.1 0)), (.int (sw.2.2.1 1)), (.int (sw.2.2.1 2)), (.int (sw.2.2.1 3))] (.int (0 : Int32)) := W5__
    have W6_ : Arv Z h2j b6_ k6_ .boolean (64 : Int32) [(.int (sw.1 0)), (.int (sw.1 1)), (.int (sw.1 2)), (.int (sw.1 3))] (.int (0 : Int32)) := W6__
    have hy : yn ≤ 3 := hy_
    have hfu : yn < n_ := hfu_
    have hR : own_keep p3 n_ yn sw = own_keep p3 4 xn sq := hR_
    have hs3 : One s3 := hs3_
    show own_G p.tables e below _ (T2j.setTop (mkF m 2 #[.val (.ref a1), .val (.int (Int32.ofNat xn)), .val (.int (Int32.ofNat yn)), s3] []))
    refine own_go (S' := T2j.setTop (mkF m 3 #[.val (.ref a1), .val (.int (Int32.ofNat xn)), .val (.int (Int32.ofNat yn)), s3] [(.int (Int32.ofNat yn))])) (fun target kt => ?_) ?_
    · show Steps p.tables e below (T2j.setTop (mkF m 2 #[.val (.ref a1), .val (.int (Int32.ofNat xn)), .val (.int (Int32.ofNat yn)), s3] [])) target
      refine XS.iloadN X2j.here hx rfl (hb hby d_keep_2) rfl ?_
      show Steps p.tables e below (T2j.setTop (mkF m 3 #[.val (.ref a1), .val (.int (Int32.ofNat xn)), .val (.int (Int32.ofNat yn)), s3] [(.int (Int32.ofNat yn))])) target
      exact kt
    by_cases hc3 : (Int32.ofNat yn) = (0 : Int32)
    · -- pc 3: yes
      refine own_go (S' := T2j.setTop (mkF m 63 #[.val (.ref a1), .val (.int (Int32.ofNat xn)), .val (.int (Int32.ofNat yn)), s3] [])) (fun target kt => ?_) ?_
      · show Steps p.tables e below (T2j.setTop (mkF m 3 #[.val (.ref a1), .val (.int (Int32.ofNat xn)), .val (.int (Int32.ofNat yn)), s3] [(.int (Int32.ofNat yn))])) target
        refine XS.ifYes X2j.here hx rfl (pc0 := 3) (pc' := 63) rfl (hb hby d_keep_3) rfl ((if0 _ _).trans (teq hc3).1) (by decide) (by decide) ?_
        show Steps p.tables e below (T2j.setTop (mkF m 63 #[.val (.ref a1), .val (.int (Int32.ofNat xn)), .val (.int (Int32.ofNat yn)), s3] [])) target
        exact kt
      obtain ⟨fs, hr, hrun, hended, hW, hsame⟩ := X2j.leave (v := none) (fun _ => rfl)
      refine ⟨_, _, X2j.returnOut hx Bd.returns (hb hby d_keep_63) hr, hrun, hended, _, _, rfl, ?_, ⟨_, rfl⟩, hW, hsame.mono (by decide) (by decide)⟩
      show Q_keep Z a1 xn p3 sq b0_ b3_ b4_ b5_ b6_ k0_ k3_ k4_ k5_ k6_ h0 n0 _ T2j.heap _
      rw [e2j]
      exact ⟨rfl, N2j, K2j, (by rw [← own_kend0 hc3 hfu hR]; exact W3_), (by rw [← own_kend0 hc3 hfu hR]; exact W4_), (by rw [← own_kend0 hc3 hfu hR]; exact W5_), (by rw [← own_kend0 hc3 hfu hR]; exact W6_)⟩
    · -- pc 3: no
      obtain ⟨T_1, X_1, e_1, st_1⟩ := getF X2j hx hZ hown (host := "") (Or.inl (hw _ (List.mem_of_getElem? (i := 23) rfl))) Via.refl e2j G4_ (g := (mkF m 7 #[.val (.ref a1), .val (.int (Int32.ofNat xn)), .val (.int (Int32.ofNat yn)), s3] [(.ref a1)])) rfl rfl (hb hby d_keep_7)
      obtain ⟨c_2, Ar_2, q_2, S_2, M_2, Hs_2, G_2⟩ := id W6_
      have hin_2 : ¬ ((Int32.ofNat yn) < 0 ∨ c_2.slots.size ≤ ((Int32.ofNat yn)).toNatClampNeg) := inb_of S_2 (own_inN hy)
      have hat_2 : c_2.slots[((Int32.ofNat yn)).toNatClampNeg]? = some (.int (sw.1 yn)) := Hs_2.at hin_2 (own_getN (sw.1) _ hy)
      refine own_go (S' := T_1.setTop (mkF m 12 #[.val (.ref a1), .val (.int (Int32.ofNat xn)), .val (.int (Int32.ofNat yn)), s3] [(.int (sw.1 yn))])) (fun target kt => ?_) ?_
      · show Steps p.tables e below (T2j.setTop (mkF m 3 #[.val (.ref a1), .val (.int (Int32.ofNat xn)), .val (.int (Int32.ofNat yn)), s3] [(.int (Int32.ofNat yn))])) target
        refine XS.ifNo X2j.here hx rfl (hb hby d_keep_3) rfl ((if0 _ _).trans (feq hc3).1) ?_
        show Steps p.tables e below (T2j.setTop (mkF m 6 #[.val (.ref a1), .val (.int (Int32.ofNat xn)), .val (.int (Int32.ofNat yn)), s3] [])) target
        refine XS.aloadN X2j.here hx rfl (hb hby d_keep_6) rfl rfl ?_
        show Steps p.tables e below (T2j.setTop (mkF m 7 #[.val (.ref a1), .val (.int (Int32.ofNat xn)), .val (.int (Int32.ofNat yn)), s3] [(.ref a1)])) target
        refine st_1 _ ?_
        show Steps p.tables e below (T_1.setTop (mkF m 10 #[.val (.ref a1), .val (.int (Int32.ofNat xn)), .val (.int (Int32.ofNat yn)), s3] [(.ref b6_)])) target
        refine XS.iloadN X_1.here hx rfl (hb hby d_keep_10) rfl ?_
        show Steps p.tables e below (T_1.setTop (mkF m 11 #[.val (.ref a1), .val (.int (Int32.ofNat xn)), .val (.int (Int32.ofNat yn)), s3] [(.int (Int32.ofNat yn)), (.ref b6_)])) target
        refine X_1.baloadBooleans hx (j := (Int32.ofNat yn)) (v := (.int (sw.1 yn))) (by rw [e_1]; exact Ar_2.1) (State.isArrayOf_alike hZ.alike Ar_2.2.1) Ar_2.2.2 hin_2 hat_2 (g := (mkF m 11 #[.val (.ref a1), .val (.int (Int32.ofNat xn)), .val (.int (Int32.ofNat yn)), s3] [(.int (Int32.ofNat yn)), (.ref b6_)])) rfl rfl (hb hby d_keep_11) _ ?_
        show Steps p.tables e below (T_1.setTop (mkF m 12 #[.val (.ref a1), .val (.int (Int32.ofNat xn)), .val (.int (Int32.ofNat yn)), s3] [(.int (sw.1 yn))])) target
        exact kt
      by_cases hc12 : (sw.1 yn) = (0 : Int32)
      · -- pc 12: yes
        obtain ⟨T_3, X_3, e_3, st_3⟩ := getF X_1 hx hZ hown (host := "") (Or.inl (hw _ (List.mem_of_getElem? (i := 10) rfl))) Via.refl e_1 G0_ (g := (mkF m 16 #[.val (.ref a1), .val (.int (Int32.ofNat xn)), .val (.int (Int32.ofNat yn)), s3] [(.ref a1)])) rfl rfl (hb hby d_keep_16)
        obtain ⟨c_4, Ar_4, q_4, S_4, M_4, Hs_4, G_4⟩ := id W0_
        have hin_4 : ¬ ((Int32.ofNat yn) < 0 ∨ c_4.slots.size ≤ ((Int32.ofNat yn)).toNatClampNeg) := inb_of S_4 (own_inN hy)
        have hat_4 : c_4.slots[((Int32.ofNat yn)).toNatClampNeg]? = some (.int (Int32.ofNat (own_par p3 yn))) := Hs_4.at hin_4 (own_getpar hy hc3)
        obtain ⟨T_5, X_5, e_5, st_5⟩ := getF X_3 hx hZ hown (host := "") (Or.inl (hw _ (List.mem_of_getElem? (i := 23) rfl))) Via.refl e_3 G4_ (g := (mkF m 23 #[.val (.ref a1), .val (.int (Int32.ofNat xn)), .val (.int (Int32.ofNat yn)), .val (.int (Int32.ofNat (own_par p3 yn)))] [(.ref a1)])) rfl rfl (hb hby d_keep_23)
        obtain ⟨c_6, Ar_6, q_6, S_6, M_6, Hs_6, G_6⟩ := id W6_
        have hin_6 : ¬ ((Int32.ofNat yn) < 0 ∨ c_6.slots.size ≤ ((Int32.ofNat yn)).toNatClampNeg) := inb_of S_6 (own_inN hy)
        obtain ⟨T_6, h_6, X_6, e_6, W_6, st_6⟩ := stZ X_5 hx hZ e_5 Ar_6 (j := (Int32.ofNat yn)) hin_6 (g := (mkF m 28 #[.val (.ref a1), .val (.int (Int32.ofNat xn)), .val (.int (Int32.ofNat yn)), .val (.int (Int32.ofNat (own_par p3 yn)))] [(.int (1 : Int32)), (.int (Int32.ofNat yn)), (.ref b6_)])) rfl rfl (hb hby d_keep_28)
        obtain ⟨Lg_6, XG_6, N_6⟩ := own_gen X_6 (Fr.snoc X_6 N2j gb6)
        have V_6 : Arv Z h_6 b6_ k6_ .boolean (64 : Int32) ([(.int (sw.1 0)), (.int (sw.1 1)), (.int (sw.1 2)), (.int (sw.1 3))].set yn (.int (nar .boolean (1 : Int32)))) (.int (0 : Int32)) := Arv.set Ar_6 q_6 S_6 M_6 Hs_6 G_6 (fits_nar_bool _) W_6 yn (own_clN hy) (own_le4 hy)
        have V_6' : Arv Z h_6 b6_ k6_ .boolean (64 : Int32) [(.int (own_up (sw.1) yn (nar .boolean (1 : Int32)) 0)), (.int (own_up (sw.1) yn (nar .boolean (1 : Int32)) 1)), (.int (own_up (sw.1) yn (nar .boolean (1 : Int32)) 2)), (.int (own_up (sw.1) yn (nar .boolean (1 : Int32)) 3))] (.int (0 : Int32)) := by
          have q := V_6
          rw [own_set4 (sw.1) (nar .boolean (1 : Int32)) _ hy] at q
          exact q
        have Z_7 : n0 ≤ h_6.size := Nat.le_trans Z2j (Keep.of_wr W_6).1
        have K_8 : Keep h0 h_6 [b3_, b4_, b5_, b6_] := K2j.wr W_6 (Or.inl (List.mem_of_getElem? (i := 3) rfl))
        have f_9 := (G3_.other W_6 (Or.inl n4_))
        obtain ⟨T_10, X_10, e_10, st_10⟩ := getF XG_6 hx hZ hown (host := "") (Or.inl (hw _ (List.mem_of_getElem? (i := 20) rfl))) Via.refl e_6 f_9 (g := (mkF m 30 #[.val (.ref a1), .val (.int (Int32.ofNat xn)), .val (.int (Int32.ofNat yn)), .val (.int (Int32.ofNat (own_par p3 yn)))] [(.ref a1)])) rfl rfl (hb hby d_keep_30)
        have f_11 := (G1_.other W_6 (Or.inl n4_))
        obtain ⟨T_12, X_12, e_12, st_12⟩ := getF X_10 hx hZ hown (host := "") (Or.inl (hw _ (List.mem_of_getElem? (i := 16) rfl))) Via.refl e_10 f_11 (g := (mkF m 35 #[.val (.ref a1), .val (.int (Int32.ofNat xn)), .val (.int (Int32.ofNat yn)), .val (.int (Int32.ofNat (own_par p3 yn)))] [(.ref a1), (.int (Int32.ofNat yn)), (.ref b5_)])) rfl rfl (hb hby d_keep_35)
        have f_13 := (W3_.other W_6 n11_)
        obtain ⟨c_14, Ar_14, q_14, S_14, M_14, Hs_14, G_14⟩ := id f_13
        have hin_14 : ¬ ((Int32.ofNat (own_par p3 yn)) < 0 ∨ c_14.slots.size ≤ ((Int32.ofNat (own_par p3 yn))).toNatClampNeg) := inb_of S_14 (own_inN (own_parle3 hp3 yn))
        have hat_14 : c_14.slots[((Int32.ofNat (own_par p3 yn))).toNatClampNeg]? = some (.int (sw.2.1 (own_par p3 yn))) := Hs_14.at hin_14 (own_getN (sw.2.1) _ (own_parle3 hp3 yn))
        have f_15 := (W5_.other W_6 n14_)
        obtain ⟨c_16, Ar_16, q_16, S_16, M_16, Hs_16, G_16⟩ := id f_15
        have hin_16 : ¬ ((Int32.ofNat yn) < 0 ∨ c_16.slots.size ≤ ((Int32.ofNat yn)).toNatClampNeg) := inb_of S_16 (own_inN hy)
        obtain ⟨T_16, h_16, X_16, e_16, W_16, st_16⟩ := stI X_12 hx hZ e_12 Ar_16 (j := (Int32.ofNat yn)) hin_16 (g := (mkF m 40 #[.val (.ref a1), .val (.int (Int32.ofNat xn)), .val (.int (Int32.ofNat yn)), .val (.int (Int32.ofNat (own_par p3 yn)))] [(.int (sw.2.1 (own_par p3 yn))), (.int (Int32.ofNat yn)), (.ref b5_)])) rfl rfl (hb hby d_keep_40)
        obtain ⟨Lg_16, XG_16, N_16⟩ := own_gen X_16 (Fr.snoc X_16 N_6 gb5)
        have V_16 : Arv Z h_16 b5_ k5_ .int (64 : Int32) ([(.int (sw.2.2.1 0)), (.int (sw.2.2.1 1)), (.int (sw.2.2.1 2)), (.int (sw.2.2.1 3))].set yn (.int (sw.2.1 (own_par p3 yn)))) (.int (0 : Int32)) := Arv.set Ar_16 q_16 S_16 M_16 Hs_16 G_16 rfl W_16 yn (own_clN hy) (own_le4 hy)
        have V_16' : Arv Z h_16 b5_ k5_ .int (64 : Int32) [(.int (own_up (sw.2.2.1) yn (sw.2.1 (own_par p3 yn)) 0)), (.int (own_up (sw.2.2.1) yn (sw.2.1 (own_par p3 yn)) 1)), (.int (own_up (sw.2.2.1) yn (sw.2.1 (own_par p3 yn)) 2)), (.int (own_up (sw.2.2.1) yn (sw.2.1 (own_par p3 yn)) 3))] (.int (0 : Int32)) := by
          have q := V_16
          rw [own_set4 (sw.2.2.1) (sw.2.1 (own_par p3 yn)) _ hy] at q
          exact q
        have Z_17 : n0 ≤ h_16.size := Nat.le_trans Z_7 (Keep.of_wr W_16).1
        have K_18 : Keep h0 h_16 [b3_, b4_, b5_, b6_] := K_8.wr W_16 (Or.inl (List.mem_of_getElem? (i := 2) rfl))
        have f_19 := (f_11.other W_16 (Or.inl n3_))
        obtain ⟨T_20, X_20, e_20, st_20⟩ := getF XG_16 hx hZ hown (host := "") (Or.inl (hw _ (List.mem_of_getElem? (i := 16) rfl))) Via.refl e_16 f_19 (g := (mkF m 42 #[.val (.ref a1), .val (.int (Int32.ofNat xn)), .val (.int (Int32.ofNat yn)), .val (.int (Int32.ofNat (own_par p3 yn)))] [(.ref a1)])) rfl rfl (hb hby d_keep_42)
        have f_21 := (f_13.other W_16 n10_)
        obtain ⟨c_22, Ar_22, q_22, S_22, M_22, Hs_22, G_22⟩ := id f_21
        have hin_22 : ¬ ((Int32.ofNat (own_par p3 yn)) < 0 ∨ c_22.slots.size ≤ ((Int32.ofNat (own_par p3 yn))).toNatClampNeg) := inb_of S_22 (own_inN (own_parle3 hp3 yn))
        obtain ⟨T_22, h_22, X_22, e_22, W_22, st_22⟩ := stI X_20 hx hZ e_20 Ar_22 (j := (Int32.ofNat (own_par p3 yn))) hin_22 (g := (mkF m 47 #[.val (.ref a1), .val (.int (Int32.ofNat xn)), .val (.int (Int32.ofNat yn)), .val (.int (Int32.ofNat (own_par p3 yn)))] [(.int (Int32.ofNat yn)), (.int (Int32.ofNat (own_par p3 yn))), (.ref b3_)])) rfl rfl (hb hby d_keep_47)
        obtain ⟨Lg_22, XG_22, N_22⟩ := own_gen X_22 (Fr.snoc X_22 N_16 gb3)
        have V_22 : Arv Z h_22 b3_ k3_ .int (64 : Int32) ([(.int (sw.2.1 0)), (.int (sw.2.1 1)), (.int (sw.2.1 2)), (.int (sw.2.1 3))].set (own_par p3 yn) (.int (Int32.ofNat yn))) (.int (0 : Int32)) := Arv.set Ar_22 q_22 S_22 M_22 Hs_22 G_22 rfl W_22 (own_par p3 yn) (own_clN (own_parle3 hp3 yn)) (own_le4 (own_parle3 hp3 yn))
        have V_22' : Arv Z h_22 b3_ k3_ .int (64 : Int32) [(.int (own_up (sw.2.1) (own_par p3 yn) (Int32.ofNat yn) 0)), (.int (own_up (sw.2.1) (own_par p3 yn) (Int32.ofNat yn) 1)), (.int (own_up (sw.2.1) (own_par p3 yn) (Int32.ofNat yn) 2)), (.int (own_up (sw.2.1) (own_par p3 yn) (Int32.ofNat yn) 3))] (.int (0 : Int32)) := by
          have q := V_22
          rw [own_set4 (sw.2.1) (Int32.ofNat yn) _ (own_parle3 hp3 yn)] at q
          exact q
        have Z_23 : n0 ≤ h_22.size := Nat.le_trans Z_17 (Keep.of_wr W_22).1
        have K_24 : Keep h0 h_22 [b3_, b4_, b5_, b6_] := K_18.wr W_22 (Or.inl (List.mem_of_getElem? (i := 0) rfl))
        have f_25 := (((G2_.other W_6 (Or.inl n4_)).other W_16 (Or.inl n3_)).other W_22 (Or.inl n1_))
        obtain ⟨T_26, X_26, e_26, st_26⟩ := getF XG_22 hx hZ hown (host := "") (Or.inl (hw _ (List.mem_of_getElem? (i := 18) rfl))) Via.refl e_22 f_25 (g := (mkF m 49 #[.val (.ref a1), .val (.int (Int32.ofNat xn)), .val (.int (Int32.ofNat yn)), .val (.int (Int32.ofNat (own_par p3 yn)))] [(.ref a1)])) rfl rfl (hb hby d_keep_49)
        have f_27 := (((W4_.other W_6 n13_).other W_16 n12_).other W_22 (Ne.symm n9_))
        obtain ⟨c_28, Ar_28, q_28, S_28, M_28, Hs_28, G_28⟩ := id f_27
        have hin_28 : ¬ ((Int32.ofNat (own_par p3 yn)) < 0 ∨ c_28.slots.size ≤ ((Int32.ofNat (own_par p3 yn))).toNatClampNeg) := inb_of S_28 (own_inN (own_parle3 hp3 yn))
        have hat_28 : c_28.slots[((Int32.ofNat (own_par p3 yn))).toNatClampNeg]? = some (.int (sw.2.2.2 (own_par p3 yn))) := Hs_28.at hin_28 (own_getN (sw.2.2.2) _ (own_parle3 hp3 yn))
        obtain ⟨c_29, Ar_29, q_29, S_29, M_29, Hs_29, G_29⟩ := id f_27
        have hin_29 : ¬ ((Int32.ofNat (own_par p3 yn)) < 0 ∨ c_29.slots.size ≤ ((Int32.ofNat (own_par p3 yn))).toNatClampNeg) := inb_of S_29 (own_inN (own_parle3 hp3 yn))
        obtain ⟨T_29, h_29, X_29, e_29, W_29, st_29⟩ := stI X_26 hx hZ e_26 Ar_29 (j := (Int32.ofNat (own_par p3 yn))) hin_29 (g := (mkF m 57 #[.val (.ref a1), .val (.int (Int32.ofNat xn)), .val (.int (Int32.ofNat yn)), .val (.int (Int32.ofNat (own_par p3 yn)))] [(.int ((sw.2.2.2 (own_par p3 yn)) + (1 : Int32))), (.int (Int32.ofNat (own_par p3 yn))), (.ref b4_)])) rfl rfl (hb hby d_keep_57)
        obtain ⟨Lg_29, XG_29, N_29⟩ := own_gen X_29 (Fr.snoc X_29 N_22 gb4)
        have V_29 : Arv Z h_29 b4_ k4_ .int (64 : Int32) ([(.int (sw.2.2.2 0)), (.int (sw.2.2.2 1)), (.int (sw.2.2.2 2)), (.int (sw.2.2.2 3))].set (own_par p3 yn) (.int ((sw.2.2.2 (own_par p3 yn)) + (1 : Int32)))) (.int (0 : Int32)) := Arv.set Ar_29 q_29 S_29 M_29 Hs_29 G_29 rfl W_29 (own_par p3 yn) (own_clN (own_parle3 hp3 yn)) (own_le4 (own_parle3 hp3 yn))
        have V_29' : Arv Z h_29 b4_ k4_ .int (64 : Int32) [(.int (own_up (sw.2.2.2) (own_par p3 yn) ((sw.2.2.2 (own_par p3 yn)) + (1 : Int32)) 0)), (.int (own_up (sw.2.2.2) (own_par p3 yn) ((sw.2.2.2 (own_par p3 yn)) + (1 : Int32)) 1)), (.int (own_up (sw.2.2.2) (own_par p3 yn) ((sw.2.2.2 (own_par p3 yn)) + (1 : Int32)) 2)), (.int (own_up (sw.2.2.2) (own_par p3 yn) ((sw.2.2.2 (own_par p3 yn)) + (1 : Int32)) 3))] (.int (0 : Int32)) := by
          have q := V_29
          rw [own_set4 (sw.2.2.2) ((sw.2.2.2 (own_par p3 yn)) + (1 : Int32)) _ (own_parle3 hp3 yn)] at q
          exact q
        have Z_30 : n0 ≤ h_29.size := Nat.le_trans Z_23 (Keep.of_wr W_29).1
        have K_31 : Keep h0 h_29 [b3_, b4_, b5_, b6_] := K_24.wr W_29 (Or.inl (List.mem_of_getElem? (i := 1) rfl))
        have f_32 := ((((G0_.other W_6 (Or.inl n4_)).other W_16 (Or.inl n3_)).other W_22 (Or.inl n1_)).other W_29 (Or.inl n2_))
        have f_33 := ((f_19.other W_22 (Or.inl n1_)).other W_29 (Or.inl n2_))
        have f_34 := (f_25.other W_29 (Or.inl n2_))
        have f_35 := (((f_9.other W_16 (Or.inl n3_)).other W_22 (Or.inl n1_)).other W_29 (Or.inl n2_))
        have f_36 := ((((G4_.other W_6 (Or.inl n4_)).other W_16 (Or.inl n3_)).other W_22 (Or.inl n1_)).other W_29 (Or.inl n2_))
        have f_37 := ((((W0_.other W_6 n8_).other W_16 n7_).other W_22 n5_).other W_29 n6_)
        have f_38 := (V_22'.other W_29 n9_)
        have f_39 := ((V_16'.other W_22 (Ne.symm n10_)).other W_29 (Ne.symm n12_))
        have f_40 := (((V_6'.other W_16 (Ne.symm n14_)).other W_22 (Ne.symm n11_)).other W_29 (Ne.symm n13_))
        refine own_go (S' := T_29.setTop (mkF m 2 #[.val (.ref a1), .val (.int (Int32.ofNat xn)), .val (.int (Int32.ofNat (own_par p3 yn))), .val (.int (Int32.ofNat (own_par p3 yn)))] [])) (fun target kt => ?_) ?_
        · show Steps p.tables e below (T_1.setTop (mkF m 12 #[.val (.ref a1), .val (.int (Int32.ofNat xn)), .val (.int (Int32.ofNat yn)), s3] [(.int (sw.1 yn))])) target
          refine XS.ifNo X_1.here hx rfl (hb hby d_keep_12) rfl ((if0 _ _).trans (teq hc12).2) ?_
          show Steps p.tables e below (T_1.setTop (mkF m 15 #[.val (.ref a1), .val (.int (Int32.ofNat xn)), .val (.int (Int32.ofNat yn)), s3] [])) target
          refine XS.aloadN X_1.here hx rfl (hb hby d_keep_15) rfl rfl ?_
          show Steps p.tables e below (T_1.setTop (mkF m 16 #[.val (.ref a1), .val (.int (Int32.ofNat xn)), .val (.int (Int32.ofNat yn)), s3] [(.ref a1)])) target
          refine st_3 _ ?_
          show Steps p.tables e below (T_3.setTop (mkF m 19 #[.val (.ref a1), .val (.int (Int32.ofNat xn)), .val (.int (Int32.ofNat yn)), s3] [(.ref b0_)])) target
          refine XS.iloadN X_3.here hx rfl (hb hby d_keep_19) rfl ?_
          show Steps p.tables e below (T_3.setTop (mkF m 20 #[.val (.ref a1), .val (.int (Int32.ofNat xn)), .val (.int (Int32.ofNat yn)), s3] [(.int (Int32.ofNat yn)), (.ref b0_)])) target
          refine X_3.iaload hx (j := (Int32.ofNat yn)) (v := (.int (Int32.ofNat (own_par p3 yn)))) (by rw [e_3]; exact Ar_4.1) (State.isArrayOf_alike hZ.alike Ar_4.2.1) Ar_4.2.2 hin_4 hat_4 (g := (mkF m 20 #[.val (.ref a1), .val (.int (Int32.ofNat xn)), .val (.int (Int32.ofNat yn)), s3] [(.int (Int32.ofNat yn)), (.ref b0_)])) rfl rfl (hb hby d_keep_20) _ ?_
          show Steps p.tables e below (T_3.setTop (mkF m 21 #[.val (.ref a1), .val (.int (Int32.ofNat xn)), .val (.int (Int32.ofNat yn)), s3] [(.int (Int32.ofNat (own_par p3 yn)))])) target
          refine XS.istoreN X_3.here hx rfl (hb hby d_keep_21) rfl (l' := #[.val (.ref a1), .val (.int (Int32.ofNat xn)), .val (.int (Int32.ofNat yn)), .val (.int (Int32.ofNat (own_par p3 yn)))]) (os_keep_21 hs3) ?_
          show Steps p.tables e below (T_3.setTop (mkF m 22 #[.val (.ref a1), .val (.int (Int32.ofNat xn)), .val (.int (Int32.ofNat yn)), .val (.int (Int32.ofNat (own_par p3 yn)))] [])) target
          refine XS.aloadN X_3.here hx rfl (hb hby d_keep_22) rfl rfl ?_
          show Steps p.tables e below (T_3.setTop (mkF m 23 #[.val (.ref a1), .val (.int (Int32.ofNat xn)), .val (.int (Int32.ofNat yn)), .val (.int (Int32.ofNat (own_par p3 yn)))] [(.ref a1)])) target
          refine st_5 _ ?_
          show Steps p.tables e below (T_5.setTop (mkF m 26 #[.val (.ref a1), .val (.int (Int32.ofNat xn)), .val (.int (Int32.ofNat yn)), .val (.int (Int32.ofNat (own_par p3 yn)))] [(.ref b6_)])) target
          refine XS.iloadN X_5.here hx rfl (hb hby d_keep_26) rfl ?_
          show Steps p.tables e below (T_5.setTop (mkF m 27 #[.val (.ref a1), .val (.int (Int32.ofNat xn)), .val (.int (Int32.ofNat yn)), .val (.int (Int32.ofNat (own_par p3 yn)))] [(.int (Int32.ofNat yn)), (.ref b6_)])) target
          refine XS.iconst X_5.here hx rfl (hb hby d_keep_27) ?_
          show Steps p.tables e below (T_5.setTop (mkF m 28 #[.val (.ref a1), .val (.int (Int32.ofNat xn)), .val (.int (Int32.ofNat yn)), .val (.int (Int32.ofNat (own_par p3 yn)))] [(.int (1 : Int32)), (.int (Int32.ofNat yn)), (.ref b6_)])) target
          refine st_6 _ ?_
          show Steps p.tables e below (T_6.setTop (mkF m 29 #[.val (.ref a1), .val (.int (Int32.ofNat xn)), .val (.int (Int32.ofNat yn)), .val (.int (Int32.ofNat (own_par p3 yn)))] [])) target
          refine XS.aloadN XG_6.here hx rfl (hb hby d_keep_29) rfl rfl ?_
          show Steps p.tables e below (T_6.setTop (mkF m 30 #[.val (.ref a1), .val (.int (Int32.ofNat xn)), .val (.int (Int32.ofNat yn)), .val (.int (Int32.ofNat (own_par p3 yn)))] [(.ref a1)])) target
          refine st_10 _ ?_
          show Steps p.tables e below (T_10.setTop (mkF m 33 #[.val (.ref a1), .val (.int (Int32.ofNat xn)), .val (.int (Int32.ofNat yn)), .val (.int (Int32.ofNat (own_par p3 yn)))] [(.ref b5_)])) target
          refine XS.iloadN X_10.here hx rfl (hb hby d_keep_33) rfl ?_
          show Steps p.tables e below (T_10.setTop (mkF m 34 #[.val (.ref a1), .val (.int (Int32.ofNat xn)), .val (.int (Int32.ofNat yn)), .val (.int (Int32.ofNat (own_par p3 yn)))] [(.int (Int32.ofNat yn)), (.ref b5_)])) target
          refine XS.aloadN X_10.here hx rfl (hb hby d_keep_34) rfl rfl ?_
          show Steps p.tables e below (T_10.setTop (mkF m 35 #[.val (.ref a1), .val (.int (Int32.ofNat xn)), .val (.int (Int32.ofNat yn)), .val (.int (Int32.ofNat (own_par p3 yn)))] [(.ref a1), (.int (Int32.ofNat yn)), (.ref b5_)])) target
          refine st_12 _ ?_
          show Steps p.tables e below (T_12.setTop (mkF m 38 #[.val (.ref a1), .val (.int (Int32.ofNat xn)), .val (.int (Int32.ofNat yn)), .val (.int (Int32.ofNat (own_par p3 yn)))] [(.ref b3_), (.int (Int32.ofNat yn)), (.ref b5_)])) target
          refine XS.iloadN X_12.here hx rfl (hb hby d_keep_38) rfl ?_
          show Steps p.tables e below (T_12.setTop (mkF m 39 #[.val (.ref a1), .val (.int (Int32.ofNat xn)), .val (.int (Int32.ofNat yn)), .val (.int (Int32.ofNat (own_par p3 yn)))] [(.int (Int32.ofNat (own_par p3 yn))), (.ref b3_), (.int (Int32.ofNat yn)), (.ref b5_)])) target
          refine X_12.iaload hx (j := (Int32.ofNat (own_par p3 yn))) (v := (.int (sw.2.1 (own_par p3 yn)))) (by rw [e_12]; exact Ar_14.1) (State.isArrayOf_alike hZ.alike Ar_14.2.1) Ar_14.2.2 hin_14 hat_14 (g := (mkF m 39 #[.val (.ref a1), .val (.int (Int32.ofNat xn)), .val (.int (Int32.ofNat yn)), .val (.int (Int32.ofNat (own_par p3 yn)))] [(.int (Int32.ofNat (own_par p3 yn))), (.ref b3_), (.int (Int32.ofNat yn)), (.ref b5_)])) rfl rfl (hb hby d_keep_39) _ ?_
          show Steps p.tables e below (T_12.setTop (mkF m 40 #[.val (.ref a1), .val (.int (Int32.ofNat xn)), .val (.int (Int32.ofNat yn)), .val (.int (Int32.ofNat (own_par p3 yn)))] [(.int (sw.2.1 (own_par p3 yn))), (.int (Int32.ofNat yn)), (.ref b5_)])) target
          refine st_16 _ ?_
          show Steps p.tables e below (T_16.setTop (mkF m 41 #[.val (.ref a1), .val (.int (Int32.ofNat xn)), .val (.int (Int32.ofNat yn)), .val (.int (Int32.ofNat (own_par p3 yn)))] [])) target
          refine XS.aloadN XG_16.here hx rfl (hb hby d_keep_41) rfl rfl ?_
          show Steps p.tables e below (T_16.setTop (mkF m 42 #[.val (.ref a1), .val (.int (Int32.ofNat xn)), .val (.int (Int32.ofNat yn)), .val (.int (Int32.ofNat (own_par p3 yn)))] [(.ref a1)])) target
          refine st_20 _ ?_
          show Steps p.tables e below (T_20.setTop (mkF m 45 #[.val (.ref a1), .val (.int (Int32.ofNat xn)), .val (.int (Int32.ofNat yn)), .val (.int (Int32.ofNat (own_par p3 yn)))] [(.ref b3_)])) target
          refine XS.iloadN X_20.here hx rfl (hb hby d_keep_45) rfl ?_
          show Steps p.tables e below (T_20.setTop (mkF m 46 #[.val (.ref a1), .val (.int (Int32.ofNat xn)), .val (.int (Int32.ofNat yn)), .val (.int (Int32.ofNat (own_par p3 yn)))] [(.int (Int32.ofNat (own_par p3 yn))), (.ref b3_)])) target
          refine XS.iloadN X_20.here hx rfl (hb hby d_keep_46) rfl ?_
          show Steps p.tables e below (T_20.setTop (mkF m 47 #[.val (.ref a1), .val (.int (Int32.ofNat xn)), .val (.int (Int32.ofNat yn)), .val (.int (Int32.ofNat (own_par p3 yn)))] [(.int (Int32.ofNat yn)), (.int (Int32.ofNat (own_par p3 yn))), (.ref b3_)])) target
          refine st_22 _ ?_
          show Steps p.tables e below (T_22.setTop (mkF m 48 #[.val (.ref a1), .val (.int (Int32.ofNat xn)), .val (.int (Int32.ofNat yn)), .val (.int (Int32.ofNat (own_par p3 yn)))] [])) target
          refine XS.aloadN XG_22.here hx rfl (hb hby d_keep_48) rfl rfl ?_
          show Steps p.tables e below (T_22.setTop (mkF m 49 #[.val (.ref a1), .val (.int (Int32.ofNat xn)), .val (.int (Int32.ofNat yn)), .val (.int (Int32.ofNat (own_par p3 yn)))] [(.ref a1)])) target
          refine st_26 _ ?_
          show Steps p.tables e below (T_26.setTop (mkF m 52 #[.val (.ref a1), .val (.int (Int32.ofNat xn)), .val (.int (Int32.ofNat yn)), .val (.int (Int32.ofNat (own_par p3 yn)))] [(.ref b4_)])) target
          refine XS.iloadN X_26.here hx rfl (hb hby d_keep_52) rfl ?_
          show Steps p.tables e below (T_26.setTop (mkF m 53 #[.val (.ref a1), .val (.int (Int32.ofNat xn)), .val (.int (Int32.ofNat yn)), .val (.int (Int32.ofNat (own_par p3 yn)))] [(.int (Int32.ofNat (own_par p3 yn))), (.ref b4_)])) target
          refine Jvm.Free.XT.dup2 X_26.here hx rfl (hb hby d_keep_53) rfl rfl rfl ?_
          show Steps p.tables e below (T_26.setTop (mkF m 54 #[.val (.ref a1), .val (.int (Int32.ofNat xn)), .val (.int (Int32.ofNat yn)), .val (.int (Int32.ofNat (own_par p3 yn)))] [(.int (Int32.ofNat (own_par p3 yn))), (.ref b4_), (.int (Int32.ofNat (own_par p3 yn))), (.ref b4_)])) target
          refine X_26.iaload hx (j := (Int32.ofNat (own_par p3 yn))) (v := (.int (sw.2.2.2 (own_par p3 yn)))) (by rw [e_26]; exact Ar_28.1) (State.isArrayOf_alike hZ.alike Ar_28.2.1) Ar_28.2.2 hin_28 hat_28 (g := (mkF m 54 #[.val (.ref a1), .val (.int (Int32.ofNat xn)), .val (.int (Int32.ofNat yn)), .val (.int (Int32.ofNat (own_par p3 yn)))] [(.int (Int32.ofNat (own_par p3 yn))), (.ref b4_), (.int (Int32.ofNat (own_par p3 yn))), (.ref b4_)])) rfl rfl (hb hby d_keep_54) _ ?_
          show Steps p.tables e below (T_26.setTop (mkF m 55 #[.val (.ref a1), .val (.int (Int32.ofNat xn)), .val (.int (Int32.ofNat yn)), .val (.int (Int32.ofNat (own_par p3 yn)))] [(.int (sw.2.2.2 (own_par p3 yn))), (.int (Int32.ofNat (own_par p3 yn))), (.ref b4_)])) target
          refine XS.iconst X_26.here hx rfl (hb hby d_keep_55) ?_
          show Steps p.tables e below (T_26.setTop (mkF m 56 #[.val (.ref a1), .val (.int (Int32.ofNat xn)), .val (.int (Int32.ofNat yn)), .val (.int (Int32.ofNat (own_par p3 yn)))] [(.int (1 : Int32)), (.int (sw.2.2.2 (own_par p3 yn))), (.int (Int32.ofNat (own_par p3 yn))), (.ref b4_)])) target
          refine XS.iadd X_26.here hx rfl (hb hby d_keep_56) rfl ?_
          show Steps p.tables e below (T_26.setTop (mkF m 57 #[.val (.ref a1), .val (.int (Int32.ofNat xn)), .val (.int (Int32.ofNat yn)), .val (.int (Int32.ofNat (own_par p3 yn)))] [(.int ((sw.2.2.2 (own_par p3 yn)) + (1 : Int32))), (.int (Int32.ofNat (own_par p3 yn))), (.ref b4_)])) target
          refine st_29 _ ?_
          show Steps p.tables e below (T_29.setTop (mkF m 58 #[.val (.ref a1), .val (.int (Int32.ofNat xn)), .val (.int (Int32.ofNat yn)), .val (.int (Int32.ofNat (own_par p3 yn)))] [])) target
          refine XS.iloadN XG_29.here hx rfl (hb hby d_keep_58) rfl ?_
          show Steps p.tables e below (T_29.setTop (mkF m 59 #[.val (.ref a1), .val (.int (Int32.ofNat xn)), .val (.int (Int32.ofNat yn)), .val (.int (Int32.ofNat (own_par p3 yn)))] [(.int (Int32.ofNat (own_par p3 yn)))])) target
          refine XS.istoreN XG_29.here hx rfl (hb hby d_keep_59) rfl (l' := #[.val (.ref a1), .val (.int (Int32.ofNat xn)), .val (.int (Int32.ofNat (own_par p3 yn))), .val (.int (Int32.ofNat (own_par p3 yn)))]) rfl ?_
          show Steps p.tables e below (T_29.setTop (mkF m 60 #[.val (.ref a1), .val (.int (Int32.ofNat xn)), .val (.int (Int32.ofNat (own_par p3 yn))), .val (.int (Int32.ofNat (own_par p3 yn)))] [])) target
          refine XS.goto XG_29.here hx rfl (pc0 := 60) (pc' := 2) rfl (hb hby d_keep_60) (by decide) (by decide) ?_
          show Steps p.tables e below (T_29.setTop (mkF m 2 #[.val (.ref a1), .val (.int (Int32.ofNat xn)), .val (.int (Int32.ofNat (own_par p3 yn))), .val (.int (Int32.ofNat (own_par p3 yn)))] [])) target
          exact kt
        exact ih2 (T_29, h_29, _, (n_ - 1), (own_par p3 yn), (own_kstep (own_par p3 yn) yn sw), (.val (.int (Int32.ofNat (own_par p3 yn))))) ⟨XG_29, e_29, N_29, Z_30, K_31, f_32, f_33, f_34, f_35, f_36, f_37, f_38, V_29', f_39, f_40, (own_parle hp3 yn), (own_parlt hp3 hy hc3 hfu), ((own_kone hy hfu hc3 hc12).trans hR), (One.val rfl)⟩ (by show n_ - 1 < n_; omega)
      · -- pc 12: no
        refine own_go (S' := T_1.setTop (mkF m 63 #[.val (.ref a1), .val (.int (Int32.ofNat xn)), .val (.int (Int32.ofNat yn)), s3] [])) (fun target kt => ?_) ?_
        · show Steps p.tables e below (T_1.setTop (mkF m 12 #[.val (.ref a1), .val (.int (Int32.ofNat xn)), .val (.int (Int32.ofNat yn)), s3] [(.int (sw.1 yn))])) target
          refine XS.ifYes X_1.here hx rfl (pc0 := 12) (pc' := 63) rfl (hb hby d_keep_12) rfl ((if0 _ _).trans (feq hc12).2) (by decide) (by decide) ?_
          show Steps p.tables e below (T_1.setTop (mkF m 63 #[.val (.ref a1), .val (.int (Int32.ofNat xn)), .val (.int (Int32.ofNat yn)), s3] [])) target
          exact kt
        obtain ⟨fs, hr, hrun, hended, hW, hsame⟩ := X_1.leave (v := none) (fun _ => rfl)
        refine ⟨_, _, X_1.returnOut hx Bd.returns (hb hby d_keep_63) hr, hrun, hended, _, _, rfl, ?_, ⟨_, rfl⟩, hW, hsame.mono (by decide) (by decide)⟩
        show Q_keep Z a1 xn p3 sq b0_ b3_ b4_ b5_ b6_ k0_ k3_ k4_ k5_ k6_ h0 n0 _ T_1.heap _
        rw [e_1]
        exact ⟨rfl, N2j, K2j, (by rw [← own_kend1 hc3 hc12 hfu hR]; exact W3_), (by rw [← own_kend1 hc3 hc12 hfu hR]; exact W4_), (by rw [← own_kend1 hc3 hc12 hfu hR]; exact W5_), (by rw [← own_kend1 hc3 hc12 hfu hR]; exact W6_)⟩
  · intro J2
    exact J2 (s₁, h0, _, 4, xn, sq, (.unset)) ⟨X0, e0, N0, Z0, K0, F0_, F3_, F4_, F5_, F6_, V0_, V3_, V4_, V5_, V6_, hxn, (Nat.lt_succ_of_le hxn), rfl, One.u⟩
-- com/example/filigree/filigree/engine/DecisionTreeKeepPinLaw.children:(Lcom/example/filigree/filigree/engine/DecisionTree;IZIZI)Z
theorem d_chl_0 : decode method_3_code 0 = .ok (.iload_n 2, 1) := by decide +kernel
theorem d_chl_1 : decode method_3_code 1 = .ok (.ifCond .eq 7, 3) := by decide +kernel
theorem d_chl_4 : decode method_3_code 4 = .ok (.iconst 1, 1) := by decide +kernel
theorem d_chl_5 : decode method_3_code 5 = .ok (.goto 4, 3) := by decide +kernel
theorem d_chl_8 : decode method_3_code 8 = .ok (.iconst 0, 1) := by decide +kernel
theorem d_chl_9 : decode method_3_code 9 = .ok (.iload 4, 2) := by decide +kernel
theorem d_chl_11 : decode method_3_code 11 = .ok (.ifCond .eq 7, 3) := by decide +kernel
theorem d_chl_14 : decode method_3_code 14 = .ok (.iconst 1, 1) := by decide +kernel
theorem d_chl_15 : decode method_3_code 15 = .ok (.goto 4, 3) := by decide +kernel
theorem d_chl_18 : decode method_3_code 18 = .ok (.iconst 0, 1) := by decide +kernel
theorem d_chl_19 : decode method_3_code 19 = .ok (.iadd, 1) := by decide +kernel
theorem d_chl_20 : decode method_3_code 20 = .ok (.istore 6, 2) := by decide +kernel
theorem d_chl_22 : decode method_3_code 22 = .ok (.aload_n 0, 1) := by decide +kernel
theorem d_chl_23 : decode method_3_code 23 = .ok (.iload_n 1, 1) := by decide +kernel
theorem d_chl_24 : decode method_3_code 24 = .ok (.invokevirtual 28, 3) := by decide +kernel
theorem d_chl_27 : decode method_3_code 27 = .ok (.iload 6, 2) := by decide +kernel
theorem d_chl_29 : decode method_3_code 29 = .ok (.if_icmp .eq 5, 3) := by decide +kernel
theorem d_chl_32 : decode method_3_code 32 = .ok (.iconst 0, 1) := by decide +kernel
theorem d_chl_33 : decode method_3_code 33 = .ok (.ireturn, 1) := by decide +kernel
theorem d_chl_34 : decode method_3_code 34 = .ok (.aload_n 0, 1) := by decide +kernel
theorem d_chl_35 : decode method_3_code 35 = .ok (.iload_n 1, 1) := by decide +kernel
theorem d_chl_36 : decode method_3_code 36 = .ok (.invokevirtual 32, 3) := by decide +kernel
theorem d_chl_39 : decode method_3_code 39 = .ok (.istore 7, 2) := by decide +kernel
theorem d_chl_41 : decode method_3_code 41 = .ok (.iload 6, 2) := by decide +kernel
theorem d_chl_43 : decode method_3_code 43 = .ok (.ifCond .ne 15, 3) := by decide +kernel
theorem d_chl_46 : decode method_3_code 46 = .ok (.iload 7, 2) := by decide +kernel
theorem d_chl_48 : decode method_3_code 48 = .ok (.iconst (-1), 1) := by decide +kernel
theorem d_chl_49 : decode method_3_code 49 = .ok (.if_icmp .ne 7, 3) := by decide +kernel
theorem d_chl_52 : decode method_3_code 52 = .ok (.iconst 1, 1) := by decide +kernel
theorem d_chl_53 : decode method_3_code 53 = .ok (.goto 4, 3) := by decide +kernel
theorem d_chl_56 : decode method_3_code 56 = .ok (.iconst 0, 1) := by decide +kernel
theorem d_chl_57 : decode method_3_code 57 = .ok (.ireturn, 1) := by decide +kernel
theorem d_chl_58 : decode method_3_code 58 = .ok (.iload 7, 2) := by decide +kernel
theorem d_chl_60 : decode method_3_code 60 = .ok (.ifCond .lt 9, 3) := by decide +kernel
theorem d_chl_63 : decode method_3_code 63 = .ok (.iload 7, 2) := by decide +kernel
theorem d_chl_65 : decode method_3_code 65 = .ok (.iconst 3, 1) := by decide +kernel
theorem d_chl_66 : decode method_3_code 66 = .ok (.if_icmp .le 5, 3) := by decide +kernel
theorem d_chl_69 : decode method_3_code 69 = .ok (.iconst 0, 1) := by decide +kernel
theorem d_chl_70 : decode method_3_code 70 = .ok (.ireturn, 1) := by decide +kernel
theorem d_chl_71 : decode method_3_code 71 = .ok (.aload_n 0, 1) := by decide +kernel
theorem d_chl_72 : decode method_3_code 72 = .ok (.iload 7, 2) := by decide +kernel
theorem d_chl_74 : decode method_3_code 74 = .ok (.invokevirtual 35, 3) := by decide +kernel
theorem d_chl_77 : decode method_3_code 77 = .ok (.istore 8, 2) := by decide +kernel
theorem d_chl_79 : decode method_3_code 79 = .ok (.iload 6, 2) := by decide +kernel
theorem d_chl_81 : decode method_3_code 81 = .ok (.iconst 1, 1) := by decide +kernel
theorem d_chl_82 : decode method_3_code 82 = .ok (.if_icmp .ne 34, 3) := by decide +kernel
theorem d_chl_85 : decode method_3_code 85 = .ok (.iload_n 2, 1) := by decide +kernel
theorem d_chl_86 : decode method_3_code 86 = .ok (.ifCond .eq 7, 3) := by decide +kernel
theorem d_chl_89 : decode method_3_code 89 = .ok (.iload_n 3, 1) := by decide +kernel
theorem d_chl_90 : decode method_3_code 90 = .ok (.goto 5, 3) := by decide +kernel
theorem d_chl_93 : decode method_3_code 93 = .ok (.iload 5, 2) := by decide +kernel
theorem d_chl_95 : decode method_3_code 95 = .ok (.istore 9, 2) := by decide +kernel
theorem d_chl_97 : decode method_3_code 97 = .ok (.iload 7, 2) := by decide +kernel
theorem d_chl_99 : decode method_3_code 99 = .ok (.iload 9, 2) := by decide +kernel
theorem d_chl_101 : decode method_3_code 101 = .ok (.if_icmp .ne 13, 3) := by decide +kernel
theorem d_chl_104 : decode method_3_code 104 = .ok (.iload 8, 2) := by decide +kernel
theorem d_chl_106 : decode method_3_code 106 = .ok (.iconst (-1), 1) := by decide +kernel
theorem d_chl_107 : decode method_3_code 107 = .ok (.if_icmp .ne 7, 3) := by decide +kernel
theorem d_chl_110 : decode method_3_code 110 = .ok (.iconst 1, 1) := by decide +kernel
theorem d_chl_111 : decode method_3_code 111 = .ok (.goto 4, 3) := by decide +kernel
theorem d_chl_114 : decode method_3_code 114 = .ok (.iconst 0, 1) := by decide +kernel
theorem d_chl_115 : decode method_3_code 115 = .ok (.ireturn, 1) := by decide +kernel
theorem d_chl_116 : decode method_3_code 116 = .ok (.iload 8, 2) := by decide +kernel
theorem d_chl_118 : decode method_3_code 118 = .ok (.ifCond .lt 9, 3) := by decide +kernel
theorem d_chl_121 : decode method_3_code 121 = .ok (.iload 8, 2) := by decide +kernel
theorem d_chl_123 : decode method_3_code 123 = .ok (.iconst 3, 1) := by decide +kernel
theorem d_chl_124 : decode method_3_code 124 = .ok (.if_icmp .le 5, 3) := by decide +kernel
theorem d_chl_127 : decode method_3_code 127 = .ok (.iconst 0, 1) := by decide +kernel
theorem d_chl_128 : decode method_3_code 128 = .ok (.ireturn, 1) := by decide +kernel
theorem d_chl_129 : decode method_3_code 129 = .ok (.iload 7, 2) := by decide +kernel
theorem d_chl_131 : decode method_3_code 131 = .ok (.iload_n 3, 1) := by decide +kernel
theorem d_chl_132 : decode method_3_code 132 = .ok (.if_icmp .ne 10, 3) := by decide +kernel
theorem d_chl_135 : decode method_3_code 135 = .ok (.iload 8, 2) := by decide +kernel
theorem d_chl_137 : decode method_3_code 137 = .ok (.iload 5, 2) := by decide +kernel
theorem d_chl_139 : decode method_3_code 139 = .ok (.if_icmp .eq 16, 3) := by decide +kernel
theorem d_chl_142 : decode method_3_code 142 = .ok (.iload 7, 2) := by decide +kernel
theorem d_chl_144 : decode method_3_code 144 = .ok (.iload 5, 2) := by decide +kernel
theorem d_chl_146 : decode method_3_code 146 = .ok (.if_icmp .ne 13, 3) := by decide +kernel
theorem d_chl_149 : decode method_3_code 149 = .ok (.iload 8, 2) := by decide +kernel
theorem d_chl_151 : decode method_3_code 151 = .ok (.iload_n 3, 1) := by decide +kernel
theorem d_chl_152 : decode method_3_code 152 = .ok (.if_icmp .ne 7, 3) := by decide +kernel
theorem d_chl_155 : decode method_3_code 155 = .ok (.iconst 1, 1) := by decide +kernel
theorem d_chl_156 : decode method_3_code 156 = .ok (.goto 4, 3) := by decide +kernel
theorem d_chl_159 : decode method_3_code 159 = .ok (.iconst 0, 1) := by decide +kernel
theorem d_chl_160 : decode method_3_code 160 = .ok (.istore 9, 2) := by decide +kernel
theorem d_chl_162 : decode method_3_code 162 = .ok (.iload 9, 2) := by decide +kernel
theorem d_chl_164 : decode method_3_code 164 = .ok (.ifCond .eq 17, 3) := by decide +kernel
theorem d_chl_167 : decode method_3_code 167 = .ok (.aload_n 0, 1) := by decide +kernel
theorem d_chl_168 : decode method_3_code 168 = .ok (.iload 8, 2) := by decide +kernel
theorem d_chl_170 : decode method_3_code 170 = .ok (.invokevirtual 35, 3) := by decide +kernel
theorem d_chl_173 : decode method_3_code 173 = .ok (.iconst (-1), 1) := by decide +kernel
theorem d_chl_174 : decode method_3_code 174 = .ok (.if_icmp .ne 7, 3) := by decide +kernel
theorem d_chl_177 : decode method_3_code 177 = .ok (.iconst 1, 1) := by decide +kernel
theorem d_chl_178 : decode method_3_code 178 = .ok (.goto 4, 3) := by decide +kernel
theorem d_chl_181 : decode method_3_code 181 = .ok (.iconst 0, 1) := by decide +kernel
theorem d_chl_182 : decode method_3_code 182 = .ok (.ireturn, 1) := by decide +kernel
theorem pn_chl : plainName "com/example/filigree/filigree/engine/DecisionTreeKeepPinLaw" = true := by first | (simp [plainName, overriddenIn]; done) | decide +kernel
theorem own_chl_0 {ff kc nx : Nat → Int32} {p1 e1 c1 e2 c2 : Int32} (hc1 : e1 = (0 : Int32)) (hc11 : e2 = (0 : Int32)) (hc29 : (kc p1.toNatClampNeg) = (0 : Int32)) (hc49 : (ff p1.toNatClampNeg) = (-1 : Int32)) : (1 : Int32) = own_ch ff kc nx p1 e1 c1 e2 c2 := by
  first | (simp_all [own_ch]; done) | (simp_all [own_ch]; rw [if_neg (fun q => q.elim (fun h => absurd h (Int32.not_lt.mpr hc60)) (fun h => absurd h (Int32.not_lt.mpr hc66))), if_neg (fun q => q.elim (fun h => absurd h (Int32.not_lt.mpr hc118)) (fun h => absurd h (Int32.not_lt.mpr hc124)))])
theorem own_chl_1 {ff kc nx : Nat → Int32} {p1 e1 c1 e2 c2 : Int32} (hc1 : e1 = (0 : Int32)) (hc11 : e2 = (0 : Int32)) (hc29 : (kc p1.toNatClampNeg) = (0 : Int32)) (hc49 : ¬ ((ff p1.toNatClampNeg) = (-1 : Int32))) : (0 : Int32) = own_ch ff kc nx p1 e1 c1 e2 c2 := by
  first | (simp_all [own_ch]; done) | (simp_all [own_ch]; rw [if_neg (fun q => q.elim (fun h => absurd h (Int32.not_lt.mpr hc60)) (fun h => absurd h (Int32.not_lt.mpr hc66))), if_neg (fun q => q.elim (fun h => absurd h (Int32.not_lt.mpr hc118)) (fun h => absurd h (Int32.not_lt.mpr hc124)))])
theorem own_chl_2 {ff kc nx : Nat → Int32} {p1 e1 c1 e2 c2 : Int32} (hc1 : e1 = (0 : Int32)) (hc11 : e2 = (0 : Int32)) (hc29 : ¬ ((kc p1.toNatClampNeg) = (0 : Int32))) : (0 : Int32) = own_ch ff kc nx p1 e1 c1 e2 c2 := by
  first | (simp_all [own_ch]; done) | (simp_all [own_ch]; rw [if_neg (fun q => q.elim (fun h => absurd h (Int32.not_lt.mpr hc60)) (fun h => absurd h (Int32.not_lt.mpr hc66))), if_neg (fun q => q.elim (fun h => absurd h (Int32.not_lt.mpr hc118)) (fun h => absurd h (Int32.not_lt.mpr hc124)))])
theorem own_chl_3 {ff kc nx : Nat → Int32} {p1 e1 c1 e2 c2 : Int32} (hc1 : e1 = (0 : Int32)) (hc11 : ¬ (e2 = (0 : Int32))) (hc29 : (kc p1.toNatClampNeg) = (1 : Int32)) (hc60 : (ff p1.toNatClampNeg) < (0 : Int32)) : (0 : Int32) = own_ch ff kc nx p1 e1 c1 e2 c2 := by
  first | (simp_all [own_ch]; done) | (simp_all [own_ch]; rw [if_neg (fun q => q.elim (fun h => absurd h (Int32.not_lt.mpr hc60)) (fun h => absurd h (Int32.not_lt.mpr hc66))), if_neg (fun q => q.elim (fun h => absurd h (Int32.not_lt.mpr hc118)) (fun h => absurd h (Int32.not_lt.mpr hc124)))])
theorem own_chl_4 {ff kc nx : Nat → Int32} {p1 e1 c1 e2 c2 : Int32} (hc1 : e1 = (0 : Int32)) (hc11 : ¬ (e2 = (0 : Int32))) (hc29 : (kc p1.toNatClampNeg) = (1 : Int32)) (hc60 : ¬ ((ff p1.toNatClampNeg) < (0 : Int32))) (hc66 : (3 : Int32) < (ff p1.toNatClampNeg)) : (0 : Int32) = own_ch ff kc nx p1 e1 c1 e2 c2 := by
  first | (simp_all [own_ch]; done) | (simp_all [own_ch]; rw [if_neg (fun q => q.elim (fun h => absurd h (Int32.not_lt.mpr hc60)) (fun h => absurd h (Int32.not_lt.mpr hc66))), if_neg (fun q => q.elim (fun h => absurd h (Int32.not_lt.mpr hc118)) (fun h => absurd h (Int32.not_lt.mpr hc124)))])
theorem own_chl_5 {ff kc nx : Nat → Int32} {p1 e1 c1 e2 c2 : Int32} (hc1 : e1 = (0 : Int32)) (hc11 : ¬ (e2 = (0 : Int32))) (hc29 : (kc p1.toNatClampNeg) = (1 : Int32)) (hc60 : ¬ ((ff p1.toNatClampNeg) < (0 : Int32))) (hc66 : ¬ ((3 : Int32) < (ff p1.toNatClampNeg))) (hc101 : (ff p1.toNatClampNeg) = c2) (hc107 : (nx (ff p1.toNatClampNeg).toNatClampNeg) = (-1 : Int32)) : (1 : Int32) = own_ch ff kc nx p1 e1 c1 e2 c2 := by
  first | (simp_all [own_ch]; done) | (simp_all [own_ch]; rw [if_neg (fun q => q.elim (fun h => absurd h (Int32.not_lt.mpr hc60)) (fun h => absurd h (Int32.not_lt.mpr hc66))), if_neg (fun q => q.elim (fun h => absurd h (Int32.not_lt.mpr hc118)) (fun h => absurd h (Int32.not_lt.mpr hc124)))])
theorem own_chl_6 {ff kc nx : Nat → Int32} {p1 e1 c1 e2 c2 : Int32} (hc1 : e1 = (0 : Int32)) (hc11 : ¬ (e2 = (0 : Int32))) (hc29 : (kc p1.toNatClampNeg) = (1 : Int32)) (hc60 : ¬ ((ff p1.toNatClampNeg) < (0 : Int32))) (hc66 : ¬ ((3 : Int32) < (ff p1.toNatClampNeg))) (hc101 : (ff p1.toNatClampNeg) = c2) (hc107 : ¬ ((nx (ff p1.toNatClampNeg).toNatClampNeg) = (-1 : Int32))) : (0 : Int32) = own_ch ff kc nx p1 e1 c1 e2 c2 := by
  first | (simp_all [own_ch]; done) | (simp_all [own_ch]; rw [if_neg (fun q => q.elim (fun h => absurd h (Int32.not_lt.mpr hc60)) (fun h => absurd h (Int32.not_lt.mpr hc66))), if_neg (fun q => q.elim (fun h => absurd h (Int32.not_lt.mpr hc118)) (fun h => absurd h (Int32.not_lt.mpr hc124)))])
theorem own_chl_7 {ff kc nx : Nat → Int32} {p1 e1 c1 e2 c2 : Int32} (hc1 : e1 = (0 : Int32)) (hc11 : ¬ (e2 = (0 : Int32))) (hc29 : (kc p1.toNatClampNeg) = (1 : Int32)) (hc60 : ¬ ((ff p1.toNatClampNeg) < (0 : Int32))) (hc66 : ¬ ((3 : Int32) < (ff p1.toNatClampNeg))) (hc101 : ¬ ((ff p1.toNatClampNeg) = c2)) : (0 : Int32) = own_ch ff kc nx p1 e1 c1 e2 c2 := by
  first | (simp_all [own_ch]; done) | (simp_all [own_ch]; rw [if_neg (fun q => q.elim (fun h => absurd h (Int32.not_lt.mpr hc60)) (fun h => absurd h (Int32.not_lt.mpr hc66))), if_neg (fun q => q.elim (fun h => absurd h (Int32.not_lt.mpr hc118)) (fun h => absurd h (Int32.not_lt.mpr hc124)))])
theorem own_chl_8 {ff kc nx : Nat → Int32} {p1 e1 c1 e2 c2 : Int32} (hc1 : e1 = (0 : Int32)) (hc11 : ¬ (e2 = (0 : Int32))) (hc29 : ¬ ((kc p1.toNatClampNeg) = (1 : Int32))) : (0 : Int32) = own_ch ff kc nx p1 e1 c1 e2 c2 := by
  first | (simp_all [own_ch]; done) | (simp_all [own_ch]; rw [if_neg (fun q => q.elim (fun h => absurd h (Int32.not_lt.mpr hc60)) (fun h => absurd h (Int32.not_lt.mpr hc66))), if_neg (fun q => q.elim (fun h => absurd h (Int32.not_lt.mpr hc118)) (fun h => absurd h (Int32.not_lt.mpr hc124)))])
theorem own_chl_9 {ff kc nx : Nat → Int32} {p1 e1 c1 e2 c2 : Int32} (hc1 : ¬ (e1 = (0 : Int32))) (hc11 : e2 = (0 : Int32)) (hc29 : (kc p1.toNatClampNeg) = (1 : Int32)) (hc60 : (ff p1.toNatClampNeg) < (0 : Int32)) : (0 : Int32) = own_ch ff kc nx p1 e1 c1 e2 c2 := by
  first | (simp_all [own_ch]; done) | (simp_all [own_ch]; rw [if_neg (fun q => q.elim (fun h => absurd h (Int32.not_lt.mpr hc60)) (fun h => absurd h (Int32.not_lt.mpr hc66))), if_neg (fun q => q.elim (fun h => absurd h (Int32.not_lt.mpr hc118)) (fun h => absurd h (Int32.not_lt.mpr hc124)))])
theorem own_chl_10 {ff kc nx : Nat → Int32} {p1 e1 c1 e2 c2 : Int32} (hc1 : ¬ (e1 = (0 : Int32))) (hc11 : e2 = (0 : Int32)) (hc29 : (kc p1.toNatClampNeg) = (1 : Int32)) (hc60 : ¬ ((ff p1.toNatClampNeg) < (0 : Int32))) (hc66 : (3 : Int32) < (ff p1.toNatClampNeg)) : (0 : Int32) = own_ch ff kc nx p1 e1 c1 e2 c2 := by
  first | (simp_all [own_ch]; done) | (simp_all [own_ch]; rw [if_neg (fun q => q.elim (fun h => absurd h (Int32.not_lt.mpr hc60)) (fun h => absurd h (Int32.not_lt.mpr hc66))), if_neg (fun q => q.elim (fun h => absurd h (Int32.not_lt.mpr hc118)) (fun h => absurd h (Int32.not_lt.mpr hc124)))])
theorem own_chl_11 {ff kc nx : Nat → Int32} {p1 e1 c1 e2 c2 : Int32} (hc1 : ¬ (e1 = (0 : Int32))) (hc11 : e2 = (0 : Int32)) (hc29 : (kc p1.toNatClampNeg) = (1 : Int32)) (hc60 : ¬ ((ff p1.toNatClampNeg) < (0 : Int32))) (hc66 : ¬ ((3 : Int32) < (ff p1.toNatClampNeg))) (hc101 : (ff p1.toNatClampNeg) = c1) (hc107 : (nx (ff p1.toNatClampNeg).toNatClampNeg) = (-1 : Int32)) : (1 : Int32) = own_ch ff kc nx p1 e1 c1 e2 c2 := by
  first | (simp_all [own_ch]; done) | (simp_all [own_ch]; rw [if_neg (fun q => q.elim (fun h => absurd h (Int32.not_lt.mpr hc60)) (fun h => absurd h (Int32.not_lt.mpr hc66))), if_neg (fun q => q.elim (fun h => absurd h (Int32.not_lt.mpr hc118)) (fun h => absurd h (Int32.not_lt.mpr hc124)))])
theorem own_chl_12 {ff kc nx : Nat → Int32} {p1 e1 c1 e2 c2 : Int32} (hc1 : ¬ (e1 = (0 : Int32))) (hc11 : e2 = (0 : Int32)) (hc29 : (kc p1.toNatClampNeg) = (1 : Int32)) (hc60 : ¬ ((ff p1.toNatClampNeg) < (0 : Int32))) (hc66 : ¬ ((3 : Int32) < (ff p1.toNatClampNeg))) (hc101 : (ff p1.toNatClampNeg) = c1) (hc107 : ¬ ((nx (ff p1.toNatClampNeg).toNatClampNeg) = (-1 : Int32))) : (0 : Int32) = own_ch ff kc nx p1 e1 c1 e2 c2 := by
  first | (simp_all [own_ch]; done) | (simp_all [own_ch]; rw [if_neg (fun q => q.elim (fun h => absurd h (Int32.not_lt.mpr hc60)) (fun h => absurd h (Int32.not_lt.mpr hc66))), if_neg (fun q => q.elim (fun h => absurd h (Int32.not_lt.mpr hc118)) (fun h => absurd h (Int32.not_lt.mpr hc124)))])
theorem own_chl_13 {ff kc nx : Nat → Int32} {p1 e1 c1 e2 c2 : Int32} (hc1 : ¬ (e1 = (0 : Int32))) (hc11 : e2 = (0 : Int32)) (hc29 : (kc p1.toNatClampNeg) = (1 : Int32)) (hc60 : ¬ ((ff p1.toNatClampNeg) < (0 : Int32))) (hc66 : ¬ ((3 : Int32) < (ff p1.toNatClampNeg))) (hc101 : ¬ ((ff p1.toNatClampNeg) = c1)) : (0 : Int32) = own_ch ff kc nx p1 e1 c1 e2 c2 := by
  first | (simp_all [own_ch]; done) | (simp_all [own_ch]; rw [if_neg (fun q => q.elim (fun h => absurd h (Int32.not_lt.mpr hc60)) (fun h => absurd h (Int32.not_lt.mpr hc66))), if_neg (fun q => q.elim (fun h => absurd h (Int32.not_lt.mpr hc118)) (fun h => absurd h (Int32.not_lt.mpr hc124)))])
theorem own_chl_14 {ff kc nx : Nat → Int32} {p1 e1 c1 e2 c2 : Int32} (hc1 : ¬ (e1 = (0 : Int32))) (hc11 : e2 = (0 : Int32)) (hc29 : ¬ ((kc p1.toNatClampNeg) = (1 : Int32))) : (0 : Int32) = own_ch ff kc nx p1 e1 c1 e2 c2 := by
  first | (simp_all [own_ch]; done) | (simp_all [own_ch]; rw [if_neg (fun q => q.elim (fun h => absurd h (Int32.not_lt.mpr hc60)) (fun h => absurd h (Int32.not_lt.mpr hc66))), if_neg (fun q => q.elim (fun h => absurd h (Int32.not_lt.mpr hc118)) (fun h => absurd h (Int32.not_lt.mpr hc124)))])
theorem own_chl_15 {ff kc nx : Nat → Int32} {p1 e1 c1 e2 c2 : Int32} (hc1 : ¬ (e1 = (0 : Int32))) (hc11 : ¬ (e2 = (0 : Int32))) (hc29 : (kc p1.toNatClampNeg) = (2 : Int32)) (hc60 : (ff p1.toNatClampNeg) < (0 : Int32)) : (0 : Int32) = own_ch ff kc nx p1 e1 c1 e2 c2 := by
  first | (simp_all [own_ch]; done) | (simp_all [own_ch]; rw [if_neg (fun q => q.elim (fun h => absurd h (Int32.not_lt.mpr hc60)) (fun h => absurd h (Int32.not_lt.mpr hc66))), if_neg (fun q => q.elim (fun h => absurd h (Int32.not_lt.mpr hc118)) (fun h => absurd h (Int32.not_lt.mpr hc124)))])
theorem own_chl_16 {ff kc nx : Nat → Int32} {p1 e1 c1 e2 c2 : Int32} (hc1 : ¬ (e1 = (0 : Int32))) (hc11 : ¬ (e2 = (0 : Int32))) (hc29 : (kc p1.toNatClampNeg) = (2 : Int32)) (hc60 : ¬ ((ff p1.toNatClampNeg) < (0 : Int32))) (hc66 : (3 : Int32) < (ff p1.toNatClampNeg)) : (0 : Int32) = own_ch ff kc nx p1 e1 c1 e2 c2 := by
  first | (simp_all [own_ch]; done) | (simp_all [own_ch]; rw [if_neg (fun q => q.elim (fun h => absurd h (Int32.not_lt.mpr hc60)) (fun h => absurd h (Int32.not_lt.mpr hc66))), if_neg (fun q => q.elim (fun h => absurd h (Int32.not_lt.mpr hc118)) (fun h => absurd h (Int32.not_lt.mpr hc124)))])
theorem own_chl_17 {ff kc nx : Nat → Int32} {p1 e1 c1 e2 c2 : Int32} (hc1 : ¬ (e1 = (0 : Int32))) (hc11 : ¬ (e2 = (0 : Int32))) (hc29 : (kc p1.toNatClampNeg) = (2 : Int32)) (hc60 : ¬ ((ff p1.toNatClampNeg) < (0 : Int32))) (hc66 : ¬ ((3 : Int32) < (ff p1.toNatClampNeg))) (hc118 : (nx (ff p1.toNatClampNeg).toNatClampNeg) < (0 : Int32)) : (0 : Int32) = own_ch ff kc nx p1 e1 c1 e2 c2 := by
  first | (simp_all [own_ch]; done) | (simp_all [own_ch]; rw [if_neg (fun q => q.elim (fun h => absurd h (Int32.not_lt.mpr hc60)) (fun h => absurd h (Int32.not_lt.mpr hc66))), if_neg (fun q => q.elim (fun h => absurd h (Int32.not_lt.mpr hc118)) (fun h => absurd h (Int32.not_lt.mpr hc124)))])
theorem own_chl_18 {ff kc nx : Nat → Int32} {p1 e1 c1 e2 c2 : Int32} (hc1 : ¬ (e1 = (0 : Int32))) (hc11 : ¬ (e2 = (0 : Int32))) (hc29 : (kc p1.toNatClampNeg) = (2 : Int32)) (hc60 : ¬ ((ff p1.toNatClampNeg) < (0 : Int32))) (hc66 : ¬ ((3 : Int32) < (ff p1.toNatClampNeg))) (hc118 : ¬ ((nx (ff p1.toNatClampNeg).toNatClampNeg) < (0 : Int32))) (hc124 : (3 : Int32) < (nx (ff p1.toNatClampNeg).toNatClampNeg)) : (0 : Int32) = own_ch ff kc nx p1 e1 c1 e2 c2 := by
  first | (simp_all [own_ch]; done) | (simp_all [own_ch]; rw [if_neg (fun q => q.elim (fun h => absurd h (Int32.not_lt.mpr hc60)) (fun h => absurd h (Int32.not_lt.mpr hc66))), if_neg (fun q => q.elim (fun h => absurd h (Int32.not_lt.mpr hc118)) (fun h => absurd h (Int32.not_lt.mpr hc124)))])
theorem own_chl_19 {ff kc nx : Nat → Int32} {p1 e1 c1 e2 c2 : Int32} (hc1 : ¬ (e1 = (0 : Int32))) (hc11 : ¬ (e2 = (0 : Int32))) (hc29 : (kc p1.toNatClampNeg) = (2 : Int32)) (hc60 : ¬ ((ff p1.toNatClampNeg) < (0 : Int32))) (hc66 : ¬ ((3 : Int32) < (ff p1.toNatClampNeg))) (hc118 : ¬ ((nx (ff p1.toNatClampNeg).toNatClampNeg) < (0 : Int32))) (hc124 : ¬ ((3 : Int32) < (nx (ff p1.toNatClampNeg).toNatClampNeg))) (hc132 : (ff p1.toNatClampNeg) = c1) (hc139 : (nx (ff p1.toNatClampNeg).toNatClampNeg) = c2) (hc174 : (nx (nx (ff p1.toNatClampNeg).toNatClampNeg).toNatClampNeg) = (-1 : Int32)) : (1 : Int32) = own_ch ff kc nx p1 e1 c1 e2 c2 := by
  first | (simp_all [own_ch]; done) | (simp_all [own_ch]; rw [if_neg (fun q => q.elim (fun h => absurd h (Int32.not_lt.mpr hc60)) (fun h => absurd h (Int32.not_lt.mpr hc66))), if_neg (fun q => q.elim (fun h => absurd h (Int32.not_lt.mpr hc118)) (fun h => absurd h (Int32.not_lt.mpr hc124)))])
theorem own_chl_20 {ff kc nx : Nat → Int32} {p1 e1 c1 e2 c2 : Int32} (hc1 : ¬ (e1 = (0 : Int32))) (hc11 : ¬ (e2 = (0 : Int32))) (hc29 : (kc p1.toNatClampNeg) = (2 : Int32)) (hc60 : ¬ ((ff p1.toNatClampNeg) < (0 : Int32))) (hc66 : ¬ ((3 : Int32) < (ff p1.toNatClampNeg))) (hc118 : ¬ ((nx (ff p1.toNatClampNeg).toNatClampNeg) < (0 : Int32))) (hc124 : ¬ ((3 : Int32) < (nx (ff p1.toNatClampNeg).toNatClampNeg))) (hc132 : (ff p1.toNatClampNeg) = c1) (hc139 : (nx (ff p1.toNatClampNeg).toNatClampNeg) = c2) (hc174 : ¬ ((nx (nx (ff p1.toNatClampNeg).toNatClampNeg).toNatClampNeg) = (-1 : Int32))) : (0 : Int32) = own_ch ff kc nx p1 e1 c1 e2 c2 := by
  first | (simp_all [own_ch]; done) | (simp_all [own_ch]; rw [if_neg (fun q => q.elim (fun h => absurd h (Int32.not_lt.mpr hc60)) (fun h => absurd h (Int32.not_lt.mpr hc66))), if_neg (fun q => q.elim (fun h => absurd h (Int32.not_lt.mpr hc118)) (fun h => absurd h (Int32.not_lt.mpr hc124)))])
theorem own_chl_21 {ff kc nx : Nat → Int32} {p1 e1 c1 e2 c2 : Int32} (hc1 : ¬ (e1 = (0 : Int32))) (hc11 : ¬ (e2 = (0 : Int32))) (hc29 : (kc p1.toNatClampNeg) = (2 : Int32)) (hc60 : ¬ ((ff p1.toNatClampNeg) < (0 : Int32))) (hc66 : ¬ ((3 : Int32) < (ff p1.toNatClampNeg))) (hc118 : ¬ ((nx (ff p1.toNatClampNeg).toNatClampNeg) < (0 : Int32))) (hc124 : ¬ ((3 : Int32) < (nx (ff p1.toNatClampNeg).toNatClampNeg))) (hc132 : (ff p1.toNatClampNeg) = c1) (hc139 : ¬ ((nx (ff p1.toNatClampNeg).toNatClampNeg) = c2)) (hc146 : (ff p1.toNatClampNeg) = c2) (hc152 : (nx (ff p1.toNatClampNeg).toNatClampNeg) = c1) (hc174 : (nx (nx (ff p1.toNatClampNeg).toNatClampNeg).toNatClampNeg) = (-1 : Int32)) : (1 : Int32) = own_ch ff kc nx p1 e1 c1 e2 c2 := by
  first | (simp_all [own_ch]; done) | (simp_all [own_ch]; rw [if_neg (fun q => q.elim (fun h => absurd h (Int32.not_lt.mpr hc60)) (fun h => absurd h (Int32.not_lt.mpr hc66))), if_neg (fun q => q.elim (fun h => absurd h (Int32.not_lt.mpr hc118)) (fun h => absurd h (Int32.not_lt.mpr hc124)))])
theorem own_chl_22 {ff kc nx : Nat → Int32} {p1 e1 c1 e2 c2 : Int32} (hc1 : ¬ (e1 = (0 : Int32))) (hc11 : ¬ (e2 = (0 : Int32))) (hc29 : (kc p1.toNatClampNeg) = (2 : Int32)) (hc60 : ¬ ((ff p1.toNatClampNeg) < (0 : Int32))) (hc66 : ¬ ((3 : Int32) < (ff p1.toNatClampNeg))) (hc118 : ¬ ((nx (ff p1.toNatClampNeg).toNatClampNeg) < (0 : Int32))) (hc124 : ¬ ((3 : Int32) < (nx (ff p1.toNatClampNeg).toNatClampNeg))) (hc132 : (ff p1.toNatClampNeg) = c1) (hc139 : ¬ ((nx (ff p1.toNatClampNeg).toNatClampNeg) = c2)) (hc146 : (ff p1.toNatClampNeg) = c2) (hc152 : (nx (ff p1.toNatClampNeg).toNatClampNeg) = c1) (hc174 : ¬ ((nx (nx (ff p1.toNatClampNeg).toNatClampNeg).toNatClampNeg) = (-1 : Int32))) : (0 : Int32) = own_ch ff kc nx p1 e1 c1 e2 c2 := by
  first | (simp_all [own_ch]; done) | (simp_all [own_ch]; rw [if_neg (fun q => q.elim (fun h => absurd h (Int32.not_lt.mpr hc60)) (fun h => absurd h (Int32.not_lt.mpr hc66))), if_neg (fun q => q.elim (fun h => absurd h (Int32.not_lt.mpr hc118)) (fun h => absurd h (Int32.not_lt.mpr hc124)))])
theorem own_chl_23 {ff kc nx : Nat → Int32} {p1 e1 c1 e2 c2 : Int32} (hc1 : ¬ (e1 = (0 : Int32))) (hc11 : ¬ (e2 = (0 : Int32))) (hc29 : (kc p1.toNatClampNeg) = (2 : Int32)) (hc60 : ¬ ((ff p1.toNatClampNeg) < (0 : Int32))) (hc66 : ¬ ((3 : Int32) < (ff p1.toNatClampNeg))) (hc118 : ¬ ((nx (ff p1.toNatClampNeg).toNatClampNeg) < (0 : Int32))) (hc124 : ¬ ((3 : Int32) < (nx (ff p1.toNatClampNeg).toNatClampNeg))) (hc132 : (ff p1.toNatClampNeg) = c1) (hc139 : ¬ ((nx (ff p1.toNatClampNeg).toNatClampNeg) = c2)) (hc146 : (ff p1.toNatClampNeg) = c2) (hc152 : ¬ ((nx (ff p1.toNatClampNeg).toNatClampNeg) = c1)) : (0 : Int32) = own_ch ff kc nx p1 e1 c1 e2 c2 := by
  first | (simp_all [own_ch]; done) | (simp_all [own_ch]; rw [if_neg (fun q => q.elim (fun h => absurd h (Int32.not_lt.mpr hc60)) (fun h => absurd h (Int32.not_lt.mpr hc66))), if_neg (fun q => q.elim (fun h => absurd h (Int32.not_lt.mpr hc118)) (fun h => absurd h (Int32.not_lt.mpr hc124)))])
theorem own_chl_24 {ff kc nx : Nat → Int32} {p1 e1 c1 e2 c2 : Int32} (hc1 : ¬ (e1 = (0 : Int32))) (hc11 : ¬ (e2 = (0 : Int32))) (hc29 : (kc p1.toNatClampNeg) = (2 : Int32)) (hc60 : ¬ ((ff p1.toNatClampNeg) < (0 : Int32))) (hc66 : ¬ ((3 : Int32) < (ff p1.toNatClampNeg))) (hc118 : ¬ ((nx (ff p1.toNatClampNeg).toNatClampNeg) < (0 : Int32))) (hc124 : ¬ ((3 : Int32) < (nx (ff p1.toNatClampNeg).toNatClampNeg))) (hc132 : (ff p1.toNatClampNeg) = c1) (hc139 : ¬ ((nx (ff p1.toNatClampNeg).toNatClampNeg) = c2)) (hc146 : ¬ ((ff p1.toNatClampNeg) = c2)) : (0 : Int32) = own_ch ff kc nx p1 e1 c1 e2 c2 := by
  first | (simp_all [own_ch]; done) | (simp_all [own_ch]; rw [if_neg (fun q => q.elim (fun h => absurd h (Int32.not_lt.mpr hc60)) (fun h => absurd h (Int32.not_lt.mpr hc66))), if_neg (fun q => q.elim (fun h => absurd h (Int32.not_lt.mpr hc118)) (fun h => absurd h (Int32.not_lt.mpr hc124)))])
theorem own_chl_25 {ff kc nx : Nat → Int32} {p1 e1 c1 e2 c2 : Int32} (hc1 : ¬ (e1 = (0 : Int32))) (hc11 : ¬ (e2 = (0 : Int32))) (hc29 : (kc p1.toNatClampNeg) = (2 : Int32)) (hc60 : ¬ ((ff p1.toNatClampNeg) < (0 : Int32))) (hc66 : ¬ ((3 : Int32) < (ff p1.toNatClampNeg))) (hc118 : ¬ ((nx (ff p1.toNatClampNeg).toNatClampNeg) < (0 : Int32))) (hc124 : ¬ ((3 : Int32) < (nx (ff p1.toNatClampNeg).toNatClampNeg))) (hc132 : ¬ ((ff p1.toNatClampNeg) = c1)) (hc146 : (ff p1.toNatClampNeg) = c2) (hc152 : (nx (ff p1.toNatClampNeg).toNatClampNeg) = c1) (hc174 : (nx (nx (ff p1.toNatClampNeg).toNatClampNeg).toNatClampNeg) = (-1 : Int32)) : (1 : Int32) = own_ch ff kc nx p1 e1 c1 e2 c2 := by
  first | (simp_all [own_ch]; done) | (simp_all [own_ch]; rw [if_neg (fun q => q.elim (fun h => absurd h (Int32.not_lt.mpr hc60)) (fun h => absurd h (Int32.not_lt.mpr hc66))), if_neg (fun q => q.elim (fun h => absurd h (Int32.not_lt.mpr hc118)) (fun h => absurd h (Int32.not_lt.mpr hc124)))])
theorem own_chl_26 {ff kc nx : Nat → Int32} {p1 e1 c1 e2 c2 : Int32} (hc1 : ¬ (e1 = (0 : Int32))) (hc11 : ¬ (e2 = (0 : Int32))) (hc29 : (kc p1.toNatClampNeg) = (2 : Int32)) (hc60 : ¬ ((ff p1.toNatClampNeg) < (0 : Int32))) (hc66 : ¬ ((3 : Int32) < (ff p1.toNatClampNeg))) (hc118 : ¬ ((nx (ff p1.toNatClampNeg).toNatClampNeg) < (0 : Int32))) (hc124 : ¬ ((3 : Int32) < (nx (ff p1.toNatClampNeg).toNatClampNeg))) (hc132 : ¬ ((ff p1.toNatClampNeg) = c1)) (hc146 : (ff p1.toNatClampNeg) = c2) (hc152 : (nx (ff p1.toNatClampNeg).toNatClampNeg) = c1) (hc174 : ¬ ((nx (nx (ff p1.toNatClampNeg).toNatClampNeg).toNatClampNeg) = (-1 : Int32))) : (0 : Int32) = own_ch ff kc nx p1 e1 c1 e2 c2 := by
  first | (simp_all [own_ch]; done) | (simp_all [own_ch]; rw [if_neg (fun q => q.elim (fun h => absurd h (Int32.not_lt.mpr hc60)) (fun h => absurd h (Int32.not_lt.mpr hc66))), if_neg (fun q => q.elim (fun h => absurd h (Int32.not_lt.mpr hc118)) (fun h => absurd h (Int32.not_lt.mpr hc124)))])
theorem own_chl_27 {ff kc nx : Nat → Int32} {p1 e1 c1 e2 c2 : Int32} (hc1 : ¬ (e1 = (0 : Int32))) (hc11 : ¬ (e2 = (0 : Int32))) (hc29 : (kc p1.toNatClampNeg) = (2 : Int32)) (hc60 : ¬ ((ff p1.toNatClampNeg) < (0 : Int32))) (hc66 : ¬ ((3 : Int32) < (ff p1.toNatClampNeg))) (hc118 : ¬ ((nx (ff p1.toNatClampNeg).toNatClampNeg) < (0 : Int32))) (hc124 : ¬ ((3 : Int32) < (nx (ff p1.toNatClampNeg).toNatClampNeg))) (hc132 : ¬ ((ff p1.toNatClampNeg) = c1)) (hc146 : (ff p1.toNatClampNeg) = c2) (hc152 : ¬ ((nx (ff p1.toNatClampNeg).toNatClampNeg) = c1)) : (0 : Int32) = own_ch ff kc nx p1 e1 c1 e2 c2 := by
  first | (simp_all [own_ch]; done) | (simp_all [own_ch]; rw [if_neg (fun q => q.elim (fun h => absurd h (Int32.not_lt.mpr hc60)) (fun h => absurd h (Int32.not_lt.mpr hc66))), if_neg (fun q => q.elim (fun h => absurd h (Int32.not_lt.mpr hc118)) (fun h => absurd h (Int32.not_lt.mpr hc124)))])
theorem own_chl_28 {ff kc nx : Nat → Int32} {p1 e1 c1 e2 c2 : Int32} (hc1 : ¬ (e1 = (0 : Int32))) (hc11 : ¬ (e2 = (0 : Int32))) (hc29 : (kc p1.toNatClampNeg) = (2 : Int32)) (hc60 : ¬ ((ff p1.toNatClampNeg) < (0 : Int32))) (hc66 : ¬ ((3 : Int32) < (ff p1.toNatClampNeg))) (hc118 : ¬ ((nx (ff p1.toNatClampNeg).toNatClampNeg) < (0 : Int32))) (hc124 : ¬ ((3 : Int32) < (nx (ff p1.toNatClampNeg).toNatClampNeg))) (hc132 : ¬ ((ff p1.toNatClampNeg) = c1)) (hc146 : ¬ ((ff p1.toNatClampNeg) = c2)) : (0 : Int32) = own_ch ff kc nx p1 e1 c1 e2 c2 := by
  first | (simp_all [own_ch]; done) | (simp_all [own_ch]; rw [if_neg (fun q => q.elim (fun h => absurd h (Int32.not_lt.mpr hc60)) (fun h => absurd h (Int32.not_lt.mpr hc66))), if_neg (fun q => q.elim (fun h => absurd h (Int32.not_lt.mpr hc118)) (fun h => absurd h (Int32.not_lt.mpr hc124)))])
theorem own_chl_29 {ff kc nx : Nat → Int32} {p1 e1 c1 e2 c2 : Int32} (hc1 : ¬ (e1 = (0 : Int32))) (hc11 : ¬ (e2 = (0 : Int32))) (hc29 : ¬ ((kc p1.toNatClampNeg) = (2 : Int32))) : (0 : Int32) = own_ch ff kc nx p1 e1 c1 e2 c2 := by
  first | (simp_all [own_ch]; done) | (simp_all [own_ch]; rw [if_neg (fun q => q.elim (fun h => absurd h (Int32.not_lt.mpr hc60)) (fun h => absurd h (Int32.not_lt.mpr hc66))), if_neg (fun q => q.elim (fun h => absurd h (Int32.not_lt.mpr hc118)) (fun h => absurd h (Int32.not_lt.mpr hc124)))])
theorem ef_chl (m : MethodId) (a1 : Addr) (p1 : Int32) (e1 : Int32) (c1 : Int32) (e2 : Int32) (c2 : Int32) : entryFrame m #[(.ref a1), (.int p1), (.int e1), (.int c1), (.int e2), (.int c2)] 10 = mkF m 0 #[.val (.ref a1), .val (.int p1), .val (.int e1), .val (.int c1), .val (.int e2), .val (.int c2), .unset, .unset, .unset, .unset] [] := by first | (simp [entryFrame, mkF, argsToLocals, Value.category]; done) | rfl
def Q_chl (Z : State) (a1 : Addr) (p1 : Int32) (e1 : Int32) (c1 : Int32) (e2 : Int32) (c2 : Int32) (ff : Nat → Int32) (kc : Nat → Int32) (nx : Nat → Int32) (b3_ : Addr) (b4_ : Addr) (b5_ : Addr) (k3_ : ClassId) (k4_ : ClassId) (k5_ : ClassId) (h0 : Heap) (n0 : Nat) (v : Option Value) (h : Heap) (L : List Loc) : Prop := v = some (.int (own_ch ff kc nx p1 e1 c1 e2 c2)) ∧ Fr n0 L ∧ h = h0
set_option maxRecDepth 65536 in
set_option maxHeartbeats 40000000 in
theorem rm_chl (l : Launch) (Z : State) (a0 : Array Value) (hw : ∀ d ∈ tables_1, d.before a0 Z = true) (ws : List Jvm.Cond) (a1 : Addr) (p1 : Int32) (e1 : Int32) (c1 : Int32) (e2 : Int32) (c2 : Int32) (ff : Nat → Int32) (kc : Nat → Int32) (nx : Nat → Int32) (b3_ : Addr) (b4_ : Addr) (b5_ : Addr) (k3_ : ClassId) (k4_ : ClassId) (k5_ : ClassId) (h0 : Heap) (n0 : Nat) (Z0 : n0 ≤ h0.size) (E1 : Exa Z h0 a1 "com/example/filigree/filigree/engine/DecisionTree") (F3_ : Fld Z h0 a1 "com/example/filigree/filigree/engine/DecisionTree" "m_aFirstKept" "[I" (.ref b3_)) (F4_ : Fld Z h0 a1 "com/example/filigree/filigree/engine/DecisionTree" "m_aKeptCount" "[I" (.ref b4_)) (F5_ : Fld Z h0 a1 "com/example/filigree/filigree/engine/DecisionTree" "m_aNextKept" "[I" (.ref b5_)) (V3_ : Arv Z h0 b3_ k3_ .int (64 : Int32) [(.int (ff 0)), (.int (ff 1)), (.int (ff 2)), (.int (ff 3))] (.int (0 : Int32))) (V4_ : Arv Z h0 b4_ k4_ .int (64 : Int32) [(.int (kc 0)), (.int (kc 1)), (.int (kc 2)), (.int (kc 3))] (.int (0 : Int32))) (V5_ : Arv Z h0 b5_ k5_ .int (64 : Int32) [(.int (nx 0)), (.int (nx 1)), (.int (nx 2)), (.int (nx 3))] (.int (0 : Int32))) (hp : (¬ p1 < (0 : Int32) ∧ ¬ (3 : Int32) < p1)) :
    MetFree l (⟨"com/example/filigree/filigree/engine/DecisionTreeKeepPinLaw", "children", "(Lcom/example/filigree/filigree/engine/DecisionTree;IZIZI)Z"⟩ : MethodName) (head1 (Jvm.Cond.code (⟨"com/example/filigree/filigree/engine/DecisionTreeKeepPinLaw", "children", "(Lcom/example/filigree/filigree/engine/DecisionTree;IZIZI)Z"⟩ : MethodName) method_3_code 10 (some .boolean) :: ws) ({ frames := 1, cells := 0, slots := 0, locals := 24 } : Room)) (fun a U => a = #[(.ref a1), (.int p1), (.int e1), (.int c1), (.int e2), (.int c2)] ∧ Z.Warmed39 U.vm ∧ U.heap = h0) (fun _ _ _ _ _ => True) (fun _ U o U' => ∃ v L, o = .returned v ∧ Q_chl Z a1 p1 e1 c1 e2 c2 ff kc nx b3_ b4_ b5_ k3_ k4_ k5_ h0 n0 v U'.heap L ∧ FrameEnd U o U' L ({ frames := 1, cells := 0, slots := 0, locals := 24 } : Room).cells ({ frames := 1, cells := 0, slots := 0, locals := 24 } : Room).slots) := by
  refine MetFree.of_bodySF (plainFor_of_name pn_chl) hisR ?_
  intro p e s m args below meth c s₁ Bd hml0 hP hK
  obtain ⟨rfl, hZ, hh⟩ := hP
  have hx := Bd.exec
  have hby := Bd.bytes
  have hml : c.maxLocals = 10 := hml0
  have hown : s.vm.findClass "com/example/filigree/filigree/engine/DecisionTreeKeepPinLaw" = some m.cls := findClass_of_methodNamed Bd.named
  have hnm := (name_of_methodNamed Bd.named Bd.method).1
  have X0 : Stand p l e ({ frames := 1, cells := 0, slots := 0, locals := 24 } : Room) s m #[(.ref a1), (.int p1), (.int e1), (.int c1), (.int e2), (.int c2)] below meth c s₁ [] 0 0 := Stand.of_body Bd
  have e0 : s₁.heap = h0 := by rw [← hh, Bd.state]; rfl
  have N0 := Fr.nil n0
  refine own_in ?_
  refine own_go (S' := s₁.setTop (mkF m 0 #[.val (.ref a1), .val (.int p1), .val (.int e1), .val (.int c1), .val (.int e2), .val (.int c2), .unset, .unset, .unset, .unset] [])) (fun tgt_ stp_ => castTop (ef_chl m a1 p1 e1 c1 e2 c2) stp_) ?_
  refine own_go (S' := s₁.setTop (mkF m 1 #[.val (.ref a1), .val (.int p1), .val (.int e1), .val (.int c1), .val (.int e2), .val (.int c2), .unset, .unset, .unset, .unset] [(.int e1)])) (fun target kt => ?_) ?_
  · show Steps p.tables e below (s₁.setTop (mkF m 0 #[.val (.ref a1), .val (.int p1), .val (.int e1), .val (.int c1), .val (.int e2), .val (.int c2), .unset, .unset, .unset, .unset] [])) target
    refine XS.iloadN X0.here hx rfl (hb hby d_chl_0) rfl ?_
    show Steps p.tables e below (s₁.setTop (mkF m 1 #[.val (.ref a1), .val (.int p1), .val (.int e1), .val (.int c1), .val (.int e2), .val (.int c2), .unset, .unset, .unset, .unset] [(.int e1)])) target
    exact kt
  by_cases hc1 : e1 = (0 : Int32)
  · -- pc 1: yes
    refine own_go (S' := s₁.setTop (mkF m 11 #[.val (.ref a1), .val (.int p1), .val (.int e1), .val (.int c1), .val (.int e2), .val (.int c2), .unset, .unset, .unset, .unset] [(.int e2), (.int (0 : Int32))])) (fun target kt => ?_) ?_
    · show Steps p.tables e below (s₁.setTop (mkF m 1 #[.val (.ref a1), .val (.int p1), .val (.int e1), .val (.int c1), .val (.int e2), .val (.int c2), .unset, .unset, .unset, .unset] [(.int e1)])) target
      refine XS.ifYes X0.here hx rfl (pc0 := 1) (pc' := 8) rfl (hb hby d_chl_1) rfl ((if0 _ _).trans (teq hc1).1) (by decide) (by decide) ?_
      show Steps p.tables e below (s₁.setTop (mkF m 8 #[.val (.ref a1), .val (.int p1), .val (.int e1), .val (.int c1), .val (.int e2), .val (.int c2), .unset, .unset, .unset, .unset] [])) target
      refine XS.iconst X0.here hx rfl (hb hby d_chl_8) ?_
      show Steps p.tables e below (s₁.setTop (mkF m 9 #[.val (.ref a1), .val (.int p1), .val (.int e1), .val (.int c1), .val (.int e2), .val (.int c2), .unset, .unset, .unset, .unset] [(.int (0 : Int32))])) target
      refine XS.iload X0.here hx rfl (hb hby d_chl_9) rfl ?_
      show Steps p.tables e below (s₁.setTop (mkF m 11 #[.val (.ref a1), .val (.int p1), .val (.int e1), .val (.int c1), .val (.int e2), .val (.int c2), .unset, .unset, .unset, .unset] [(.int e2), (.int (0 : Int32))])) target
      exact kt
    by_cases hc11 : e2 = (0 : Int32)
    · -- pc 11: yes
      obtain ⟨cq_1, kq_1, q_1a, q_1b, q_1c⟩ := isOf hZ e0 E1
      obtain ⟨_, _, ⟨T_1, L_1, k_1, n_1⟩, -, X_1, ⟨Lc_1, hQ_1, l_1, y_1, z_1⟩, st_1⟩ := X0.virtualBack hx (y := (⟨"com/example/filigree/filigree/engine/DecisionTree", "keptCount", "(I)I"⟩ : MethodName)) (z := (⟨"com/example/filigree/filigree/engine/DecisionTree", "keptCount", "(I)I"⟩ : MethodName)) hown (mvT hZ (hw _ (List.mem_of_getElem? (i := 46) rfl))) (mvT hZ (hw _ (List.mem_of_getElem? (i := 47) rfl))) (notFace_of_selects (args := #[]) (mvT hZ (hw _ (List.mem_of_getElem? (i := 49) rfl)))) (mvT hZ (hw _ (List.mem_of_getElem? (i := 49) rfl))) (mvT hZ (hw _ (List.mem_of_getElem? (i := 48) rfl))) (by decide) (backOf (W := 0) (rm_kcnt l Z a0 hw [] a1 p1 b4_ k4_ kc h0 n0 Z0 F4_ V4_ hp) hZ (hw _ (List.mem_of_getElem? (i := 50) rfl)) (hw _ (List.mem_of_getElem? (i := 2) rfl)) (by decide) (by decide)) q_1a q_1c (g := (mkF m 24 #[.val (.ref a1), .val (.int p1), .val (.int e1), .val (.int c1), .val (.int e2), .val (.int c2), .val (.int (0 : Int32)), .unset, .unset, .unset] [(.int p1), (.ref a1)])) rfl (by rw [hml]; rfl) (Steps.refl _) (argsL := [(.int p1)]) (rest := []) (lenOf pd_I_I rfl) rfl (by show 2 * 0 + _ ≤ _; exact Nat.le_of_eq rfl) (hb hby d_chl_24) (fun _ _ => ⟨rfl, e0, (by decide : 0 + 0 ≤ _), (by decide : 0 + 0 ≤ _)⟩)
      dsimp only [Pt.U, Pt.locs, Pt.cells, Pt.slots] at X_1 l_1 y_1 z_1 st_1 hQ_1
      subst y_1 z_1
      obtain ⟨rfl, N_1q, p_1_0⟩ := hQ_1
      have N_1 : Fr n0 L_1 := by rw [l_1]; exact Fr.app N0 N_1q
      clear l_1
      refine own_go (S' := T_1.setTop (mkF m 29 #[.val (.ref a1), .val (.int p1), .val (.int e1), .val (.int c1), .val (.int e2), .val (.int c2), .val (.int (0 : Int32)), .unset, .unset, .unset] [(.int (0 : Int32)), (.int (kc p1.toNatClampNeg))])) (fun target kt => ?_) ?_
      · show Steps p.tables e below (s₁.setTop (mkF m 11 #[.val (.ref a1), .val (.int p1), .val (.int e1), .val (.int c1), .val (.int e2), .val (.int c2), .unset, .unset, .unset, .unset] [(.int e2), (.int (0 : Int32))])) target
        refine XS.ifYes X0.here hx rfl (pc0 := 11) (pc' := 18) rfl (hb hby d_chl_11) rfl ((if0 _ _).trans (teq hc11).1) (by decide) (by decide) ?_
        show Steps p.tables e below (s₁.setTop (mkF m 18 #[.val (.ref a1), .val (.int p1), .val (.int e1), .val (.int c1), .val (.int e2), .val (.int c2), .unset, .unset, .unset, .unset] [(.int (0 : Int32))])) target
        refine XS.iconst X0.here hx rfl (hb hby d_chl_18) ?_
        show Steps p.tables e below (s₁.setTop (mkF m 19 #[.val (.ref a1), .val (.int p1), .val (.int e1), .val (.int c1), .val (.int e2), .val (.int c2), .unset, .unset, .unset, .unset] [(.int (0 : Int32)), (.int (0 : Int32))])) target
        refine XS.iadd X0.here hx rfl (hb hby d_chl_19) rfl ?_
        show Steps p.tables e below (s₁.setTop (mkF m 20 #[.val (.ref a1), .val (.int p1), .val (.int e1), .val (.int c1), .val (.int e2), .val (.int c2), .unset, .unset, .unset, .unset] [(.int ((0 : Int32) + (0 : Int32)))])) target
        rw [show (0 : Int32) + (0 : Int32) = (0 : Int32) from by decide]
        show Steps p.tables e below (s₁.setTop (mkF m 20 #[.val (.ref a1), .val (.int p1), .val (.int e1), .val (.int c1), .val (.int e2), .val (.int c2), .unset, .unset, .unset, .unset] [(.int (0 : Int32))])) target
        refine XS.istore X0.here hx rfl (hb hby d_chl_20) rfl (l' := #[.val (.ref a1), .val (.int p1), .val (.int e1), .val (.int c1), .val (.int e2), .val (.int c2), .val (.int (0 : Int32)), .unset, .unset, .unset]) rfl ?_
        show Steps p.tables e below (s₁.setTop (mkF m 22 #[.val (.ref a1), .val (.int p1), .val (.int e1), .val (.int c1), .val (.int e2), .val (.int c2), .val (.int (0 : Int32)), .unset, .unset, .unset] [])) target
        refine XS.aloadN X0.here hx rfl (hb hby d_chl_22) rfl rfl ?_
        show Steps p.tables e below (s₁.setTop (mkF m 23 #[.val (.ref a1), .val (.int p1), .val (.int e1), .val (.int c1), .val (.int e2), .val (.int c2), .val (.int (0 : Int32)), .unset, .unset, .unset] [(.ref a1)])) target
        refine XS.iloadN X0.here hx rfl (hb hby d_chl_23) rfl ?_
        show Steps p.tables e below (s₁.setTop (mkF m 24 #[.val (.ref a1), .val (.int p1), .val (.int e1), .val (.int c1), .val (.int e2), .val (.int c2), .val (.int (0 : Int32)), .unset, .unset, .unset] [(.int p1), (.ref a1)])) target
        refine st_1.trans ?_
        show Steps p.tables e below (T_1.setTop (mkF m 27 #[.val (.ref a1), .val (.int p1), .val (.int e1), .val (.int c1), .val (.int e2), .val (.int c2), .val (.int (0 : Int32)), .unset, .unset, .unset] [(.int (kc p1.toNatClampNeg))])) target
        refine XS.iload X_1.here hx rfl (hb hby d_chl_27) rfl ?_
        show Steps p.tables e below (T_1.setTop (mkF m 29 #[.val (.ref a1), .val (.int p1), .val (.int e1), .val (.int c1), .val (.int e2), .val (.int c2), .val (.int (0 : Int32)), .unset, .unset, .unset] [(.int (0 : Int32)), (.int (kc p1.toNatClampNeg))])) target
        exact kt
      by_cases hc29 : (kc p1.toNatClampNeg) = (0 : Int32)
      · -- pc 29: yes
        obtain ⟨cq_2, kq_2, q_2a, q_2b, q_2c⟩ := isOf hZ p_1_0 E1
        obtain ⟨_, _, ⟨T_2, L_2, k_2, n_2⟩, -, X_2, ⟨Lc_2, hQ_2, l_2, y_2, z_2⟩, st_2⟩ := X_1.virtualBack hx (y := (⟨"com/example/filigree/filigree/engine/DecisionTree", "firstKept", "(I)I"⟩ : MethodName)) (z := (⟨"com/example/filigree/filigree/engine/DecisionTree", "firstKept", "(I)I"⟩ : MethodName)) hown (mvT hZ (hw _ (List.mem_of_getElem? (i := 51) rfl))) (mvT hZ (hw _ (List.mem_of_getElem? (i := 52) rfl))) (notFace_of_selects (args := #[]) (mvT hZ (hw _ (List.mem_of_getElem? (i := 54) rfl)))) (mvT hZ (hw _ (List.mem_of_getElem? (i := 54) rfl))) (mvT hZ (hw _ (List.mem_of_getElem? (i := 53) rfl))) (by decide) (backOf (W := 0) (rm_fst l Z a0 hw [] a1 p1 b3_ k3_ ff h0 n0 Z0 F3_ V3_ hp) hZ (hw _ (List.mem_of_getElem? (i := 55) rfl)) (hw _ (List.mem_of_getElem? (i := 2) rfl)) (by decide) (by decide)) q_2a q_2c (g := (mkF m 36 #[.val (.ref a1), .val (.int p1), .val (.int e1), .val (.int c1), .val (.int e2), .val (.int c2), .val (.int (0 : Int32)), .unset, .unset, .unset] [(.int p1), (.ref a1)])) rfl (by rw [hml]; rfl) (Steps.refl _) (argsL := [(.int p1)]) (rest := []) (lenOf pd_I_I rfl) rfl (by show 2 * 0 + _ ≤ _; exact Nat.le_of_eq rfl) (hb hby d_chl_36) (fun _ _ => ⟨rfl, p_1_0, (by decide : 0 + 0 ≤ _), (by decide : 0 + 0 ≤ _)⟩)
        dsimp only [Pt.U, Pt.locs, Pt.cells, Pt.slots] at X_2 l_2 y_2 z_2 st_2 hQ_2
        subst y_2 z_2
        obtain ⟨rfl, N_2q, p_2_0⟩ := hQ_2
        have N_2 : Fr n0 L_2 := by rw [l_2]; exact Fr.app N_1 N_2q
        clear l_2
        refine own_go (S' := T_2.setTop (mkF m 49 #[.val (.ref a1), .val (.int p1), .val (.int e1), .val (.int c1), .val (.int e2), .val (.int c2), .val (.int (0 : Int32)), .val (.int (ff p1.toNatClampNeg)), .unset, .unset] [(.int (-1 : Int32)), (.int (ff p1.toNatClampNeg))])) (fun target kt => ?_) ?_
        · show Steps p.tables e below (T_1.setTop (mkF m 29 #[.val (.ref a1), .val (.int p1), .val (.int e1), .val (.int c1), .val (.int e2), .val (.int c2), .val (.int (0 : Int32)), .unset, .unset, .unset] [(.int (0 : Int32)), (.int (kc p1.toNatClampNeg))])) target
          refine XS.icmpYes X_1.here hx rfl (pc0 := 29) (pc' := 34) rfl (hb hby d_chl_29) rfl (teq hc29).1 (by decide) (by decide) ?_
          show Steps p.tables e below (T_1.setTop (mkF m 34 #[.val (.ref a1), .val (.int p1), .val (.int e1), .val (.int c1), .val (.int e2), .val (.int c2), .val (.int (0 : Int32)), .unset, .unset, .unset] [])) target
          refine XS.aloadN X_1.here hx rfl (hb hby d_chl_34) rfl rfl ?_
          show Steps p.tables e below (T_1.setTop (mkF m 35 #[.val (.ref a1), .val (.int p1), .val (.int e1), .val (.int c1), .val (.int e2), .val (.int c2), .val (.int (0 : Int32)), .unset, .unset, .unset] [(.ref a1)])) target
          refine XS.iloadN X_1.here hx rfl (hb hby d_chl_35) rfl ?_
          show Steps p.tables e below (T_1.setTop (mkF m 36 #[.val (.ref a1), .val (.int p1), .val (.int e1), .val (.int c1), .val (.int e2), .val (.int c2), .val (.int (0 : Int32)), .unset, .unset, .unset] [(.int p1), (.ref a1)])) target
          refine st_2.trans ?_
          show Steps p.tables e below (T_2.setTop (mkF m 39 #[.val (.ref a1), .val (.int p1), .val (.int e1), .val (.int c1), .val (.int e2), .val (.int c2), .val (.int (0 : Int32)), .unset, .unset, .unset] [(.int (ff p1.toNatClampNeg))])) target
          refine XS.istore X_2.here hx rfl (hb hby d_chl_39) rfl (l' := #[.val (.ref a1), .val (.int p1), .val (.int e1), .val (.int c1), .val (.int e2), .val (.int c2), .val (.int (0 : Int32)), .val (.int (ff p1.toNatClampNeg)), .unset, .unset]) rfl ?_
          show Steps p.tables e below (T_2.setTop (mkF m 41 #[.val (.ref a1), .val (.int p1), .val (.int e1), .val (.int c1), .val (.int e2), .val (.int c2), .val (.int (0 : Int32)), .val (.int (ff p1.toNatClampNeg)), .unset, .unset] [])) target
          refine XS.iload X_2.here hx rfl (hb hby d_chl_41) rfl ?_
          show Steps p.tables e below (T_2.setTop (mkF m 43 #[.val (.ref a1), .val (.int p1), .val (.int e1), .val (.int c1), .val (.int e2), .val (.int c2), .val (.int (0 : Int32)), .val (.int (ff p1.toNatClampNeg)), .unset, .unset] [(.int (0 : Int32))])) target
          refine XS.ifNo X_2.here hx rfl (hb hby d_chl_43) rfl ((if0 _ _).trans (teq (by decide : (0 : Int32) = (0 : Int32))).2) ?_
          show Steps p.tables e below (T_2.setTop (mkF m 46 #[.val (.ref a1), .val (.int p1), .val (.int e1), .val (.int c1), .val (.int e2), .val (.int c2), .val (.int (0 : Int32)), .val (.int (ff p1.toNatClampNeg)), .unset, .unset] [])) target
          refine XS.iload X_2.here hx rfl (hb hby d_chl_46) rfl ?_
          show Steps p.tables e below (T_2.setTop (mkF m 48 #[.val (.ref a1), .val (.int p1), .val (.int e1), .val (.int c1), .val (.int e2), .val (.int c2), .val (.int (0 : Int32)), .val (.int (ff p1.toNatClampNeg)), .unset, .unset] [(.int (ff p1.toNatClampNeg))])) target
          refine XS.iconst X_2.here hx rfl (hb hby d_chl_48) ?_
          show Steps p.tables e below (T_2.setTop (mkF m 49 #[.val (.ref a1), .val (.int p1), .val (.int e1), .val (.int c1), .val (.int e2), .val (.int c2), .val (.int (0 : Int32)), .val (.int (ff p1.toNatClampNeg)), .unset, .unset] [(.int (-1 : Int32)), (.int (ff p1.toNatClampNeg))])) target
          exact kt
        by_cases hc49 : (ff p1.toNatClampNeg) = (-1 : Int32)
        · -- pc 49: yes
          refine own_go (S' := T_2.setTop (mkF m 57 #[.val (.ref a1), .val (.int p1), .val (.int e1), .val (.int c1), .val (.int e2), .val (.int c2), .val (.int (0 : Int32)), .val (.int (ff p1.toNatClampNeg)), .unset, .unset] [(.int (1 : Int32))])) (fun target kt => ?_) ?_
          · show Steps p.tables e below (T_2.setTop (mkF m 49 #[.val (.ref a1), .val (.int p1), .val (.int e1), .val (.int c1), .val (.int e2), .val (.int c2), .val (.int (0 : Int32)), .val (.int (ff p1.toNatClampNeg)), .unset, .unset] [(.int (-1 : Int32)), (.int (ff p1.toNatClampNeg))])) target
            refine XS.icmpNo X_2.here hx rfl (hb hby d_chl_49) rfl (teq hc49).2 ?_
            show Steps p.tables e below (T_2.setTop (mkF m 52 #[.val (.ref a1), .val (.int p1), .val (.int e1), .val (.int c1), .val (.int e2), .val (.int c2), .val (.int (0 : Int32)), .val (.int (ff p1.toNatClampNeg)), .unset, .unset] [])) target
            refine XS.iconst X_2.here hx rfl (hb hby d_chl_52) ?_
            show Steps p.tables e below (T_2.setTop (mkF m 53 #[.val (.ref a1), .val (.int p1), .val (.int e1), .val (.int c1), .val (.int e2), .val (.int c2), .val (.int (0 : Int32)), .val (.int (ff p1.toNatClampNeg)), .unset, .unset] [(.int (1 : Int32))])) target
            refine XS.goto X_2.here hx rfl (pc0 := 53) (pc' := 57) rfl (hb hby d_chl_53) (by decide) (by decide) ?_
            show Steps p.tables e below (T_2.setTop (mkF m 57 #[.val (.ref a1), .val (.int p1), .val (.int e1), .val (.int c1), .val (.int e2), .val (.int c2), .val (.int (0 : Int32)), .val (.int (ff p1.toNatClampNeg)), .unset, .unset] [(.int (1 : Int32))])) target
            exact kt
          obtain ⟨fs, hr, hrun, hended, hW, hsame⟩ := X_2.leave (v := some (.int (1 : Int32))) (fun h => by rw [Bd.returns] at h; cases h)
          refine ⟨_, _, retN X_2 hx (t := .boolean) Bd.returns (by simp) (hb hby d_chl_57) hr, hrun, hended, _, _, rfl, ?_, ⟨_, rfl⟩, hW, hsame.mono (by decide) (by decide)⟩
          show Q_chl Z a1 p1 e1 c1 e2 c2 ff kc nx b3_ b4_ b5_ k3_ k4_ k5_ h0 n0 _ T_2.heap _
          rw [p_2_0]
          exact ⟨(congrArg (fun z => some (Value.int z)) (own_chl_0 hc1 hc11 hc29 hc49)), N_2, rfl⟩
        · -- pc 49: no
          refine own_go (S' := T_2.setTop (mkF m 57 #[.val (.ref a1), .val (.int p1), .val (.int e1), .val (.int c1), .val (.int e2), .val (.int c2), .val (.int (0 : Int32)), .val (.int (ff p1.toNatClampNeg)), .unset, .unset] [(.int (0 : Int32))])) (fun target kt => ?_) ?_
          · show Steps p.tables e below (T_2.setTop (mkF m 49 #[.val (.ref a1), .val (.int p1), .val (.int e1), .val (.int c1), .val (.int e2), .val (.int c2), .val (.int (0 : Int32)), .val (.int (ff p1.toNatClampNeg)), .unset, .unset] [(.int (-1 : Int32)), (.int (ff p1.toNatClampNeg))])) target
            refine XS.icmpYes X_2.here hx rfl (pc0 := 49) (pc' := 56) rfl (hb hby d_chl_49) rfl (feq hc49).2 (by decide) (by decide) ?_
            show Steps p.tables e below (T_2.setTop (mkF m 56 #[.val (.ref a1), .val (.int p1), .val (.int e1), .val (.int c1), .val (.int e2), .val (.int c2), .val (.int (0 : Int32)), .val (.int (ff p1.toNatClampNeg)), .unset, .unset] [])) target
            refine XS.iconst X_2.here hx rfl (hb hby d_chl_56) ?_
            show Steps p.tables e below (T_2.setTop (mkF m 57 #[.val (.ref a1), .val (.int p1), .val (.int e1), .val (.int c1), .val (.int e2), .val (.int c2), .val (.int (0 : Int32)), .val (.int (ff p1.toNatClampNeg)), .unset, .unset] [(.int (0 : Int32))])) target
            exact kt
          obtain ⟨fs, hr, hrun, hended, hW, hsame⟩ := X_2.leave (v := some (.int (0 : Int32))) (fun h => by rw [Bd.returns] at h; cases h)
          refine ⟨_, _, retN X_2 hx (t := .boolean) Bd.returns (by simp) (hb hby d_chl_57) hr, hrun, hended, _, _, rfl, ?_, ⟨_, rfl⟩, hW, hsame.mono (by decide) (by decide)⟩
          show Q_chl Z a1 p1 e1 c1 e2 c2 ff kc nx b3_ b4_ b5_ k3_ k4_ k5_ h0 n0 _ T_2.heap _
          rw [p_2_0]
          exact ⟨(congrArg (fun z => some (Value.int z)) (own_chl_1 hc1 hc11 hc29 hc49)), N_2, rfl⟩
      · -- pc 29: no
        refine own_go (S' := T_1.setTop (mkF m 33 #[.val (.ref a1), .val (.int p1), .val (.int e1), .val (.int c1), .val (.int e2), .val (.int c2), .val (.int (0 : Int32)), .unset, .unset, .unset] [(.int (0 : Int32))])) (fun target kt => ?_) ?_
        · show Steps p.tables e below (T_1.setTop (mkF m 29 #[.val (.ref a1), .val (.int p1), .val (.int e1), .val (.int c1), .val (.int e2), .val (.int c2), .val (.int (0 : Int32)), .unset, .unset, .unset] [(.int (0 : Int32)), (.int (kc p1.toNatClampNeg))])) target
          refine XS.icmpNo X_1.here hx rfl (hb hby d_chl_29) rfl (feq hc29).1 ?_
          show Steps p.tables e below (T_1.setTop (mkF m 32 #[.val (.ref a1), .val (.int p1), .val (.int e1), .val (.int c1), .val (.int e2), .val (.int c2), .val (.int (0 : Int32)), .unset, .unset, .unset] [])) target
          refine XS.iconst X_1.here hx rfl (hb hby d_chl_32) ?_
          show Steps p.tables e below (T_1.setTop (mkF m 33 #[.val (.ref a1), .val (.int p1), .val (.int e1), .val (.int c1), .val (.int e2), .val (.int c2), .val (.int (0 : Int32)), .unset, .unset, .unset] [(.int (0 : Int32))])) target
          exact kt
        obtain ⟨fs, hr, hrun, hended, hW, hsame⟩ := X_1.leave (v := some (.int (0 : Int32))) (fun h => by rw [Bd.returns] at h; cases h)
        refine ⟨_, _, retN X_1 hx (t := .boolean) Bd.returns (by simp) (hb hby d_chl_33) hr, hrun, hended, _, _, rfl, ?_, ⟨_, rfl⟩, hW, hsame.mono (by decide) (by decide)⟩
        show Q_chl Z a1 p1 e1 c1 e2 c2 ff kc nx b3_ b4_ b5_ k3_ k4_ k5_ h0 n0 _ T_1.heap _
        rw [p_1_0]
        exact ⟨(congrArg (fun z => some (Value.int z)) (own_chl_2 hc1 hc11 hc29)), N_1, rfl⟩
    · -- pc 11: no
      obtain ⟨cq_3, kq_3, q_3a, q_3b, q_3c⟩ := isOf hZ e0 E1
      obtain ⟨_, _, ⟨T_3, L_3, k_3, n_3⟩, -, X_3, ⟨Lc_3, hQ_3, l_3, y_3, z_3⟩, st_3⟩ := X0.virtualBack hx (y := (⟨"com/example/filigree/filigree/engine/DecisionTree", "keptCount", "(I)I"⟩ : MethodName)) (z := (⟨"com/example/filigree/filigree/engine/DecisionTree", "keptCount", "(I)I"⟩ : MethodName)) hown (mvT hZ (hw _ (List.mem_of_getElem? (i := 46) rfl))) (mvT hZ (hw _ (List.mem_of_getElem? (i := 47) rfl))) (notFace_of_selects (args := #[]) (mvT hZ (hw _ (List.mem_of_getElem? (i := 49) rfl)))) (mvT hZ (hw _ (List.mem_of_getElem? (i := 49) rfl))) (mvT hZ (hw _ (List.mem_of_getElem? (i := 48) rfl))) (by decide) (backOf (W := 0) (rm_kcnt l Z a0 hw [] a1 p1 b4_ k4_ kc h0 n0 Z0 F4_ V4_ hp) hZ (hw _ (List.mem_of_getElem? (i := 50) rfl)) (hw _ (List.mem_of_getElem? (i := 2) rfl)) (by decide) (by decide)) q_3a q_3c (g := (mkF m 24 #[.val (.ref a1), .val (.int p1), .val (.int e1), .val (.int c1), .val (.int e2), .val (.int c2), .val (.int (1 : Int32)), .unset, .unset, .unset] [(.int p1), (.ref a1)])) rfl (by rw [hml]; rfl) (Steps.refl _) (argsL := [(.int p1)]) (rest := []) (lenOf pd_I_I rfl) rfl (by show 2 * 0 + _ ≤ _; exact Nat.le_of_eq rfl) (hb hby d_chl_24) (fun _ _ => ⟨rfl, e0, (by decide : 0 + 0 ≤ _), (by decide : 0 + 0 ≤ _)⟩)
      dsimp only [Pt.U, Pt.locs, Pt.cells, Pt.slots] at X_3 l_3 y_3 z_3 st_3 hQ_3
      subst y_3 z_3
      obtain ⟨rfl, N_3q, p_3_0⟩ := hQ_3
      have N_3 : Fr n0 L_3 := by rw [l_3]; exact Fr.app N0 N_3q
      clear l_3
      refine own_go (S' := T_3.setTop (mkF m 29 #[.val (.ref a1), .val (.int p1), .val (.int e1), .val (.int c1), .val (.int e2), .val (.int c2), .val (.int (1 : Int32)), .unset, .unset, .unset] [(.int (1 : Int32)), (.int (kc p1.toNatClampNeg))])) (fun target kt => ?_) ?_
      · show Steps p.tables e below (s₁.setTop (mkF m 11 #[.val (.ref a1), .val (.int p1), .val (.int e1), .val (.int c1), .val (.int e2), .val (.int c2), .unset, .unset, .unset, .unset] [(.int e2), (.int (0 : Int32))])) target
        refine XS.ifNo X0.here hx rfl (hb hby d_chl_11) rfl ((if0 _ _).trans (feq hc11).1) ?_
        show Steps p.tables e below (s₁.setTop (mkF m 14 #[.val (.ref a1), .val (.int p1), .val (.int e1), .val (.int c1), .val (.int e2), .val (.int c2), .unset, .unset, .unset, .unset] [(.int (0 : Int32))])) target
        refine XS.iconst X0.here hx rfl (hb hby d_chl_14) ?_
        show Steps p.tables e below (s₁.setTop (mkF m 15 #[.val (.ref a1), .val (.int p1), .val (.int e1), .val (.int c1), .val (.int e2), .val (.int c2), .unset, .unset, .unset, .unset] [(.int (1 : Int32)), (.int (0 : Int32))])) target
        refine XS.goto X0.here hx rfl (pc0 := 15) (pc' := 19) rfl (hb hby d_chl_15) (by decide) (by decide) ?_
        show Steps p.tables e below (s₁.setTop (mkF m 19 #[.val (.ref a1), .val (.int p1), .val (.int e1), .val (.int c1), .val (.int e2), .val (.int c2), .unset, .unset, .unset, .unset] [(.int (1 : Int32)), (.int (0 : Int32))])) target
        refine XS.iadd X0.here hx rfl (hb hby d_chl_19) rfl ?_
        show Steps p.tables e below (s₁.setTop (mkF m 20 #[.val (.ref a1), .val (.int p1), .val (.int e1), .val (.int c1), .val (.int e2), .val (.int c2), .unset, .unset, .unset, .unset] [(.int ((0 : Int32) + (1 : Int32)))])) target
        rw [show (0 : Int32) + (1 : Int32) = (1 : Int32) from by decide]
        show Steps p.tables e below (s₁.setTop (mkF m 20 #[.val (.ref a1), .val (.int p1), .val (.int e1), .val (.int c1), .val (.int e2), .val (.int c2), .unset, .unset, .unset, .unset] [(.int (1 : Int32))])) target
        refine XS.istore X0.here hx rfl (hb hby d_chl_20) rfl (l' := #[.val (.ref a1), .val (.int p1), .val (.int e1), .val (.int c1), .val (.int e2), .val (.int c2), .val (.int (1 : Int32)), .unset, .unset, .unset]) rfl ?_
        show Steps p.tables e below (s₁.setTop (mkF m 22 #[.val (.ref a1), .val (.int p1), .val (.int e1), .val (.int c1), .val (.int e2), .val (.int c2), .val (.int (1 : Int32)), .unset, .unset, .unset] [])) target
        refine XS.aloadN X0.here hx rfl (hb hby d_chl_22) rfl rfl ?_
        show Steps p.tables e below (s₁.setTop (mkF m 23 #[.val (.ref a1), .val (.int p1), .val (.int e1), .val (.int c1), .val (.int e2), .val (.int c2), .val (.int (1 : Int32)), .unset, .unset, .unset] [(.ref a1)])) target
        refine XS.iloadN X0.here hx rfl (hb hby d_chl_23) rfl ?_
        show Steps p.tables e below (s₁.setTop (mkF m 24 #[.val (.ref a1), .val (.int p1), .val (.int e1), .val (.int c1), .val (.int e2), .val (.int c2), .val (.int (1 : Int32)), .unset, .unset, .unset] [(.int p1), (.ref a1)])) target
        refine st_3.trans ?_
        show Steps p.tables e below (T_3.setTop (mkF m 27 #[.val (.ref a1), .val (.int p1), .val (.int e1), .val (.int c1), .val (.int e2), .val (.int c2), .val (.int (1 : Int32)), .unset, .unset, .unset] [(.int (kc p1.toNatClampNeg))])) target
        refine XS.iload X_3.here hx rfl (hb hby d_chl_27) rfl ?_
        show Steps p.tables e below (T_3.setTop (mkF m 29 #[.val (.ref a1), .val (.int p1), .val (.int e1), .val (.int c1), .val (.int e2), .val (.int c2), .val (.int (1 : Int32)), .unset, .unset, .unset] [(.int (1 : Int32)), (.int (kc p1.toNatClampNeg))])) target
        exact kt
      by_cases hc29 : (kc p1.toNatClampNeg) = (1 : Int32)
      · -- pc 29: yes
        obtain ⟨cq_4, kq_4, q_4a, q_4b, q_4c⟩ := isOf hZ p_3_0 E1
        obtain ⟨_, _, ⟨T_4, L_4, k_4, n_4⟩, -, X_4, ⟨Lc_4, hQ_4, l_4, y_4, z_4⟩, st_4⟩ := X_3.virtualBack hx (y := (⟨"com/example/filigree/filigree/engine/DecisionTree", "firstKept", "(I)I"⟩ : MethodName)) (z := (⟨"com/example/filigree/filigree/engine/DecisionTree", "firstKept", "(I)I"⟩ : MethodName)) hown (mvT hZ (hw _ (List.mem_of_getElem? (i := 51) rfl))) (mvT hZ (hw _ (List.mem_of_getElem? (i := 52) rfl))) (notFace_of_selects (args := #[]) (mvT hZ (hw _ (List.mem_of_getElem? (i := 54) rfl)))) (mvT hZ (hw _ (List.mem_of_getElem? (i := 54) rfl))) (mvT hZ (hw _ (List.mem_of_getElem? (i := 53) rfl))) (by decide) (backOf (W := 0) (rm_fst l Z a0 hw [] a1 p1 b3_ k3_ ff h0 n0 Z0 F3_ V3_ hp) hZ (hw _ (List.mem_of_getElem? (i := 55) rfl)) (hw _ (List.mem_of_getElem? (i := 2) rfl)) (by decide) (by decide)) q_4a q_4c (g := (mkF m 36 #[.val (.ref a1), .val (.int p1), .val (.int e1), .val (.int c1), .val (.int e2), .val (.int c2), .val (.int (1 : Int32)), .unset, .unset, .unset] [(.int p1), (.ref a1)])) rfl (by rw [hml]; rfl) (Steps.refl _) (argsL := [(.int p1)]) (rest := []) (lenOf pd_I_I rfl) rfl (by show 2 * 0 + _ ≤ _; exact Nat.le_of_eq rfl) (hb hby d_chl_36) (fun _ _ => ⟨rfl, p_3_0, (by decide : 0 + 0 ≤ _), (by decide : 0 + 0 ≤ _)⟩)
        dsimp only [Pt.U, Pt.locs, Pt.cells, Pt.slots] at X_4 l_4 y_4 z_4 st_4 hQ_4
        subst y_4 z_4
        obtain ⟨rfl, N_4q, p_4_0⟩ := hQ_4
        have N_4 : Fr n0 L_4 := by rw [l_4]; exact Fr.app N_3 N_4q
        clear l_4
        refine own_go (S' := T_4.setTop (mkF m 60 #[.val (.ref a1), .val (.int p1), .val (.int e1), .val (.int c1), .val (.int e2), .val (.int c2), .val (.int (1 : Int32)), .val (.int (ff p1.toNatClampNeg)), .unset, .unset] [(.int (ff p1.toNatClampNeg))])) (fun target kt => ?_) ?_
        · show Steps p.tables e below (T_3.setTop (mkF m 29 #[.val (.ref a1), .val (.int p1), .val (.int e1), .val (.int c1), .val (.int e2), .val (.int c2), .val (.int (1 : Int32)), .unset, .unset, .unset] [(.int (1 : Int32)), (.int (kc p1.toNatClampNeg))])) target
          refine XS.icmpYes X_3.here hx rfl (pc0 := 29) (pc' := 34) rfl (hb hby d_chl_29) rfl (teq hc29).1 (by decide) (by decide) ?_
          show Steps p.tables e below (T_3.setTop (mkF m 34 #[.val (.ref a1), .val (.int p1), .val (.int e1), .val (.int c1), .val (.int e2), .val (.int c2), .val (.int (1 : Int32)), .unset, .unset, .unset] [])) target
          refine XS.aloadN X_3.here hx rfl (hb hby d_chl_34) rfl rfl ?_
          show Steps p.tables e below (T_3.setTop (mkF m 35 #[.val (.ref a1), .val (.int p1), .val (.int e1), .val (.int c1), .val (.int e2), .val (.int c2), .val (.int (1 : Int32)), .unset, .unset, .unset] [(.ref a1)])) target
          refine XS.iloadN X_3.here hx rfl (hb hby d_chl_35) rfl ?_
          show Steps p.tables e below (T_3.setTop (mkF m 36 #[.val (.ref a1), .val (.int p1), .val (.int e1), .val (.int c1), .val (.int e2), .val (.int c2), .val (.int (1 : Int32)), .unset, .unset, .unset] [(.int p1), (.ref a1)])) target
          refine st_4.trans ?_
          show Steps p.tables e below (T_4.setTop (mkF m 39 #[.val (.ref a1), .val (.int p1), .val (.int e1), .val (.int c1), .val (.int e2), .val (.int c2), .val (.int (1 : Int32)), .unset, .unset, .unset] [(.int (ff p1.toNatClampNeg))])) target
          refine XS.istore X_4.here hx rfl (hb hby d_chl_39) rfl (l' := #[.val (.ref a1), .val (.int p1), .val (.int e1), .val (.int c1), .val (.int e2), .val (.int c2), .val (.int (1 : Int32)), .val (.int (ff p1.toNatClampNeg)), .unset, .unset]) rfl ?_
          show Steps p.tables e below (T_4.setTop (mkF m 41 #[.val (.ref a1), .val (.int p1), .val (.int e1), .val (.int c1), .val (.int e2), .val (.int c2), .val (.int (1 : Int32)), .val (.int (ff p1.toNatClampNeg)), .unset, .unset] [])) target
          refine XS.iload X_4.here hx rfl (hb hby d_chl_41) rfl ?_
          show Steps p.tables e below (T_4.setTop (mkF m 43 #[.val (.ref a1), .val (.int p1), .val (.int e1), .val (.int c1), .val (.int e2), .val (.int c2), .val (.int (1 : Int32)), .val (.int (ff p1.toNatClampNeg)), .unset, .unset] [(.int (1 : Int32))])) target
          refine XS.ifYes X_4.here hx rfl (pc0 := 43) (pc' := 58) rfl (hb hby d_chl_43) rfl ((if0 _ _).trans (feq (by decide : ¬ ((1 : Int32) = (0 : Int32)))).2) (by decide) (by decide) ?_
          show Steps p.tables e below (T_4.setTop (mkF m 58 #[.val (.ref a1), .val (.int p1), .val (.int e1), .val (.int c1), .val (.int e2), .val (.int c2), .val (.int (1 : Int32)), .val (.int (ff p1.toNatClampNeg)), .unset, .unset] [])) target
          refine XS.iload X_4.here hx rfl (hb hby d_chl_58) rfl ?_
          show Steps p.tables e below (T_4.setTop (mkF m 60 #[.val (.ref a1), .val (.int p1), .val (.int e1), .val (.int c1), .val (.int e2), .val (.int c2), .val (.int (1 : Int32)), .val (.int (ff p1.toNatClampNeg)), .unset, .unset] [(.int (ff p1.toNatClampNeg))])) target
          exact kt
        by_cases hc60 : (ff p1.toNatClampNeg) < (0 : Int32)
        · -- pc 60: yes
          refine own_go (S' := T_4.setTop (mkF m 70 #[.val (.ref a1), .val (.int p1), .val (.int e1), .val (.int c1), .val (.int e2), .val (.int c2), .val (.int (1 : Int32)), .val (.int (ff p1.toNatClampNeg)), .unset, .unset] [(.int (0 : Int32))])) (fun target kt => ?_) ?_
          · show Steps p.tables e below (T_4.setTop (mkF m 60 #[.val (.ref a1), .val (.int p1), .val (.int e1), .val (.int c1), .val (.int e2), .val (.int c2), .val (.int (1 : Int32)), .val (.int (ff p1.toNatClampNeg)), .unset, .unset] [(.int (ff p1.toNatClampNeg))])) target
            refine XS.ifYes X_4.here hx rfl (pc0 := 60) (pc' := 69) rfl (hb hby d_chl_60) rfl ((if0 _ _).trans (tlt hc60).1) (by decide) (by decide) ?_
            show Steps p.tables e below (T_4.setTop (mkF m 69 #[.val (.ref a1), .val (.int p1), .val (.int e1), .val (.int c1), .val (.int e2), .val (.int c2), .val (.int (1 : Int32)), .val (.int (ff p1.toNatClampNeg)), .unset, .unset] [])) target
            refine XS.iconst X_4.here hx rfl (hb hby d_chl_69) ?_
            show Steps p.tables e below (T_4.setTop (mkF m 70 #[.val (.ref a1), .val (.int p1), .val (.int e1), .val (.int c1), .val (.int e2), .val (.int c2), .val (.int (1 : Int32)), .val (.int (ff p1.toNatClampNeg)), .unset, .unset] [(.int (0 : Int32))])) target
            exact kt
          obtain ⟨fs, hr, hrun, hended, hW, hsame⟩ := X_4.leave (v := some (.int (0 : Int32))) (fun h => by rw [Bd.returns] at h; cases h)
          refine ⟨_, _, retN X_4 hx (t := .boolean) Bd.returns (by simp) (hb hby d_chl_70) hr, hrun, hended, _, _, rfl, ?_, ⟨_, rfl⟩, hW, hsame.mono (by decide) (by decide)⟩
          show Q_chl Z a1 p1 e1 c1 e2 c2 ff kc nx b3_ b4_ b5_ k3_ k4_ k5_ h0 n0 _ T_4.heap _
          rw [p_4_0]
          exact ⟨(congrArg (fun z => some (Value.int z)) (own_chl_3 hc1 hc11 hc29 hc60)), N_4, rfl⟩
        · -- pc 60: no
          refine own_go (S' := T_4.setTop (mkF m 66 #[.val (.ref a1), .val (.int p1), .val (.int e1), .val (.int c1), .val (.int e2), .val (.int c2), .val (.int (1 : Int32)), .val (.int (ff p1.toNatClampNeg)), .unset, .unset] [(.int (3 : Int32)), (.int (ff p1.toNatClampNeg))])) (fun target kt => ?_) ?_
          · show Steps p.tables e below (T_4.setTop (mkF m 60 #[.val (.ref a1), .val (.int p1), .val (.int e1), .val (.int c1), .val (.int e2), .val (.int c2), .val (.int (1 : Int32)), .val (.int (ff p1.toNatClampNeg)), .unset, .unset] [(.int (ff p1.toNatClampNeg))])) target
            refine XS.ifNo X_4.here hx rfl (hb hby d_chl_60) rfl ((if0 _ _).trans (flt hc60).1) ?_
            show Steps p.tables e below (T_4.setTop (mkF m 63 #[.val (.ref a1), .val (.int p1), .val (.int e1), .val (.int c1), .val (.int e2), .val (.int c2), .val (.int (1 : Int32)), .val (.int (ff p1.toNatClampNeg)), .unset, .unset] [])) target
            refine XS.iload X_4.here hx rfl (hb hby d_chl_63) rfl ?_
            show Steps p.tables e below (T_4.setTop (mkF m 65 #[.val (.ref a1), .val (.int p1), .val (.int e1), .val (.int c1), .val (.int e2), .val (.int c2), .val (.int (1 : Int32)), .val (.int (ff p1.toNatClampNeg)), .unset, .unset] [(.int (ff p1.toNatClampNeg))])) target
            refine XS.iconst X_4.here hx rfl (hb hby d_chl_65) ?_
            show Steps p.tables e below (T_4.setTop (mkF m 66 #[.val (.ref a1), .val (.int p1), .val (.int e1), .val (.int c1), .val (.int e2), .val (.int c2), .val (.int (1 : Int32)), .val (.int (ff p1.toNatClampNeg)), .unset, .unset] [(.int (3 : Int32)), (.int (ff p1.toNatClampNeg))])) target
            exact kt
          by_cases hc66 : (3 : Int32) < (ff p1.toNatClampNeg)
          · -- pc 66: yes
            refine own_go (S' := T_4.setTop (mkF m 70 #[.val (.ref a1), .val (.int p1), .val (.int e1), .val (.int c1), .val (.int e2), .val (.int c2), .val (.int (1 : Int32)), .val (.int (ff p1.toNatClampNeg)), .unset, .unset] [(.int (0 : Int32))])) (fun target kt => ?_) ?_
            · show Steps p.tables e below (T_4.setTop (mkF m 66 #[.val (.ref a1), .val (.int p1), .val (.int e1), .val (.int c1), .val (.int e2), .val (.int c2), .val (.int (1 : Int32)), .val (.int (ff p1.toNatClampNeg)), .unset, .unset] [(.int (3 : Int32)), (.int (ff p1.toNatClampNeg))])) target
              refine XS.icmpNo X_4.here hx rfl (hb hby d_chl_66) rfl (tlt hc66).2.2.2 ?_
              show Steps p.tables e below (T_4.setTop (mkF m 69 #[.val (.ref a1), .val (.int p1), .val (.int e1), .val (.int c1), .val (.int e2), .val (.int c2), .val (.int (1 : Int32)), .val (.int (ff p1.toNatClampNeg)), .unset, .unset] [])) target
              refine XS.iconst X_4.here hx rfl (hb hby d_chl_69) ?_
              show Steps p.tables e below (T_4.setTop (mkF m 70 #[.val (.ref a1), .val (.int p1), .val (.int e1), .val (.int c1), .val (.int e2), .val (.int c2), .val (.int (1 : Int32)), .val (.int (ff p1.toNatClampNeg)), .unset, .unset] [(.int (0 : Int32))])) target
              exact kt
            obtain ⟨fs, hr, hrun, hended, hW, hsame⟩ := X_4.leave (v := some (.int (0 : Int32))) (fun h => by rw [Bd.returns] at h; cases h)
            refine ⟨_, _, retN X_4 hx (t := .boolean) Bd.returns (by simp) (hb hby d_chl_70) hr, hrun, hended, _, _, rfl, ?_, ⟨_, rfl⟩, hW, hsame.mono (by decide) (by decide)⟩
            show Q_chl Z a1 p1 e1 c1 e2 c2 ff kc nx b3_ b4_ b5_ k3_ k4_ k5_ h0 n0 _ T_4.heap _
            rw [p_4_0]
            exact ⟨(congrArg (fun z => some (Value.int z)) (own_chl_4 hc1 hc11 hc29 hc60 hc66)), N_4, rfl⟩
          · -- pc 66: no
            obtain ⟨cq_5, kq_5, q_5a, q_5b, q_5c⟩ := isOf hZ p_4_0 E1
            obtain ⟨_, _, ⟨T_5, L_5, k_5, n_5⟩, -, X_5, ⟨Lc_5, hQ_5, l_5, y_5, z_5⟩, st_5⟩ := X_4.virtualBack hx (y := (⟨"com/example/filigree/filigree/engine/DecisionTree", "nextKept", "(I)I"⟩ : MethodName)) (z := (⟨"com/example/filigree/filigree/engine/DecisionTree", "nextKept", "(I)I"⟩ : MethodName)) hown (mvT hZ (hw _ (List.mem_of_getElem? (i := 56) rfl))) (mvT hZ (hw _ (List.mem_of_getElem? (i := 57) rfl))) (notFace_of_selects (args := #[]) (mvT hZ (hw _ (List.mem_of_getElem? (i := 59) rfl)))) (mvT hZ (hw _ (List.mem_of_getElem? (i := 59) rfl))) (mvT hZ (hw _ (List.mem_of_getElem? (i := 58) rfl))) (by decide) (backOf (W := 0) (rm_nxt l Z a0 hw [] a1 (ff p1.toNatClampNeg) b5_ k5_ nx h0 n0 Z0 F5_ V5_ ⟨hc60, hc66⟩) hZ (hw _ (List.mem_of_getElem? (i := 60) rfl)) (hw _ (List.mem_of_getElem? (i := 2) rfl)) (by decide) (by decide)) q_5a q_5c (g := (mkF m 74 #[.val (.ref a1), .val (.int p1), .val (.int e1), .val (.int c1), .val (.int e2), .val (.int c2), .val (.int (1 : Int32)), .val (.int (ff p1.toNatClampNeg)), .unset, .unset] [(.int (ff p1.toNatClampNeg)), (.ref a1)])) rfl (by rw [hml]; rfl) (Steps.refl _) (argsL := [(.int (ff p1.toNatClampNeg))]) (rest := []) (lenOf pd_I_I rfl) rfl (by show 2 * 0 + _ ≤ _; exact Nat.le_of_eq rfl) (hb hby d_chl_74) (fun _ _ => ⟨rfl, p_4_0, (by decide : 0 + 0 ≤ _), (by decide : 0 + 0 ≤ _)⟩)
            dsimp only [Pt.U, Pt.locs, Pt.cells, Pt.slots] at X_5 l_5 y_5 z_5 st_5 hQ_5
            subst y_5 z_5
            obtain ⟨rfl, N_5q, p_5_0⟩ := hQ_5
            have N_5 : Fr n0 L_5 := by rw [l_5]; exact Fr.app N_4 N_5q
            clear l_5
            refine own_go (S' := T_5.setTop (mkF m 101 #[.val (.ref a1), .val (.int p1), .val (.int e1), .val (.int c1), .val (.int e2), .val (.int c2), .val (.int (1 : Int32)), .val (.int (ff p1.toNatClampNeg)), .val (.int (nx (ff p1.toNatClampNeg).toNatClampNeg)), .val (.int c2)] [(.int c2), (.int (ff p1.toNatClampNeg))])) (fun target kt => ?_) ?_
            · show Steps p.tables e below (T_4.setTop (mkF m 66 #[.val (.ref a1), .val (.int p1), .val (.int e1), .val (.int c1), .val (.int e2), .val (.int c2), .val (.int (1 : Int32)), .val (.int (ff p1.toNatClampNeg)), .unset, .unset] [(.int (3 : Int32)), (.int (ff p1.toNatClampNeg))])) target
              refine XS.icmpYes X_4.here hx rfl (pc0 := 66) (pc' := 71) rfl (hb hby d_chl_66) rfl (flt hc66).2.2.2 (by decide) (by decide) ?_
              show Steps p.tables e below (T_4.setTop (mkF m 71 #[.val (.ref a1), .val (.int p1), .val (.int e1), .val (.int c1), .val (.int e2), .val (.int c2), .val (.int (1 : Int32)), .val (.int (ff p1.toNatClampNeg)), .unset, .unset] [])) target
              refine XS.aloadN X_4.here hx rfl (hb hby d_chl_71) rfl rfl ?_
              show Steps p.tables e below (T_4.setTop (mkF m 72 #[.val (.ref a1), .val (.int p1), .val (.int e1), .val (.int c1), .val (.int e2), .val (.int c2), .val (.int (1 : Int32)), .val (.int (ff p1.toNatClampNeg)), .unset, .unset] [(.ref a1)])) target
              refine XS.iload X_4.here hx rfl (hb hby d_chl_72) rfl ?_
              show Steps p.tables e below (T_4.setTop (mkF m 74 #[.val (.ref a1), .val (.int p1), .val (.int e1), .val (.int c1), .val (.int e2), .val (.int c2), .val (.int (1 : Int32)), .val (.int (ff p1.toNatClampNeg)), .unset, .unset] [(.int (ff p1.toNatClampNeg)), (.ref a1)])) target
              refine st_5.trans ?_
              show Steps p.tables e below (T_5.setTop (mkF m 77 #[.val (.ref a1), .val (.int p1), .val (.int e1), .val (.int c1), .val (.int e2), .val (.int c2), .val (.int (1 : Int32)), .val (.int (ff p1.toNatClampNeg)), .unset, .unset] [(.int (nx (ff p1.toNatClampNeg).toNatClampNeg))])) target
              refine XS.istore X_5.here hx rfl (hb hby d_chl_77) rfl (l' := #[.val (.ref a1), .val (.int p1), .val (.int e1), .val (.int c1), .val (.int e2), .val (.int c2), .val (.int (1 : Int32)), .val (.int (ff p1.toNatClampNeg)), .val (.int (nx (ff p1.toNatClampNeg).toNatClampNeg)), .unset]) rfl ?_
              show Steps p.tables e below (T_5.setTop (mkF m 79 #[.val (.ref a1), .val (.int p1), .val (.int e1), .val (.int c1), .val (.int e2), .val (.int c2), .val (.int (1 : Int32)), .val (.int (ff p1.toNatClampNeg)), .val (.int (nx (ff p1.toNatClampNeg).toNatClampNeg)), .unset] [])) target
              refine XS.iload X_5.here hx rfl (hb hby d_chl_79) rfl ?_
              show Steps p.tables e below (T_5.setTop (mkF m 81 #[.val (.ref a1), .val (.int p1), .val (.int e1), .val (.int c1), .val (.int e2), .val (.int c2), .val (.int (1 : Int32)), .val (.int (ff p1.toNatClampNeg)), .val (.int (nx (ff p1.toNatClampNeg).toNatClampNeg)), .unset] [(.int (1 : Int32))])) target
              refine XS.iconst X_5.here hx rfl (hb hby d_chl_81) ?_
              show Steps p.tables e below (T_5.setTop (mkF m 82 #[.val (.ref a1), .val (.int p1), .val (.int e1), .val (.int c1), .val (.int e2), .val (.int c2), .val (.int (1 : Int32)), .val (.int (ff p1.toNatClampNeg)), .val (.int (nx (ff p1.toNatClampNeg).toNatClampNeg)), .unset] [(.int (1 : Int32)), (.int (1 : Int32))])) target
              refine XS.icmpNo X_5.here hx rfl (hb hby d_chl_82) rfl (teq (by decide : (1 : Int32) = (1 : Int32))).2 ?_
              show Steps p.tables e below (T_5.setTop (mkF m 85 #[.val (.ref a1), .val (.int p1), .val (.int e1), .val (.int c1), .val (.int e2), .val (.int c2), .val (.int (1 : Int32)), .val (.int (ff p1.toNatClampNeg)), .val (.int (nx (ff p1.toNatClampNeg).toNatClampNeg)), .unset] [])) target
              refine XS.iloadN X_5.here hx rfl (hb hby d_chl_85) rfl ?_
              show Steps p.tables e below (T_5.setTop (mkF m 86 #[.val (.ref a1), .val (.int p1), .val (.int e1), .val (.int c1), .val (.int e2), .val (.int c2), .val (.int (1 : Int32)), .val (.int (ff p1.toNatClampNeg)), .val (.int (nx (ff p1.toNatClampNeg).toNatClampNeg)), .unset] [(.int e1)])) target
              refine XS.ifYes X_5.here hx rfl (pc0 := 86) (pc' := 93) rfl (hb hby d_chl_86) rfl ((if0 _ _).trans (teq hc1).1) (by decide) (by decide) ?_
              show Steps p.tables e below (T_5.setTop (mkF m 93 #[.val (.ref a1), .val (.int p1), .val (.int e1), .val (.int c1), .val (.int e2), .val (.int c2), .val (.int (1 : Int32)), .val (.int (ff p1.toNatClampNeg)), .val (.int (nx (ff p1.toNatClampNeg).toNatClampNeg)), .unset] [])) target
              refine XS.iload X_5.here hx rfl (hb hby d_chl_93) rfl ?_
              show Steps p.tables e below (T_5.setTop (mkF m 95 #[.val (.ref a1), .val (.int p1), .val (.int e1), .val (.int c1), .val (.int e2), .val (.int c2), .val (.int (1 : Int32)), .val (.int (ff p1.toNatClampNeg)), .val (.int (nx (ff p1.toNatClampNeg).toNatClampNeg)), .unset] [(.int c2)])) target
              refine XS.istore X_5.here hx rfl (hb hby d_chl_95) rfl (l' := #[.val (.ref a1), .val (.int p1), .val (.int e1), .val (.int c1), .val (.int e2), .val (.int c2), .val (.int (1 : Int32)), .val (.int (ff p1.toNatClampNeg)), .val (.int (nx (ff p1.toNatClampNeg).toNatClampNeg)), .val (.int c2)]) rfl ?_
              show Steps p.tables e below (T_5.setTop (mkF m 97 #[.val (.ref a1), .val (.int p1), .val (.int e1), .val (.int c1), .val (.int e2), .val (.int c2), .val (.int (1 : Int32)), .val (.int (ff p1.toNatClampNeg)), .val (.int (nx (ff p1.toNatClampNeg).toNatClampNeg)), .val (.int c2)] [])) target
              refine XS.iload X_5.here hx rfl (hb hby d_chl_97) rfl ?_
              show Steps p.tables e below (T_5.setTop (mkF m 99 #[.val (.ref a1), .val (.int p1), .val (.int e1), .val (.int c1), .val (.int e2), .val (.int c2), .val (.int (1 : Int32)), .val (.int (ff p1.toNatClampNeg)), .val (.int (nx (ff p1.toNatClampNeg).toNatClampNeg)), .val (.int c2)] [(.int (ff p1.toNatClampNeg))])) target
              refine XS.iload X_5.here hx rfl (hb hby d_chl_99) rfl ?_
              show Steps p.tables e below (T_5.setTop (mkF m 101 #[.val (.ref a1), .val (.int p1), .val (.int e1), .val (.int c1), .val (.int e2), .val (.int c2), .val (.int (1 : Int32)), .val (.int (ff p1.toNatClampNeg)), .val (.int (nx (ff p1.toNatClampNeg).toNatClampNeg)), .val (.int c2)] [(.int c2), (.int (ff p1.toNatClampNeg))])) target
              exact kt
            by_cases hc101 : (ff p1.toNatClampNeg) = c2
            · -- pc 101: yes
              refine own_go (S' := T_5.setTop (mkF m 107 #[.val (.ref a1), .val (.int p1), .val (.int e1), .val (.int c1), .val (.int e2), .val (.int c2), .val (.int (1 : Int32)), .val (.int (ff p1.toNatClampNeg)), .val (.int (nx (ff p1.toNatClampNeg).toNatClampNeg)), .val (.int c2)] [(.int (-1 : Int32)), (.int (nx (ff p1.toNatClampNeg).toNatClampNeg))])) (fun target kt => ?_) ?_
              · show Steps p.tables e below (T_5.setTop (mkF m 101 #[.val (.ref a1), .val (.int p1), .val (.int e1), .val (.int c1), .val (.int e2), .val (.int c2), .val (.int (1 : Int32)), .val (.int (ff p1.toNatClampNeg)), .val (.int (nx (ff p1.toNatClampNeg).toNatClampNeg)), .val (.int c2)] [(.int c2), (.int (ff p1.toNatClampNeg))])) target
                refine XS.icmpNo X_5.here hx rfl (hb hby d_chl_101) rfl (teq hc101).2 ?_
                show Steps p.tables e below (T_5.setTop (mkF m 104 #[.val (.ref a1), .val (.int p1), .val (.int e1), .val (.int c1), .val (.int e2), .val (.int c2), .val (.int (1 : Int32)), .val (.int (ff p1.toNatClampNeg)), .val (.int (nx (ff p1.toNatClampNeg).toNatClampNeg)), .val (.int c2)] [])) target
                refine XS.iload X_5.here hx rfl (hb hby d_chl_104) rfl ?_
                show Steps p.tables e below (T_5.setTop (mkF m 106 #[.val (.ref a1), .val (.int p1), .val (.int e1), .val (.int c1), .val (.int e2), .val (.int c2), .val (.int (1 : Int32)), .val (.int (ff p1.toNatClampNeg)), .val (.int (nx (ff p1.toNatClampNeg).toNatClampNeg)), .val (.int c2)] [(.int (nx (ff p1.toNatClampNeg).toNatClampNeg))])) target
                refine XS.iconst X_5.here hx rfl (hb hby d_chl_106) ?_
                show Steps p.tables e below (T_5.setTop (mkF m 107 #[.val (.ref a1), .val (.int p1), .val (.int e1), .val (.int c1), .val (.int e2), .val (.int c2), .val (.int (1 : Int32)), .val (.int (ff p1.toNatClampNeg)), .val (.int (nx (ff p1.toNatClampNeg).toNatClampNeg)), .val (.int c2)] [(.int (-1 : Int32)), (.int (nx (ff p1.toNatClampNeg).toNatClampNeg))])) target
                exact kt
              by_cases hc107 : (nx (ff p1.toNatClampNeg).toNatClampNeg) = (-1 : Int32)
              · -- pc 107: yes
                refine own_go (S' := T_5.setTop (mkF m 115 #[.val (.ref a1), .val (.int p1), .val (.int e1), .val (.int c1), .val (.int e2), .val (.int c2), .val (.int (1 : Int32)), .val (.int (ff p1.toNatClampNeg)), .val (.int (nx (ff p1.toNatClampNeg).toNatClampNeg)), .val (.int c2)] [(.int (1 : Int32))])) (fun target kt => ?_) ?_
                · show Steps p.tables e below (T_5.setTop (mkF m 107 #[.val (.ref a1), .val (.int p1), .val (.int e1), .val (.int c1), .val (.int e2), .val (.int c2), .val (.int (1 : Int32)), .val (.int (ff p1.toNatClampNeg)), .val (.int (nx (ff p1.toNatClampNeg).toNatClampNeg)), .val (.int c2)] [(.int (-1 : Int32)), (.int (nx (ff p1.toNatClampNeg).toNatClampNeg))])) target
                  refine XS.icmpNo X_5.here hx rfl (hb hby d_chl_107) rfl (teq hc107).2 ?_
                  show Steps p.tables e below (T_5.setTop (mkF m 110 #[.val (.ref a1), .val (.int p1), .val (.int e1), .val (.int c1), .val (.int e2), .val (.int c2), .val (.int (1 : Int32)), .val (.int (ff p1.toNatClampNeg)), .val (.int (nx (ff p1.toNatClampNeg).toNatClampNeg)), .val (.int c2)] [])) target
                  refine XS.iconst X_5.here hx rfl (hb hby d_chl_110) ?_
                  show Steps p.tables e below (T_5.setTop (mkF m 111 #[.val (.ref a1), .val (.int p1), .val (.int e1), .val (.int c1), .val (.int e2), .val (.int c2), .val (.int (1 : Int32)), .val (.int (ff p1.toNatClampNeg)), .val (.int (nx (ff p1.toNatClampNeg).toNatClampNeg)), .val (.int c2)] [(.int (1 : Int32))])) target
                  refine XS.goto X_5.here hx rfl (pc0 := 111) (pc' := 115) rfl (hb hby d_chl_111) (by decide) (by decide) ?_
                  show Steps p.tables e below (T_5.setTop (mkF m 115 #[.val (.ref a1), .val (.int p1), .val (.int e1), .val (.int c1), .val (.int e2), .val (.int c2), .val (.int (1 : Int32)), .val (.int (ff p1.toNatClampNeg)), .val (.int (nx (ff p1.toNatClampNeg).toNatClampNeg)), .val (.int c2)] [(.int (1 : Int32))])) target
                  exact kt
                obtain ⟨fs, hr, hrun, hended, hW, hsame⟩ := X_5.leave (v := some (.int (1 : Int32))) (fun h => by rw [Bd.returns] at h; cases h)
                refine ⟨_, _, retN X_5 hx (t := .boolean) Bd.returns (by simp) (hb hby d_chl_115) hr, hrun, hended, _, _, rfl, ?_, ⟨_, rfl⟩, hW, hsame.mono (by decide) (by decide)⟩
                show Q_chl Z a1 p1 e1 c1 e2 c2 ff kc nx b3_ b4_ b5_ k3_ k4_ k5_ h0 n0 _ T_5.heap _
                rw [p_5_0]
                exact ⟨(congrArg (fun z => some (Value.int z)) (own_chl_5 hc1 hc11 hc29 hc60 hc66 hc101 hc107)), N_5, rfl⟩
              · -- pc 107: no
                refine own_go (S' := T_5.setTop (mkF m 115 #[.val (.ref a1), .val (.int p1), .val (.int e1), .val (.int c1), .val (.int e2), .val (.int c2), .val (.int (1 : Int32)), .val (.int (ff p1.toNatClampNeg)), .val (.int (nx (ff p1.toNatClampNeg).toNatClampNeg)), .val (.int c2)] [(.int (0 : Int32))])) (fun target kt => ?_) ?_
                · show Steps p.tables e below (T_5.setTop (mkF m 107 #[.val (.ref a1), .val (.int p1), .val (.int e1), .val (.int c1), .val (.int e2), .val (.int c2), .val (.int (1 : Int32)), .val (.int (ff p1.toNatClampNeg)), .val (.int (nx (ff p1.toNatClampNeg).toNatClampNeg)), .val (.int c2)] [(.int (-1 : Int32)), (.int (nx (ff p1.toNatClampNeg).toNatClampNeg))])) target
                  refine XS.icmpYes X_5.here hx rfl (pc0 := 107) (pc' := 114) rfl (hb hby d_chl_107) rfl (feq hc107).2 (by decide) (by decide) ?_
                  show Steps p.tables e below (T_5.setTop (mkF m 114 #[.val (.ref a1), .val (.int p1), .val (.int e1), .val (.int c1), .val (.int e2), .val (.int c2), .val (.int (1 : Int32)), .val (.int (ff p1.toNatClampNeg)), .val (.int (nx (ff p1.toNatClampNeg).toNatClampNeg)), .val (.int c2)] [])) target
                  refine XS.iconst X_5.here hx rfl (hb hby d_chl_114) ?_
                  show Steps p.tables e below (T_5.setTop (mkF m 115 #[.val (.ref a1), .val (.int p1), .val (.int e1), .val (.int c1), .val (.int e2), .val (.int c2), .val (.int (1 : Int32)), .val (.int (ff p1.toNatClampNeg)), .val (.int (nx (ff p1.toNatClampNeg).toNatClampNeg)), .val (.int c2)] [(.int (0 : Int32))])) target
                  exact kt
                obtain ⟨fs, hr, hrun, hended, hW, hsame⟩ := X_5.leave (v := some (.int (0 : Int32))) (fun h => by rw [Bd.returns] at h; cases h)
                refine ⟨_, _, retN X_5 hx (t := .boolean) Bd.returns (by simp) (hb hby d_chl_115) hr, hrun, hended, _, _, rfl, ?_, ⟨_, rfl⟩, hW, hsame.mono (by decide) (by decide)⟩
                show Q_chl Z a1 p1 e1 c1 e2 c2 ff kc nx b3_ b4_ b5_ k3_ k4_ k5_ h0 n0 _ T_5.heap _
                rw [p_5_0]
                exact ⟨(congrArg (fun z => some (Value.int z)) (own_chl_6 hc1 hc11 hc29 hc60 hc66 hc101 hc107)), N_5, rfl⟩
            · -- pc 101: no
              refine own_go (S' := T_5.setTop (mkF m 115 #[.val (.ref a1), .val (.int p1), .val (.int e1), .val (.int c1), .val (.int e2), .val (.int c2), .val (.int (1 : Int32)), .val (.int (ff p1.toNatClampNeg)), .val (.int (nx (ff p1.toNatClampNeg).toNatClampNeg)), .val (.int c2)] [(.int (0 : Int32))])) (fun target kt => ?_) ?_
              · show Steps p.tables e below (T_5.setTop (mkF m 101 #[.val (.ref a1), .val (.int p1), .val (.int e1), .val (.int c1), .val (.int e2), .val (.int c2), .val (.int (1 : Int32)), .val (.int (ff p1.toNatClampNeg)), .val (.int (nx (ff p1.toNatClampNeg).toNatClampNeg)), .val (.int c2)] [(.int c2), (.int (ff p1.toNatClampNeg))])) target
                refine XS.icmpYes X_5.here hx rfl (pc0 := 101) (pc' := 114) rfl (hb hby d_chl_101) rfl (feq hc101).2 (by decide) (by decide) ?_
                show Steps p.tables e below (T_5.setTop (mkF m 114 #[.val (.ref a1), .val (.int p1), .val (.int e1), .val (.int c1), .val (.int e2), .val (.int c2), .val (.int (1 : Int32)), .val (.int (ff p1.toNatClampNeg)), .val (.int (nx (ff p1.toNatClampNeg).toNatClampNeg)), .val (.int c2)] [])) target
                refine XS.iconst X_5.here hx rfl (hb hby d_chl_114) ?_
                show Steps p.tables e below (T_5.setTop (mkF m 115 #[.val (.ref a1), .val (.int p1), .val (.int e1), .val (.int c1), .val (.int e2), .val (.int c2), .val (.int (1 : Int32)), .val (.int (ff p1.toNatClampNeg)), .val (.int (nx (ff p1.toNatClampNeg).toNatClampNeg)), .val (.int c2)] [(.int (0 : Int32))])) target
                exact kt
              obtain ⟨fs, hr, hrun, hended, hW, hsame⟩ := X_5.leave (v := some (.int (0 : Int32))) (fun h => by rw [Bd.returns] at h; cases h)
              refine ⟨_, _, retN X_5 hx (t := .boolean) Bd.returns (by simp) (hb hby d_chl_115) hr, hrun, hended, _, _, rfl, ?_, ⟨_, rfl⟩, hW, hsame.mono (by decide) (by decide)⟩
              show Q_chl Z a1 p1 e1 c1 e2 c2 ff kc nx b3_ b4_ b5_ k3_ k4_ k5_ h0 n0 _ T_5.heap _
              rw [p_5_0]
              exact ⟨(congrArg (fun z => some (Value.int z)) (own_chl_7 hc1 hc11 hc29 hc60 hc66 hc101)), N_5, rfl⟩
      · -- pc 29: no
        refine own_go (S' := T_3.setTop (mkF m 33 #[.val (.ref a1), .val (.int p1), .val (.int e1), .val (.int c1), .val (.int e2), .val (.int c2), .val (.int (1 : Int32)), .unset, .unset, .unset] [(.int (0 : Int32))])) (fun target kt => ?_) ?_
        · show Steps p.tables e below (T_3.setTop (mkF m 29 #[.val (.ref a1), .val (.int p1), .val (.int e1), .val (.int c1), .val (.int e2), .val (.int c2), .val (.int (1 : Int32)), .unset, .unset, .unset] [(.int (1 : Int32)), (.int (kc p1.toNatClampNeg))])) target
          refine XS.icmpNo X_3.here hx rfl (hb hby d_chl_29) rfl (feq hc29).1 ?_
          show Steps p.tables e below (T_3.setTop (mkF m 32 #[.val (.ref a1), .val (.int p1), .val (.int e1), .val (.int c1), .val (.int e2), .val (.int c2), .val (.int (1 : Int32)), .unset, .unset, .unset] [])) target
          refine XS.iconst X_3.here hx rfl (hb hby d_chl_32) ?_
          show Steps p.tables e below (T_3.setTop (mkF m 33 #[.val (.ref a1), .val (.int p1), .val (.int e1), .val (.int c1), .val (.int e2), .val (.int c2), .val (.int (1 : Int32)), .unset, .unset, .unset] [(.int (0 : Int32))])) target
          exact kt
        obtain ⟨fs, hr, hrun, hended, hW, hsame⟩ := X_3.leave (v := some (.int (0 : Int32))) (fun h => by rw [Bd.returns] at h; cases h)
        refine ⟨_, _, retN X_3 hx (t := .boolean) Bd.returns (by simp) (hb hby d_chl_33) hr, hrun, hended, _, _, rfl, ?_, ⟨_, rfl⟩, hW, hsame.mono (by decide) (by decide)⟩
        show Q_chl Z a1 p1 e1 c1 e2 c2 ff kc nx b3_ b4_ b5_ k3_ k4_ k5_ h0 n0 _ T_3.heap _
        rw [p_3_0]
        exact ⟨(congrArg (fun z => some (Value.int z)) (own_chl_8 hc1 hc11 hc29)), N_3, rfl⟩
  · -- pc 1: no
    refine own_go (S' := s₁.setTop (mkF m 11 #[.val (.ref a1), .val (.int p1), .val (.int e1), .val (.int c1), .val (.int e2), .val (.int c2), .unset, .unset, .unset, .unset] [(.int e2), (.int (1 : Int32))])) (fun target kt => ?_) ?_
    · show Steps p.tables e below (s₁.setTop (mkF m 1 #[.val (.ref a1), .val (.int p1), .val (.int e1), .val (.int c1), .val (.int e2), .val (.int c2), .unset, .unset, .unset, .unset] [(.int e1)])) target
      refine XS.ifNo X0.here hx rfl (hb hby d_chl_1) rfl ((if0 _ _).trans (feq hc1).1) ?_
      show Steps p.tables e below (s₁.setTop (mkF m 4 #[.val (.ref a1), .val (.int p1), .val (.int e1), .val (.int c1), .val (.int e2), .val (.int c2), .unset, .unset, .unset, .unset] [])) target
      refine XS.iconst X0.here hx rfl (hb hby d_chl_4) ?_
      show Steps p.tables e below (s₁.setTop (mkF m 5 #[.val (.ref a1), .val (.int p1), .val (.int e1), .val (.int c1), .val (.int e2), .val (.int c2), .unset, .unset, .unset, .unset] [(.int (1 : Int32))])) target
      refine XS.goto X0.here hx rfl (pc0 := 5) (pc' := 9) rfl (hb hby d_chl_5) (by decide) (by decide) ?_
      show Steps p.tables e below (s₁.setTop (mkF m 9 #[.val (.ref a1), .val (.int p1), .val (.int e1), .val (.int c1), .val (.int e2), .val (.int c2), .unset, .unset, .unset, .unset] [(.int (1 : Int32))])) target
      refine XS.iload X0.here hx rfl (hb hby d_chl_9) rfl ?_
      show Steps p.tables e below (s₁.setTop (mkF m 11 #[.val (.ref a1), .val (.int p1), .val (.int e1), .val (.int c1), .val (.int e2), .val (.int c2), .unset, .unset, .unset, .unset] [(.int e2), (.int (1 : Int32))])) target
      exact kt
    by_cases hc11 : e2 = (0 : Int32)
    · -- pc 11: yes
      obtain ⟨cq_6, kq_6, q_6a, q_6b, q_6c⟩ := isOf hZ e0 E1
      obtain ⟨_, _, ⟨T_6, L_6, k_6, n_6⟩, -, X_6, ⟨Lc_6, hQ_6, l_6, y_6, z_6⟩, st_6⟩ := X0.virtualBack hx (y := (⟨"com/example/filigree/filigree/engine/DecisionTree", "keptCount", "(I)I"⟩ : MethodName)) (z := (⟨"com/example/filigree/filigree/engine/DecisionTree", "keptCount", "(I)I"⟩ : MethodName)) hown (mvT hZ (hw _ (List.mem_of_getElem? (i := 46) rfl))) (mvT hZ (hw _ (List.mem_of_getElem? (i := 47) rfl))) (notFace_of_selects (args := #[]) (mvT hZ (hw _ (List.mem_of_getElem? (i := 49) rfl)))) (mvT hZ (hw _ (List.mem_of_getElem? (i := 49) rfl))) (mvT hZ (hw _ (List.mem_of_getElem? (i := 48) rfl))) (by decide) (backOf (W := 0) (rm_kcnt l Z a0 hw [] a1 p1 b4_ k4_ kc h0 n0 Z0 F4_ V4_ hp) hZ (hw _ (List.mem_of_getElem? (i := 50) rfl)) (hw _ (List.mem_of_getElem? (i := 2) rfl)) (by decide) (by decide)) q_6a q_6c (g := (mkF m 24 #[.val (.ref a1), .val (.int p1), .val (.int e1), .val (.int c1), .val (.int e2), .val (.int c2), .val (.int (1 : Int32)), .unset, .unset, .unset] [(.int p1), (.ref a1)])) rfl (by rw [hml]; rfl) (Steps.refl _) (argsL := [(.int p1)]) (rest := []) (lenOf pd_I_I rfl) rfl (by show 2 * 0 + _ ≤ _; exact Nat.le_of_eq rfl) (hb hby d_chl_24) (fun _ _ => ⟨rfl, e0, (by decide : 0 + 0 ≤ _), (by decide : 0 + 0 ≤ _)⟩)
      dsimp only [Pt.U, Pt.locs, Pt.cells, Pt.slots] at X_6 l_6 y_6 z_6 st_6 hQ_6
      subst y_6 z_6
      obtain ⟨rfl, N_6q, p_6_0⟩ := hQ_6
      have N_6 : Fr n0 L_6 := by rw [l_6]; exact Fr.app N0 N_6q
      clear l_6
      refine own_go (S' := T_6.setTop (mkF m 29 #[.val (.ref a1), .val (.int p1), .val (.int e1), .val (.int c1), .val (.int e2), .val (.int c2), .val (.int (1 : Int32)), .unset, .unset, .unset] [(.int (1 : Int32)), (.int (kc p1.toNatClampNeg))])) (fun target kt => ?_) ?_
      · show Steps p.tables e below (s₁.setTop (mkF m 11 #[.val (.ref a1), .val (.int p1), .val (.int e1), .val (.int c1), .val (.int e2), .val (.int c2), .unset, .unset, .unset, .unset] [(.int e2), (.int (1 : Int32))])) target
        refine XS.ifYes X0.here hx rfl (pc0 := 11) (pc' := 18) rfl (hb hby d_chl_11) rfl ((if0 _ _).trans (teq hc11).1) (by decide) (by decide) ?_
        show Steps p.tables e below (s₁.setTop (mkF m 18 #[.val (.ref a1), .val (.int p1), .val (.int e1), .val (.int c1), .val (.int e2), .val (.int c2), .unset, .unset, .unset, .unset] [(.int (1 : Int32))])) target
        refine XS.iconst X0.here hx rfl (hb hby d_chl_18) ?_
        show Steps p.tables e below (s₁.setTop (mkF m 19 #[.val (.ref a1), .val (.int p1), .val (.int e1), .val (.int c1), .val (.int e2), .val (.int c2), .unset, .unset, .unset, .unset] [(.int (0 : Int32)), (.int (1 : Int32))])) target
        refine XS.iadd X0.here hx rfl (hb hby d_chl_19) rfl ?_
        show Steps p.tables e below (s₁.setTop (mkF m 20 #[.val (.ref a1), .val (.int p1), .val (.int e1), .val (.int c1), .val (.int e2), .val (.int c2), .unset, .unset, .unset, .unset] [(.int ((1 : Int32) + (0 : Int32)))])) target
        rw [show (1 : Int32) + (0 : Int32) = (1 : Int32) from by decide]
        show Steps p.tables e below (s₁.setTop (mkF m 20 #[.val (.ref a1), .val (.int p1), .val (.int e1), .val (.int c1), .val (.int e2), .val (.int c2), .unset, .unset, .unset, .unset] [(.int (1 : Int32))])) target
        refine XS.istore X0.here hx rfl (hb hby d_chl_20) rfl (l' := #[.val (.ref a1), .val (.int p1), .val (.int e1), .val (.int c1), .val (.int e2), .val (.int c2), .val (.int (1 : Int32)), .unset, .unset, .unset]) rfl ?_
        show Steps p.tables e below (s₁.setTop (mkF m 22 #[.val (.ref a1), .val (.int p1), .val (.int e1), .val (.int c1), .val (.int e2), .val (.int c2), .val (.int (1 : Int32)), .unset, .unset, .unset] [])) target
        refine XS.aloadN X0.here hx rfl (hb hby d_chl_22) rfl rfl ?_
        show Steps p.tables e below (s₁.setTop (mkF m 23 #[.val (.ref a1), .val (.int p1), .val (.int e1), .val (.int c1), .val (.int e2), .val (.int c2), .val (.int (1 : Int32)), .unset, .unset, .unset] [(.ref a1)])) target
        refine XS.iloadN X0.here hx rfl (hb hby d_chl_23) rfl ?_
        show Steps p.tables e below (s₁.setTop (mkF m 24 #[.val (.ref a1), .val (.int p1), .val (.int e1), .val (.int c1), .val (.int e2), .val (.int c2), .val (.int (1 : Int32)), .unset, .unset, .unset] [(.int p1), (.ref a1)])) target
        refine st_6.trans ?_
        show Steps p.tables e below (T_6.setTop (mkF m 27 #[.val (.ref a1), .val (.int p1), .val (.int e1), .val (.int c1), .val (.int e2), .val (.int c2), .val (.int (1 : Int32)), .unset, .unset, .unset] [(.int (kc p1.toNatClampNeg))])) target
        refine XS.iload X_6.here hx rfl (hb hby d_chl_27) rfl ?_
        show Steps p.tables e below (T_6.setTop (mkF m 29 #[.val (.ref a1), .val (.int p1), .val (.int e1), .val (.int c1), .val (.int e2), .val (.int c2), .val (.int (1 : Int32)), .unset, .unset, .unset] [(.int (1 : Int32)), (.int (kc p1.toNatClampNeg))])) target
        exact kt
      by_cases hc29 : (kc p1.toNatClampNeg) = (1 : Int32)
      · -- pc 29: yes
        obtain ⟨cq_7, kq_7, q_7a, q_7b, q_7c⟩ := isOf hZ p_6_0 E1
        obtain ⟨_, _, ⟨T_7, L_7, k_7, n_7⟩, -, X_7, ⟨Lc_7, hQ_7, l_7, y_7, z_7⟩, st_7⟩ := X_6.virtualBack hx (y := (⟨"com/example/filigree/filigree/engine/DecisionTree", "firstKept", "(I)I"⟩ : MethodName)) (z := (⟨"com/example/filigree/filigree/engine/DecisionTree", "firstKept", "(I)I"⟩ : MethodName)) hown (mvT hZ (hw _ (List.mem_of_getElem? (i := 51) rfl))) (mvT hZ (hw _ (List.mem_of_getElem? (i := 52) rfl))) (notFace_of_selects (args := #[]) (mvT hZ (hw _ (List.mem_of_getElem? (i := 54) rfl)))) (mvT hZ (hw _ (List.mem_of_getElem? (i := 54) rfl))) (mvT hZ (hw _ (List.mem_of_getElem? (i := 53) rfl))) (by decide) (backOf (W := 0) (rm_fst l Z a0 hw [] a1 p1 b3_ k3_ ff h0 n0 Z0 F3_ V3_ hp) hZ (hw _ (List.mem_of_getElem? (i := 55) rfl)) (hw _ (List.mem_of_getElem? (i := 2) rfl)) (by decide) (by decide)) q_7a q_7c (g := (mkF m 36 #[.val (.ref a1), .val (.int p1), .val (.int e1), .val (.int c1), .val (.int e2), .val (.int c2), .val (.int (1 : Int32)), .unset, .unset, .unset] [(.int p1), (.ref a1)])) rfl (by rw [hml]; rfl) (Steps.refl _) (argsL := [(.int p1)]) (rest := []) (lenOf pd_I_I rfl) rfl (by show 2 * 0 + _ ≤ _; exact Nat.le_of_eq rfl) (hb hby d_chl_36) (fun _ _ => ⟨rfl, p_6_0, (by decide : 0 + 0 ≤ _), (by decide : 0 + 0 ≤ _)⟩)
        dsimp only [Pt.U, Pt.locs, Pt.cells, Pt.slots] at X_7 l_7 y_7 z_7 st_7 hQ_7
        subst y_7 z_7
        obtain ⟨rfl, N_7q, p_7_0⟩ := hQ_7
        have N_7 : Fr n0 L_7 := by rw [l_7]; exact Fr.app N_6 N_7q
        clear l_7
        refine own_go (S' := T_7.setTop (mkF m 60 #[.val (.ref a1), .val (.int p1), .val (.int e1), .val (.int c1), .val (.int e2), .val (.int c2), .val (.int (1 : Int32)), .val (.int (ff p1.toNatClampNeg)), .unset, .unset] [(.int (ff p1.toNatClampNeg))])) (fun target kt => ?_) ?_
        · show Steps p.tables e below (T_6.setTop (mkF m 29 #[.val (.ref a1), .val (.int p1), .val (.int e1), .val (.int c1), .val (.int e2), .val (.int c2), .val (.int (1 : Int32)), .unset, .unset, .unset] [(.int (1 : Int32)), (.int (kc p1.toNatClampNeg))])) target
          refine XS.icmpYes X_6.here hx rfl (pc0 := 29) (pc' := 34) rfl (hb hby d_chl_29) rfl (teq hc29).1 (by decide) (by decide) ?_
          show Steps p.tables e below (T_6.setTop (mkF m 34 #[.val (.ref a1), .val (.int p1), .val (.int e1), .val (.int c1), .val (.int e2), .val (.int c2), .val (.int (1 : Int32)), .unset, .unset, .unset] [])) target
          refine XS.aloadN X_6.here hx rfl (hb hby d_chl_34) rfl rfl ?_
          show Steps p.tables e below (T_6.setTop (mkF m 35 #[.val (.ref a1), .val (.int p1), .val (.int e1), .val (.int c1), .val (.int e2), .val (.int c2), .val (.int (1 : Int32)), .unset, .unset, .unset] [(.ref a1)])) target
          refine XS.iloadN X_6.here hx rfl (hb hby d_chl_35) rfl ?_
          show Steps p.tables e below (T_6.setTop (mkF m 36 #[.val (.ref a1), .val (.int p1), .val (.int e1), .val (.int c1), .val (.int e2), .val (.int c2), .val (.int (1 : Int32)), .unset, .unset, .unset] [(.int p1), (.ref a1)])) target
          refine st_7.trans ?_
          show Steps p.tables e below (T_7.setTop (mkF m 39 #[.val (.ref a1), .val (.int p1), .val (.int e1), .val (.int c1), .val (.int e2), .val (.int c2), .val (.int (1 : Int32)), .unset, .unset, .unset] [(.int (ff p1.toNatClampNeg))])) target
          refine XS.istore X_7.here hx rfl (hb hby d_chl_39) rfl (l' := #[.val (.ref a1), .val (.int p1), .val (.int e1), .val (.int c1), .val (.int e2), .val (.int c2), .val (.int (1 : Int32)), .val (.int (ff p1.toNatClampNeg)), .unset, .unset]) rfl ?_
          show Steps p.tables e below (T_7.setTop (mkF m 41 #[.val (.ref a1), .val (.int p1), .val (.int e1), .val (.int c1), .val (.int e2), .val (.int c2), .val (.int (1 : Int32)), .val (.int (ff p1.toNatClampNeg)), .unset, .unset] [])) target
          refine XS.iload X_7.here hx rfl (hb hby d_chl_41) rfl ?_
          show Steps p.tables e below (T_7.setTop (mkF m 43 #[.val (.ref a1), .val (.int p1), .val (.int e1), .val (.int c1), .val (.int e2), .val (.int c2), .val (.int (1 : Int32)), .val (.int (ff p1.toNatClampNeg)), .unset, .unset] [(.int (1 : Int32))])) target
          refine XS.ifYes X_7.here hx rfl (pc0 := 43) (pc' := 58) rfl (hb hby d_chl_43) rfl ((if0 _ _).trans (feq (by decide : ¬ ((1 : Int32) = (0 : Int32)))).2) (by decide) (by decide) ?_
          show Steps p.tables e below (T_7.setTop (mkF m 58 #[.val (.ref a1), .val (.int p1), .val (.int e1), .val (.int c1), .val (.int e2), .val (.int c2), .val (.int (1 : Int32)), .val (.int (ff p1.toNatClampNeg)), .unset, .unset] [])) target
          refine XS.iload X_7.here hx rfl (hb hby d_chl_58) rfl ?_
          show Steps p.tables e below (T_7.setTop (mkF m 60 #[.val (.ref a1), .val (.int p1), .val (.int e1), .val (.int c1), .val (.int e2), .val (.int c2), .val (.int (1 : Int32)), .val (.int (ff p1.toNatClampNeg)), .unset, .unset] [(.int (ff p1.toNatClampNeg))])) target
          exact kt
        by_cases hc60 : (ff p1.toNatClampNeg) < (0 : Int32)
        · -- pc 60: yes
          refine own_go (S' := T_7.setTop (mkF m 70 #[.val (.ref a1), .val (.int p1), .val (.int e1), .val (.int c1), .val (.int e2), .val (.int c2), .val (.int (1 : Int32)), .val (.int (ff p1.toNatClampNeg)), .unset, .unset] [(.int (0 : Int32))])) (fun target kt => ?_) ?_
          · show Steps p.tables e below (T_7.setTop (mkF m 60 #[.val (.ref a1), .val (.int p1), .val (.int e1), .val (.int c1), .val (.int e2), .val (.int c2), .val (.int (1 : Int32)), .val (.int (ff p1.toNatClampNeg)), .unset, .unset] [(.int (ff p1.toNatClampNeg))])) target
            refine XS.ifYes X_7.here hx rfl (pc0 := 60) (pc' := 69) rfl (hb hby d_chl_60) rfl ((if0 _ _).trans (tlt hc60).1) (by decide) (by decide) ?_
            show Steps p.tables e below (T_7.setTop (mkF m 69 #[.val (.ref a1), .val (.int p1), .val (.int e1), .val (.int c1), .val (.int e2), .val (.int c2), .val (.int (1 : Int32)), .val (.int (ff p1.toNatClampNeg)), .unset, .unset] [])) target
            refine XS.iconst X_7.here hx rfl (hb hby d_chl_69) ?_
            show Steps p.tables e below (T_7.setTop (mkF m 70 #[.val (.ref a1), .val (.int p1), .val (.int e1), .val (.int c1), .val (.int e2), .val (.int c2), .val (.int (1 : Int32)), .val (.int (ff p1.toNatClampNeg)), .unset, .unset] [(.int (0 : Int32))])) target
            exact kt
          obtain ⟨fs, hr, hrun, hended, hW, hsame⟩ := X_7.leave (v := some (.int (0 : Int32))) (fun h => by rw [Bd.returns] at h; cases h)
          refine ⟨_, _, retN X_7 hx (t := .boolean) Bd.returns (by simp) (hb hby d_chl_70) hr, hrun, hended, _, _, rfl, ?_, ⟨_, rfl⟩, hW, hsame.mono (by decide) (by decide)⟩
          show Q_chl Z a1 p1 e1 c1 e2 c2 ff kc nx b3_ b4_ b5_ k3_ k4_ k5_ h0 n0 _ T_7.heap _
          rw [p_7_0]
          exact ⟨(congrArg (fun z => some (Value.int z)) (own_chl_9 hc1 hc11 hc29 hc60)), N_7, rfl⟩
        · -- pc 60: no
          refine own_go (S' := T_7.setTop (mkF m 66 #[.val (.ref a1), .val (.int p1), .val (.int e1), .val (.int c1), .val (.int e2), .val (.int c2), .val (.int (1 : Int32)), .val (.int (ff p1.toNatClampNeg)), .unset, .unset] [(.int (3 : Int32)), (.int (ff p1.toNatClampNeg))])) (fun target kt => ?_) ?_
          · show Steps p.tables e below (T_7.setTop (mkF m 60 #[.val (.ref a1), .val (.int p1), .val (.int e1), .val (.int c1), .val (.int e2), .val (.int c2), .val (.int (1 : Int32)), .val (.int (ff p1.toNatClampNeg)), .unset, .unset] [(.int (ff p1.toNatClampNeg))])) target
            refine XS.ifNo X_7.here hx rfl (hb hby d_chl_60) rfl ((if0 _ _).trans (flt hc60).1) ?_
            show Steps p.tables e below (T_7.setTop (mkF m 63 #[.val (.ref a1), .val (.int p1), .val (.int e1), .val (.int c1), .val (.int e2), .val (.int c2), .val (.int (1 : Int32)), .val (.int (ff p1.toNatClampNeg)), .unset, .unset] [])) target
            refine XS.iload X_7.here hx rfl (hb hby d_chl_63) rfl ?_
            show Steps p.tables e below (T_7.setTop (mkF m 65 #[.val (.ref a1), .val (.int p1), .val (.int e1), .val (.int c1), .val (.int e2), .val (.int c2), .val (.int (1 : Int32)), .val (.int (ff p1.toNatClampNeg)), .unset, .unset] [(.int (ff p1.toNatClampNeg))])) target
            refine XS.iconst X_7.here hx rfl (hb hby d_chl_65) ?_
            show Steps p.tables e below (T_7.setTop (mkF m 66 #[.val (.ref a1), .val (.int p1), .val (.int e1), .val (.int c1), .val (.int e2), .val (.int c2), .val (.int (1 : Int32)), .val (.int (ff p1.toNatClampNeg)), .unset, .unset] [(.int (3 : Int32)), (.int (ff p1.toNatClampNeg))])) target
            exact kt
          by_cases hc66 : (3 : Int32) < (ff p1.toNatClampNeg)
          · -- pc 66: yes
            refine own_go (S' := T_7.setTop (mkF m 70 #[.val (.ref a1), .val (.int p1), .val (.int e1), .val (.int c1), .val (.int e2), .val (.int c2), .val (.int (1 : Int32)), .val (.int (ff p1.toNatClampNeg)), .unset, .unset] [(.int (0 : Int32))])) (fun target kt => ?_) ?_
            · show Steps p.tables e below (T_7.setTop (mkF m 66 #[.val (.ref a1), .val (.int p1), .val (.int e1), .val (.int c1), .val (.int e2), .val (.int c2), .val (.int (1 : Int32)), .val (.int (ff p1.toNatClampNeg)), .unset, .unset] [(.int (3 : Int32)), (.int (ff p1.toNatClampNeg))])) target
              refine XS.icmpNo X_7.here hx rfl (hb hby d_chl_66) rfl (tlt hc66).2.2.2 ?_
              show Steps p.tables e below (T_7.setTop (mkF m 69 #[.val (.ref a1), .val (.int p1), .val (.int e1), .val (.int c1), .val (.int e2), .val (.int c2), .val (.int (1 : Int32)), .val (.int (ff p1.toNatClampNeg)), .unset, .unset] [])) target
              refine XS.iconst X_7.here hx rfl (hb hby d_chl_69) ?_
              show Steps p.tables e below (T_7.setTop (mkF m 70 #[.val (.ref a1), .val (.int p1), .val (.int e1), .val (.int c1), .val (.int e2), .val (.int c2), .val (.int (1 : Int32)), .val (.int (ff p1.toNatClampNeg)), .unset, .unset] [(.int (0 : Int32))])) target
              exact kt
            obtain ⟨fs, hr, hrun, hended, hW, hsame⟩ := X_7.leave (v := some (.int (0 : Int32))) (fun h => by rw [Bd.returns] at h; cases h)
            refine ⟨_, _, retN X_7 hx (t := .boolean) Bd.returns (by simp) (hb hby d_chl_70) hr, hrun, hended, _, _, rfl, ?_, ⟨_, rfl⟩, hW, hsame.mono (by decide) (by decide)⟩
            show Q_chl Z a1 p1 e1 c1 e2 c2 ff kc nx b3_ b4_ b5_ k3_ k4_ k5_ h0 n0 _ T_7.heap _
            rw [p_7_0]
            exact ⟨(congrArg (fun z => some (Value.int z)) (own_chl_10 hc1 hc11 hc29 hc60 hc66)), N_7, rfl⟩
          · -- pc 66: no
            obtain ⟨cq_8, kq_8, q_8a, q_8b, q_8c⟩ := isOf hZ p_7_0 E1
            obtain ⟨_, _, ⟨T_8, L_8, k_8, n_8⟩, -, X_8, ⟨Lc_8, hQ_8, l_8, y_8, z_8⟩, st_8⟩ := X_7.virtualBack hx (y := (⟨"com/example/filigree/filigree/engine/DecisionTree", "nextKept", "(I)I"⟩ : MethodName)) (z := (⟨"com/example/filigree/filigree/engine/DecisionTree", "nextKept", "(I)I"⟩ : MethodName)) hown (mvT hZ (hw _ (List.mem_of_getElem? (i := 56) rfl))) (mvT hZ (hw _ (List.mem_of_getElem? (i := 57) rfl))) (notFace_of_selects (args := #[]) (mvT hZ (hw _ (List.mem_of_getElem? (i := 59) rfl)))) (mvT hZ (hw _ (List.mem_of_getElem? (i := 59) rfl))) (mvT hZ (hw _ (List.mem_of_getElem? (i := 58) rfl))) (by decide) (backOf (W := 0) (rm_nxt l Z a0 hw [] a1 (ff p1.toNatClampNeg) b5_ k5_ nx h0 n0 Z0 F5_ V5_ ⟨hc60, hc66⟩) hZ (hw _ (List.mem_of_getElem? (i := 60) rfl)) (hw _ (List.mem_of_getElem? (i := 2) rfl)) (by decide) (by decide)) q_8a q_8c (g := (mkF m 74 #[.val (.ref a1), .val (.int p1), .val (.int e1), .val (.int c1), .val (.int e2), .val (.int c2), .val (.int (1 : Int32)), .val (.int (ff p1.toNatClampNeg)), .unset, .unset] [(.int (ff p1.toNatClampNeg)), (.ref a1)])) rfl (by rw [hml]; rfl) (Steps.refl _) (argsL := [(.int (ff p1.toNatClampNeg))]) (rest := []) (lenOf pd_I_I rfl) rfl (by show 2 * 0 + _ ≤ _; exact Nat.le_of_eq rfl) (hb hby d_chl_74) (fun _ _ => ⟨rfl, p_7_0, (by decide : 0 + 0 ≤ _), (by decide : 0 + 0 ≤ _)⟩)
            dsimp only [Pt.U, Pt.locs, Pt.cells, Pt.slots] at X_8 l_8 y_8 z_8 st_8 hQ_8
            subst y_8 z_8
            obtain ⟨rfl, N_8q, p_8_0⟩ := hQ_8
            have N_8 : Fr n0 L_8 := by rw [l_8]; exact Fr.app N_7 N_8q
            clear l_8
            refine own_go (S' := T_8.setTop (mkF m 101 #[.val (.ref a1), .val (.int p1), .val (.int e1), .val (.int c1), .val (.int e2), .val (.int c2), .val (.int (1 : Int32)), .val (.int (ff p1.toNatClampNeg)), .val (.int (nx (ff p1.toNatClampNeg).toNatClampNeg)), .val (.int c1)] [(.int c1), (.int (ff p1.toNatClampNeg))])) (fun target kt => ?_) ?_
            · show Steps p.tables e below (T_7.setTop (mkF m 66 #[.val (.ref a1), .val (.int p1), .val (.int e1), .val (.int c1), .val (.int e2), .val (.int c2), .val (.int (1 : Int32)), .val (.int (ff p1.toNatClampNeg)), .unset, .unset] [(.int (3 : Int32)), (.int (ff p1.toNatClampNeg))])) target
              refine XS.icmpYes X_7.here hx rfl (pc0 := 66) (pc' := 71) rfl (hb hby d_chl_66) rfl (flt hc66).2.2.2 (by decide) (by decide) ?_
              show Steps p.tables e below (T_7.setTop (mkF m 71 #[.val (.ref a1), .val (.int p1), .val (.int e1), .val (.int c1), .val (.int e2), .val (.int c2), .val (.int (1 : Int32)), .val (.int (ff p1.toNatClampNeg)), .unset, .unset] [])) target
              refine XS.aloadN X_7.here hx rfl (hb hby d_chl_71) rfl rfl ?_
              show Steps p.tables e below (T_7.setTop (mkF m 72 #[.val (.ref a1), .val (.int p1), .val (.int e1), .val (.int c1), .val (.int e2), .val (.int c2), .val (.int (1 : Int32)), .val (.int (ff p1.toNatClampNeg)), .unset, .unset] [(.ref a1)])) target
              refine XS.iload X_7.here hx rfl (hb hby d_chl_72) rfl ?_
              show Steps p.tables e below (T_7.setTop (mkF m 74 #[.val (.ref a1), .val (.int p1), .val (.int e1), .val (.int c1), .val (.int e2), .val (.int c2), .val (.int (1 : Int32)), .val (.int (ff p1.toNatClampNeg)), .unset, .unset] [(.int (ff p1.toNatClampNeg)), (.ref a1)])) target
              refine st_8.trans ?_
              show Steps p.tables e below (T_8.setTop (mkF m 77 #[.val (.ref a1), .val (.int p1), .val (.int e1), .val (.int c1), .val (.int e2), .val (.int c2), .val (.int (1 : Int32)), .val (.int (ff p1.toNatClampNeg)), .unset, .unset] [(.int (nx (ff p1.toNatClampNeg).toNatClampNeg))])) target
              refine XS.istore X_8.here hx rfl (hb hby d_chl_77) rfl (l' := #[.val (.ref a1), .val (.int p1), .val (.int e1), .val (.int c1), .val (.int e2), .val (.int c2), .val (.int (1 : Int32)), .val (.int (ff p1.toNatClampNeg)), .val (.int (nx (ff p1.toNatClampNeg).toNatClampNeg)), .unset]) rfl ?_
              show Steps p.tables e below (T_8.setTop (mkF m 79 #[.val (.ref a1), .val (.int p1), .val (.int e1), .val (.int c1), .val (.int e2), .val (.int c2), .val (.int (1 : Int32)), .val (.int (ff p1.toNatClampNeg)), .val (.int (nx (ff p1.toNatClampNeg).toNatClampNeg)), .unset] [])) target
              refine XS.iload X_8.here hx rfl (hb hby d_chl_79) rfl ?_
              show Steps p.tables e below (T_8.setTop (mkF m 81 #[.val (.ref a1), .val (.int p1), .val (.int e1), .val (.int c1), .val (.int e2), .val (.int c2), .val (.int (1 : Int32)), .val (.int (ff p1.toNatClampNeg)), .val (.int (nx (ff p1.toNatClampNeg).toNatClampNeg)), .unset] [(.int (1 : Int32))])) target
              refine XS.iconst X_8.here hx rfl (hb hby d_chl_81) ?_
              show Steps p.tables e below (T_8.setTop (mkF m 82 #[.val (.ref a1), .val (.int p1), .val (.int e1), .val (.int c1), .val (.int e2), .val (.int c2), .val (.int (1 : Int32)), .val (.int (ff p1.toNatClampNeg)), .val (.int (nx (ff p1.toNatClampNeg).toNatClampNeg)), .unset] [(.int (1 : Int32)), (.int (1 : Int32))])) target
              refine XS.icmpNo X_8.here hx rfl (hb hby d_chl_82) rfl (teq (by decide : (1 : Int32) = (1 : Int32))).2 ?_
              show Steps p.tables e below (T_8.setTop (mkF m 85 #[.val (.ref a1), .val (.int p1), .val (.int e1), .val (.int c1), .val (.int e2), .val (.int c2), .val (.int (1 : Int32)), .val (.int (ff p1.toNatClampNeg)), .val (.int (nx (ff p1.toNatClampNeg).toNatClampNeg)), .unset] [])) target
              refine XS.iloadN X_8.here hx rfl (hb hby d_chl_85) rfl ?_
              show Steps p.tables e below (T_8.setTop (mkF m 86 #[.val (.ref a1), .val (.int p1), .val (.int e1), .val (.int c1), .val (.int e2), .val (.int c2), .val (.int (1 : Int32)), .val (.int (ff p1.toNatClampNeg)), .val (.int (nx (ff p1.toNatClampNeg).toNatClampNeg)), .unset] [(.int e1)])) target
              refine XS.ifNo X_8.here hx rfl (hb hby d_chl_86) rfl ((if0 _ _).trans (feq hc1).1) ?_
              show Steps p.tables e below (T_8.setTop (mkF m 89 #[.val (.ref a1), .val (.int p1), .val (.int e1), .val (.int c1), .val (.int e2), .val (.int c2), .val (.int (1 : Int32)), .val (.int (ff p1.toNatClampNeg)), .val (.int (nx (ff p1.toNatClampNeg).toNatClampNeg)), .unset] [])) target
              refine XS.iloadN X_8.here hx rfl (hb hby d_chl_89) rfl ?_
              show Steps p.tables e below (T_8.setTop (mkF m 90 #[.val (.ref a1), .val (.int p1), .val (.int e1), .val (.int c1), .val (.int e2), .val (.int c2), .val (.int (1 : Int32)), .val (.int (ff p1.toNatClampNeg)), .val (.int (nx (ff p1.toNatClampNeg).toNatClampNeg)), .unset] [(.int c1)])) target
              refine XS.goto X_8.here hx rfl (pc0 := 90) (pc' := 95) rfl (hb hby d_chl_90) (by decide) (by decide) ?_
              show Steps p.tables e below (T_8.setTop (mkF m 95 #[.val (.ref a1), .val (.int p1), .val (.int e1), .val (.int c1), .val (.int e2), .val (.int c2), .val (.int (1 : Int32)), .val (.int (ff p1.toNatClampNeg)), .val (.int (nx (ff p1.toNatClampNeg).toNatClampNeg)), .unset] [(.int c1)])) target
              refine XS.istore X_8.here hx rfl (hb hby d_chl_95) rfl (l' := #[.val (.ref a1), .val (.int p1), .val (.int e1), .val (.int c1), .val (.int e2), .val (.int c2), .val (.int (1 : Int32)), .val (.int (ff p1.toNatClampNeg)), .val (.int (nx (ff p1.toNatClampNeg).toNatClampNeg)), .val (.int c1)]) rfl ?_
              show Steps p.tables e below (T_8.setTop (mkF m 97 #[.val (.ref a1), .val (.int p1), .val (.int e1), .val (.int c1), .val (.int e2), .val (.int c2), .val (.int (1 : Int32)), .val (.int (ff p1.toNatClampNeg)), .val (.int (nx (ff p1.toNatClampNeg).toNatClampNeg)), .val (.int c1)] [])) target
              refine XS.iload X_8.here hx rfl (hb hby d_chl_97) rfl ?_
              show Steps p.tables e below (T_8.setTop (mkF m 99 #[.val (.ref a1), .val (.int p1), .val (.int e1), .val (.int c1), .val (.int e2), .val (.int c2), .val (.int (1 : Int32)), .val (.int (ff p1.toNatClampNeg)), .val (.int (nx (ff p1.toNatClampNeg).toNatClampNeg)), .val (.int c1)] [(.int (ff p1.toNatClampNeg))])) target
              refine XS.iload X_8.here hx rfl (hb hby d_chl_99) rfl ?_
              show Steps p.tables e below (T_8.setTop (mkF m 101 #[.val (.ref a1), .val (.int p1), .val (.int e1), .val (.int c1), .val (.int e2), .val (.int c2), .val (.int (1 : Int32)), .val (.int (ff p1.toNatClampNeg)), .val (.int (nx (ff p1.toNatClampNeg).toNatClampNeg)), .val (.int c1)] [(.int c1), (.int (ff p1.toNatClampNeg))])) target
              exact kt
            by_cases hc101 : (ff p1.toNatClampNeg) = c1
            · -- pc 101: yes
              refine own_go (S' := T_8.setTop (mkF m 107 #[.val (.ref a1), .val (.int p1), .val (.int e1), .val (.int c1), .val (.int e2), .val (.int c2), .val (.int (1 : Int32)), .val (.int (ff p1.toNatClampNeg)), .val (.int (nx (ff p1.toNatClampNeg).toNatClampNeg)), .val (.int c1)] [(.int (-1 : Int32)), (.int (nx (ff p1.toNatClampNeg).toNatClampNeg))])) (fun target kt => ?_) ?_
              · show Steps p.tables e below (T_8.setTop (mkF m 101 #[.val (.ref a1), .val (.int p1), .val (.int e1), .val (.int c1), .val (.int e2), .val (.int c2), .val (.int (1 : Int32)), .val (.int (ff p1.toNatClampNeg)), .val (.int (nx (ff p1.toNatClampNeg).toNatClampNeg)), .val (.int c1)] [(.int c1), (.int (ff p1.toNatClampNeg))])) target
                refine XS.icmpNo X_8.here hx rfl (hb hby d_chl_101) rfl (teq hc101).2 ?_
                show Steps p.tables e below (T_8.setTop (mkF m 104 #[.val (.ref a1), .val (.int p1), .val (.int e1), .val (.int c1), .val (.int e2), .val (.int c2), .val (.int (1 : Int32)), .val (.int (ff p1.toNatClampNeg)), .val (.int (nx (ff p1.toNatClampNeg).toNatClampNeg)), .val (.int c1)] [])) target
                refine XS.iload X_8.here hx rfl (hb hby d_chl_104) rfl ?_
                show Steps p.tables e below (T_8.setTop (mkF m 106 #[.val (.ref a1), .val (.int p1), .val (.int e1), .val (.int c1), .val (.int e2), .val (.int c2), .val (.int (1 : Int32)), .val (.int (ff p1.toNatClampNeg)), .val (.int (nx (ff p1.toNatClampNeg).toNatClampNeg)), .val (.int c1)] [(.int (nx (ff p1.toNatClampNeg).toNatClampNeg))])) target
                refine XS.iconst X_8.here hx rfl (hb hby d_chl_106) ?_
                show Steps p.tables e below (T_8.setTop (mkF m 107 #[.val (.ref a1), .val (.int p1), .val (.int e1), .val (.int c1), .val (.int e2), .val (.int c2), .val (.int (1 : Int32)), .val (.int (ff p1.toNatClampNeg)), .val (.int (nx (ff p1.toNatClampNeg).toNatClampNeg)), .val (.int c1)] [(.int (-1 : Int32)), (.int (nx (ff p1.toNatClampNeg).toNatClampNeg))])) target
                exact kt
              by_cases hc107 : (nx (ff p1.toNatClampNeg).toNatClampNeg) = (-1 : Int32)
              · -- pc 107: yes
                refine own_go (S' := T_8.setTop (mkF m 115 #[.val (.ref a1), .val (.int p1), .val (.int e1), .val (.int c1), .val (.int e2), .val (.int c2), .val (.int (1 : Int32)), .val (.int (ff p1.toNatClampNeg)), .val (.int (nx (ff p1.toNatClampNeg).toNatClampNeg)), .val (.int c1)] [(.int (1 : Int32))])) (fun target kt => ?_) ?_
                · show Steps p.tables e below (T_8.setTop (mkF m 107 #[.val (.ref a1), .val (.int p1), .val (.int e1), .val (.int c1), .val (.int e2), .val (.int c2), .val (.int (1 : Int32)), .val (.int (ff p1.toNatClampNeg)), .val (.int (nx (ff p1.toNatClampNeg).toNatClampNeg)), .val (.int c1)] [(.int (-1 : Int32)), (.int (nx (ff p1.toNatClampNeg).toNatClampNeg))])) target
                  refine XS.icmpNo X_8.here hx rfl (hb hby d_chl_107) rfl (teq hc107).2 ?_
                  show Steps p.tables e below (T_8.setTop (mkF m 110 #[.val (.ref a1), .val (.int p1), .val (.int e1), .val (.int c1), .val (.int e2), .val (.int c2), .val (.int (1 : Int32)), .val (.int (ff p1.toNatClampNeg)), .val (.int (nx (ff p1.toNatClampNeg).toNatClampNeg)), .val (.int c1)] [])) target
                  refine XS.iconst X_8.here hx rfl (hb hby d_chl_110) ?_
                  show Steps p.tables e below (T_8.setTop (mkF m 111 #[.val (.ref a1), .val (.int p1), .val (.int e1), .val (.int c1), .val (.int e2), .val (.int c2), .val (.int (1 : Int32)), .val (.int (ff p1.toNatClampNeg)), .val (.int (nx (ff p1.toNatClampNeg).toNatClampNeg)), .val (.int c1)] [(.int (1 : Int32))])) target
                  refine XS.goto X_8.here hx rfl (pc0 := 111) (pc' := 115) rfl (hb hby d_chl_111) (by decide) (by decide) ?_
                  show Steps p.tables e below (T_8.setTop (mkF m 115 #[.val (.ref a1), .val (.int p1), .val (.int e1), .val (.int c1), .val (.int e2), .val (.int c2), .val (.int (1 : Int32)), .val (.int (ff p1.toNatClampNeg)), .val (.int (nx (ff p1.toNatClampNeg).toNatClampNeg)), .val (.int c1)] [(.int (1 : Int32))])) target
                  exact kt
                obtain ⟨fs, hr, hrun, hended, hW, hsame⟩ := X_8.leave (v := some (.int (1 : Int32))) (fun h => by rw [Bd.returns] at h; cases h)
                refine ⟨_, _, retN X_8 hx (t := .boolean) Bd.returns (by simp) (hb hby d_chl_115) hr, hrun, hended, _, _, rfl, ?_, ⟨_, rfl⟩, hW, hsame.mono (by decide) (by decide)⟩
                show Q_chl Z a1 p1 e1 c1 e2 c2 ff kc nx b3_ b4_ b5_ k3_ k4_ k5_ h0 n0 _ T_8.heap _
                rw [p_8_0]
                exact ⟨(congrArg (fun z => some (Value.int z)) (own_chl_11 hc1 hc11 hc29 hc60 hc66 hc101 hc107)), N_8, rfl⟩
              · -- pc 107: no
                refine own_go (S' := T_8.setTop (mkF m 115 #[.val (.ref a1), .val (.int p1), .val (.int e1), .val (.int c1), .val (.int e2), .val (.int c2), .val (.int (1 : Int32)), .val (.int (ff p1.toNatClampNeg)), .val (.int (nx (ff p1.toNatClampNeg).toNatClampNeg)), .val (.int c1)] [(.int (0 : Int32))])) (fun target kt => ?_) ?_
                · show Steps p.tables e below (T_8.setTop (mkF m 107 #[.val (.ref a1), .val (.int p1), .val (.int e1), .val (.int c1), .val (.int e2), .val (.int c2), .val (.int (1 : Int32)), .val (.int (ff p1.toNatClampNeg)), .val (.int (nx (ff p1.toNatClampNeg).toNatClampNeg)), .val (.int c1)] [(.int (-1 : Int32)), (.int (nx (ff p1.toNatClampNeg).toNatClampNeg))])) target
                  refine XS.icmpYes X_8.here hx rfl (pc0 := 107) (pc' := 114) rfl (hb hby d_chl_107) rfl (feq hc107).2 (by decide) (by decide) ?_
                  show Steps p.tables e below (T_8.setTop (mkF m 114 #[.val (.ref a1), .val (.int p1), .val (.int e1), .val (.int c1), .val (.int e2), .val (.int c2), .val (.int (1 : Int32)), .val (.int (ff p1.toNatClampNeg)), .val (.int (nx (ff p1.toNatClampNeg).toNatClampNeg)), .val (.int c1)] [])) target
                  refine XS.iconst X_8.here hx rfl (hb hby d_chl_114) ?_
                  show Steps p.tables e below (T_8.setTop (mkF m 115 #[.val (.ref a1), .val (.int p1), .val (.int e1), .val (.int c1), .val (.int e2), .val (.int c2), .val (.int (1 : Int32)), .val (.int (ff p1.toNatClampNeg)), .val (.int (nx (ff p1.toNatClampNeg).toNatClampNeg)), .val (.int c1)] [(.int (0 : Int32))])) target
                  exact kt
                obtain ⟨fs, hr, hrun, hended, hW, hsame⟩ := X_8.leave (v := some (.int (0 : Int32))) (fun h => by rw [Bd.returns] at h; cases h)
                refine ⟨_, _, retN X_8 hx (t := .boolean) Bd.returns (by simp) (hb hby d_chl_115) hr, hrun, hended, _, _, rfl, ?_, ⟨_, rfl⟩, hW, hsame.mono (by decide) (by decide)⟩
                show Q_chl Z a1 p1 e1 c1 e2 c2 ff kc nx b3_ b4_ b5_ k3_ k4_ k5_ h0 n0 _ T_8.heap _
                rw [p_8_0]
                exact ⟨(congrArg (fun z => some (Value.int z)) (own_chl_12 hc1 hc11 hc29 hc60 hc66 hc101 hc107)), N_8, rfl⟩
            · -- pc 101: no
              refine own_go (S' := T_8.setTop (mkF m 115 #[.val (.ref a1), .val (.int p1), .val (.int e1), .val (.int c1), .val (.int e2), .val (.int c2), .val (.int (1 : Int32)), .val (.int (ff p1.toNatClampNeg)), .val (.int (nx (ff p1.toNatClampNeg).toNatClampNeg)), .val (.int c1)] [(.int (0 : Int32))])) (fun target kt => ?_) ?_
              · show Steps p.tables e below (T_8.setTop (mkF m 101 #[.val (.ref a1), .val (.int p1), .val (.int e1), .val (.int c1), .val (.int e2), .val (.int c2), .val (.int (1 : Int32)), .val (.int (ff p1.toNatClampNeg)), .val (.int (nx (ff p1.toNatClampNeg).toNatClampNeg)), .val (.int c1)] [(.int c1), (.int (ff p1.toNatClampNeg))])) target
                refine XS.icmpYes X_8.here hx rfl (pc0 := 101) (pc' := 114) rfl (hb hby d_chl_101) rfl (feq hc101).2 (by decide) (by decide) ?_
                show Steps p.tables e below (T_8.setTop (mkF m 114 #[.val (.ref a1), .val (.int p1), .val (.int e1), .val (.int c1), .val (.int e2), .val (.int c2), .val (.int (1 : Int32)), .val (.int (ff p1.toNatClampNeg)), .val (.int (nx (ff p1.toNatClampNeg).toNatClampNeg)), .val (.int c1)] [])) target
                refine XS.iconst X_8.here hx rfl (hb hby d_chl_114) ?_
                show Steps p.tables e below (T_8.setTop (mkF m 115 #[.val (.ref a1), .val (.int p1), .val (.int e1), .val (.int c1), .val (.int e2), .val (.int c2), .val (.int (1 : Int32)), .val (.int (ff p1.toNatClampNeg)), .val (.int (nx (ff p1.toNatClampNeg).toNatClampNeg)), .val (.int c1)] [(.int (0 : Int32))])) target
                exact kt
              obtain ⟨fs, hr, hrun, hended, hW, hsame⟩ := X_8.leave (v := some (.int (0 : Int32))) (fun h => by rw [Bd.returns] at h; cases h)
              refine ⟨_, _, retN X_8 hx (t := .boolean) Bd.returns (by simp) (hb hby d_chl_115) hr, hrun, hended, _, _, rfl, ?_, ⟨_, rfl⟩, hW, hsame.mono (by decide) (by decide)⟩
              show Q_chl Z a1 p1 e1 c1 e2 c2 ff kc nx b3_ b4_ b5_ k3_ k4_ k5_ h0 n0 _ T_8.heap _
              rw [p_8_0]
              exact ⟨(congrArg (fun z => some (Value.int z)) (own_chl_13 hc1 hc11 hc29 hc60 hc66 hc101)), N_8, rfl⟩
      · -- pc 29: no
        refine own_go (S' := T_6.setTop (mkF m 33 #[.val (.ref a1), .val (.int p1), .val (.int e1), .val (.int c1), .val (.int e2), .val (.int c2), .val (.int (1 : Int32)), .unset, .unset, .unset] [(.int (0 : Int32))])) (fun target kt => ?_) ?_
        · show Steps p.tables e below (T_6.setTop (mkF m 29 #[.val (.ref a1), .val (.int p1), .val (.int e1), .val (.int c1), .val (.int e2), .val (.int c2), .val (.int (1 : Int32)), .unset, .unset, .unset] [(.int (1 : Int32)), (.int (kc p1.toNatClampNeg))])) target
          refine XS.icmpNo X_6.here hx rfl (hb hby d_chl_29) rfl (feq hc29).1 ?_
          show Steps p.tables e below (T_6.setTop (mkF m 32 #[.val (.ref a1), .val (.int p1), .val (.int e1), .val (.int c1), .val (.int e2), .val (.int c2), .val (.int (1 : Int32)), .unset, .unset, .unset] [])) target
          refine XS.iconst X_6.here hx rfl (hb hby d_chl_32) ?_
          show Steps p.tables e below (T_6.setTop (mkF m 33 #[.val (.ref a1), .val (.int p1), .val (.int e1), .val (.int c1), .val (.int e2), .val (.int c2), .val (.int (1 : Int32)), .unset, .unset, .unset] [(.int (0 : Int32))])) target
          exact kt
        obtain ⟨fs, hr, hrun, hended, hW, hsame⟩ := X_6.leave (v := some (.int (0 : Int32))) (fun h => by rw [Bd.returns] at h; cases h)
        refine ⟨_, _, retN X_6 hx (t := .boolean) Bd.returns (by simp) (hb hby d_chl_33) hr, hrun, hended, _, _, rfl, ?_, ⟨_, rfl⟩, hW, hsame.mono (by decide) (by decide)⟩
        show Q_chl Z a1 p1 e1 c1 e2 c2 ff kc nx b3_ b4_ b5_ k3_ k4_ k5_ h0 n0 _ T_6.heap _
        rw [p_6_0]
        exact ⟨(congrArg (fun z => some (Value.int z)) (own_chl_14 hc1 hc11 hc29)), N_6, rfl⟩
    · -- pc 11: no
      obtain ⟨cq_9, kq_9, q_9a, q_9b, q_9c⟩ := isOf hZ e0 E1
      obtain ⟨_, _, ⟨T_9, L_9, k_9, n_9⟩, -, X_9, ⟨Lc_9, hQ_9, l_9, y_9, z_9⟩, st_9⟩ := X0.virtualBack hx (y := (⟨"com/example/filigree/filigree/engine/DecisionTree", "keptCount", "(I)I"⟩ : MethodName)) (z := (⟨"com/example/filigree/filigree/engine/DecisionTree", "keptCount", "(I)I"⟩ : MethodName)) hown (mvT hZ (hw _ (List.mem_of_getElem? (i := 46) rfl))) (mvT hZ (hw _ (List.mem_of_getElem? (i := 47) rfl))) (notFace_of_selects (args := #[]) (mvT hZ (hw _ (List.mem_of_getElem? (i := 49) rfl)))) (mvT hZ (hw _ (List.mem_of_getElem? (i := 49) rfl))) (mvT hZ (hw _ (List.mem_of_getElem? (i := 48) rfl))) (by decide) (backOf (W := 0) (rm_kcnt l Z a0 hw [] a1 p1 b4_ k4_ kc h0 n0 Z0 F4_ V4_ hp) hZ (hw _ (List.mem_of_getElem? (i := 50) rfl)) (hw _ (List.mem_of_getElem? (i := 2) rfl)) (by decide) (by decide)) q_9a q_9c (g := (mkF m 24 #[.val (.ref a1), .val (.int p1), .val (.int e1), .val (.int c1), .val (.int e2), .val (.int c2), .val (.int (2 : Int32)), .unset, .unset, .unset] [(.int p1), (.ref a1)])) rfl (by rw [hml]; rfl) (Steps.refl _) (argsL := [(.int p1)]) (rest := []) (lenOf pd_I_I rfl) rfl (by show 2 * 0 + _ ≤ _; exact Nat.le_of_eq rfl) (hb hby d_chl_24) (fun _ _ => ⟨rfl, e0, (by decide : 0 + 0 ≤ _), (by decide : 0 + 0 ≤ _)⟩)
      dsimp only [Pt.U, Pt.locs, Pt.cells, Pt.slots] at X_9 l_9 y_9 z_9 st_9 hQ_9
      subst y_9 z_9
      obtain ⟨rfl, N_9q, p_9_0⟩ := hQ_9
      have N_9 : Fr n0 L_9 := by rw [l_9]; exact Fr.app N0 N_9q
      clear l_9
      refine own_go (S' := T_9.setTop (mkF m 29 #[.val (.ref a1), .val (.int p1), .val (.int e1), .val (.int c1), .val (.int e2), .val (.int c2), .val (.int (2 : Int32)), .unset, .unset, .unset] [(.int (2 : Int32)), (.int (kc p1.toNatClampNeg))])) (fun target kt => ?_) ?_
      · show Steps p.tables e below (s₁.setTop (mkF m 11 #[.val (.ref a1), .val (.int p1), .val (.int e1), .val (.int c1), .val (.int e2), .val (.int c2), .unset, .unset, .unset, .unset] [(.int e2), (.int (1 : Int32))])) target
        refine XS.ifNo X0.here hx rfl (hb hby d_chl_11) rfl ((if0 _ _).trans (feq hc11).1) ?_
        show Steps p.tables e below (s₁.setTop (mkF m 14 #[.val (.ref a1), .val (.int p1), .val (.int e1), .val (.int c1), .val (.int e2), .val (.int c2), .unset, .unset, .unset, .unset] [(.int (1 : Int32))])) target
        refine XS.iconst X0.here hx rfl (hb hby d_chl_14) ?_
        show Steps p.tables e below (s₁.setTop (mkF m 15 #[.val (.ref a1), .val (.int p1), .val (.int e1), .val (.int c1), .val (.int e2), .val (.int c2), .unset, .unset, .unset, .unset] [(.int (1 : Int32)), (.int (1 : Int32))])) target
        refine XS.goto X0.here hx rfl (pc0 := 15) (pc' := 19) rfl (hb hby d_chl_15) (by decide) (by decide) ?_
        show Steps p.tables e below (s₁.setTop (mkF m 19 #[.val (.ref a1), .val (.int p1), .val (.int e1), .val (.int c1), .val (.int e2), .val (.int c2), .unset, .unset, .unset, .unset] [(.int (1 : Int32)), (.int (1 : Int32))])) target
        refine XS.iadd X0.here hx rfl (hb hby d_chl_19) rfl ?_
        show Steps p.tables e below (s₁.setTop (mkF m 20 #[.val (.ref a1), .val (.int p1), .val (.int e1), .val (.int c1), .val (.int e2), .val (.int c2), .unset, .unset, .unset, .unset] [(.int ((1 : Int32) + (1 : Int32)))])) target
        rw [show (1 : Int32) + (1 : Int32) = (2 : Int32) from by decide]
        show Steps p.tables e below (s₁.setTop (mkF m 20 #[.val (.ref a1), .val (.int p1), .val (.int e1), .val (.int c1), .val (.int e2), .val (.int c2), .unset, .unset, .unset, .unset] [(.int (2 : Int32))])) target
        refine XS.istore X0.here hx rfl (hb hby d_chl_20) rfl (l' := #[.val (.ref a1), .val (.int p1), .val (.int e1), .val (.int c1), .val (.int e2), .val (.int c2), .val (.int (2 : Int32)), .unset, .unset, .unset]) rfl ?_
        show Steps p.tables e below (s₁.setTop (mkF m 22 #[.val (.ref a1), .val (.int p1), .val (.int e1), .val (.int c1), .val (.int e2), .val (.int c2), .val (.int (2 : Int32)), .unset, .unset, .unset] [])) target
        refine XS.aloadN X0.here hx rfl (hb hby d_chl_22) rfl rfl ?_
        show Steps p.tables e below (s₁.setTop (mkF m 23 #[.val (.ref a1), .val (.int p1), .val (.int e1), .val (.int c1), .val (.int e2), .val (.int c2), .val (.int (2 : Int32)), .unset, .unset, .unset] [(.ref a1)])) target
        refine XS.iloadN X0.here hx rfl (hb hby d_chl_23) rfl ?_
        show Steps p.tables e below (s₁.setTop (mkF m 24 #[.val (.ref a1), .val (.int p1), .val (.int e1), .val (.int c1), .val (.int e2), .val (.int c2), .val (.int (2 : Int32)), .unset, .unset, .unset] [(.int p1), (.ref a1)])) target
        refine st_9.trans ?_
        show Steps p.tables e below (T_9.setTop (mkF m 27 #[.val (.ref a1), .val (.int p1), .val (.int e1), .val (.int c1), .val (.int e2), .val (.int c2), .val (.int (2 : Int32)), .unset, .unset, .unset] [(.int (kc p1.toNatClampNeg))])) target
        refine XS.iload X_9.here hx rfl (hb hby d_chl_27) rfl ?_
        show Steps p.tables e below (T_9.setTop (mkF m 29 #[.val (.ref a1), .val (.int p1), .val (.int e1), .val (.int c1), .val (.int e2), .val (.int c2), .val (.int (2 : Int32)), .unset, .unset, .unset] [(.int (2 : Int32)), (.int (kc p1.toNatClampNeg))])) target
        exact kt
      by_cases hc29 : (kc p1.toNatClampNeg) = (2 : Int32)
      · -- pc 29: yes
        obtain ⟨cq_10, kq_10, q_10a, q_10b, q_10c⟩ := isOf hZ p_9_0 E1
        obtain ⟨_, _, ⟨T_10, L_10, k_10, n_10⟩, -, X_10, ⟨Lc_10, hQ_10, l_10, y_10, z_10⟩, st_10⟩ := X_9.virtualBack hx (y := (⟨"com/example/filigree/filigree/engine/DecisionTree", "firstKept", "(I)I"⟩ : MethodName)) (z := (⟨"com/example/filigree/filigree/engine/DecisionTree", "firstKept", "(I)I"⟩ : MethodName)) hown (mvT hZ (hw _ (List.mem_of_getElem? (i := 51) rfl))) (mvT hZ (hw _ (List.mem_of_getElem? (i := 52) rfl))) (notFace_of_selects (args := #[]) (mvT hZ (hw _ (List.mem_of_getElem? (i := 54) rfl)))) (mvT hZ (hw _ (List.mem_of_getElem? (i := 54) rfl))) (mvT hZ (hw _ (List.mem_of_getElem? (i := 53) rfl))) (by decide) (backOf (W := 0) (rm_fst l Z a0 hw [] a1 p1 b3_ k3_ ff h0 n0 Z0 F3_ V3_ hp) hZ (hw _ (List.mem_of_getElem? (i := 55) rfl)) (hw _ (List.mem_of_getElem? (i := 2) rfl)) (by decide) (by decide)) q_10a q_10c (g := (mkF m 36 #[.val (.ref a1), .val (.int p1), .val (.int e1), .val (.int c1), .val (.int e2), .val (.int c2), .val (.int (2 : Int32)), .unset, .unset, .unset] [(.int p1), (.ref a1)])) rfl (by rw [hml]; rfl) (Steps.refl _) (argsL := [(.int p1)]) (rest := []) (lenOf pd_I_I rfl) rfl (by show 2 * 0 + _ ≤ _; exact Nat.le_of_eq rfl) (hb hby d_chl_36) (fun _ _ => ⟨rfl, p_9_0, (by decide : 0 + 0 ≤ _), (by decide : 0 + 0 ≤ _)⟩)
        dsimp only [Pt.U, Pt.locs, Pt.cells, Pt.slots] at X_10 l_10 y_10 z_10 st_10 hQ_10
        subst y_10 z_10
        obtain ⟨rfl, N_10q, p_10_0⟩ := hQ_10
        have N_10 : Fr n0 L_10 := by rw [l_10]; exact Fr.app N_9 N_10q
        clear l_10
        refine own_go (S' := T_10.setTop (mkF m 60 #[.val (.ref a1), .val (.int p1), .val (.int e1), .val (.int c1), .val (.int e2), .val (.int c2), .val (.int (2 : Int32)), .val (.int (ff p1.toNatClampNeg)), .unset, .unset] [(.int (ff p1.toNatClampNeg))])) (fun target kt => ?_) ?_
        · show Steps p.tables e below (T_9.setTop (mkF m 29 #[.val (.ref a1), .val (.int p1), .val (.int e1), .val (.int c1), .val (.int e2), .val (.int c2), .val (.int (2 : Int32)), .unset, .unset, .unset] [(.int (2 : Int32)), (.int (kc p1.toNatClampNeg))])) target
          refine XS.icmpYes X_9.here hx rfl (pc0 := 29) (pc' := 34) rfl (hb hby d_chl_29) rfl (teq hc29).1 (by decide) (by decide) ?_
          show Steps p.tables e below (T_9.setTop (mkF m 34 #[.val (.ref a1), .val (.int p1), .val (.int e1), .val (.int c1), .val (.int e2), .val (.int c2), .val (.int (2 : Int32)), .unset, .unset, .unset] [])) target
          refine XS.aloadN X_9.here hx rfl (hb hby d_chl_34) rfl rfl ?_
          show Steps p.tables e below (T_9.setTop (mkF m 35 #[.val (.ref a1), .val (.int p1), .val (.int e1), .val (.int c1), .val (.int e2), .val (.int c2), .val (.int (2 : Int32)), .unset, .unset, .unset] [(.ref a1)])) target
          refine XS.iloadN X_9.here hx rfl (hb hby d_chl_35) rfl ?_
          show Steps p.tables e below (T_9.setTop (mkF m 36 #[.val (.ref a1), .val (.int p1), .val (.int e1), .val (.int c1), .val (.int e2), .val (.int c2), .val (.int (2 : Int32)), .unset, .unset, .unset] [(.int p1), (.ref a1)])) target
          refine st_10.trans ?_
          show Steps p.tables e below (T_10.setTop (mkF m 39 #[.val (.ref a1), .val (.int p1), .val (.int e1), .val (.int c1), .val (.int e2), .val (.int c2), .val (.int (2 : Int32)), .unset, .unset, .unset] [(.int (ff p1.toNatClampNeg))])) target
          refine XS.istore X_10.here hx rfl (hb hby d_chl_39) rfl (l' := #[.val (.ref a1), .val (.int p1), .val (.int e1), .val (.int c1), .val (.int e2), .val (.int c2), .val (.int (2 : Int32)), .val (.int (ff p1.toNatClampNeg)), .unset, .unset]) rfl ?_
          show Steps p.tables e below (T_10.setTop (mkF m 41 #[.val (.ref a1), .val (.int p1), .val (.int e1), .val (.int c1), .val (.int e2), .val (.int c2), .val (.int (2 : Int32)), .val (.int (ff p1.toNatClampNeg)), .unset, .unset] [])) target
          refine XS.iload X_10.here hx rfl (hb hby d_chl_41) rfl ?_
          show Steps p.tables e below (T_10.setTop (mkF m 43 #[.val (.ref a1), .val (.int p1), .val (.int e1), .val (.int c1), .val (.int e2), .val (.int c2), .val (.int (2 : Int32)), .val (.int (ff p1.toNatClampNeg)), .unset, .unset] [(.int (2 : Int32))])) target
          refine XS.ifYes X_10.here hx rfl (pc0 := 43) (pc' := 58) rfl (hb hby d_chl_43) rfl ((if0 _ _).trans (feq (by decide : ¬ ((2 : Int32) = (0 : Int32)))).2) (by decide) (by decide) ?_
          show Steps p.tables e below (T_10.setTop (mkF m 58 #[.val (.ref a1), .val (.int p1), .val (.int e1), .val (.int c1), .val (.int e2), .val (.int c2), .val (.int (2 : Int32)), .val (.int (ff p1.toNatClampNeg)), .unset, .unset] [])) target
          refine XS.iload X_10.here hx rfl (hb hby d_chl_58) rfl ?_
          show Steps p.tables e below (T_10.setTop (mkF m 60 #[.val (.ref a1), .val (.int p1), .val (.int e1), .val (.int c1), .val (.int e2), .val (.int c2), .val (.int (2 : Int32)), .val (.int (ff p1.toNatClampNeg)), .unset, .unset] [(.int (ff p1.toNatClampNeg))])) target
          exact kt
        by_cases hc60 : (ff p1.toNatClampNeg) < (0 : Int32)
        · -- pc 60: yes
          refine own_go (S' := T_10.setTop (mkF m 70 #[.val (.ref a1), .val (.int p1), .val (.int e1), .val (.int c1), .val (.int e2), .val (.int c2), .val (.int (2 : Int32)), .val (.int (ff p1.toNatClampNeg)), .unset, .unset] [(.int (0 : Int32))])) (fun target kt => ?_) ?_
          · show Steps p.tables e below (T_10.setTop (mkF m 60 #[.val (.ref a1), .val (.int p1), .val (.int e1), .val (.int c1), .val (.int e2), .val (.int c2), .val (.int (2 : Int32)), .val (.int (ff p1.toNatClampNeg)), .unset, .unset] [(.int (ff p1.toNatClampNeg))])) target
            refine XS.ifYes X_10.here hx rfl (pc0 := 60) (pc' := 69) rfl (hb hby d_chl_60) rfl ((if0 _ _).trans (tlt hc60).1) (by decide) (by decide) ?_
            show Steps p.tables e below (T_10.setTop (mkF m 69 #[.val (.ref a1), .val (.int p1), .val (.int e1), .val (.int c1), .val (.int e2), .val (.int c2), .val (.int (2 : Int32)), .val (.int (ff p1.toNatClampNeg)), .unset, .unset] [])) target
            refine XS.iconst X_10.here hx rfl (hb hby d_chl_69) ?_
            show Steps p.tables e below (T_10.setTop (mkF m 70 #[.val (.ref a1), .val (.int p1), .val (.int e1), .val (.int c1), .val (.int e2), .val (.int c2), .val (.int (2 : Int32)), .val (.int (ff p1.toNatClampNeg)), .unset, .unset] [(.int (0 : Int32))])) target
            exact kt
          obtain ⟨fs, hr, hrun, hended, hW, hsame⟩ := X_10.leave (v := some (.int (0 : Int32))) (fun h => by rw [Bd.returns] at h; cases h)
          refine ⟨_, _, retN X_10 hx (t := .boolean) Bd.returns (by simp) (hb hby d_chl_70) hr, hrun, hended, _, _, rfl, ?_, ⟨_, rfl⟩, hW, hsame.mono (by decide) (by decide)⟩
          show Q_chl Z a1 p1 e1 c1 e2 c2 ff kc nx b3_ b4_ b5_ k3_ k4_ k5_ h0 n0 _ T_10.heap _
          rw [p_10_0]
          exact ⟨(congrArg (fun z => some (Value.int z)) (own_chl_15 hc1 hc11 hc29 hc60)), N_10, rfl⟩
        · -- pc 60: no
          refine own_go (S' := T_10.setTop (mkF m 66 #[.val (.ref a1), .val (.int p1), .val (.int e1), .val (.int c1), .val (.int e2), .val (.int c2), .val (.int (2 : Int32)), .val (.int (ff p1.toNatClampNeg)), .unset, .unset] [(.int (3 : Int32)), (.int (ff p1.toNatClampNeg))])) (fun target kt => ?_) ?_
          · show Steps p.tables e below (T_10.setTop (mkF m 60 #[.val (.ref a1), .val (.int p1), .val (.int e1), .val (.int c1), .val (.int e2), .val (.int c2), .val (.int (2 : Int32)), .val (.int (ff p1.toNatClampNeg)), .unset, .unset] [(.int (ff p1.toNatClampNeg))])) target
            refine XS.ifNo X_10.here hx rfl (hb hby d_chl_60) rfl ((if0 _ _).trans (flt hc60).1) ?_
            show Steps p.tables e below (T_10.setTop (mkF m 63 #[.val (.ref a1), .val (.int p1), .val (.int e1), .val (.int c1), .val (.int e2), .val (.int c2), .val (.int (2 : Int32)), .val (.int (ff p1.toNatClampNeg)), .unset, .unset] [])) target
            refine XS.iload X_10.here hx rfl (hb hby d_chl_63) rfl ?_
            show Steps p.tables e below (T_10.setTop (mkF m 65 #[.val (.ref a1), .val (.int p1), .val (.int e1), .val (.int c1), .val (.int e2), .val (.int c2), .val (.int (2 : Int32)), .val (.int (ff p1.toNatClampNeg)), .unset, .unset] [(.int (ff p1.toNatClampNeg))])) target
            refine XS.iconst X_10.here hx rfl (hb hby d_chl_65) ?_
            show Steps p.tables e below (T_10.setTop (mkF m 66 #[.val (.ref a1), .val (.int p1), .val (.int e1), .val (.int c1), .val (.int e2), .val (.int c2), .val (.int (2 : Int32)), .val (.int (ff p1.toNatClampNeg)), .unset, .unset] [(.int (3 : Int32)), (.int (ff p1.toNatClampNeg))])) target
            exact kt
          by_cases hc66 : (3 : Int32) < (ff p1.toNatClampNeg)
          · -- pc 66: yes
            refine own_go (S' := T_10.setTop (mkF m 70 #[.val (.ref a1), .val (.int p1), .val (.int e1), .val (.int c1), .val (.int e2), .val (.int c2), .val (.int (2 : Int32)), .val (.int (ff p1.toNatClampNeg)), .unset, .unset] [(.int (0 : Int32))])) (fun target kt => ?_) ?_
            · show Steps p.tables e below (T_10.setTop (mkF m 66 #[.val (.ref a1), .val (.int p1), .val (.int e1), .val (.int c1), .val (.int e2), .val (.int c2), .val (.int (2 : Int32)), .val (.int (ff p1.toNatClampNeg)), .unset, .unset] [(.int (3 : Int32)), (.int (ff p1.toNatClampNeg))])) target
              refine XS.icmpNo X_10.here hx rfl (hb hby d_chl_66) rfl (tlt hc66).2.2.2 ?_
              show Steps p.tables e below (T_10.setTop (mkF m 69 #[.val (.ref a1), .val (.int p1), .val (.int e1), .val (.int c1), .val (.int e2), .val (.int c2), .val (.int (2 : Int32)), .val (.int (ff p1.toNatClampNeg)), .unset, .unset] [])) target
              refine XS.iconst X_10.here hx rfl (hb hby d_chl_69) ?_
              show Steps p.tables e below (T_10.setTop (mkF m 70 #[.val (.ref a1), .val (.int p1), .val (.int e1), .val (.int c1), .val (.int e2), .val (.int c2), .val (.int (2 : Int32)), .val (.int (ff p1.toNatClampNeg)), .unset, .unset] [(.int (0 : Int32))])) target
              exact kt
            obtain ⟨fs, hr, hrun, hended, hW, hsame⟩ := X_10.leave (v := some (.int (0 : Int32))) (fun h => by rw [Bd.returns] at h; cases h)
            refine ⟨_, _, retN X_10 hx (t := .boolean) Bd.returns (by simp) (hb hby d_chl_70) hr, hrun, hended, _, _, rfl, ?_, ⟨_, rfl⟩, hW, hsame.mono (by decide) (by decide)⟩
            show Q_chl Z a1 p1 e1 c1 e2 c2 ff kc nx b3_ b4_ b5_ k3_ k4_ k5_ h0 n0 _ T_10.heap _
            rw [p_10_0]
            exact ⟨(congrArg (fun z => some (Value.int z)) (own_chl_16 hc1 hc11 hc29 hc60 hc66)), N_10, rfl⟩
          · -- pc 66: no
            obtain ⟨cq_11, kq_11, q_11a, q_11b, q_11c⟩ := isOf hZ p_10_0 E1
            obtain ⟨_, _, ⟨T_11, L_11, k_11, n_11⟩, -, X_11, ⟨Lc_11, hQ_11, l_11, y_11, z_11⟩, st_11⟩ := X_10.virtualBack hx (y := (⟨"com/example/filigree/filigree/engine/DecisionTree", "nextKept", "(I)I"⟩ : MethodName)) (z := (⟨"com/example/filigree/filigree/engine/DecisionTree", "nextKept", "(I)I"⟩ : MethodName)) hown (mvT hZ (hw _ (List.mem_of_getElem? (i := 56) rfl))) (mvT hZ (hw _ (List.mem_of_getElem? (i := 57) rfl))) (notFace_of_selects (args := #[]) (mvT hZ (hw _ (List.mem_of_getElem? (i := 59) rfl)))) (mvT hZ (hw _ (List.mem_of_getElem? (i := 59) rfl))) (mvT hZ (hw _ (List.mem_of_getElem? (i := 58) rfl))) (by decide) (backOf (W := 0) (rm_nxt l Z a0 hw [] a1 (ff p1.toNatClampNeg) b5_ k5_ nx h0 n0 Z0 F5_ V5_ ⟨hc60, hc66⟩) hZ (hw _ (List.mem_of_getElem? (i := 60) rfl)) (hw _ (List.mem_of_getElem? (i := 2) rfl)) (by decide) (by decide)) q_11a q_11c (g := (mkF m 74 #[.val (.ref a1), .val (.int p1), .val (.int e1), .val (.int c1), .val (.int e2), .val (.int c2), .val (.int (2 : Int32)), .val (.int (ff p1.toNatClampNeg)), .unset, .unset] [(.int (ff p1.toNatClampNeg)), (.ref a1)])) rfl (by rw [hml]; rfl) (Steps.refl _) (argsL := [(.int (ff p1.toNatClampNeg))]) (rest := []) (lenOf pd_I_I rfl) rfl (by show 2 * 0 + _ ≤ _; exact Nat.le_of_eq rfl) (hb hby d_chl_74) (fun _ _ => ⟨rfl, p_10_0, (by decide : 0 + 0 ≤ _), (by decide : 0 + 0 ≤ _)⟩)
            dsimp only [Pt.U, Pt.locs, Pt.cells, Pt.slots] at X_11 l_11 y_11 z_11 st_11 hQ_11
            subst y_11 z_11
            obtain ⟨rfl, N_11q, p_11_0⟩ := hQ_11
            have N_11 : Fr n0 L_11 := by rw [l_11]; exact Fr.app N_10 N_11q
            clear l_11
            refine own_go (S' := T_11.setTop (mkF m 118 #[.val (.ref a1), .val (.int p1), .val (.int e1), .val (.int c1), .val (.int e2), .val (.int c2), .val (.int (2 : Int32)), .val (.int (ff p1.toNatClampNeg)), .val (.int (nx (ff p1.toNatClampNeg).toNatClampNeg)), .unset] [(.int (nx (ff p1.toNatClampNeg).toNatClampNeg))])) (fun target kt => ?_) ?_
            · show Steps p.tables e below (T_10.setTop (mkF m 66 #[.val (.ref a1), .val (.int p1), .val (.int e1), .val (.int c1), .val (.int e2), .val (.int c2), .val (.int (2 : Int32)), .val (.int (ff p1.toNatClampNeg)), .unset, .unset] [(.int (3 : Int32)), (.int (ff p1.toNatClampNeg))])) target
              refine XS.icmpYes X_10.here hx rfl (pc0 := 66) (pc' := 71) rfl (hb hby d_chl_66) rfl (flt hc66).2.2.2 (by decide) (by decide) ?_
              show Steps p.tables e below (T_10.setTop (mkF m 71 #[.val (.ref a1), .val (.int p1), .val (.int e1), .val (.int c1), .val (.int e2), .val (.int c2), .val (.int (2 : Int32)), .val (.int (ff p1.toNatClampNeg)), .unset, .unset] [])) target
              refine XS.aloadN X_10.here hx rfl (hb hby d_chl_71) rfl rfl ?_
              show Steps p.tables e below (T_10.setTop (mkF m 72 #[.val (.ref a1), .val (.int p1), .val (.int e1), .val (.int c1), .val (.int e2), .val (.int c2), .val (.int (2 : Int32)), .val (.int (ff p1.toNatClampNeg)), .unset, .unset] [(.ref a1)])) target
              refine XS.iload X_10.here hx rfl (hb hby d_chl_72) rfl ?_
              show Steps p.tables e below (T_10.setTop (mkF m 74 #[.val (.ref a1), .val (.int p1), .val (.int e1), .val (.int c1), .val (.int e2), .val (.int c2), .val (.int (2 : Int32)), .val (.int (ff p1.toNatClampNeg)), .unset, .unset] [(.int (ff p1.toNatClampNeg)), (.ref a1)])) target
              refine st_11.trans ?_
              show Steps p.tables e below (T_11.setTop (mkF m 77 #[.val (.ref a1), .val (.int p1), .val (.int e1), .val (.int c1), .val (.int e2), .val (.int c2), .val (.int (2 : Int32)), .val (.int (ff p1.toNatClampNeg)), .unset, .unset] [(.int (nx (ff p1.toNatClampNeg).toNatClampNeg))])) target
              refine XS.istore X_11.here hx rfl (hb hby d_chl_77) rfl (l' := #[.val (.ref a1), .val (.int p1), .val (.int e1), .val (.int c1), .val (.int e2), .val (.int c2), .val (.int (2 : Int32)), .val (.int (ff p1.toNatClampNeg)), .val (.int (nx (ff p1.toNatClampNeg).toNatClampNeg)), .unset]) rfl ?_
              show Steps p.tables e below (T_11.setTop (mkF m 79 #[.val (.ref a1), .val (.int p1), .val (.int e1), .val (.int c1), .val (.int e2), .val (.int c2), .val (.int (2 : Int32)), .val (.int (ff p1.toNatClampNeg)), .val (.int (nx (ff p1.toNatClampNeg).toNatClampNeg)), .unset] [])) target
              refine XS.iload X_11.here hx rfl (hb hby d_chl_79) rfl ?_
              show Steps p.tables e below (T_11.setTop (mkF m 81 #[.val (.ref a1), .val (.int p1), .val (.int e1), .val (.int c1), .val (.int e2), .val (.int c2), .val (.int (2 : Int32)), .val (.int (ff p1.toNatClampNeg)), .val (.int (nx (ff p1.toNatClampNeg).toNatClampNeg)), .unset] [(.int (2 : Int32))])) target
              refine XS.iconst X_11.here hx rfl (hb hby d_chl_81) ?_
              show Steps p.tables e below (T_11.setTop (mkF m 82 #[.val (.ref a1), .val (.int p1), .val (.int e1), .val (.int c1), .val (.int e2), .val (.int c2), .val (.int (2 : Int32)), .val (.int (ff p1.toNatClampNeg)), .val (.int (nx (ff p1.toNatClampNeg).toNatClampNeg)), .unset] [(.int (1 : Int32)), (.int (2 : Int32))])) target
              refine XS.icmpYes X_11.here hx rfl (pc0 := 82) (pc' := 116) rfl (hb hby d_chl_82) rfl (feq (by decide : ¬ ((2 : Int32) = (1 : Int32)))).2 (by decide) (by decide) ?_
              show Steps p.tables e below (T_11.setTop (mkF m 116 #[.val (.ref a1), .val (.int p1), .val (.int e1), .val (.int c1), .val (.int e2), .val (.int c2), .val (.int (2 : Int32)), .val (.int (ff p1.toNatClampNeg)), .val (.int (nx (ff p1.toNatClampNeg).toNatClampNeg)), .unset] [])) target
              refine XS.iload X_11.here hx rfl (hb hby d_chl_116) rfl ?_
              show Steps p.tables e below (T_11.setTop (mkF m 118 #[.val (.ref a1), .val (.int p1), .val (.int e1), .val (.int c1), .val (.int e2), .val (.int c2), .val (.int (2 : Int32)), .val (.int (ff p1.toNatClampNeg)), .val (.int (nx (ff p1.toNatClampNeg).toNatClampNeg)), .unset] [(.int (nx (ff p1.toNatClampNeg).toNatClampNeg))])) target
              exact kt
            by_cases hc118 : (nx (ff p1.toNatClampNeg).toNatClampNeg) < (0 : Int32)
            · -- pc 118: yes
              refine own_go (S' := T_11.setTop (mkF m 128 #[.val (.ref a1), .val (.int p1), .val (.int e1), .val (.int c1), .val (.int e2), .val (.int c2), .val (.int (2 : Int32)), .val (.int (ff p1.toNatClampNeg)), .val (.int (nx (ff p1.toNatClampNeg).toNatClampNeg)), .unset] [(.int (0 : Int32))])) (fun target kt => ?_) ?_
              · show Steps p.tables e below (T_11.setTop (mkF m 118 #[.val (.ref a1), .val (.int p1), .val (.int e1), .val (.int c1), .val (.int e2), .val (.int c2), .val (.int (2 : Int32)), .val (.int (ff p1.toNatClampNeg)), .val (.int (nx (ff p1.toNatClampNeg).toNatClampNeg)), .unset] [(.int (nx (ff p1.toNatClampNeg).toNatClampNeg))])) target
                refine XS.ifYes X_11.here hx rfl (pc0 := 118) (pc' := 127) rfl (hb hby d_chl_118) rfl ((if0 _ _).trans (tlt hc118).1) (by decide) (by decide) ?_
                show Steps p.tables e below (T_11.setTop (mkF m 127 #[.val (.ref a1), .val (.int p1), .val (.int e1), .val (.int c1), .val (.int e2), .val (.int c2), .val (.int (2 : Int32)), .val (.int (ff p1.toNatClampNeg)), .val (.int (nx (ff p1.toNatClampNeg).toNatClampNeg)), .unset] [])) target
                refine XS.iconst X_11.here hx rfl (hb hby d_chl_127) ?_
                show Steps p.tables e below (T_11.setTop (mkF m 128 #[.val (.ref a1), .val (.int p1), .val (.int e1), .val (.int c1), .val (.int e2), .val (.int c2), .val (.int (2 : Int32)), .val (.int (ff p1.toNatClampNeg)), .val (.int (nx (ff p1.toNatClampNeg).toNatClampNeg)), .unset] [(.int (0 : Int32))])) target
                exact kt
              obtain ⟨fs, hr, hrun, hended, hW, hsame⟩ := X_11.leave (v := some (.int (0 : Int32))) (fun h => by rw [Bd.returns] at h; cases h)
              refine ⟨_, _, retN X_11 hx (t := .boolean) Bd.returns (by simp) (hb hby d_chl_128) hr, hrun, hended, _, _, rfl, ?_, ⟨_, rfl⟩, hW, hsame.mono (by decide) (by decide)⟩
              show Q_chl Z a1 p1 e1 c1 e2 c2 ff kc nx b3_ b4_ b5_ k3_ k4_ k5_ h0 n0 _ T_11.heap _
              rw [p_11_0]
              exact ⟨(congrArg (fun z => some (Value.int z)) (own_chl_17 hc1 hc11 hc29 hc60 hc66 hc118)), N_11, rfl⟩
            · -- pc 118: no
              refine own_go (S' := T_11.setTop (mkF m 124 #[.val (.ref a1), .val (.int p1), .val (.int e1), .val (.int c1), .val (.int e2), .val (.int c2), .val (.int (2 : Int32)), .val (.int (ff p1.toNatClampNeg)), .val (.int (nx (ff p1.toNatClampNeg).toNatClampNeg)), .unset] [(.int (3 : Int32)), (.int (nx (ff p1.toNatClampNeg).toNatClampNeg))])) (fun target kt => ?_) ?_
              · show Steps p.tables e below (T_11.setTop (mkF m 118 #[.val (.ref a1), .val (.int p1), .val (.int e1), .val (.int c1), .val (.int e2), .val (.int c2), .val (.int (2 : Int32)), .val (.int (ff p1.toNatClampNeg)), .val (.int (nx (ff p1.toNatClampNeg).toNatClampNeg)), .unset] [(.int (nx (ff p1.toNatClampNeg).toNatClampNeg))])) target
                refine XS.ifNo X_11.here hx rfl (hb hby d_chl_118) rfl ((if0 _ _).trans (flt hc118).1) ?_
                show Steps p.tables e below (T_11.setTop (mkF m 121 #[.val (.ref a1), .val (.int p1), .val (.int e1), .val (.int c1), .val (.int e2), .val (.int c2), .val (.int (2 : Int32)), .val (.int (ff p1.toNatClampNeg)), .val (.int (nx (ff p1.toNatClampNeg).toNatClampNeg)), .unset] [])) target
                refine XS.iload X_11.here hx rfl (hb hby d_chl_121) rfl ?_
                show Steps p.tables e below (T_11.setTop (mkF m 123 #[.val (.ref a1), .val (.int p1), .val (.int e1), .val (.int c1), .val (.int e2), .val (.int c2), .val (.int (2 : Int32)), .val (.int (ff p1.toNatClampNeg)), .val (.int (nx (ff p1.toNatClampNeg).toNatClampNeg)), .unset] [(.int (nx (ff p1.toNatClampNeg).toNatClampNeg))])) target
                refine XS.iconst X_11.here hx rfl (hb hby d_chl_123) ?_
                show Steps p.tables e below (T_11.setTop (mkF m 124 #[.val (.ref a1), .val (.int p1), .val (.int e1), .val (.int c1), .val (.int e2), .val (.int c2), .val (.int (2 : Int32)), .val (.int (ff p1.toNatClampNeg)), .val (.int (nx (ff p1.toNatClampNeg).toNatClampNeg)), .unset] [(.int (3 : Int32)), (.int (nx (ff p1.toNatClampNeg).toNatClampNeg))])) target
                exact kt
              by_cases hc124 : (3 : Int32) < (nx (ff p1.toNatClampNeg).toNatClampNeg)
              · -- pc 124: yes
                refine own_go (S' := T_11.setTop (mkF m 128 #[.val (.ref a1), .val (.int p1), .val (.int e1), .val (.int c1), .val (.int e2), .val (.int c2), .val (.int (2 : Int32)), .val (.int (ff p1.toNatClampNeg)), .val (.int (nx (ff p1.toNatClampNeg).toNatClampNeg)), .unset] [(.int (0 : Int32))])) (fun target kt => ?_) ?_
                · show Steps p.tables e below (T_11.setTop (mkF m 124 #[.val (.ref a1), .val (.int p1), .val (.int e1), .val (.int c1), .val (.int e2), .val (.int c2), .val (.int (2 : Int32)), .val (.int (ff p1.toNatClampNeg)), .val (.int (nx (ff p1.toNatClampNeg).toNatClampNeg)), .unset] [(.int (3 : Int32)), (.int (nx (ff p1.toNatClampNeg).toNatClampNeg))])) target
                  refine XS.icmpNo X_11.here hx rfl (hb hby d_chl_124) rfl (tlt hc124).2.2.2 ?_
                  show Steps p.tables e below (T_11.setTop (mkF m 127 #[.val (.ref a1), .val (.int p1), .val (.int e1), .val (.int c1), .val (.int e2), .val (.int c2), .val (.int (2 : Int32)), .val (.int (ff p1.toNatClampNeg)), .val (.int (nx (ff p1.toNatClampNeg).toNatClampNeg)), .unset] [])) target
                  refine XS.iconst X_11.here hx rfl (hb hby d_chl_127) ?_
                  show Steps p.tables e below (T_11.setTop (mkF m 128 #[.val (.ref a1), .val (.int p1), .val (.int e1), .val (.int c1), .val (.int e2), .val (.int c2), .val (.int (2 : Int32)), .val (.int (ff p1.toNatClampNeg)), .val (.int (nx (ff p1.toNatClampNeg).toNatClampNeg)), .unset] [(.int (0 : Int32))])) target
                  exact kt
                obtain ⟨fs, hr, hrun, hended, hW, hsame⟩ := X_11.leave (v := some (.int (0 : Int32))) (fun h => by rw [Bd.returns] at h; cases h)
                refine ⟨_, _, retN X_11 hx (t := .boolean) Bd.returns (by simp) (hb hby d_chl_128) hr, hrun, hended, _, _, rfl, ?_, ⟨_, rfl⟩, hW, hsame.mono (by decide) (by decide)⟩
                show Q_chl Z a1 p1 e1 c1 e2 c2 ff kc nx b3_ b4_ b5_ k3_ k4_ k5_ h0 n0 _ T_11.heap _
                rw [p_11_0]
                exact ⟨(congrArg (fun z => some (Value.int z)) (own_chl_18 hc1 hc11 hc29 hc60 hc66 hc118 hc124)), N_11, rfl⟩
              · -- pc 124: no
                refine own_go (S' := T_11.setTop (mkF m 132 #[.val (.ref a1), .val (.int p1), .val (.int e1), .val (.int c1), .val (.int e2), .val (.int c2), .val (.int (2 : Int32)), .val (.int (ff p1.toNatClampNeg)), .val (.int (nx (ff p1.toNatClampNeg).toNatClampNeg)), .unset] [(.int c1), (.int (ff p1.toNatClampNeg))])) (fun target kt => ?_) ?_
                · show Steps p.tables e below (T_11.setTop (mkF m 124 #[.val (.ref a1), .val (.int p1), .val (.int e1), .val (.int c1), .val (.int e2), .val (.int c2), .val (.int (2 : Int32)), .val (.int (ff p1.toNatClampNeg)), .val (.int (nx (ff p1.toNatClampNeg).toNatClampNeg)), .unset] [(.int (3 : Int32)), (.int (nx (ff p1.toNatClampNeg).toNatClampNeg))])) target
                  refine XS.icmpYes X_11.here hx rfl (pc0 := 124) (pc' := 129) rfl (hb hby d_chl_124) rfl (flt hc124).2.2.2 (by decide) (by decide) ?_
                  show Steps p.tables e below (T_11.setTop (mkF m 129 #[.val (.ref a1), .val (.int p1), .val (.int e1), .val (.int c1), .val (.int e2), .val (.int c2), .val (.int (2 : Int32)), .val (.int (ff p1.toNatClampNeg)), .val (.int (nx (ff p1.toNatClampNeg).toNatClampNeg)), .unset] [])) target
                  refine XS.iload X_11.here hx rfl (hb hby d_chl_129) rfl ?_
                  show Steps p.tables e below (T_11.setTop (mkF m 131 #[.val (.ref a1), .val (.int p1), .val (.int e1), .val (.int c1), .val (.int e2), .val (.int c2), .val (.int (2 : Int32)), .val (.int (ff p1.toNatClampNeg)), .val (.int (nx (ff p1.toNatClampNeg).toNatClampNeg)), .unset] [(.int (ff p1.toNatClampNeg))])) target
                  refine XS.iloadN X_11.here hx rfl (hb hby d_chl_131) rfl ?_
                  show Steps p.tables e below (T_11.setTop (mkF m 132 #[.val (.ref a1), .val (.int p1), .val (.int e1), .val (.int c1), .val (.int e2), .val (.int c2), .val (.int (2 : Int32)), .val (.int (ff p1.toNatClampNeg)), .val (.int (nx (ff p1.toNatClampNeg).toNatClampNeg)), .unset] [(.int c1), (.int (ff p1.toNatClampNeg))])) target
                  exact kt
                by_cases hc132 : (ff p1.toNatClampNeg) = c1
                · -- pc 132: yes
                  refine own_go (S' := T_11.setTop (mkF m 139 #[.val (.ref a1), .val (.int p1), .val (.int e1), .val (.int c1), .val (.int e2), .val (.int c2), .val (.int (2 : Int32)), .val (.int (ff p1.toNatClampNeg)), .val (.int (nx (ff p1.toNatClampNeg).toNatClampNeg)), .unset] [(.int c2), (.int (nx (ff p1.toNatClampNeg).toNatClampNeg))])) (fun target kt => ?_) ?_
                  · show Steps p.tables e below (T_11.setTop (mkF m 132 #[.val (.ref a1), .val (.int p1), .val (.int e1), .val (.int c1), .val (.int e2), .val (.int c2), .val (.int (2 : Int32)), .val (.int (ff p1.toNatClampNeg)), .val (.int (nx (ff p1.toNatClampNeg).toNatClampNeg)), .unset] [(.int c1), (.int (ff p1.toNatClampNeg))])) target
                    refine XS.icmpNo X_11.here hx rfl (hb hby d_chl_132) rfl (teq hc132).2 ?_
                    show Steps p.tables e below (T_11.setTop (mkF m 135 #[.val (.ref a1), .val (.int p1), .val (.int e1), .val (.int c1), .val (.int e2), .val (.int c2), .val (.int (2 : Int32)), .val (.int (ff p1.toNatClampNeg)), .val (.int (nx (ff p1.toNatClampNeg).toNatClampNeg)), .unset] [])) target
                    refine XS.iload X_11.here hx rfl (hb hby d_chl_135) rfl ?_
                    show Steps p.tables e below (T_11.setTop (mkF m 137 #[.val (.ref a1), .val (.int p1), .val (.int e1), .val (.int c1), .val (.int e2), .val (.int c2), .val (.int (2 : Int32)), .val (.int (ff p1.toNatClampNeg)), .val (.int (nx (ff p1.toNatClampNeg).toNatClampNeg)), .unset] [(.int (nx (ff p1.toNatClampNeg).toNatClampNeg))])) target
                    refine XS.iload X_11.here hx rfl (hb hby d_chl_137) rfl ?_
                    show Steps p.tables e below (T_11.setTop (mkF m 139 #[.val (.ref a1), .val (.int p1), .val (.int e1), .val (.int c1), .val (.int e2), .val (.int c2), .val (.int (2 : Int32)), .val (.int (ff p1.toNatClampNeg)), .val (.int (nx (ff p1.toNatClampNeg).toNatClampNeg)), .unset] [(.int c2), (.int (nx (ff p1.toNatClampNeg).toNatClampNeg))])) target
                    exact kt
                  by_cases hc139 : (nx (ff p1.toNatClampNeg).toNatClampNeg) = c2
                  · -- pc 139: yes
                    obtain ⟨cq_12, kq_12, q_12a, q_12b, q_12c⟩ := isOf hZ p_11_0 E1
                    obtain ⟨_, _, ⟨T_12, L_12, k_12, n_12⟩, -, X_12, ⟨Lc_12, hQ_12, l_12, y_12, z_12⟩, st_12⟩ := X_11.virtualBack hx (y := (⟨"com/example/filigree/filigree/engine/DecisionTree", "nextKept", "(I)I"⟩ : MethodName)) (z := (⟨"com/example/filigree/filigree/engine/DecisionTree", "nextKept", "(I)I"⟩ : MethodName)) hown (mvT hZ (hw _ (List.mem_of_getElem? (i := 56) rfl))) (mvT hZ (hw _ (List.mem_of_getElem? (i := 57) rfl))) (notFace_of_selects (args := #[]) (mvT hZ (hw _ (List.mem_of_getElem? (i := 59) rfl)))) (mvT hZ (hw _ (List.mem_of_getElem? (i := 59) rfl))) (mvT hZ (hw _ (List.mem_of_getElem? (i := 58) rfl))) (by decide) (backOf (W := 0) (rm_nxt l Z a0 hw [] a1 (nx (ff p1.toNatClampNeg).toNatClampNeg) b5_ k5_ nx h0 n0 Z0 F5_ V5_ ⟨hc118, hc124⟩) hZ (hw _ (List.mem_of_getElem? (i := 60) rfl)) (hw _ (List.mem_of_getElem? (i := 2) rfl)) (by decide) (by decide)) q_12a q_12c (g := (mkF m 170 #[.val (.ref a1), .val (.int p1), .val (.int e1), .val (.int c1), .val (.int e2), .val (.int c2), .val (.int (2 : Int32)), .val (.int (ff p1.toNatClampNeg)), .val (.int (nx (ff p1.toNatClampNeg).toNatClampNeg)), .val (.int (1 : Int32))] [(.int (nx (ff p1.toNatClampNeg).toNatClampNeg)), (.ref a1)])) rfl (by rw [hml]; rfl) (Steps.refl _) (argsL := [(.int (nx (ff p1.toNatClampNeg).toNatClampNeg))]) (rest := []) (lenOf pd_I_I rfl) rfl (by show 2 * 0 + _ ≤ _; exact Nat.le_of_eq rfl) (hb hby d_chl_170) (fun _ _ => ⟨rfl, p_11_0, (by decide : 0 + 0 ≤ _), (by decide : 0 + 0 ≤ _)⟩)
                    dsimp only [Pt.U, Pt.locs, Pt.cells, Pt.slots] at X_12 l_12 y_12 z_12 st_12 hQ_12
                    subst y_12 z_12
                    obtain ⟨rfl, N_12q, p_12_0⟩ := hQ_12
                    have N_12 : Fr n0 L_12 := by rw [l_12]; exact Fr.app N_11 N_12q
                    clear l_12
                    refine own_go (S' := T_12.setTop (mkF m 174 #[.val (.ref a1), .val (.int p1), .val (.int e1), .val (.int c1), .val (.int e2), .val (.int c2), .val (.int (2 : Int32)), .val (.int (ff p1.toNatClampNeg)), .val (.int (nx (ff p1.toNatClampNeg).toNatClampNeg)), .val (.int (1 : Int32))] [(.int (-1 : Int32)), (.int (nx (nx (ff p1.toNatClampNeg).toNatClampNeg).toNatClampNeg))])) (fun target kt => ?_) ?_
                    · show Steps p.tables e below (T_11.setTop (mkF m 139 #[.val (.ref a1), .val (.int p1), .val (.int e1), .val (.int c1), .val (.int e2), .val (.int c2), .val (.int (2 : Int32)), .val (.int (ff p1.toNatClampNeg)), .val (.int (nx (ff p1.toNatClampNeg).toNatClampNeg)), .unset] [(.int c2), (.int (nx (ff p1.toNatClampNeg).toNatClampNeg))])) target
                      refine XS.icmpYes X_11.here hx rfl (pc0 := 139) (pc' := 155) rfl (hb hby d_chl_139) rfl (teq hc139).1 (by decide) (by decide) ?_
                      show Steps p.tables e below (T_11.setTop (mkF m 155 #[.val (.ref a1), .val (.int p1), .val (.int e1), .val (.int c1), .val (.int e2), .val (.int c2), .val (.int (2 : Int32)), .val (.int (ff p1.toNatClampNeg)), .val (.int (nx (ff p1.toNatClampNeg).toNatClampNeg)), .unset] [])) target
                      refine XS.iconst X_11.here hx rfl (hb hby d_chl_155) ?_
                      show Steps p.tables e below (T_11.setTop (mkF m 156 #[.val (.ref a1), .val (.int p1), .val (.int e1), .val (.int c1), .val (.int e2), .val (.int c2), .val (.int (2 : Int32)), .val (.int (ff p1.toNatClampNeg)), .val (.int (nx (ff p1.toNatClampNeg).toNatClampNeg)), .unset] [(.int (1 : Int32))])) target
                      refine XS.goto X_11.here hx rfl (pc0 := 156) (pc' := 160) rfl (hb hby d_chl_156) (by decide) (by decide) ?_
                      show Steps p.tables e below (T_11.setTop (mkF m 160 #[.val (.ref a1), .val (.int p1), .val (.int e1), .val (.int c1), .val (.int e2), .val (.int c2), .val (.int (2 : Int32)), .val (.int (ff p1.toNatClampNeg)), .val (.int (nx (ff p1.toNatClampNeg).toNatClampNeg)), .unset] [(.int (1 : Int32))])) target
                      refine XS.istore X_11.here hx rfl (hb hby d_chl_160) rfl (l' := #[.val (.ref a1), .val (.int p1), .val (.int e1), .val (.int c1), .val (.int e2), .val (.int c2), .val (.int (2 : Int32)), .val (.int (ff p1.toNatClampNeg)), .val (.int (nx (ff p1.toNatClampNeg).toNatClampNeg)), .val (.int (1 : Int32))]) rfl ?_
                      show Steps p.tables e below (T_11.setTop (mkF m 162 #[.val (.ref a1), .val (.int p1), .val (.int e1), .val (.int c1), .val (.int e2), .val (.int c2), .val (.int (2 : Int32)), .val (.int (ff p1.toNatClampNeg)), .val (.int (nx (ff p1.toNatClampNeg).toNatClampNeg)), .val (.int (1 : Int32))] [])) target
                      refine XS.iload X_11.here hx rfl (hb hby d_chl_162) rfl ?_
                      show Steps p.tables e below (T_11.setTop (mkF m 164 #[.val (.ref a1), .val (.int p1), .val (.int e1), .val (.int c1), .val (.int e2), .val (.int c2), .val (.int (2 : Int32)), .val (.int (ff p1.toNatClampNeg)), .val (.int (nx (ff p1.toNatClampNeg).toNatClampNeg)), .val (.int (1 : Int32))] [(.int (1 : Int32))])) target
                      refine XS.ifNo X_11.here hx rfl (hb hby d_chl_164) rfl ((if0 _ _).trans (feq (by decide : ¬ ((1 : Int32) = (0 : Int32)))).1) ?_
                      show Steps p.tables e below (T_11.setTop (mkF m 167 #[.val (.ref a1), .val (.int p1), .val (.int e1), .val (.int c1), .val (.int e2), .val (.int c2), .val (.int (2 : Int32)), .val (.int (ff p1.toNatClampNeg)), .val (.int (nx (ff p1.toNatClampNeg).toNatClampNeg)), .val (.int (1 : Int32))] [])) target
                      refine XS.aloadN X_11.here hx rfl (hb hby d_chl_167) rfl rfl ?_
                      show Steps p.tables e below (T_11.setTop (mkF m 168 #[.val (.ref a1), .val (.int p1), .val (.int e1), .val (.int c1), .val (.int e2), .val (.int c2), .val (.int (2 : Int32)), .val (.int (ff p1.toNatClampNeg)), .val (.int (nx (ff p1.toNatClampNeg).toNatClampNeg)), .val (.int (1 : Int32))] [(.ref a1)])) target
                      refine XS.iload X_11.here hx rfl (hb hby d_chl_168) rfl ?_
                      show Steps p.tables e below (T_11.setTop (mkF m 170 #[.val (.ref a1), .val (.int p1), .val (.int e1), .val (.int c1), .val (.int e2), .val (.int c2), .val (.int (2 : Int32)), .val (.int (ff p1.toNatClampNeg)), .val (.int (nx (ff p1.toNatClampNeg).toNatClampNeg)), .val (.int (1 : Int32))] [(.int (nx (ff p1.toNatClampNeg).toNatClampNeg)), (.ref a1)])) target
                      refine st_12.trans ?_
                      show Steps p.tables e below (T_12.setTop (mkF m 173 #[.val (.ref a1), .val (.int p1), .val (.int e1), .val (.int c1), .val (.int e2), .val (.int c2), .val (.int (2 : Int32)), .val (.int (ff p1.toNatClampNeg)), .val (.int (nx (ff p1.toNatClampNeg).toNatClampNeg)), .val (.int (1 : Int32))] [(.int (nx (nx (ff p1.toNatClampNeg).toNatClampNeg).toNatClampNeg))])) target
                      refine XS.iconst X_12.here hx rfl (hb hby d_chl_173) ?_
                      show Steps p.tables e below (T_12.setTop (mkF m 174 #[.val (.ref a1), .val (.int p1), .val (.int e1), .val (.int c1), .val (.int e2), .val (.int c2), .val (.int (2 : Int32)), .val (.int (ff p1.toNatClampNeg)), .val (.int (nx (ff p1.toNatClampNeg).toNatClampNeg)), .val (.int (1 : Int32))] [(.int (-1 : Int32)), (.int (nx (nx (ff p1.toNatClampNeg).toNatClampNeg).toNatClampNeg))])) target
                      exact kt
                    by_cases hc174 : (nx (nx (ff p1.toNatClampNeg).toNatClampNeg).toNatClampNeg) = (-1 : Int32)
                    · -- pc 174: yes
                      refine own_go (S' := T_12.setTop (mkF m 182 #[.val (.ref a1), .val (.int p1), .val (.int e1), .val (.int c1), .val (.int e2), .val (.int c2), .val (.int (2 : Int32)), .val (.int (ff p1.toNatClampNeg)), .val (.int (nx (ff p1.toNatClampNeg).toNatClampNeg)), .val (.int (1 : Int32))] [(.int (1 : Int32))])) (fun target kt => ?_) ?_
                      · show Steps p.tables e below (T_12.setTop (mkF m 174 #[.val (.ref a1), .val (.int p1), .val (.int e1), .val (.int c1), .val (.int e2), .val (.int c2), .val (.int (2 : Int32)), .val (.int (ff p1.toNatClampNeg)), .val (.int (nx (ff p1.toNatClampNeg).toNatClampNeg)), .val (.int (1 : Int32))] [(.int (-1 : Int32)), (.int (nx (nx (ff p1.toNatClampNeg).toNatClampNeg).toNatClampNeg))])) target
                        refine XS.icmpNo X_12.here hx rfl (hb hby d_chl_174) rfl (teq hc174).2 ?_
                        show Steps p.tables e below (T_12.setTop (mkF m 177 #[.val (.ref a1), .val (.int p1), .val (.int e1), .val (.int c1), .val (.int e2), .val (.int c2), .val (.int (2 : Int32)), .val (.int (ff p1.toNatClampNeg)), .val (.int (nx (ff p1.toNatClampNeg).toNatClampNeg)), .val (.int (1 : Int32))] [])) target
                        refine XS.iconst X_12.here hx rfl (hb hby d_chl_177) ?_
                        show Steps p.tables e below (T_12.setTop (mkF m 178 #[.val (.ref a1), .val (.int p1), .val (.int e1), .val (.int c1), .val (.int e2), .val (.int c2), .val (.int (2 : Int32)), .val (.int (ff p1.toNatClampNeg)), .val (.int (nx (ff p1.toNatClampNeg).toNatClampNeg)), .val (.int (1 : Int32))] [(.int (1 : Int32))])) target
                        refine XS.goto X_12.here hx rfl (pc0 := 178) (pc' := 182) rfl (hb hby d_chl_178) (by decide) (by decide) ?_
                        show Steps p.tables e below (T_12.setTop (mkF m 182 #[.val (.ref a1), .val (.int p1), .val (.int e1), .val (.int c1), .val (.int e2), .val (.int c2), .val (.int (2 : Int32)), .val (.int (ff p1.toNatClampNeg)), .val (.int (nx (ff p1.toNatClampNeg).toNatClampNeg)), .val (.int (1 : Int32))] [(.int (1 : Int32))])) target
                        exact kt
                      obtain ⟨fs, hr, hrun, hended, hW, hsame⟩ := X_12.leave (v := some (.int (1 : Int32))) (fun h => by rw [Bd.returns] at h; cases h)
                      refine ⟨_, _, retN X_12 hx (t := .boolean) Bd.returns (by simp) (hb hby d_chl_182) hr, hrun, hended, _, _, rfl, ?_, ⟨_, rfl⟩, hW, hsame.mono (by decide) (by decide)⟩
                      show Q_chl Z a1 p1 e1 c1 e2 c2 ff kc nx b3_ b4_ b5_ k3_ k4_ k5_ h0 n0 _ T_12.heap _
                      rw [p_12_0]
                      exact ⟨(congrArg (fun z => some (Value.int z)) (own_chl_19 hc1 hc11 hc29 hc60 hc66 hc118 hc124 hc132 hc139 hc174)), N_12, rfl⟩
                    · -- pc 174: no
                      refine own_go (S' := T_12.setTop (mkF m 182 #[.val (.ref a1), .val (.int p1), .val (.int e1), .val (.int c1), .val (.int e2), .val (.int c2), .val (.int (2 : Int32)), .val (.int (ff p1.toNatClampNeg)), .val (.int (nx (ff p1.toNatClampNeg).toNatClampNeg)), .val (.int (1 : Int32))] [(.int (0 : Int32))])) (fun target kt => ?_) ?_
                      · show Steps p.tables e below (T_12.setTop (mkF m 174 #[.val (.ref a1), .val (.int p1), .val (.int e1), .val (.int c1), .val (.int e2), .val (.int c2), .val (.int (2 : Int32)), .val (.int (ff p1.toNatClampNeg)), .val (.int (nx (ff p1.toNatClampNeg).toNatClampNeg)), .val (.int (1 : Int32))] [(.int (-1 : Int32)), (.int (nx (nx (ff p1.toNatClampNeg).toNatClampNeg).toNatClampNeg))])) target
                        refine XS.icmpYes X_12.here hx rfl (pc0 := 174) (pc' := 181) rfl (hb hby d_chl_174) rfl (feq hc174).2 (by decide) (by decide) ?_
                        show Steps p.tables e below (T_12.setTop (mkF m 181 #[.val (.ref a1), .val (.int p1), .val (.int e1), .val (.int c1), .val (.int e2), .val (.int c2), .val (.int (2 : Int32)), .val (.int (ff p1.toNatClampNeg)), .val (.int (nx (ff p1.toNatClampNeg).toNatClampNeg)), .val (.int (1 : Int32))] [])) target
                        refine XS.iconst X_12.here hx rfl (hb hby d_chl_181) ?_
                        show Steps p.tables e below (T_12.setTop (mkF m 182 #[.val (.ref a1), .val (.int p1), .val (.int e1), .val (.int c1), .val (.int e2), .val (.int c2), .val (.int (2 : Int32)), .val (.int (ff p1.toNatClampNeg)), .val (.int (nx (ff p1.toNatClampNeg).toNatClampNeg)), .val (.int (1 : Int32))] [(.int (0 : Int32))])) target
                        exact kt
                      obtain ⟨fs, hr, hrun, hended, hW, hsame⟩ := X_12.leave (v := some (.int (0 : Int32))) (fun h => by rw [Bd.returns] at h; cases h)
                      refine ⟨_, _, retN X_12 hx (t := .boolean) Bd.returns (by simp) (hb hby d_chl_182) hr, hrun, hended, _, _, rfl, ?_, ⟨_, rfl⟩, hW, hsame.mono (by decide) (by decide)⟩
                      show Q_chl Z a1 p1 e1 c1 e2 c2 ff kc nx b3_ b4_ b5_ k3_ k4_ k5_ h0 n0 _ T_12.heap _
                      rw [p_12_0]
                      exact ⟨(congrArg (fun z => some (Value.int z)) (own_chl_20 hc1 hc11 hc29 hc60 hc66 hc118 hc124 hc132 hc139 hc174)), N_12, rfl⟩
                  · -- pc 139: no
                    refine own_go (S' := T_11.setTop (mkF m 146 #[.val (.ref a1), .val (.int p1), .val (.int e1), .val (.int c1), .val (.int e2), .val (.int c2), .val (.int (2 : Int32)), .val (.int (ff p1.toNatClampNeg)), .val (.int (nx (ff p1.toNatClampNeg).toNatClampNeg)), .unset] [(.int c2), (.int (ff p1.toNatClampNeg))])) (fun target kt => ?_) ?_
                    · show Steps p.tables e below (T_11.setTop (mkF m 139 #[.val (.ref a1), .val (.int p1), .val (.int e1), .val (.int c1), .val (.int e2), .val (.int c2), .val (.int (2 : Int32)), .val (.int (ff p1.toNatClampNeg)), .val (.int (nx (ff p1.toNatClampNeg).toNatClampNeg)), .unset] [(.int c2), (.int (nx (ff p1.toNatClampNeg).toNatClampNeg))])) target
                      refine XS.icmpNo X_11.here hx rfl (hb hby d_chl_139) rfl (feq hc139).1 ?_
                      show Steps p.tables e below (T_11.setTop (mkF m 142 #[.val (.ref a1), .val (.int p1), .val (.int e1), .val (.int c1), .val (.int e2), .val (.int c2), .val (.int (2 : Int32)), .val (.int (ff p1.toNatClampNeg)), .val (.int (nx (ff p1.toNatClampNeg).toNatClampNeg)), .unset] [])) target
                      refine XS.iload X_11.here hx rfl (hb hby d_chl_142) rfl ?_
                      show Steps p.tables e below (T_11.setTop (mkF m 144 #[.val (.ref a1), .val (.int p1), .val (.int e1), .val (.int c1), .val (.int e2), .val (.int c2), .val (.int (2 : Int32)), .val (.int (ff p1.toNatClampNeg)), .val (.int (nx (ff p1.toNatClampNeg).toNatClampNeg)), .unset] [(.int (ff p1.toNatClampNeg))])) target
                      refine XS.iload X_11.here hx rfl (hb hby d_chl_144) rfl ?_
                      show Steps p.tables e below (T_11.setTop (mkF m 146 #[.val (.ref a1), .val (.int p1), .val (.int e1), .val (.int c1), .val (.int e2), .val (.int c2), .val (.int (2 : Int32)), .val (.int (ff p1.toNatClampNeg)), .val (.int (nx (ff p1.toNatClampNeg).toNatClampNeg)), .unset] [(.int c2), (.int (ff p1.toNatClampNeg))])) target
                      exact kt
                    by_cases hc146 : (ff p1.toNatClampNeg) = c2
                    · -- pc 146: yes
                      refine own_go (S' := T_11.setTop (mkF m 152 #[.val (.ref a1), .val (.int p1), .val (.int e1), .val (.int c1), .val (.int e2), .val (.int c2), .val (.int (2 : Int32)), .val (.int (ff p1.toNatClampNeg)), .val (.int (nx (ff p1.toNatClampNeg).toNatClampNeg)), .unset] [(.int c1), (.int (nx (ff p1.toNatClampNeg).toNatClampNeg))])) (fun target kt => ?_) ?_
                      · show Steps p.tables e below (T_11.setTop (mkF m 146 #[.val (.ref a1), .val (.int p1), .val (.int e1), .val (.int c1), .val (.int e2), .val (.int c2), .val (.int (2 : Int32)), .val (.int (ff p1.toNatClampNeg)), .val (.int (nx (ff p1.toNatClampNeg).toNatClampNeg)), .unset] [(.int c2), (.int (ff p1.toNatClampNeg))])) target
                        refine XS.icmpNo X_11.here hx rfl (hb hby d_chl_146) rfl (teq hc146).2 ?_
                        show Steps p.tables e below (T_11.setTop (mkF m 149 #[.val (.ref a1), .val (.int p1), .val (.int e1), .val (.int c1), .val (.int e2), .val (.int c2), .val (.int (2 : Int32)), .val (.int (ff p1.toNatClampNeg)), .val (.int (nx (ff p1.toNatClampNeg).toNatClampNeg)), .unset] [])) target
                        refine XS.iload X_11.here hx rfl (hb hby d_chl_149) rfl ?_
                        show Steps p.tables e below (T_11.setTop (mkF m 151 #[.val (.ref a1), .val (.int p1), .val (.int e1), .val (.int c1), .val (.int e2), .val (.int c2), .val (.int (2 : Int32)), .val (.int (ff p1.toNatClampNeg)), .val (.int (nx (ff p1.toNatClampNeg).toNatClampNeg)), .unset] [(.int (nx (ff p1.toNatClampNeg).toNatClampNeg))])) target
                        refine XS.iloadN X_11.here hx rfl (hb hby d_chl_151) rfl ?_
                        show Steps p.tables e below (T_11.setTop (mkF m 152 #[.val (.ref a1), .val (.int p1), .val (.int e1), .val (.int c1), .val (.int e2), .val (.int c2), .val (.int (2 : Int32)), .val (.int (ff p1.toNatClampNeg)), .val (.int (nx (ff p1.toNatClampNeg).toNatClampNeg)), .unset] [(.int c1), (.int (nx (ff p1.toNatClampNeg).toNatClampNeg))])) target
                        exact kt
                      by_cases hc152 : (nx (ff p1.toNatClampNeg).toNatClampNeg) = c1
                      · -- pc 152: yes
                        obtain ⟨cq_13, kq_13, q_13a, q_13b, q_13c⟩ := isOf hZ p_11_0 E1
                        obtain ⟨_, _, ⟨T_13, L_13, k_13, n_13⟩, -, X_13, ⟨Lc_13, hQ_13, l_13, y_13, z_13⟩, st_13⟩ := X_11.virtualBack hx (y := (⟨"com/example/filigree/filigree/engine/DecisionTree", "nextKept", "(I)I"⟩ : MethodName)) (z := (⟨"com/example/filigree/filigree/engine/DecisionTree", "nextKept", "(I)I"⟩ : MethodName)) hown (mvT hZ (hw _ (List.mem_of_getElem? (i := 56) rfl))) (mvT hZ (hw _ (List.mem_of_getElem? (i := 57) rfl))) (notFace_of_selects (args := #[]) (mvT hZ (hw _ (List.mem_of_getElem? (i := 59) rfl)))) (mvT hZ (hw _ (List.mem_of_getElem? (i := 59) rfl))) (mvT hZ (hw _ (List.mem_of_getElem? (i := 58) rfl))) (by decide) (backOf (W := 0) (rm_nxt l Z a0 hw [] a1 (nx (ff p1.toNatClampNeg).toNatClampNeg) b5_ k5_ nx h0 n0 Z0 F5_ V5_ ⟨hc118, hc124⟩) hZ (hw _ (List.mem_of_getElem? (i := 60) rfl)) (hw _ (List.mem_of_getElem? (i := 2) rfl)) (by decide) (by decide)) q_13a q_13c (g := (mkF m 170 #[.val (.ref a1), .val (.int p1), .val (.int e1), .val (.int c1), .val (.int e2), .val (.int c2), .val (.int (2 : Int32)), .val (.int (ff p1.toNatClampNeg)), .val (.int (nx (ff p1.toNatClampNeg).toNatClampNeg)), .val (.int (1 : Int32))] [(.int (nx (ff p1.toNatClampNeg).toNatClampNeg)), (.ref a1)])) rfl (by rw [hml]; rfl) (Steps.refl _) (argsL := [(.int (nx (ff p1.toNatClampNeg).toNatClampNeg))]) (rest := []) (lenOf pd_I_I rfl) rfl (by show 2 * 0 + _ ≤ _; exact Nat.le_of_eq rfl) (hb hby d_chl_170) (fun _ _ => ⟨rfl, p_11_0, (by decide : 0 + 0 ≤ _), (by decide : 0 + 0 ≤ _)⟩)
                        dsimp only [Pt.U, Pt.locs, Pt.cells, Pt.slots] at X_13 l_13 y_13 z_13 st_13 hQ_13
                        subst y_13 z_13
                        obtain ⟨rfl, N_13q, p_13_0⟩ := hQ_13
                        have N_13 : Fr n0 L_13 := by rw [l_13]; exact Fr.app N_11 N_13q
                        clear l_13
                        refine own_go (S' := T_13.setTop (mkF m 174 #[.val (.ref a1), .val (.int p1), .val (.int e1), .val (.int c1), .val (.int e2), .val (.int c2), .val (.int (2 : Int32)), .val (.int (ff p1.toNatClampNeg)), .val (.int (nx (ff p1.toNatClampNeg).toNatClampNeg)), .val (.int (1 : Int32))] [(.int (-1 : Int32)), (.int (nx (nx (ff p1.toNatClampNeg).toNatClampNeg).toNatClampNeg))])) (fun target kt => ?_) ?_
                        · show Steps p.tables e below (T_11.setTop (mkF m 152 #[.val (.ref a1), .val (.int p1), .val (.int e1), .val (.int c1), .val (.int e2), .val (.int c2), .val (.int (2 : Int32)), .val (.int (ff p1.toNatClampNeg)), .val (.int (nx (ff p1.toNatClampNeg).toNatClampNeg)), .unset] [(.int c1), (.int (nx (ff p1.toNatClampNeg).toNatClampNeg))])) target
                          refine XS.icmpNo X_11.here hx rfl (hb hby d_chl_152) rfl (teq hc152).2 ?_
                          show Steps p.tables e below (T_11.setTop (mkF m 155 #[.val (.ref a1), .val (.int p1), .val (.int e1), .val (.int c1), .val (.int e2), .val (.int c2), .val (.int (2 : Int32)), .val (.int (ff p1.toNatClampNeg)), .val (.int (nx (ff p1.toNatClampNeg).toNatClampNeg)), .unset] [])) target
                          refine XS.iconst X_11.here hx rfl (hb hby d_chl_155) ?_
                          show Steps p.tables e below (T_11.setTop (mkF m 156 #[.val (.ref a1), .val (.int p1), .val (.int e1), .val (.int c1), .val (.int e2), .val (.int c2), .val (.int (2 : Int32)), .val (.int (ff p1.toNatClampNeg)), .val (.int (nx (ff p1.toNatClampNeg).toNatClampNeg)), .unset] [(.int (1 : Int32))])) target
                          refine XS.goto X_11.here hx rfl (pc0 := 156) (pc' := 160) rfl (hb hby d_chl_156) (by decide) (by decide) ?_
                          show Steps p.tables e below (T_11.setTop (mkF m 160 #[.val (.ref a1), .val (.int p1), .val (.int e1), .val (.int c1), .val (.int e2), .val (.int c2), .val (.int (2 : Int32)), .val (.int (ff p1.toNatClampNeg)), .val (.int (nx (ff p1.toNatClampNeg).toNatClampNeg)), .unset] [(.int (1 : Int32))])) target
                          refine XS.istore X_11.here hx rfl (hb hby d_chl_160) rfl (l' := #[.val (.ref a1), .val (.int p1), .val (.int e1), .val (.int c1), .val (.int e2), .val (.int c2), .val (.int (2 : Int32)), .val (.int (ff p1.toNatClampNeg)), .val (.int (nx (ff p1.toNatClampNeg).toNatClampNeg)), .val (.int (1 : Int32))]) rfl ?_
                          show Steps p.tables e below (T_11.setTop (mkF m 162 #[.val (.ref a1), .val (.int p1), .val (.int e1), .val (.int c1), .val (.int e2), .val (.int c2), .val (.int (2 : Int32)), .val (.int (ff p1.toNatClampNeg)), .val (.int (nx (ff p1.toNatClampNeg).toNatClampNeg)), .val (.int (1 : Int32))] [])) target
                          refine XS.iload X_11.here hx rfl (hb hby d_chl_162) rfl ?_
                          show Steps p.tables e below (T_11.setTop (mkF m 164 #[.val (.ref a1), .val (.int p1), .val (.int e1), .val (.int c1), .val (.int e2), .val (.int c2), .val (.int (2 : Int32)), .val (.int (ff p1.toNatClampNeg)), .val (.int (nx (ff p1.toNatClampNeg).toNatClampNeg)), .val (.int (1 : Int32))] [(.int (1 : Int32))])) target
                          refine XS.ifNo X_11.here hx rfl (hb hby d_chl_164) rfl ((if0 _ _).trans (feq (by decide : ¬ ((1 : Int32) = (0 : Int32)))).1) ?_
                          show Steps p.tables e below (T_11.setTop (mkF m 167 #[.val (.ref a1), .val (.int p1), .val (.int e1), .val (.int c1), .val (.int e2), .val (.int c2), .val (.int (2 : Int32)), .val (.int (ff p1.toNatClampNeg)), .val (.int (nx (ff p1.toNatClampNeg).toNatClampNeg)), .val (.int (1 : Int32))] [])) target
                          refine XS.aloadN X_11.here hx rfl (hb hby d_chl_167) rfl rfl ?_
                          show Steps p.tables e below (T_11.setTop (mkF m 168 #[.val (.ref a1), .val (.int p1), .val (.int e1), .val (.int c1), .val (.int e2), .val (.int c2), .val (.int (2 : Int32)), .val (.int (ff p1.toNatClampNeg)), .val (.int (nx (ff p1.toNatClampNeg).toNatClampNeg)), .val (.int (1 : Int32))] [(.ref a1)])) target
                          refine XS.iload X_11.here hx rfl (hb hby d_chl_168) rfl ?_
                          show Steps p.tables e below (T_11.setTop (mkF m 170 #[.val (.ref a1), .val (.int p1), .val (.int e1), .val (.int c1), .val (.int e2), .val (.int c2), .val (.int (2 : Int32)), .val (.int (ff p1.toNatClampNeg)), .val (.int (nx (ff p1.toNatClampNeg).toNatClampNeg)), .val (.int (1 : Int32))] [(.int (nx (ff p1.toNatClampNeg).toNatClampNeg)), (.ref a1)])) target
                          refine st_13.trans ?_
                          show Steps p.tables e below (T_13.setTop (mkF m 173 #[.val (.ref a1), .val (.int p1), .val (.int e1), .val (.int c1), .val (.int e2), .val (.int c2), .val (.int (2 : Int32)), .val (.int (ff p1.toNatClampNeg)), .val (.int (nx (ff p1.toNatClampNeg).toNatClampNeg)), .val (.int (1 : Int32))] [(.int (nx (nx (ff p1.toNatClampNeg).toNatClampNeg).toNatClampNeg))])) target
                          refine XS.iconst X_13.here hx rfl (hb hby d_chl_173) ?_
                          show Steps p.tables e below (T_13.setTop (mkF m 174 #[.val (.ref a1), .val (.int p1), .val (.int e1), .val (.int c1), .val (.int e2), .val (.int c2), .val (.int (2 : Int32)), .val (.int (ff p1.toNatClampNeg)), .val (.int (nx (ff p1.toNatClampNeg).toNatClampNeg)), .val (.int (1 : Int32))] [(.int (-1 : Int32)), (.int (nx (nx (ff p1.toNatClampNeg).toNatClampNeg).toNatClampNeg))])) target
                          exact kt
                        by_cases hc174 : (nx (nx (ff p1.toNatClampNeg).toNatClampNeg).toNatClampNeg) = (-1 : Int32)
                        · -- pc 174: yes
                          refine own_go (S' := T_13.setTop (mkF m 182 #[.val (.ref a1), .val (.int p1), .val (.int e1), .val (.int c1), .val (.int e2), .val (.int c2), .val (.int (2 : Int32)), .val (.int (ff p1.toNatClampNeg)), .val (.int (nx (ff p1.toNatClampNeg).toNatClampNeg)), .val (.int (1 : Int32))] [(.int (1 : Int32))])) (fun target kt => ?_) ?_
                          · show Steps p.tables e below (T_13.setTop (mkF m 174 #[.val (.ref a1), .val (.int p1), .val (.int e1), .val (.int c1), .val (.int e2), .val (.int c2), .val (.int (2 : Int32)), .val (.int (ff p1.toNatClampNeg)), .val (.int (nx (ff p1.toNatClampNeg).toNatClampNeg)), .val (.int (1 : Int32))] [(.int (-1 : Int32)), (.int (nx (nx (ff p1.toNatClampNeg).toNatClampNeg).toNatClampNeg))])) target
                            refine XS.icmpNo X_13.here hx rfl (hb hby d_chl_174) rfl (teq hc174).2 ?_
                            show Steps p.tables e below (T_13.setTop (mkF m 177 #[.val (.ref a1), .val (.int p1), .val (.int e1), .val (.int c1), .val (.int e2), .val (.int c2), .val (.int (2 : Int32)), .val (.int (ff p1.toNatClampNeg)), .val (.int (nx (ff p1.toNatClampNeg).toNatClampNeg)), .val (.int (1 : Int32))] [])) target
                            refine XS.iconst X_13.here hx rfl (hb hby d_chl_177) ?_
                            show Steps p.tables e below (T_13.setTop (mkF m 178 #[.val (.ref a1), .val (.int p1), .val (.int e1), .val (.int c1), .val (.int e2), .val (.int c2), .val (.int (2 : Int32)), .val (.int (ff p1.toNatClampNeg)), .val (.int (nx (ff p1.toNatClampNeg).toNatClampNeg)), .val (.int (1 : Int32))] [(.int (1 : Int32))])) target
                            refine XS.goto X_13.here hx rfl (pc0 := 178) (pc' := 182) rfl (hb hby d_chl_178) (by decide) (by decide) ?_
                            show Steps p.tables e below (T_13.setTop (mkF m 182 #[.val (.ref a1), .val (.int p1), .val (.int e1), .val (.int c1), .val (.int e2), .val (.int c2), .val (.int (2 : Int32)), .val (.int (ff p1.toNatClampNeg)), .val (.int (nx (ff p1.toNatClampNeg).toNatClampNeg)), .val (.int (1 : Int32))] [(.int (1 : Int32))])) target
                            exact kt
                          obtain ⟨fs, hr, hrun, hended, hW, hsame⟩ := X_13.leave (v := some (.int (1 : Int32))) (fun h => by rw [Bd.returns] at h; cases h)
                          refine ⟨_, _, retN X_13 hx (t := .boolean) Bd.returns (by simp) (hb hby d_chl_182) hr, hrun, hended, _, _, rfl, ?_, ⟨_, rfl⟩, hW, hsame.mono (by decide) (by decide)⟩
                          show Q_chl Z a1 p1 e1 c1 e2 c2 ff kc nx b3_ b4_ b5_ k3_ k4_ k5_ h0 n0 _ T_13.heap _
                          rw [p_13_0]
                          exact ⟨(congrArg (fun z => some (Value.int z)) (own_chl_21 hc1 hc11 hc29 hc60 hc66 hc118 hc124 hc132 hc139 hc146 hc152 hc174)), N_13, rfl⟩
                        · -- pc 174: no
                          refine own_go (S' := T_13.setTop (mkF m 182 #[.val (.ref a1), .val (.int p1), .val (.int e1), .val (.int c1), .val (.int e2), .val (.int c2), .val (.int (2 : Int32)), .val (.int (ff p1.toNatClampNeg)), .val (.int (nx (ff p1.toNatClampNeg).toNatClampNeg)), .val (.int (1 : Int32))] [(.int (0 : Int32))])) (fun target kt => ?_) ?_
                          · show Steps p.tables e below (T_13.setTop (mkF m 174 #[.val (.ref a1), .val (.int p1), .val (.int e1), .val (.int c1), .val (.int e2), .val (.int c2), .val (.int (2 : Int32)), .val (.int (ff p1.toNatClampNeg)), .val (.int (nx (ff p1.toNatClampNeg).toNatClampNeg)), .val (.int (1 : Int32))] [(.int (-1 : Int32)), (.int (nx (nx (ff p1.toNatClampNeg).toNatClampNeg).toNatClampNeg))])) target
                            refine XS.icmpYes X_13.here hx rfl (pc0 := 174) (pc' := 181) rfl (hb hby d_chl_174) rfl (feq hc174).2 (by decide) (by decide) ?_
                            show Steps p.tables e below (T_13.setTop (mkF m 181 #[.val (.ref a1), .val (.int p1), .val (.int e1), .val (.int c1), .val (.int e2), .val (.int c2), .val (.int (2 : Int32)), .val (.int (ff p1.toNatClampNeg)), .val (.int (nx (ff p1.toNatClampNeg).toNatClampNeg)), .val (.int (1 : Int32))] [])) target
                            refine XS.iconst X_13.here hx rfl (hb hby d_chl_181) ?_
                            show Steps p.tables e below (T_13.setTop (mkF m 182 #[.val (.ref a1), .val (.int p1), .val (.int e1), .val (.int c1), .val (.int e2), .val (.int c2), .val (.int (2 : Int32)), .val (.int (ff p1.toNatClampNeg)), .val (.int (nx (ff p1.toNatClampNeg).toNatClampNeg)), .val (.int (1 : Int32))] [(.int (0 : Int32))])) target
                            exact kt
                          obtain ⟨fs, hr, hrun, hended, hW, hsame⟩ := X_13.leave (v := some (.int (0 : Int32))) (fun h => by rw [Bd.returns] at h; cases h)
                          refine ⟨_, _, retN X_13 hx (t := .boolean) Bd.returns (by simp) (hb hby d_chl_182) hr, hrun, hended, _, _, rfl, ?_, ⟨_, rfl⟩, hW, hsame.mono (by decide) (by decide)⟩
                          show Q_chl Z a1 p1 e1 c1 e2 c2 ff kc nx b3_ b4_ b5_ k3_ k4_ k5_ h0 n0 _ T_13.heap _
                          rw [p_13_0]
                          exact ⟨(congrArg (fun z => some (Value.int z)) (own_chl_22 hc1 hc11 hc29 hc60 hc66 hc118 hc124 hc132 hc139 hc146 hc152 hc174)), N_13, rfl⟩
                      · -- pc 152: no
                        refine own_go (S' := T_11.setTop (mkF m 182 #[.val (.ref a1), .val (.int p1), .val (.int e1), .val (.int c1), .val (.int e2), .val (.int c2), .val (.int (2 : Int32)), .val (.int (ff p1.toNatClampNeg)), .val (.int (nx (ff p1.toNatClampNeg).toNatClampNeg)), .val (.int (0 : Int32))] [(.int (0 : Int32))])) (fun target kt => ?_) ?_
                        · show Steps p.tables e below (T_11.setTop (mkF m 152 #[.val (.ref a1), .val (.int p1), .val (.int e1), .val (.int c1), .val (.int e2), .val (.int c2), .val (.int (2 : Int32)), .val (.int (ff p1.toNatClampNeg)), .val (.int (nx (ff p1.toNatClampNeg).toNatClampNeg)), .unset] [(.int c1), (.int (nx (ff p1.toNatClampNeg).toNatClampNeg))])) target
                          refine XS.icmpYes X_11.here hx rfl (pc0 := 152) (pc' := 159) rfl (hb hby d_chl_152) rfl (feq hc152).2 (by decide) (by decide) ?_
                          show Steps p.tables e below (T_11.setTop (mkF m 159 #[.val (.ref a1), .val (.int p1), .val (.int e1), .val (.int c1), .val (.int e2), .val (.int c2), .val (.int (2 : Int32)), .val (.int (ff p1.toNatClampNeg)), .val (.int (nx (ff p1.toNatClampNeg).toNatClampNeg)), .unset] [])) target
                          refine XS.iconst X_11.here hx rfl (hb hby d_chl_159) ?_
                          show Steps p.tables e below (T_11.setTop (mkF m 160 #[.val (.ref a1), .val (.int p1), .val (.int e1), .val (.int c1), .val (.int e2), .val (.int c2), .val (.int (2 : Int32)), .val (.int (ff p1.toNatClampNeg)), .val (.int (nx (ff p1.toNatClampNeg).toNatClampNeg)), .unset] [(.int (0 : Int32))])) target
                          refine XS.istore X_11.here hx rfl (hb hby d_chl_160) rfl (l' := #[.val (.ref a1), .val (.int p1), .val (.int e1), .val (.int c1), .val (.int e2), .val (.int c2), .val (.int (2 : Int32)), .val (.int (ff p1.toNatClampNeg)), .val (.int (nx (ff p1.toNatClampNeg).toNatClampNeg)), .val (.int (0 : Int32))]) rfl ?_
                          show Steps p.tables e below (T_11.setTop (mkF m 162 #[.val (.ref a1), .val (.int p1), .val (.int e1), .val (.int c1), .val (.int e2), .val (.int c2), .val (.int (2 : Int32)), .val (.int (ff p1.toNatClampNeg)), .val (.int (nx (ff p1.toNatClampNeg).toNatClampNeg)), .val (.int (0 : Int32))] [])) target
                          refine XS.iload X_11.here hx rfl (hb hby d_chl_162) rfl ?_
                          show Steps p.tables e below (T_11.setTop (mkF m 164 #[.val (.ref a1), .val (.int p1), .val (.int e1), .val (.int c1), .val (.int e2), .val (.int c2), .val (.int (2 : Int32)), .val (.int (ff p1.toNatClampNeg)), .val (.int (nx (ff p1.toNatClampNeg).toNatClampNeg)), .val (.int (0 : Int32))] [(.int (0 : Int32))])) target
                          refine XS.ifYes X_11.here hx rfl (pc0 := 164) (pc' := 181) rfl (hb hby d_chl_164) rfl ((if0 _ _).trans (teq (by decide : (0 : Int32) = (0 : Int32))).1) (by decide) (by decide) ?_
                          show Steps p.tables e below (T_11.setTop (mkF m 181 #[.val (.ref a1), .val (.int p1), .val (.int e1), .val (.int c1), .val (.int e2), .val (.int c2), .val (.int (2 : Int32)), .val (.int (ff p1.toNatClampNeg)), .val (.int (nx (ff p1.toNatClampNeg).toNatClampNeg)), .val (.int (0 : Int32))] [])) target
                          refine XS.iconst X_11.here hx rfl (hb hby d_chl_181) ?_
                          show Steps p.tables e below (T_11.setTop (mkF m 182 #[.val (.ref a1), .val (.int p1), .val (.int e1), .val (.int c1), .val (.int e2), .val (.int c2), .val (.int (2 : Int32)), .val (.int (ff p1.toNatClampNeg)), .val (.int (nx (ff p1.toNatClampNeg).toNatClampNeg)), .val (.int (0 : Int32))] [(.int (0 : Int32))])) target
                          exact kt
                        obtain ⟨fs, hr, hrun, hended, hW, hsame⟩ := X_11.leave (v := some (.int (0 : Int32))) (fun h => by rw [Bd.returns] at h; cases h)
                        refine ⟨_, _, retN X_11 hx (t := .boolean) Bd.returns (by simp) (hb hby d_chl_182) hr, hrun, hended, _, _, rfl, ?_, ⟨_, rfl⟩, hW, hsame.mono (by decide) (by decide)⟩
                        show Q_chl Z a1 p1 e1 c1 e2 c2 ff kc nx b3_ b4_ b5_ k3_ k4_ k5_ h0 n0 _ T_11.heap _
                        rw [p_11_0]
                        exact ⟨(congrArg (fun z => some (Value.int z)) (own_chl_23 hc1 hc11 hc29 hc60 hc66 hc118 hc124 hc132 hc139 hc146 hc152)), N_11, rfl⟩
                    · -- pc 146: no
                      refine own_go (S' := T_11.setTop (mkF m 182 #[.val (.ref a1), .val (.int p1), .val (.int e1), .val (.int c1), .val (.int e2), .val (.int c2), .val (.int (2 : Int32)), .val (.int (ff p1.toNatClampNeg)), .val (.int (nx (ff p1.toNatClampNeg).toNatClampNeg)), .val (.int (0 : Int32))] [(.int (0 : Int32))])) (fun target kt => ?_) ?_
                      · show Steps p.tables e below (T_11.setTop (mkF m 146 #[.val (.ref a1), .val (.int p1), .val (.int e1), .val (.int c1), .val (.int e2), .val (.int c2), .val (.int (2 : Int32)), .val (.int (ff p1.toNatClampNeg)), .val (.int (nx (ff p1.toNatClampNeg).toNatClampNeg)), .unset] [(.int c2), (.int (ff p1.toNatClampNeg))])) target
                        refine XS.icmpYes X_11.here hx rfl (pc0 := 146) (pc' := 159) rfl (hb hby d_chl_146) rfl (feq hc146).2 (by decide) (by decide) ?_
                        show Steps p.tables e below (T_11.setTop (mkF m 159 #[.val (.ref a1), .val (.int p1), .val (.int e1), .val (.int c1), .val (.int e2), .val (.int c2), .val (.int (2 : Int32)), .val (.int (ff p1.toNatClampNeg)), .val (.int (nx (ff p1.toNatClampNeg).toNatClampNeg)), .unset] [])) target
                        refine XS.iconst X_11.here hx rfl (hb hby d_chl_159) ?_
                        show Steps p.tables e below (T_11.setTop (mkF m 160 #[.val (.ref a1), .val (.int p1), .val (.int e1), .val (.int c1), .val (.int e2), .val (.int c2), .val (.int (2 : Int32)), .val (.int (ff p1.toNatClampNeg)), .val (.int (nx (ff p1.toNatClampNeg).toNatClampNeg)), .unset] [(.int (0 : Int32))])) target
                        refine XS.istore X_11.here hx rfl (hb hby d_chl_160) rfl (l' := #[.val (.ref a1), .val (.int p1), .val (.int e1), .val (.int c1), .val (.int e2), .val (.int c2), .val (.int (2 : Int32)), .val (.int (ff p1.toNatClampNeg)), .val (.int (nx (ff p1.toNatClampNeg).toNatClampNeg)), .val (.int (0 : Int32))]) rfl ?_
                        show Steps p.tables e below (T_11.setTop (mkF m 162 #[.val (.ref a1), .val (.int p1), .val (.int e1), .val (.int c1), .val (.int e2), .val (.int c2), .val (.int (2 : Int32)), .val (.int (ff p1.toNatClampNeg)), .val (.int (nx (ff p1.toNatClampNeg).toNatClampNeg)), .val (.int (0 : Int32))] [])) target
                        refine XS.iload X_11.here hx rfl (hb hby d_chl_162) rfl ?_
                        show Steps p.tables e below (T_11.setTop (mkF m 164 #[.val (.ref a1), .val (.int p1), .val (.int e1), .val (.int c1), .val (.int e2), .val (.int c2), .val (.int (2 : Int32)), .val (.int (ff p1.toNatClampNeg)), .val (.int (nx (ff p1.toNatClampNeg).toNatClampNeg)), .val (.int (0 : Int32))] [(.int (0 : Int32))])) target
                        refine XS.ifYes X_11.here hx rfl (pc0 := 164) (pc' := 181) rfl (hb hby d_chl_164) rfl ((if0 _ _).trans (teq (by decide : (0 : Int32) = (0 : Int32))).1) (by decide) (by decide) ?_
                        show Steps p.tables e below (T_11.setTop (mkF m 181 #[.val (.ref a1), .val (.int p1), .val (.int e1), .val (.int c1), .val (.int e2), .val (.int c2), .val (.int (2 : Int32)), .val (.int (ff p1.toNatClampNeg)), .val (.int (nx (ff p1.toNatClampNeg).toNatClampNeg)), .val (.int (0 : Int32))] [])) target
                        refine XS.iconst X_11.here hx rfl (hb hby d_chl_181) ?_
                        show Steps p.tables e below (T_11.setTop (mkF m 182 #[.val (.ref a1), .val (.int p1), .val (.int e1), .val (.int c1), .val (.int e2), .val (.int c2), .val (.int (2 : Int32)), .val (.int (ff p1.toNatClampNeg)), .val (.int (nx (ff p1.toNatClampNeg).toNatClampNeg)), .val (.int (0 : Int32))] [(.int (0 : Int32))])) target
                        exact kt
                      obtain ⟨fs, hr, hrun, hended, hW, hsame⟩ := X_11.leave (v := some (.int (0 : Int32))) (fun h => by rw [Bd.returns] at h; cases h)
                      refine ⟨_, _, retN X_11 hx (t := .boolean) Bd.returns (by simp) (hb hby d_chl_182) hr, hrun, hended, _, _, rfl, ?_, ⟨_, rfl⟩, hW, hsame.mono (by decide) (by decide)⟩
                      show Q_chl Z a1 p1 e1 c1 e2 c2 ff kc nx b3_ b4_ b5_ k3_ k4_ k5_ h0 n0 _ T_11.heap _
                      rw [p_11_0]
                      exact ⟨(congrArg (fun z => some (Value.int z)) (own_chl_24 hc1 hc11 hc29 hc60 hc66 hc118 hc124 hc132 hc139 hc146)), N_11, rfl⟩
                · -- pc 132: no
                  refine own_go (S' := T_11.setTop (mkF m 146 #[.val (.ref a1), .val (.int p1), .val (.int e1), .val (.int c1), .val (.int e2), .val (.int c2), .val (.int (2 : Int32)), .val (.int (ff p1.toNatClampNeg)), .val (.int (nx (ff p1.toNatClampNeg).toNatClampNeg)), .unset] [(.int c2), (.int (ff p1.toNatClampNeg))])) (fun target kt => ?_) ?_
                  · show Steps p.tables e below (T_11.setTop (mkF m 132 #[.val (.ref a1), .val (.int p1), .val (.int e1), .val (.int c1), .val (.int e2), .val (.int c2), .val (.int (2 : Int32)), .val (.int (ff p1.toNatClampNeg)), .val (.int (nx (ff p1.toNatClampNeg).toNatClampNeg)), .unset] [(.int c1), (.int (ff p1.toNatClampNeg))])) target
                    refine XS.icmpYes X_11.here hx rfl (pc0 := 132) (pc' := 142) rfl (hb hby d_chl_132) rfl (feq hc132).2 (by decide) (by decide) ?_
                    show Steps p.tables e below (T_11.setTop (mkF m 142 #[.val (.ref a1), .val (.int p1), .val (.int e1), .val (.int c1), .val (.int e2), .val (.int c2), .val (.int (2 : Int32)), .val (.int (ff p1.toNatClampNeg)), .val (.int (nx (ff p1.toNatClampNeg).toNatClampNeg)), .unset] [])) target
                    refine XS.iload X_11.here hx rfl (hb hby d_chl_142) rfl ?_
                    show Steps p.tables e below (T_11.setTop (mkF m 144 #[.val (.ref a1), .val (.int p1), .val (.int e1), .val (.int c1), .val (.int e2), .val (.int c2), .val (.int (2 : Int32)), .val (.int (ff p1.toNatClampNeg)), .val (.int (nx (ff p1.toNatClampNeg).toNatClampNeg)), .unset] [(.int (ff p1.toNatClampNeg))])) target
                    refine XS.iload X_11.here hx rfl (hb hby d_chl_144) rfl ?_
                    show Steps p.tables e below (T_11.setTop (mkF m 146 #[.val (.ref a1), .val (.int p1), .val (.int e1), .val (.int c1), .val (.int e2), .val (.int c2), .val (.int (2 : Int32)), .val (.int (ff p1.toNatClampNeg)), .val (.int (nx (ff p1.toNatClampNeg).toNatClampNeg)), .unset] [(.int c2), (.int (ff p1.toNatClampNeg))])) target
                    exact kt
                  by_cases hc146 : (ff p1.toNatClampNeg) = c2
                  · -- pc 146: yes
                    refine own_go (S' := T_11.setTop (mkF m 152 #[.val (.ref a1), .val (.int p1), .val (.int e1), .val (.int c1), .val (.int e2), .val (.int c2), .val (.int (2 : Int32)), .val (.int (ff p1.toNatClampNeg)), .val (.int (nx (ff p1.toNatClampNeg).toNatClampNeg)), .unset] [(.int c1), (.int (nx (ff p1.toNatClampNeg).toNatClampNeg))])) (fun target kt => ?_) ?_
                    · show Steps p.tables e below (T_11.setTop (mkF m 146 #[.val (.ref a1), .val (.int p1), .val (.int e1), .val (.int c1), .val (.int e2), .val (.int c2), .val (.int (2 : Int32)), .val (.int (ff p1.toNatClampNeg)), .val (.int (nx (ff p1.toNatClampNeg).toNatClampNeg)), .unset] [(.int c2), (.int (ff p1.toNatClampNeg))])) target
                      refine XS.icmpNo X_11.here hx rfl (hb hby d_chl_146) rfl (teq hc146).2 ?_
                      show Steps p.tables e below (T_11.setTop (mkF m 149 #[.val (.ref a1), .val (.int p1), .val (.int e1), .val (.int c1), .val (.int e2), .val (.int c2), .val (.int (2 : Int32)), .val (.int (ff p1.toNatClampNeg)), .val (.int (nx (ff p1.toNatClampNeg).toNatClampNeg)), .unset] [])) target
                      refine XS.iload X_11.here hx rfl (hb hby d_chl_149) rfl ?_
                      show Steps p.tables e below (T_11.setTop (mkF m 151 #[.val (.ref a1), .val (.int p1), .val (.int e1), .val (.int c1), .val (.int e2), .val (.int c2), .val (.int (2 : Int32)), .val (.int (ff p1.toNatClampNeg)), .val (.int (nx (ff p1.toNatClampNeg).toNatClampNeg)), .unset] [(.int (nx (ff p1.toNatClampNeg).toNatClampNeg))])) target
                      refine XS.iloadN X_11.here hx rfl (hb hby d_chl_151) rfl ?_
                      show Steps p.tables e below (T_11.setTop (mkF m 152 #[.val (.ref a1), .val (.int p1), .val (.int e1), .val (.int c1), .val (.int e2), .val (.int c2), .val (.int (2 : Int32)), .val (.int (ff p1.toNatClampNeg)), .val (.int (nx (ff p1.toNatClampNeg).toNatClampNeg)), .unset] [(.int c1), (.int (nx (ff p1.toNatClampNeg).toNatClampNeg))])) target
                      exact kt
                    by_cases hc152 : (nx (ff p1.toNatClampNeg).toNatClampNeg) = c1
                    · -- pc 152: yes
                      obtain ⟨cq_14, kq_14, q_14a, q_14b, q_14c⟩ := isOf hZ p_11_0 E1
                      obtain ⟨_, _, ⟨T_14, L_14, k_14, n_14⟩, -, X_14, ⟨Lc_14, hQ_14, l_14, y_14, z_14⟩, st_14⟩ := X_11.virtualBack hx (y := (⟨"com/example/filigree/filigree/engine/DecisionTree", "nextKept", "(I)I"⟩ : MethodName)) (z := (⟨"com/example/filigree/filigree/engine/DecisionTree", "nextKept", "(I)I"⟩ : MethodName)) hown (mvT hZ (hw _ (List.mem_of_getElem? (i := 56) rfl))) (mvT hZ (hw _ (List.mem_of_getElem? (i := 57) rfl))) (notFace_of_selects (args := #[]) (mvT hZ (hw _ (List.mem_of_getElem? (i := 59) rfl)))) (mvT hZ (hw _ (List.mem_of_getElem? (i := 59) rfl))) (mvT hZ (hw _ (List.mem_of_getElem? (i := 58) rfl))) (by decide) (backOf (W := 0) (rm_nxt l Z a0 hw [] a1 (nx (ff p1.toNatClampNeg).toNatClampNeg) b5_ k5_ nx h0 n0 Z0 F5_ V5_ ⟨hc118, hc124⟩) hZ (hw _ (List.mem_of_getElem? (i := 60) rfl)) (hw _ (List.mem_of_getElem? (i := 2) rfl)) (by decide) (by decide)) q_14a q_14c (g := (mkF m 170 #[.val (.ref a1), .val (.int p1), .val (.int e1), .val (.int c1), .val (.int e2), .val (.int c2), .val (.int (2 : Int32)), .val (.int (ff p1.toNatClampNeg)), .val (.int (nx (ff p1.toNatClampNeg).toNatClampNeg)), .val (.int (1 : Int32))] [(.int (nx (ff p1.toNatClampNeg).toNatClampNeg)), (.ref a1)])) rfl (by rw [hml]; rfl) (Steps.refl _) (argsL := [(.int (nx (ff p1.toNatClampNeg).toNatClampNeg))]) (rest := []) (lenOf pd_I_I rfl) rfl (by show 2 * 0 + _ ≤ _; exact Nat.le_of_eq rfl) (hb hby d_chl_170) (fun _ _ => ⟨rfl, p_11_0, (by decide : 0 + 0 ≤ _), (by decide : 0 + 0 ≤ _)⟩)
                      dsimp only [Pt.U, Pt.locs, Pt.cells, Pt.slots] at X_14 l_14 y_14 z_14 st_14 hQ_14
                      subst y_14 z_14
                      obtain ⟨rfl, N_14q, p_14_0⟩ := hQ_14
                      have N_14 : Fr n0 L_14 := by rw [l_14]; exact Fr.app N_11 N_14q
                      clear l_14
                      refine own_go (S' := T_14.setTop (mkF m 174 #[.val (.ref a1), .val (.int p1), .val (.int e1), .val (.int c1), .val (.int e2), .val (.int c2), .val (.int (2 : Int32)), .val (.int (ff p1.toNatClampNeg)), .val (.int (nx (ff p1.toNatClampNeg).toNatClampNeg)), .val (.int (1 : Int32))] [(.int (-1 : Int32)), (.int (nx (nx (ff p1.toNatClampNeg).toNatClampNeg).toNatClampNeg))])) (fun target kt => ?_) ?_
                      · show Steps p.tables e below (T_11.setTop (mkF m 152 #[.val (.ref a1), .val (.int p1), .val (.int e1), .val (.int c1), .val (.int e2), .val (.int c2), .val (.int (2 : Int32)), .val (.int (ff p1.toNatClampNeg)), .val (.int (nx (ff p1.toNatClampNeg).toNatClampNeg)), .unset] [(.int c1), (.int (nx (ff p1.toNatClampNeg).toNatClampNeg))])) target
                        refine XS.icmpNo X_11.here hx rfl (hb hby d_chl_152) rfl (teq hc152).2 ?_
                        show Steps p.tables e below (T_11.setTop (mkF m 155 #[.val (.ref a1), .val (.int p1), .val (.int e1), .val (.int c1), .val (.int e2), .val (.int c2), .val (.int (2 : Int32)), .val (.int (ff p1.toNatClampNeg)), .val (.int (nx (ff p1.toNatClampNeg).toNatClampNeg)), .unset] [])) target
                        refine XS.iconst X_11.here hx rfl (hb hby d_chl_155) ?_
                        show Steps p.tables e below (T_11.setTop (mkF m 156 #[.val (.ref a1), .val (.int p1), .val (.int e1), .val (.int c1), .val (.int e2), .val (.int c2), .val (.int (2 : Int32)), .val (.int (ff p1.toNatClampNeg)), .val (.int (nx (ff p1.toNatClampNeg).toNatClampNeg)), .unset] [(.int (1 : Int32))])) target
                        refine XS.goto X_11.here hx rfl (pc0 := 156) (pc' := 160) rfl (hb hby d_chl_156) (by decide) (by decide) ?_
                        show Steps p.tables e below (T_11.setTop (mkF m 160 #[.val (.ref a1), .val (.int p1), .val (.int e1), .val (.int c1), .val (.int e2), .val (.int c2), .val (.int (2 : Int32)), .val (.int (ff p1.toNatClampNeg)), .val (.int (nx (ff p1.toNatClampNeg).toNatClampNeg)), .unset] [(.int (1 : Int32))])) target
                        refine XS.istore X_11.here hx rfl (hb hby d_chl_160) rfl (l' := #[.val (.ref a1), .val (.int p1), .val (.int e1), .val (.int c1), .val (.int e2), .val (.int c2), .val (.int (2 : Int32)), .val (.int (ff p1.toNatClampNeg)), .val (.int (nx (ff p1.toNatClampNeg).toNatClampNeg)), .val (.int (1 : Int32))]) rfl ?_
                        show Steps p.tables e below (T_11.setTop (mkF m 162 #[.val (.ref a1), .val (.int p1), .val (.int e1), .val (.int c1), .val (.int e2), .val (.int c2), .val (.int (2 : Int32)), .val (.int (ff p1.toNatClampNeg)), .val (.int (nx (ff p1.toNatClampNeg).toNatClampNeg)), .val (.int (1 : Int32))] [])) target
                        refine XS.iload X_11.here hx rfl (hb hby d_chl_162) rfl ?_
                        show Steps p.tables e below (T_11.setTop (mkF m 164 #[.val (.ref a1), .val (.int p1), .val (.int e1), .val (.int c1), .val (.int e2), .val (.int c2), .val (.int (2 : Int32)), .val (.int (ff p1.toNatClampNeg)), .val (.int (nx (ff p1.toNatClampNeg).toNatClampNeg)), .val (.int (1 : Int32))] [(.int (1 : Int32))])) target
                        refine XS.ifNo X_11.here hx rfl (hb hby d_chl_164) rfl ((if0 _ _).trans (feq (by decide : ¬ ((1 : Int32) = (0 : Int32)))).1) ?_
                        show Steps p.tables e below (T_11.setTop (mkF m 167 #[.val (.ref a1), .val (.int p1), .val (.int e1), .val (.int c1), .val (.int e2), .val (.int c2), .val (.int (2 : Int32)), .val (.int (ff p1.toNatClampNeg)), .val (.int (nx (ff p1.toNatClampNeg).toNatClampNeg)), .val (.int (1 : Int32))] [])) target
                        refine XS.aloadN X_11.here hx rfl (hb hby d_chl_167) rfl rfl ?_
                        show Steps p.tables e below (T_11.setTop (mkF m 168 #[.val (.ref a1), .val (.int p1), .val (.int e1), .val (.int c1), .val (.int e2), .val (.int c2), .val (.int (2 : Int32)), .val (.int (ff p1.toNatClampNeg)), .val (.int (nx (ff p1.toNatClampNeg).toNatClampNeg)), .val (.int (1 : Int32))] [(.ref a1)])) target
                        refine XS.iload X_11.here hx rfl (hb hby d_chl_168) rfl ?_
                        show Steps p.tables e below (T_11.setTop (mkF m 170 #[.val (.ref a1), .val (.int p1), .val (.int e1), .val (.int c1), .val (.int e2), .val (.int c2), .val (.int (2 : Int32)), .val (.int (ff p1.toNatClampNeg)), .val (.int (nx (ff p1.toNatClampNeg).toNatClampNeg)), .val (.int (1 : Int32))] [(.int (nx (ff p1.toNatClampNeg).toNatClampNeg)), (.ref a1)])) target
                        refine st_14.trans ?_
                        show Steps p.tables e below (T_14.setTop (mkF m 173 #[.val (.ref a1), .val (.int p1), .val (.int e1), .val (.int c1), .val (.int e2), .val (.int c2), .val (.int (2 : Int32)), .val (.int (ff p1.toNatClampNeg)), .val (.int (nx (ff p1.toNatClampNeg).toNatClampNeg)), .val (.int (1 : Int32))] [(.int (nx (nx (ff p1.toNatClampNeg).toNatClampNeg).toNatClampNeg))])) target
                        refine XS.iconst X_14.here hx rfl (hb hby d_chl_173) ?_
                        show Steps p.tables e below (T_14.setTop (mkF m 174 #[.val (.ref a1), .val (.int p1), .val (.int e1), .val (.int c1), .val (.int e2), .val (.int c2), .val (.int (2 : Int32)), .val (.int (ff p1.toNatClampNeg)), .val (.int (nx (ff p1.toNatClampNeg).toNatClampNeg)), .val (.int (1 : Int32))] [(.int (-1 : Int32)), (.int (nx (nx (ff p1.toNatClampNeg).toNatClampNeg).toNatClampNeg))])) target
                        exact kt
                      by_cases hc174 : (nx (nx (ff p1.toNatClampNeg).toNatClampNeg).toNatClampNeg) = (-1 : Int32)
                      · -- pc 174: yes
                        refine own_go (S' := T_14.setTop (mkF m 182 #[.val (.ref a1), .val (.int p1), .val (.int e1), .val (.int c1), .val (.int e2), .val (.int c2), .val (.int (2 : Int32)), .val (.int (ff p1.toNatClampNeg)), .val (.int (nx (ff p1.toNatClampNeg).toNatClampNeg)), .val (.int (1 : Int32))] [(.int (1 : Int32))])) (fun target kt => ?_) ?_
                        · show Steps p.tables e below (T_14.setTop (mkF m 174 #[.val (.ref a1), .val (.int p1), .val (.int e1), .val (.int c1), .val (.int e2), .val (.int c2), .val (.int (2 : Int32)), .val (.int (ff p1.toNatClampNeg)), .val (.int (nx (ff p1.toNatClampNeg).toNatClampNeg)), .val (.int (1 : Int32))] [(.int (-1 : Int32)), (.int (nx (nx (ff p1.toNatClampNeg).toNatClampNeg).toNatClampNeg))])) target
                          refine XS.icmpNo X_14.here hx rfl (hb hby d_chl_174) rfl (teq hc174).2 ?_
                          show Steps p.tables e below (T_14.setTop (mkF m 177 #[.val (.ref a1), .val (.int p1), .val (.int e1), .val (.int c1), .val (.int e2), .val (.int c2), .val (.int (2 : Int32)), .val (.int (ff p1.toNatClampNeg)), .val (.int (nx (ff p1.toNatClampNeg).toNatClampNeg)), .val (.int (1 : Int32))] [])) target
                          refine XS.iconst X_14.here hx rfl (hb hby d_chl_177) ?_
                          show Steps p.tables e below (T_14.setTop (mkF m 178 #[.val (.ref a1), .val (.int p1), .val (.int e1), .val (.int c1), .val (.int e2), .val (.int c2), .val (.int (2 : Int32)), .val (.int (ff p1.toNatClampNeg)), .val (.int (nx (ff p1.toNatClampNeg).toNatClampNeg)), .val (.int (1 : Int32))] [(.int (1 : Int32))])) target
                          refine XS.goto X_14.here hx rfl (pc0 := 178) (pc' := 182) rfl (hb hby d_chl_178) (by decide) (by decide) ?_
                          show Steps p.tables e below (T_14.setTop (mkF m 182 #[.val (.ref a1), .val (.int p1), .val (.int e1), .val (.int c1), .val (.int e2), .val (.int c2), .val (.int (2 : Int32)), .val (.int (ff p1.toNatClampNeg)), .val (.int (nx (ff p1.toNatClampNeg).toNatClampNeg)), .val (.int (1 : Int32))] [(.int (1 : Int32))])) target
                          exact kt
                        obtain ⟨fs, hr, hrun, hended, hW, hsame⟩ := X_14.leave (v := some (.int (1 : Int32))) (fun h => by rw [Bd.returns] at h; cases h)
                        refine ⟨_, _, retN X_14 hx (t := .boolean) Bd.returns (by simp) (hb hby d_chl_182) hr, hrun, hended, _, _, rfl, ?_, ⟨_, rfl⟩, hW, hsame.mono (by decide) (by decide)⟩
                        show Q_chl Z a1 p1 e1 c1 e2 c2 ff kc nx b3_ b4_ b5_ k3_ k4_ k5_ h0 n0 _ T_14.heap _
                        rw [p_14_0]
                        exact ⟨(congrArg (fun z => some (Value.int z)) (own_chl_25 hc1 hc11 hc29 hc60 hc66 hc118 hc124 hc132 hc146 hc152 hc174)), N_14, rfl⟩
                      · -- pc 174: no
                        refine own_go (S' := T_14.setTop (mkF m 182 #[.val (.ref a1), .val (.int p1), .val (.int e1), .val (.int c1), .val (.int e2), .val (.int c2), .val (.int (2 : Int32)), .val (.int (ff p1.toNatClampNeg)), .val (.int (nx (ff p1.toNatClampNeg).toNatClampNeg)), .val (.int (1 : Int32))] [(.int (0 : Int32))])) (fun target kt => ?_) ?_
                        · show Steps p.tables e below (T_14.setTop (mkF m 174 #[.val (.ref a1), .val (.int p1), .val (.int e1), .val (.int c1), .val (.int e2), .val (.int c2), .val (.int (2 : Int32)), .val (.int (ff p1.toNatClampNeg)), .val (.int (nx (ff p1.toNatClampNeg).toNatClampNeg)), .val (.int (1 : Int32))] [(.int (-1 : Int32)), (.int (nx (nx (ff p1.toNatClampNeg).toNatClampNeg).toNatClampNeg))])) target
                          refine XS.icmpYes X_14.here hx rfl (pc0 := 174) (pc' := 181) rfl (hb hby d_chl_174) rfl (feq hc174).2 (by decide) (by decide) ?_
                          show Steps p.tables e below (T_14.setTop (mkF m 181 #[.val (.ref a1), .val (.int p1), .val (.int e1), .val (.int c1), .val (.int e2), .val (.int c2), .val (.int (2 : Int32)), .val (.int (ff p1.toNatClampNeg)), .val (.int (nx (ff p1.toNatClampNeg).toNatClampNeg)), .val (.int (1 : Int32))] [])) target
                          refine XS.iconst X_14.here hx rfl (hb hby d_chl_181) ?_
                          show Steps p.tables e below (T_14.setTop (mkF m 182 #[.val (.ref a1), .val (.int p1), .val (.int e1), .val (.int c1), .val (.int e2), .val (.int c2), .val (.int (2 : Int32)), .val (.int (ff p1.toNatClampNeg)), .val (.int (nx (ff p1.toNatClampNeg).toNatClampNeg)), .val (.int (1 : Int32))] [(.int (0 : Int32))])) target
                          exact kt
                        obtain ⟨fs, hr, hrun, hended, hW, hsame⟩ := X_14.leave (v := some (.int (0 : Int32))) (fun h => by rw [Bd.returns] at h; cases h)
                        refine ⟨_, _, retN X_14 hx (t := .boolean) Bd.returns (by simp) (hb hby d_chl_182) hr, hrun, hended, _, _, rfl, ?_, ⟨_, rfl⟩, hW, hsame.mono (by decide) (by decide)⟩
                        show Q_chl Z a1 p1 e1 c1 e2 c2 ff kc nx b3_ b4_ b5_ k3_ k4_ k5_ h0 n0 _ T_14.heap _
                        rw [p_14_0]
                        exact ⟨(congrArg (fun z => some (Value.int z)) (own_chl_26 hc1 hc11 hc29 hc60 hc66 hc118 hc124 hc132 hc146 hc152 hc174)), N_14, rfl⟩
                    · -- pc 152: no
                      refine own_go (S' := T_11.setTop (mkF m 182 #[.val (.ref a1), .val (.int p1), .val (.int e1), .val (.int c1), .val (.int e2), .val (.int c2), .val (.int (2 : Int32)), .val (.int (ff p1.toNatClampNeg)), .val (.int (nx (ff p1.toNatClampNeg).toNatClampNeg)), .val (.int (0 : Int32))] [(.int (0 : Int32))])) (fun target kt => ?_) ?_
                      · show Steps p.tables e below (T_11.setTop (mkF m 152 #[.val (.ref a1), .val (.int p1), .val (.int e1), .val (.int c1), .val (.int e2), .val (.int c2), .val (.int (2 : Int32)), .val (.int (ff p1.toNatClampNeg)), .val (.int (nx (ff p1.toNatClampNeg).toNatClampNeg)), .unset] [(.int c1), (.int (nx (ff p1.toNatClampNeg).toNatClampNeg))])) target
                        refine XS.icmpYes X_11.here hx rfl (pc0 := 152) (pc' := 159) rfl (hb hby d_chl_152) rfl (feq hc152).2 (by decide) (by decide) ?_
                        show Steps p.tables e below (T_11.setTop (mkF m 159 #[.val (.ref a1), .val (.int p1), .val (.int e1), .val (.int c1), .val (.int e2), .val (.int c2), .val (.int (2 : Int32)), .val (.int (ff p1.toNatClampNeg)), .val (.int (nx (ff p1.toNatClampNeg).toNatClampNeg)), .unset] [])) target
                        refine XS.iconst X_11.here hx rfl (hb hby d_chl_159) ?_
                        show Steps p.tables e below (T_11.setTop (mkF m 160 #[.val (.ref a1), .val (.int p1), .val (.int e1), .val (.int c1), .val (.int e2), .val (.int c2), .val (.int (2 : Int32)), .val (.int (ff p1.toNatClampNeg)), .val (.int (nx (ff p1.toNatClampNeg).toNatClampNeg)), .unset] [(.int (0 : Int32))])) target
                        refine XS.istore X_11.here hx rfl (hb hby d_chl_160) rfl (l' := #[.val (.ref a1), .val (.int p1), .val (.int e1), .val (.int c1), .val (.int e2), .val (.int c2), .val (.int (2 : Int32)), .val (.int (ff p1.toNatClampNeg)), .val (.int (nx (ff p1.toNatClampNeg).toNatClampNeg)), .val (.int (0 : Int32))]) rfl ?_
                        show Steps p.tables e below (T_11.setTop (mkF m 162 #[.val (.ref a1), .val (.int p1), .val (.int e1), .val (.int c1), .val (.int e2), .val (.int c2), .val (.int (2 : Int32)), .val (.int (ff p1.toNatClampNeg)), .val (.int (nx (ff p1.toNatClampNeg).toNatClampNeg)), .val (.int (0 : Int32))] [])) target
                        refine XS.iload X_11.here hx rfl (hb hby d_chl_162) rfl ?_
                        show Steps p.tables e below (T_11.setTop (mkF m 164 #[.val (.ref a1), .val (.int p1), .val (.int e1), .val (.int c1), .val (.int e2), .val (.int c2), .val (.int (2 : Int32)), .val (.int (ff p1.toNatClampNeg)), .val (.int (nx (ff p1.toNatClampNeg).toNatClampNeg)), .val (.int (0 : Int32))] [(.int (0 : Int32))])) target
                        refine XS.ifYes X_11.here hx rfl (pc0 := 164) (pc' := 181) rfl (hb hby d_chl_164) rfl ((if0 _ _).trans (teq (by decide : (0 : Int32) = (0 : Int32))).1) (by decide) (by decide) ?_
                        show Steps p.tables e below (T_11.setTop (mkF m 181 #[.val (.ref a1), .val (.int p1), .val (.int e1), .val (.int c1), .val (.int e2), .val (.int c2), .val (.int (2 : Int32)), .val (.int (ff p1.toNatClampNeg)), .val (.int (nx (ff p1.toNatClampNeg).toNatClampNeg)), .val (.int (0 : Int32))] [])) target
                        refine XS.iconst X_11.here hx rfl (hb hby d_chl_181) ?_
                        show Steps p.tables e below (T_11.setTop (mkF m 182 #[.val (.ref a1), .val (.int p1), .val (.int e1), .val (.int c1), .val (.int e2), .val (.int c2), .val (.int (2 : Int32)), .val (.int (ff p1.toNatClampNeg)), .val (.int (nx (ff p1.toNatClampNeg).toNatClampNeg)), .val (.int (0 : Int32))] [(.int (0 : Int32))])) target
                        exact kt
                      obtain ⟨fs, hr, hrun, hended, hW, hsame⟩ := X_11.leave (v := some (.int (0 : Int32))) (fun h => by rw [Bd.returns] at h; cases h)
                      refine ⟨_, _, retN X_11 hx (t := .boolean) Bd.returns (by simp) (hb hby d_chl_182) hr, hrun, hended, _, _, rfl, ?_, ⟨_, rfl⟩, hW, hsame.mono (by decide) (by decide)⟩
                      show Q_chl Z a1 p1 e1 c1 e2 c2 ff kc nx b3_ b4_ b5_ k3_ k4_ k5_ h0 n0 _ T_11.heap _
                      rw [p_11_0]
                      exact ⟨(congrArg (fun z => some (Value.int z)) (own_chl_27 hc1 hc11 hc29 hc60 hc66 hc118 hc124 hc132 hc146 hc152)), N_11, rfl⟩
                  · -- pc 146: no
                    refine own_go (S' := T_11.setTop (mkF m 182 #[.val (.ref a1), .val (.int p1), .val (.int e1), .val (.int c1), .val (.int e2), .val (.int c2), .val (.int (2 : Int32)), .val (.int (ff p1.toNatClampNeg)), .val (.int (nx (ff p1.toNatClampNeg).toNatClampNeg)), .val (.int (0 : Int32))] [(.int (0 : Int32))])) (fun target kt => ?_) ?_
                    · show Steps p.tables e below (T_11.setTop (mkF m 146 #[.val (.ref a1), .val (.int p1), .val (.int e1), .val (.int c1), .val (.int e2), .val (.int c2), .val (.int (2 : Int32)), .val (.int (ff p1.toNatClampNeg)), .val (.int (nx (ff p1.toNatClampNeg).toNatClampNeg)), .unset] [(.int c2), (.int (ff p1.toNatClampNeg))])) target
                      refine XS.icmpYes X_11.here hx rfl (pc0 := 146) (pc' := 159) rfl (hb hby d_chl_146) rfl (feq hc146).2 (by decide) (by decide) ?_
                      show Steps p.tables e below (T_11.setTop (mkF m 159 #[.val (.ref a1), .val (.int p1), .val (.int e1), .val (.int c1), .val (.int e2), .val (.int c2), .val (.int (2 : Int32)), .val (.int (ff p1.toNatClampNeg)), .val (.int (nx (ff p1.toNatClampNeg).toNatClampNeg)), .unset] [])) target
                      refine XS.iconst X_11.here hx rfl (hb hby d_chl_159) ?_
                      show Steps p.tables e below (T_11.setTop (mkF m 160 #[.val (.ref a1), .val (.int p1), .val (.int e1), .val (.int c1), .val (.int e2), .val (.int c2), .val (.int (2 : Int32)), .val (.int (ff p1.toNatClampNeg)), .val (.int (nx (ff p1.toNatClampNeg).toNatClampNeg)), .unset] [(.int (0 : Int32))])) target
                      refine XS.istore X_11.here hx rfl (hb hby d_chl_160) rfl (l' := #[.val (.ref a1), .val (.int p1), .val (.int e1), .val (.int c1), .val (.int e2), .val (.int c2), .val (.int (2 : Int32)), .val (.int (ff p1.toNatClampNeg)), .val (.int (nx (ff p1.toNatClampNeg).toNatClampNeg)), .val (.int (0 : Int32))]) rfl ?_
                      show Steps p.tables e below (T_11.setTop (mkF m 162 #[.val (.ref a1), .val (.int p1), .val (.int e1), .val (.int c1), .val (.int e2), .val (.int c2), .val (.int (2 : Int32)), .val (.int (ff p1.toNatClampNeg)), .val (.int (nx (ff p1.toNatClampNeg).toNatClampNeg)), .val (.int (0 : Int32))] [])) target
                      refine XS.iload X_11.here hx rfl (hb hby d_chl_162) rfl ?_
                      show Steps p.tables e below (T_11.setTop (mkF m 164 #[.val (.ref a1), .val (.int p1), .val (.int e1), .val (.int c1), .val (.int e2), .val (.int c2), .val (.int (2 : Int32)), .val (.int (ff p1.toNatClampNeg)), .val (.int (nx (ff p1.toNatClampNeg).toNatClampNeg)), .val (.int (0 : Int32))] [(.int (0 : Int32))])) target
                      refine XS.ifYes X_11.here hx rfl (pc0 := 164) (pc' := 181) rfl (hb hby d_chl_164) rfl ((if0 _ _).trans (teq (by decide : (0 : Int32) = (0 : Int32))).1) (by decide) (by decide) ?_
                      show Steps p.tables e below (T_11.setTop (mkF m 181 #[.val (.ref a1), .val (.int p1), .val (.int e1), .val (.int c1), .val (.int e2), .val (.int c2), .val (.int (2 : Int32)), .val (.int (ff p1.toNatClampNeg)), .val (.int (nx (ff p1.toNatClampNeg).toNatClampNeg)), .val (.int (0 : Int32))] [])) target
                      refine XS.iconst X_11.here hx rfl (hb hby d_chl_181) ?_
                      show Steps p.tables e below (T_11.setTop (mkF m 182 #[.val (.ref a1), .val (.int p1), .val (.int e1), .val (.int c1), .val (.int e2), .val (.int c2), .val (.int (2 : Int32)), .val (.int (ff p1.toNatClampNeg)), .val (.int (nx (ff p1.toNatClampNeg).toNatClampNeg)), .val (.int (0 : Int32))] [(.int (0 : Int32))])) target
                      exact kt
                    obtain ⟨fs, hr, hrun, hended, hW, hsame⟩ := X_11.leave (v := some (.int (0 : Int32))) (fun h => by rw [Bd.returns] at h; cases h)
                    refine ⟨_, _, retN X_11 hx (t := .boolean) Bd.returns (by simp) (hb hby d_chl_182) hr, hrun, hended, _, _, rfl, ?_, ⟨_, rfl⟩, hW, hsame.mono (by decide) (by decide)⟩
                    show Q_chl Z a1 p1 e1 c1 e2 c2 ff kc nx b3_ b4_ b5_ k3_ k4_ k5_ h0 n0 _ T_11.heap _
                    rw [p_11_0]
                    exact ⟨(congrArg (fun z => some (Value.int z)) (own_chl_28 hc1 hc11 hc29 hc60 hc66 hc118 hc124 hc132 hc146)), N_11, rfl⟩
      · -- pc 29: no
        refine own_go (S' := T_9.setTop (mkF m 33 #[.val (.ref a1), .val (.int p1), .val (.int e1), .val (.int c1), .val (.int e2), .val (.int c2), .val (.int (2 : Int32)), .unset, .unset, .unset] [(.int (0 : Int32))])) (fun target kt => ?_) ?_
        · show Steps p.tables e below (T_9.setTop (mkF m 29 #[.val (.ref a1), .val (.int p1), .val (.int e1), .val (.int c1), .val (.int e2), .val (.int c2), .val (.int (2 : Int32)), .unset, .unset, .unset] [(.int (2 : Int32)), (.int (kc p1.toNatClampNeg))])) target
          refine XS.icmpNo X_9.here hx rfl (hb hby d_chl_29) rfl (feq hc29).1 ?_
          show Steps p.tables e below (T_9.setTop (mkF m 32 #[.val (.ref a1), .val (.int p1), .val (.int e1), .val (.int c1), .val (.int e2), .val (.int c2), .val (.int (2 : Int32)), .unset, .unset, .unset] [])) target
          refine XS.iconst X_9.here hx rfl (hb hby d_chl_32) ?_
          show Steps p.tables e below (T_9.setTop (mkF m 33 #[.val (.ref a1), .val (.int p1), .val (.int e1), .val (.int c1), .val (.int e2), .val (.int c2), .val (.int (2 : Int32)), .unset, .unset, .unset] [(.int (0 : Int32))])) target
          exact kt
        obtain ⟨fs, hr, hrun, hended, hW, hsame⟩ := X_9.leave (v := some (.int (0 : Int32))) (fun h => by rw [Bd.returns] at h; cases h)
        refine ⟨_, _, retN X_9 hx (t := .boolean) Bd.returns (by simp) (hb hby d_chl_33) hr, hrun, hended, _, _, rfl, ?_, ⟨_, rfl⟩, hW, hsame.mono (by decide) (by decide)⟩
        show Q_chl Z a1 p1 e1 c1 e2 c2 ff kc nx b3_ b4_ b5_ k3_ k4_ k5_ h0 n0 _ T_9.heap _
        rw [p_9_0]
        exact ⟨(congrArg (fun z => some (Value.int z)) (own_chl_29 hc1 hc11 hc29)), N_9, rfl⟩
-- com/example/filigree/filigree/engine/DecisionTreeKeepPinLaw.law:(IIII)Z
theorem pn_law : plainName "com/example/filigree/filigree/engine/DecisionTreeKeepPinLaw" = true := by first | (simp [plainName, overriddenIn]; done) | decide +kernel
theorem ef_law (m : MethodId) (ua : Int32) (ub : Int32) (ux : Int32) (sx : Int32) : entryFrame m #[(.int ua), (.int ub), (.int ux), (.int sx)] maxLocals = mkF m 0 #[.val (.int ua), .val (.int ub), .val (.int ux), .val (.int sx), .unset, .unset, .unset, .unset, .unset, .unset, .unset, .unset, .unset, .unset, .unset] [] := by first | (simp [entryFrame, mkF, argsToLocals, Value.category, maxLocals]; done) | rfl
def Q_law (Z : State) (ua : Int32) (ub : Int32) (ux : Int32) (sx : Int32) (h0 : Heap) (n0 : Nat) (v : Option Value) (h : Heap) (L : List Loc) : Prop := v = some (.int (1 : Int32)) ∧ Fr n0 L
set_option maxRecDepth 65536 in
set_option maxHeartbeats 40000000 in
theorem rm_law (l : Launch) (Z : State) (a0 : Array Value) (hw : ∀ d ∈ tables_1, d.before a0 Z = true) (ws : List Jvm.Cond) (ua : Int32) (ub : Int32) (ux : Int32) (sx : Int32) (h0 : Heap) (n0 : Nat) (Z0 : n0 ≤ h0.size) :
    MetFree l x (head1 (Jvm.Cond.code x code maxLocals ret :: ws) room_1) (fun a U => a = #[(.int ua), (.int ub), (.int ux), (.int sx)] ∧ Z.Warmed39 U.vm ∧ U.heap = h0) (fun _ _ _ _ _ => True) (fun _ U o U' => ∃ v L, o = .returned v ∧ Q_law Z ua ub ux sx h0 n0 v U'.heap L ∧ FrameEnd U o U' L room_1.cells room_1.slots) := by
  refine MetFree.of_bodySF (plainFor_of_name pn_law) hisR ?_
  intro p e s m args below meth c s₁ Bd hml0 hP hK
  obtain ⟨rfl, hZ, hh⟩ := hP
  have hx := Bd.exec
  have hby := Bd.bytes
  have hml : c.maxLocals = 15 := hml0
  have hown : s.vm.findClass "com/example/filigree/filigree/engine/DecisionTreeKeepPinLaw" = some m.cls := findClass_of_methodNamed Bd.named
  have hnm := (name_of_methodNamed Bd.named Bd.method).1
  have X0 : Stand p l e room_1 s m #[(.int ua), (.int ub), (.int ux), (.int sx)] below meth c s₁ [] 0 0 := Stand.of_body Bd
  have e0 : s₁.heap = h0 := by rw [← hh, Bd.state]; rfl
  have N0 := Fr.nil n0
  refine own_in ?_
  refine own_go (S' := s₁.setTop (mkF m 0 #[.val (.int ua), .val (.int ub), .val (.int ux), .val (.int sx), .unset, .unset, .unset, .unset, .unset, .unset, .unset, .unset, .unset, .unset, .unset] [])) (fun tgt_ stp_ => castTop (ef_law m ua ub ux sx) stp_) ?_
  obtain ⟨T_1, h_1, X_1, e_1, E_1, A_1, D_1, -, st_1⟩ := newO X0 hx hZ hown (hw _ (List.mem_of_getElem? (i := 0) rfl)) (hw _ (List.mem_of_getElem? (i := 1) rfl)) (hw _ (List.mem_of_getElem? (i := 2) rfl)) e0 (g := (mkF m 0 #[.val (.int ua), .val (.int ub), .val (.int ux), .val (.int sx), .unset, .unset, .unset, .unset, .unset, .unset, .unset, .unset, .unset, .unset, .unset] [])) rfl (hb hby at_0) (by decide) (by decide)
  obtain ⟨b_1, g_1⟩ : ∃ z, z = h0.size := ⟨_, rfl⟩
  rw [← g_1] at A_1 D_1 st_1
  have gn_b_1 : n0 ≤ b_1 := Nat.le_trans Z0 (Nat.le_of_eq g_1.symm)
  have Z_2 : n0 ≤ h_1.size := Nat.le_trans Z0 E_1.1
  have F_1_m_aParent : Fld Z h_1 b_1 "com/example/filigree/filigree/engine/DecisionTree" "m_aParent" "[I" .null := D_1 (Or.inl (hw _ (List.mem_of_getElem? (i := 11) rfl))) (ty := (.array .int)) (by decide)
  have F_1_m_aDecision : Fld Z h_1 b_1 "com/example/filigree/filigree/engine/DecisionTree" "m_aDecision" "[I" .null := D_1 (Or.inl (hw _ (List.mem_of_getElem? (i := 13) rfl))) (ty := (.array .int)) (by decide)
  have F_1_m_aDepth : Fld Z h_1 b_1 "com/example/filigree/filigree/engine/DecisionTree" "m_aDepth" "[I" .null := D_1 (Or.inl (hw _ (List.mem_of_getElem? (i := 15) rfl))) (ty := (.array .int)) (by decide)
  have F_1_m_aFirstKept : Fld Z h_1 b_1 "com/example/filigree/filigree/engine/DecisionTree" "m_aFirstKept" "[I" .null := D_1 (Or.inl (hw _ (List.mem_of_getElem? (i := 17) rfl))) (ty := (.array .int)) (by decide)
  have F_1_m_aKeptCount : Fld Z h_1 b_1 "com/example/filigree/filigree/engine/DecisionTree" "m_aKeptCount" "[I" .null := D_1 (Or.inl (hw _ (List.mem_of_getElem? (i := 19) rfl))) (ty := (.array .int)) (by decide)
  have F_1_m_aNextKept : Fld Z h_1 b_1 "com/example/filigree/filigree/engine/DecisionTree" "m_aNextKept" "[I" .null := D_1 (Or.inl (hw _ (List.mem_of_getElem? (i := 21) rfl))) (ty := (.array .int)) (by decide)
  have F_1_m_aKept : Fld Z h_1 b_1 "com/example/filigree/filigree/engine/DecisionTree" "m_aKept" "[Z" .null := D_1 (Or.inl (hw _ (List.mem_of_getElem? (i := 24) rfl))) (ty := (.array .boolean)) (by decide)
  have F_1_m_nSize : Fld Z h_1 b_1 "com/example/filigree/filigree/engine/DecisionTree" "m_nSize" "I" (.int (0 : Int32)) := D_1 (Or.inl (hw _ (List.mem_of_getElem? (i := 26) rfl))) (ty := .int) (by decide)
  obtain ⟨_, _, ⟨T_4, L_4, k_4, n_4⟩, -, X_4, ⟨Lc_4, hQ_4, l_4, y_4, z_4⟩, st_4⟩ := X_1.specialBack hx (y := (⟨"com/example/filigree/filigree/engine/DecisionTree", "<init>", "()V"⟩ : MethodName)) rfl hown (mvT hZ (hw _ (List.mem_of_getElem? (i := 3) rfl))) (mvT hZ (hw _ (List.mem_of_getElem? (i := 4) rfl))) (mvT hZ (hw _ (List.mem_of_getElem? (i := 5) rfl))) (by decide) (backOf (W := 1) (rm_ci l Z a0 hw [] b_1  h_1 n0 Z_2 A_1 F_1_m_aParent F_1_m_aDecision F_1_m_aDepth F_1_m_aFirstKept F_1_m_aKeptCount F_1_m_aNextKept F_1_m_aKept F_1_m_nSize gn_b_1) hZ (hw _ (List.mem_of_getElem? (i := 5) rfl)) (hw _ (List.mem_of_getElem? (i := 2) rfl)) (by decide) (by decide)) (g := (mkF m 4 #[.val (.int ua), .val (.int ub), .val (.int ux), .val (.int sx), .unset, .unset, .unset, .unset, .unset, .unset, .unset, .unset, .unset, .unset, .unset] [(.ref b_1), (.ref b_1)])) rfl (by rw [hml]; rfl) (Steps.refl _) (a := b_1) (argsL := []) (rest := [(.ref b_1)]) (lenOf pd__V rfl) rfl (by show 2 * 0 + _ ≤ _; exact Nat.le_of_eq rfl) (hb hby at_4) (fun _ _ => ⟨rfl, e_1, (by decide : 1 + 7 ≤ _), (by decide : 8 + 448 ≤ _)⟩)
  dsimp only [Pt.U, Pt.locs, Pt.cells, Pt.slots] at X_4 l_4 y_4 z_4 st_4 hQ_4
  subst y_4 z_4
  obtain ⟨b0_x_4, b1_x_4, b2_x_4, b3_x_4, b4_x_4, b5_x_4, b6_x_4, k0_x_4, k1_x_4, k2_x_4, k3_x_4, k4_x_4, k5_x_4, k6_x_4, rfl, N_4q, p_4_0, p_4_1, p_4_2, p_4_3, p_4_4, p_4_5, p_4_6, p_4_7, p_4_8, p_4_9, p_4_10, p_4_11, p_4_12, p_4_13, p_4_14, p_4_15, p_4_16, p_4_17, p_4_18, p_4_19, p_4_20, p_4_21, p_4_22, p_4_23, p_4_24, p_4_25, p_4_26, p_4_27, p_4_28, p_4_29, p_4_30, p_4_31, p_4_32, p_4_33, p_4_34, p_4_35, p_4_36, p_4_37, p_4_38, p_4_39, p_4_40, p_4_41, p_4_42, p_4_43, p_4_44, p_4_45, p_4_46, p_4_47, p_4_48, p_4_49, p_4_50, p_4_51⟩ := hQ_4
  have N_4 : Fr n0 L_4 := by rw [l_4]; exact Fr.app N0 N_4q
  clear l_4
  have Z_5 : n0 ≤ T_4.heap.size := Nat.le_trans Z_2 p_4_0.1
  have gn_b0_x_4 : n0 ≤ b0_x_4 := Nat.le_trans Z_2 p_4_10
  have ne_b_1_b0_x_4 : b_1 ≠ b0_x_4 := Nat.ne_of_lt (Nat.lt_of_lt_of_le A_1.lt p_4_10)
  have gn_b1_x_4 : n0 ≤ b1_x_4 := Nat.le_trans Z_2 p_4_11
  have ne_b_1_b1_x_4 : b_1 ≠ b1_x_4 := Nat.ne_of_lt (Nat.lt_of_lt_of_le A_1.lt p_4_11)
  have gn_b2_x_4 : n0 ≤ b2_x_4 := Nat.le_trans Z_2 p_4_12
  have ne_b_1_b2_x_4 : b_1 ≠ b2_x_4 := Nat.ne_of_lt (Nat.lt_of_lt_of_le A_1.lt p_4_12)
  have gn_b3_x_4 : n0 ≤ b3_x_4 := Nat.le_trans Z_2 p_4_13
  have ne_b_1_b3_x_4 : b_1 ≠ b3_x_4 := Nat.ne_of_lt (Nat.lt_of_lt_of_le A_1.lt p_4_13)
  have gn_b4_x_4 : n0 ≤ b4_x_4 := Nat.le_trans Z_2 p_4_14
  have ne_b_1_b4_x_4 : b_1 ≠ b4_x_4 := Nat.ne_of_lt (Nat.lt_of_lt_of_le A_1.lt p_4_14)
  have gn_b5_x_4 : n0 ≤ b5_x_4 := Nat.le_trans Z_2 p_4_15
  have ne_b_1_b5_x_4 : b_1 ≠ b5_x_4 := Nat.ne_of_lt (Nat.lt_of_lt_of_le A_1.lt p_4_15)
  have gn_b6_x_4 : n0 ≤ b6_x_4 := Nat.le_trans Z_2 p_4_16
  have ne_b_1_b6_x_4 : b_1 ≠ b6_x_4 := Nat.ne_of_lt (Nat.lt_of_lt_of_le A_1.lt p_4_16)
  obtain ⟨cq_7, kq_7, q_7a, q_7b, q_7c⟩ := isOf hZ rfl p_4_1
  obtain ⟨_, _, ⟨T_7, L_7, k_7, n_7⟩, -, X_7, ⟨Lc_7, hQ_7, l_7, y_7, z_7⟩, st_7⟩ := X_4.virtualBack hx (y := (⟨"com/example/filigree/filigree/engine/DecisionTree", "add", "(II)I"⟩ : MethodName)) (z := (⟨"com/example/filigree/filigree/engine/DecisionTree", "add", "(II)I"⟩ : MethodName)) hown (mvT hZ (hw _ (List.mem_of_getElem? (i := 27) rfl))) (mvT hZ (hw _ (List.mem_of_getElem? (i := 28) rfl))) (notFace_of_selects (args := #[]) (mvT hZ (hw _ (List.mem_of_getElem? (i := 30) rfl)))) (mvT hZ (hw _ (List.mem_of_getElem? (i := 30) rfl))) (mvT hZ (hw _ (List.mem_of_getElem? (i := 29) rfl))) (by decide) (backOf (W := 0) (rm_add1 l Z a0 hw [] b_1 ua b0_x_4 b1_x_4 b2_x_4 b3_x_4 b4_x_4 b5_x_4 b6_x_4 k0_x_4 k1_x_4 k2_x_4 k3_x_4 k4_x_4 k5_x_4 k6_x_4 T_4.heap n0 Z_5 p_4_1 p_4_2 p_4_3 p_4_4 p_4_5 p_4_6 p_4_7 p_4_8 p_4_9 p_4_45 p_4_46 p_4_47 p_4_48 p_4_49 p_4_50 p_4_51 gn_b_1 gn_b0_x_4 gn_b1_x_4 gn_b2_x_4 gn_b3_x_4 gn_b4_x_4 gn_b5_x_4 gn_b6_x_4 p_4_17 p_4_18 p_4_19 p_4_20 p_4_21 p_4_22 p_4_23 p_4_24 p_4_25 p_4_26 p_4_27 p_4_28 p_4_29 p_4_30 p_4_31 p_4_32 p_4_33 p_4_34 p_4_35 p_4_36 p_4_37 p_4_38 p_4_39 p_4_40 p_4_41 p_4_42 p_4_43 p_4_44) hZ (hw _ (List.mem_of_getElem? (i := 31) rfl)) (hw _ (List.mem_of_getElem? (i := 2) rfl)) (by decide) (by decide)) q_7a q_7c (g := (mkF m 13 #[.val (.int ua), .val (.int ub), .val (.int ux), .val (.int sx), .val (.ref b_1), .unset, .unset, .unset, .unset, .unset, .unset, .unset, .unset, .unset, .unset] [(.int ua), (.int (0 : Int32)), (.ref b_1)])) rfl (by rw [hml]; rfl) (Steps.refl _) (argsL := [(.int (0 : Int32)), (.int ua)]) (rest := []) (lenOf pd_II_I rfl) rfl (by show 2 * 0 + _ ≤ _; exact Nat.le_of_eq rfl) (hb hby at_13) (fun _ _ => ⟨rfl, rfl, (by decide : 8 + 0 ≤ _), (by decide : 456 + 0 ≤ _)⟩)
  dsimp only [Pt.U, Pt.locs, Pt.cells, Pt.slots] at X_7 l_7 y_7 z_7 st_7 hQ_7
  subst y_7 z_7
  obtain ⟨rfl, N_7q, p_7_0, p_7_1, p_7_2, p_7_3, p_7_4, p_7_5, p_7_6, p_7_7, p_7_8, p_7_9, p_7_10, p_7_11, p_7_12, p_7_13, p_7_14, p_7_15, p_7_16⟩ := hQ_7
  have N_7 : Fr n0 L_7 := by rw [l_7]; exact Fr.app N_4 N_7q
  clear l_7
  have Z_8 : n0 ≤ T_7.heap.size := Nat.le_trans Z_5 p_7_0.1
  obtain ⟨cq_10, kq_10, q_10a, q_10b, q_10c⟩ := isOf hZ rfl p_7_1
  obtain ⟨_, _, ⟨T_10, L_10, k_10, n_10⟩, -, X_10, ⟨Lc_10, hQ_10, l_10, y_10, z_10⟩, st_10⟩ := X_7.virtualBack hx (y := (⟨"com/example/filigree/filigree/engine/DecisionTree", "add", "(II)I"⟩ : MethodName)) (z := (⟨"com/example/filigree/filigree/engine/DecisionTree", "add", "(II)I"⟩ : MethodName)) hown (mvT hZ (hw _ (List.mem_of_getElem? (i := 27) rfl))) (mvT hZ (hw _ (List.mem_of_getElem? (i := 28) rfl))) (notFace_of_selects (args := #[]) (mvT hZ (hw _ (List.mem_of_getElem? (i := 30) rfl)))) (mvT hZ (hw _ (List.mem_of_getElem? (i := 30) rfl))) (mvT hZ (hw _ (List.mem_of_getElem? (i := 29) rfl))) (by decide) (backOf (W := 0) (rm_add2 l Z a0 hw [] b_1 ub b0_x_4 b1_x_4 b2_x_4 b3_x_4 b4_x_4 b5_x_4 b6_x_4 k0_x_4 k1_x_4 k2_x_4 k3_x_4 k4_x_4 k5_x_4 k6_x_4 ua T_7.heap n0 Z_8 p_7_1 p_7_2 p_7_3 p_7_4 p_7_5 p_7_6 p_7_7 p_7_8 p_7_9 p_7_10 p_7_11 p_7_12 p_7_13 p_7_14 p_7_15 p_7_16 gn_b_1 gn_b0_x_4 gn_b1_x_4 gn_b2_x_4 gn_b3_x_4 gn_b4_x_4 gn_b5_x_4 gn_b6_x_4 p_4_17 p_4_18 p_4_19 p_4_20 p_4_21 p_4_22 p_4_23 p_4_24 p_4_25 p_4_26 p_4_27 p_4_28 p_4_29 p_4_30 p_4_31 p_4_32 p_4_33 p_4_34 p_4_35 p_4_36 p_4_37 p_4_38 p_4_39 p_4_40 p_4_41 p_4_42 p_4_43 p_4_44) hZ (hw _ (List.mem_of_getElem? (i := 31) rfl)) (hw _ (List.mem_of_getElem? (i := 2) rfl)) (by decide) (by decide)) q_10a q_10c (g := (mkF m 23 #[.val (.int ua), .val (.int ub), .val (.int ux), .val (.int sx), .val (.ref b_1), .val (.int (1 : Int32)), .unset, .unset, .unset, .unset, .unset, .unset, .unset, .unset, .unset] [(.int ub), (.int (1 : Int32)), (.ref b_1)])) rfl (by rw [hml]; rfl) (Steps.refl _) (argsL := [(.int (1 : Int32)), (.int ub)]) (rest := []) (lenOf pd_II_I rfl) rfl (by show 2 * 0 + _ ≤ _; exact Nat.le_of_eq rfl) (hb hby at_23) (fun _ _ => ⟨rfl, rfl, (by decide : 8 + 0 ≤ _), (by decide : 456 + 0 ≤ _)⟩)
  dsimp only [Pt.U, Pt.locs, Pt.cells, Pt.slots] at X_10 l_10 y_10 z_10 st_10 hQ_10
  subst y_10 z_10
  obtain ⟨rfl, N_10q, p_10_0, p_10_1, p_10_2, p_10_3, p_10_4, p_10_5, p_10_6, p_10_7, p_10_8, p_10_9, p_10_10, p_10_11, p_10_12, p_10_13, p_10_14, p_10_15, p_10_16⟩ := hQ_10
  have N_10 : Fr n0 L_10 := by rw [l_10]; exact Fr.app N_7 N_10q
  clear l_10
  have Z_11 : n0 ≤ T_10.heap.size := Nat.le_trans Z_8 p_10_0.1
  refine own_go (S' := T_10.setTop (mkF m 28 #[.val (.int ua), .val (.int ub), .val (.int ux), .val (.int sx), .val (.ref b_1), .val (.int (1 : Int32)), .val (.int (2 : Int32)), .unset, .unset, .unset, .unset, .unset, .unset, .unset, .unset] [])) (fun target kt => ?_) ?_
  · show Steps p.tables e below (s₁.setTop (mkF m 0 #[.val (.int ua), .val (.int ub), .val (.int ux), .val (.int sx), .unset, .unset, .unset, .unset, .unset, .unset, .unset, .unset, .unset, .unset, .unset] [])) target
    refine st_1 _ ?_
    show Steps p.tables e below (T_1.setTop (mkF m 3 #[.val (.int ua), .val (.int ub), .val (.int ux), .val (.int sx), .unset, .unset, .unset, .unset, .unset, .unset, .unset, .unset, .unset, .unset, .unset] [(.ref b_1)])) target
    refine XS.dup X_1.here hx rfl (hb hby at_3) rfl rfl ?_
    show Steps p.tables e below (T_1.setTop (mkF m 4 #[.val (.int ua), .val (.int ub), .val (.int ux), .val (.int sx), .unset, .unset, .unset, .unset, .unset, .unset, .unset, .unset, .unset, .unset, .unset] [(.ref b_1), (.ref b_1)])) target
    refine st_4.trans ?_
    show Steps p.tables e below (T_4.setTop (mkF m 7 #[.val (.int ua), .val (.int ub), .val (.int ux), .val (.int sx), .unset, .unset, .unset, .unset, .unset, .unset, .unset, .unset, .unset, .unset, .unset] [(.ref b_1)])) target
    refine XS.astore X_4.here hx rfl (hb hby at_7) rfl rfl (l' := #[.val (.int ua), .val (.int ub), .val (.int ux), .val (.int sx), .val (.ref b_1), .unset, .unset, .unset, .unset, .unset, .unset, .unset, .unset, .unset, .unset]) rfl ?_
    show Steps p.tables e below (T_4.setTop (mkF m 9 #[.val (.int ua), .val (.int ub), .val (.int ux), .val (.int sx), .val (.ref b_1), .unset, .unset, .unset, .unset, .unset, .unset, .unset, .unset, .unset, .unset] [])) target
    refine XS.aload X_4.here hx rfl (hb hby at_9) rfl rfl ?_
    show Steps p.tables e below (T_4.setTop (mkF m 11 #[.val (.int ua), .val (.int ub), .val (.int ux), .val (.int sx), .val (.ref b_1), .unset, .unset, .unset, .unset, .unset, .unset, .unset, .unset, .unset, .unset] [(.ref b_1)])) target
    refine XS.iconst X_4.here hx rfl (hb hby at_11) ?_
    show Steps p.tables e below (T_4.setTop (mkF m 12 #[.val (.int ua), .val (.int ub), .val (.int ux), .val (.int sx), .val (.ref b_1), .unset, .unset, .unset, .unset, .unset, .unset, .unset, .unset, .unset, .unset] [(.int (0 : Int32)), (.ref b_1)])) target
    refine XS.iloadN X_4.here hx rfl (hb hby at_12) rfl ?_
    show Steps p.tables e below (T_4.setTop (mkF m 13 #[.val (.int ua), .val (.int ub), .val (.int ux), .val (.int sx), .val (.ref b_1), .unset, .unset, .unset, .unset, .unset, .unset, .unset, .unset, .unset, .unset] [(.int ua), (.int (0 : Int32)), (.ref b_1)])) target
    refine st_7.trans ?_
    show Steps p.tables e below (T_7.setTop (mkF m 16 #[.val (.int ua), .val (.int ub), .val (.int ux), .val (.int sx), .val (.ref b_1), .unset, .unset, .unset, .unset, .unset, .unset, .unset, .unset, .unset, .unset] [(.int (1 : Int32))])) target
    refine XS.istore X_7.here hx rfl (hb hby at_16) rfl (l' := #[.val (.int ua), .val (.int ub), .val (.int ux), .val (.int sx), .val (.ref b_1), .val (.int (1 : Int32)), .unset, .unset, .unset, .unset, .unset, .unset, .unset, .unset, .unset]) rfl ?_
    show Steps p.tables e below (T_7.setTop (mkF m 18 #[.val (.int ua), .val (.int ub), .val (.int ux), .val (.int sx), .val (.ref b_1), .val (.int (1 : Int32)), .unset, .unset, .unset, .unset, .unset, .unset, .unset, .unset, .unset] [])) target
    refine XS.aload X_7.here hx rfl (hb hby at_18) rfl rfl ?_
    show Steps p.tables e below (T_7.setTop (mkF m 20 #[.val (.int ua), .val (.int ub), .val (.int ux), .val (.int sx), .val (.ref b_1), .val (.int (1 : Int32)), .unset, .unset, .unset, .unset, .unset, .unset, .unset, .unset, .unset] [(.ref b_1)])) target
    refine XS.iload X_7.here hx rfl (hb hby at_20) rfl ?_
    show Steps p.tables e below (T_7.setTop (mkF m 22 #[.val (.int ua), .val (.int ub), .val (.int ux), .val (.int sx), .val (.ref b_1), .val (.int (1 : Int32)), .unset, .unset, .unset, .unset, .unset, .unset, .unset, .unset, .unset] [(.int (1 : Int32)), (.ref b_1)])) target
    refine XS.iloadN X_7.here hx rfl (hb hby at_22) rfl ?_
    show Steps p.tables e below (T_7.setTop (mkF m 23 #[.val (.int ua), .val (.int ub), .val (.int ux), .val (.int sx), .val (.ref b_1), .val (.int (1 : Int32)), .unset, .unset, .unset, .unset, .unset, .unset, .unset, .unset, .unset] [(.int ub), (.int (1 : Int32)), (.ref b_1)])) target
    refine st_10.trans ?_
    show Steps p.tables e below (T_10.setTop (mkF m 26 #[.val (.int ua), .val (.int ub), .val (.int ux), .val (.int sx), .val (.ref b_1), .val (.int (1 : Int32)), .unset, .unset, .unset, .unset, .unset, .unset, .unset, .unset, .unset] [(.int (2 : Int32))])) target
    refine XS.istore X_10.here hx rfl (hb hby at_26) rfl (l' := #[.val (.int ua), .val (.int ub), .val (.int ux), .val (.int sx), .val (.ref b_1), .val (.int (1 : Int32)), .val (.int (2 : Int32)), .unset, .unset, .unset, .unset, .unset, .unset, .unset, .unset]) rfl ?_
    show Steps p.tables e below (T_10.setTop (mkF m 28 #[.val (.int ua), .val (.int ub), .val (.int ux), .val (.int sx), .val (.ref b_1), .val (.int (1 : Int32)), .val (.int (2 : Int32)), .unset, .unset, .unset, .unset, .unset, .unset, .unset, .unset] [])) target
    exact kt
  refine own_join (α := State × Heap × (List Loc) × Nat) (fun a => (Stand p l e room_1 s m #[(.int ua), (.int ub), (.int ux), (.int sx)] below meth c a.1 a.2.2.1 8 456) ∧ (a.1.heap = a.2.1) ∧ (Fr n0 a.2.2.1) ∧ (n0 ≤ a.2.1.size) ∧ (Exa Z a.2.1 b_1 "com/example/filigree/filigree/engine/DecisionTree") ∧ (Fld Z a.2.1 b_1 "com/example/filigree/filigree/engine/DecisionTree" "m_aParent" "[I" (.ref b0_x_4)) ∧ (Fld Z a.2.1 b_1 "com/example/filigree/filigree/engine/DecisionTree" "m_aDecision" "[I" (.ref b1_x_4)) ∧ (Fld Z a.2.1 b_1 "com/example/filigree/filigree/engine/DecisionTree" "m_aDepth" "[I" (.ref b2_x_4)) ∧ (Fld Z a.2.1 b_1 "com/example/filigree/filigree/engine/DecisionTree" "m_aFirstKept" "[I" (.ref b3_x_4)) ∧ (Fld Z a.2.1 b_1 "com/example/filigree/filigree/engine/DecisionTree" "m_aKeptCount" "[I" (.ref b4_x_4)) ∧ (Fld Z a.2.1 b_1 "com/example/filigree/filigree/engine/DecisionTree" "m_aNextKept" "[I" (.ref b5_x_4)) ∧ (Fld Z a.2.1 b_1 "com/example/filigree/filigree/engine/DecisionTree" "m_aKept" "[Z" (.ref b6_x_4)) ∧ (Arv Z a.2.1 b0_x_4 k0_x_4 .int (64 : Int32) [(.int (-1 : Int32)), (.int (0 : Int32)), (.int (1 : Int32)), (.int (Int32.ofNat a.2.2.2))] (.int (0 : Int32))) ∧ (Arv Z a.2.1 b3_x_4 k3_x_4 .int (64 : Int32) [(.int (-1 : Int32)), (.int (-1 : Int32)), (.int (-1 : Int32)), (.int (-1 : Int32))] (.int (0 : Int32))) ∧ (Arv Z a.2.1 b4_x_4 k4_x_4 .int (64 : Int32) [(.int (0 : Int32)), (.int (0 : Int32)), (.int (0 : Int32)), (.int (0 : Int32))] (.int (0 : Int32))) ∧ (Arv Z a.2.1 b5_x_4 k5_x_4 .int (64 : Int32) [(.int (0 : Int32)), (.int (-1 : Int32)), (.int (-1 : Int32)), (.int (-1 : Int32))] (.int (0 : Int32))) ∧ (Arv Z a.2.1 b6_x_4 k6_x_4 .boolean (64 : Int32) [(.int (0 : Int32)), (.int (0 : Int32)), (.int (0 : Int32)), (.int (0 : Int32))] (.int (0 : Int32))) ∧ (a.2.2.2 ≤ 1)) (fun a => a.1.setTop (mkF m 64 #[.val (.int ua), .val (.int ub), .val (.int ux), .val (.int sx), .val (.ref b_1), .val (.int (1 : Int32)), .val (.int (2 : Int32)), .val (.int (Int32.ofNat a.2.2.2)), .val (.int (Int32.ofNat a.2.2.2)), .val (.int (3 : Int32)), .unset, .unset, .unset, .unset, .unset] [])) ?_ ?_
  · rintro ⟨T64j, h64j, lo64j, un⟩ ⟨X64j_, e64j_, N64j_, Z64j_, Ej_, Fj0_, Fj1_, Fj2_, Fj3_, Fj4_, Fj5_, Fj6_, Vj0_, Vj3_, Vj4_, Vj5_, Vj6_, hun_⟩
    have X64j : Stand p l e room_1 s m #[(.int ua), (.int ub), (.int ux), (.int sx)] below meth c T64j lo64j 8 456 := X64j_
    have e64j : T64j.heap = h64j := e64j_
    have N64j : Fr n0 lo64j := N64j_
    have Z64j : n0 ≤ h64j.size := Z64j_
    have Ej : Exa Z h64j b_1 "com/example/filigree/filigree/engine/DecisionTree" := Ej_
    have Fj0 : Fld Z h64j b_1 "com/example/filigree/filigree/engine/DecisionTree" "m_aParent" "[I" (.ref b0_x_4) := Fj0_
    have Fj1 : Fld Z h64j b_1 "com/example/filigree/filigree/engine/DecisionTree" "m_aDecision" "[I" (.ref b1_x_4) := Fj1_
    have Fj2 : Fld Z h64j b_1 "com/example/filigree/filigree/engine/DecisionTree" "m_aDepth" "[I" (.ref b2_x_4) := Fj2_
    have Fj3 : Fld Z h64j b_1 "com/example/filigree/filigree/engine/DecisionTree" "m_aFirstKept" "[I" (.ref b3_x_4) := Fj3_
    have Fj4 : Fld Z h64j b_1 "com/example/filigree/filigree/engine/DecisionTree" "m_aKeptCount" "[I" (.ref b4_x_4) := Fj4_
    have Fj5 : Fld Z h64j b_1 "com/example/filigree/filigree/engine/DecisionTree" "m_aNextKept" "[I" (.ref b5_x_4) := Fj5_
    have Fj6 : Fld Z h64j b_1 "com/example/filigree/filigree/engine/DecisionTree" "m_aKept" "[Z" (.ref b6_x_4) := Fj6_
    have Vj0 : Arv Z h64j b0_x_4 k0_x_4 .int (64 : Int32) [(.int (-1 : Int32)), (.int (0 : Int32)), (.int (1 : Int32)), (.int (Int32.ofNat un))] (.int (0 : Int32)) := Vj0_
    have Vj3 : Arv Z h64j b3_x_4 k3_x_4 .int (64 : Int32) [(.int (-1 : Int32)), (.int (-1 : Int32)), (.int (-1 : Int32)), (.int (-1 : Int32))] (.int (0 : Int32)) := Vj3_
    have Vj4 : Arv Z h64j b4_x_4 k4_x_4 .int (64 : Int32) [(.int (0 : Int32)), (.int (0 : Int32)), (.int (0 : Int32)), (.int (0 : Int32))] (.int (0 : Int32)) := Vj4_
    have Vj5 : Arv Z h64j b5_x_4 k5_x_4 .int (64 : Int32) [(.int (0 : Int32)), (.int (-1 : Int32)), (.int (-1 : Int32)), (.int (-1 : Int32))] (.int (0 : Int32)) := Vj5_
    have Vj6 : Arv Z h64j b6_x_4 k6_x_4 .boolean (64 : Int32) [(.int (0 : Int32)), (.int (0 : Int32)), (.int (0 : Int32)), (.int (0 : Int32))] (.int (0 : Int32)) := Vj6_
    have hun : un ≤ 1 := hun_
    show own_G p.tables e below _ (T64j.setTop (mkF m 64 #[.val (.int ua), .val (.int ub), .val (.int ux), .val (.int sx), .val (.ref b_1), .val (.int (1 : Int32)), .val (.int (2 : Int32)), .val (.int (Int32.ofNat un)), .val (.int (Int32.ofNat un)), .val (.int (3 : Int32)), .unset, .unset, .unset, .unset, .unset] []))
    refine own_go (S' := T64j.setTop (mkF m 91 #[.val (.int ua), .val (.int ub), .val (.int ux), .val (.int sx), .val (.ref b_1), .val (.int (1 : Int32)), .val (.int (2 : Int32)), .val (.int (Int32.ofNat un)), .val (.int (Int32.ofNat un)), .val (.int (3 : Int32)), .val (.int (((sx.toUInt32 >>> ((1 : Int32) &&& 31).toUInt32).toInt32) &&& (3 : Int32))), .unset, .unset, .unset, .unset] [])) (fun target kt => ?_) ?_
    · show Steps p.tables e below (T64j.setTop (mkF m 64 #[.val (.int ua), .val (.int ub), .val (.int ux), .val (.int sx), .val (.ref b_1), .val (.int (1 : Int32)), .val (.int (2 : Int32)), .val (.int (Int32.ofNat un)), .val (.int (Int32.ofNat un)), .val (.int (3 : Int32)), .unset, .unset, .unset, .unset, .unset] [])) target
      refine XS.iload X64j.here hx rfl (hb hby at_64) rfl ?_
      show Steps p.tables e below (T64j.setTop (mkF m 66 #[.val (.int ua), .val (.int ub), .val (.int ux), .val (.int sx), .val (.ref b_1), .val (.int (1 : Int32)), .val (.int (2 : Int32)), .val (.int (Int32.ofNat un)), .val (.int (Int32.ofNat un)), .val (.int (3 : Int32)), .unset, .unset, .unset, .unset, .unset] [(.int (1 : Int32))])) target
      refine XS.iconst X64j.here hx rfl (hb hby at_66) ?_
      show Steps p.tables e below (T64j.setTop (mkF m 67 #[.val (.int ua), .val (.int ub), .val (.int ux), .val (.int sx), .val (.ref b_1), .val (.int (1 : Int32)), .val (.int (2 : Int32)), .val (.int (Int32.ofNat un)), .val (.int (Int32.ofNat un)), .val (.int (3 : Int32)), .unset, .unset, .unset, .unset, .unset] [(.int (1 : Int32)), (.int (1 : Int32))])) target
      refine XS.icmpNo X64j.here hx rfl (hb hby at_67) rfl (teq (by decide : (1 : Int32) = (1 : Int32))).2 ?_
      show Steps p.tables e below (T64j.setTop (mkF m 70 #[.val (.int ua), .val (.int ub), .val (.int ux), .val (.int sx), .val (.ref b_1), .val (.int (1 : Int32)), .val (.int (2 : Int32)), .val (.int (Int32.ofNat un)), .val (.int (Int32.ofNat un)), .val (.int (3 : Int32)), .unset, .unset, .unset, .unset, .unset] [])) target
      refine XS.iload X64j.here hx rfl (hb hby at_70) rfl ?_
      show Steps p.tables e below (T64j.setTop (mkF m 72 #[.val (.int ua), .val (.int ub), .val (.int ux), .val (.int sx), .val (.ref b_1), .val (.int (1 : Int32)), .val (.int (2 : Int32)), .val (.int (Int32.ofNat un)), .val (.int (Int32.ofNat un)), .val (.int (3 : Int32)), .unset, .unset, .unset, .unset, .unset] [(.int (2 : Int32))])) target
      refine XS.iconst X64j.here hx rfl (hb hby at_72) ?_
      show Steps p.tables e below (T64j.setTop (mkF m 73 #[.val (.int ua), .val (.int ub), .val (.int ux), .val (.int sx), .val (.ref b_1), .val (.int (1 : Int32)), .val (.int (2 : Int32)), .val (.int (Int32.ofNat un)), .val (.int (Int32.ofNat un)), .val (.int (3 : Int32)), .unset, .unset, .unset, .unset, .unset] [(.int (2 : Int32)), (.int (2 : Int32))])) target
      refine XS.icmpNo X64j.here hx rfl (hb hby at_73) rfl (teq (by decide : (2 : Int32) = (2 : Int32))).2 ?_
      show Steps p.tables e below (T64j.setTop (mkF m 76 #[.val (.int ua), .val (.int ub), .val (.int ux), .val (.int sx), .val (.ref b_1), .val (.int (1 : Int32)), .val (.int (2 : Int32)), .val (.int (Int32.ofNat un)), .val (.int (Int32.ofNat un)), .val (.int (3 : Int32)), .unset, .unset, .unset, .unset, .unset] [])) target
      refine XS.iload X64j.here hx rfl (hb hby at_76) rfl ?_
      show Steps p.tables e below (T64j.setTop (mkF m 78 #[.val (.int ua), .val (.int ub), .val (.int ux), .val (.int sx), .val (.ref b_1), .val (.int (1 : Int32)), .val (.int (2 : Int32)), .val (.int (Int32.ofNat un)), .val (.int (Int32.ofNat un)), .val (.int (3 : Int32)), .unset, .unset, .unset, .unset, .unset] [(.int (3 : Int32))])) target
      refine XS.iconst X64j.here hx rfl (hb hby at_78) ?_
      show Steps p.tables e below (T64j.setTop (mkF m 79 #[.val (.int ua), .val (.int ub), .val (.int ux), .val (.int sx), .val (.ref b_1), .val (.int (1 : Int32)), .val (.int (2 : Int32)), .val (.int (Int32.ofNat un)), .val (.int (Int32.ofNat un)), .val (.int (3 : Int32)), .unset, .unset, .unset, .unset, .unset] [(.int (3 : Int32)), (.int (3 : Int32))])) target
      refine XS.icmpYes X64j.here hx rfl (pc0 := 79) (pc' := 84) rfl (hb hby at_79) rfl (teq (by decide : (3 : Int32) = (3 : Int32))).1 (by decide) (by decide) ?_
      show Steps p.tables e below (T64j.setTop (mkF m 84 #[.val (.int ua), .val (.int ub), .val (.int ux), .val (.int sx), .val (.ref b_1), .val (.int (1 : Int32)), .val (.int (2 : Int32)), .val (.int (Int32.ofNat un)), .val (.int (Int32.ofNat un)), .val (.int (3 : Int32)), .unset, .unset, .unset, .unset, .unset] [])) target
      refine XS.iloadN X64j.here hx rfl (hb hby at_84) rfl ?_
      show Steps p.tables e below (T64j.setTop (mkF m 85 #[.val (.int ua), .val (.int ub), .val (.int ux), .val (.int sx), .val (.ref b_1), .val (.int (1 : Int32)), .val (.int (2 : Int32)), .val (.int (Int32.ofNat un)), .val (.int (Int32.ofNat un)), .val (.int (3 : Int32)), .unset, .unset, .unset, .unset, .unset] [(.int sx)])) target
      refine XS.iconst X64j.here hx rfl (hb hby at_85) ?_
      show Steps p.tables e below (T64j.setTop (mkF m 86 #[.val (.int ua), .val (.int ub), .val (.int ux), .val (.int sx), .val (.ref b_1), .val (.int (1 : Int32)), .val (.int (2 : Int32)), .val (.int (Int32.ofNat un)), .val (.int (Int32.ofNat un)), .val (.int (3 : Int32)), .unset, .unset, .unset, .unset, .unset] [(.int (1 : Int32)), (.int sx)])) target
      refine XS.iushr X64j.here hx rfl (hb hby at_86) rfl ?_
      show Steps p.tables e below (T64j.setTop (mkF m 87 #[.val (.int ua), .val (.int ub), .val (.int ux), .val (.int sx), .val (.ref b_1), .val (.int (1 : Int32)), .val (.int (2 : Int32)), .val (.int (Int32.ofNat un)), .val (.int (Int32.ofNat un)), .val (.int (3 : Int32)), .unset, .unset, .unset, .unset, .unset] [(.int ((sx.toUInt32 >>> ((1 : Int32) &&& 31).toUInt32).toInt32))])) target
      refine XS.iconst X64j.here hx rfl (hb hby at_87) ?_
      show Steps p.tables e below (T64j.setTop (mkF m 88 #[.val (.int ua), .val (.int ub), .val (.int ux), .val (.int sx), .val (.ref b_1), .val (.int (1 : Int32)), .val (.int (2 : Int32)), .val (.int (Int32.ofNat un)), .val (.int (Int32.ofNat un)), .val (.int (3 : Int32)), .unset, .unset, .unset, .unset, .unset] [(.int (3 : Int32)), (.int ((sx.toUInt32 >>> ((1 : Int32) &&& 31).toUInt32).toInt32))])) target
      refine XS.iand X64j.here hx rfl (hb hby at_88) rfl ?_
      show Steps p.tables e below (T64j.setTop (mkF m 89 #[.val (.int ua), .val (.int ub), .val (.int ux), .val (.int sx), .val (.ref b_1), .val (.int (1 : Int32)), .val (.int (2 : Int32)), .val (.int (Int32.ofNat un)), .val (.int (Int32.ofNat un)), .val (.int (3 : Int32)), .unset, .unset, .unset, .unset, .unset] [(.int (((sx.toUInt32 >>> ((1 : Int32) &&& 31).toUInt32).toInt32) &&& (3 : Int32)))])) target
      refine XS.istore X64j.here hx rfl (hb hby at_89) rfl (l' := #[.val (.int ua), .val (.int ub), .val (.int ux), .val (.int sx), .val (.ref b_1), .val (.int (1 : Int32)), .val (.int (2 : Int32)), .val (.int (Int32.ofNat un)), .val (.int (Int32.ofNat un)), .val (.int (3 : Int32)), .val (.int (((sx.toUInt32 >>> ((1 : Int32) &&& 31).toUInt32).toInt32) &&& (3 : Int32))), .unset, .unset, .unset, .unset]) rfl ?_
      show Steps p.tables e below (T64j.setTop (mkF m 91 #[.val (.int ua), .val (.int ub), .val (.int ux), .val (.int sx), .val (.ref b_1), .val (.int (1 : Int32)), .val (.int (2 : Int32)), .val (.int (Int32.ofNat un)), .val (.int (Int32.ofNat un)), .val (.int (3 : Int32)), .val (.int (((sx.toUInt32 >>> ((1 : Int32) &&& 31).toUInt32).toInt32) &&& (3 : Int32))), .unset, .unset, .unset, .unset] [])) target
      exact kt
    obtain ⟨k1, hk1, ek1⟩ := own_and3 (((sx.toUInt32 >>> ((1 : Int32) &&& 31).toUInt32).toInt32))
    rw [ek1]
    refine own_go (S' := T64j.setTop (mkF m 98 #[.val (.int ua), .val (.int ub), .val (.int ux), .val (.int sx), .val (.ref b_1), .val (.int (1 : Int32)), .val (.int (2 : Int32)), .val (.int (Int32.ofNat un)), .val (.int (Int32.ofNat un)), .val (.int (3 : Int32)), .val (.int (Int32.ofNat k1)), .val (.int (((sx.toUInt32 >>> ((3 : Int32) &&& 31).toUInt32).toInt32) &&& (3 : Int32))), .unset, .unset, .unset] [])) (fun target kt => ?_) ?_
    · show Steps p.tables e below (T64j.setTop (mkF m 91 #[.val (.int ua), .val (.int ub), .val (.int ux), .val (.int sx), .val (.ref b_1), .val (.int (1 : Int32)), .val (.int (2 : Int32)), .val (.int (Int32.ofNat un)), .val (.int (Int32.ofNat un)), .val (.int (3 : Int32)), .val (.int (Int32.ofNat k1)), .unset, .unset, .unset, .unset] [])) target
      refine XS.iloadN X64j.here hx rfl (hb hby at_91) rfl ?_
      show Steps p.tables e below (T64j.setTop (mkF m 92 #[.val (.int ua), .val (.int ub), .val (.int ux), .val (.int sx), .val (.ref b_1), .val (.int (1 : Int32)), .val (.int (2 : Int32)), .val (.int (Int32.ofNat un)), .val (.int (Int32.ofNat un)), .val (.int (3 : Int32)), .val (.int (Int32.ofNat k1)), .unset, .unset, .unset, .unset] [(.int sx)])) target
      refine XS.iconst X64j.here hx rfl (hb hby at_92) ?_
      show Steps p.tables e below (T64j.setTop (mkF m 93 #[.val (.int ua), .val (.int ub), .val (.int ux), .val (.int sx), .val (.ref b_1), .val (.int (1 : Int32)), .val (.int (2 : Int32)), .val (.int (Int32.ofNat un)), .val (.int (Int32.ofNat un)), .val (.int (3 : Int32)), .val (.int (Int32.ofNat k1)), .unset, .unset, .unset, .unset] [(.int (3 : Int32)), (.int sx)])) target
      refine XS.iushr X64j.here hx rfl (hb hby at_93) rfl ?_
      show Steps p.tables e below (T64j.setTop (mkF m 94 #[.val (.int ua), .val (.int ub), .val (.int ux), .val (.int sx), .val (.ref b_1), .val (.int (1 : Int32)), .val (.int (2 : Int32)), .val (.int (Int32.ofNat un)), .val (.int (Int32.ofNat un)), .val (.int (3 : Int32)), .val (.int (Int32.ofNat k1)), .unset, .unset, .unset, .unset] [(.int ((sx.toUInt32 >>> ((3 : Int32) &&& 31).toUInt32).toInt32))])) target
      refine XS.iconst X64j.here hx rfl (hb hby at_94) ?_
      show Steps p.tables e below (T64j.setTop (mkF m 95 #[.val (.int ua), .val (.int ub), .val (.int ux), .val (.int sx), .val (.ref b_1), .val (.int (1 : Int32)), .val (.int (2 : Int32)), .val (.int (Int32.ofNat un)), .val (.int (Int32.ofNat un)), .val (.int (3 : Int32)), .val (.int (Int32.ofNat k1)), .unset, .unset, .unset, .unset] [(.int (3 : Int32)), (.int ((sx.toUInt32 >>> ((3 : Int32) &&& 31).toUInt32).toInt32))])) target
      refine XS.iand X64j.here hx rfl (hb hby at_95) rfl ?_
      show Steps p.tables e below (T64j.setTop (mkF m 96 #[.val (.int ua), .val (.int ub), .val (.int ux), .val (.int sx), .val (.ref b_1), .val (.int (1 : Int32)), .val (.int (2 : Int32)), .val (.int (Int32.ofNat un)), .val (.int (Int32.ofNat un)), .val (.int (3 : Int32)), .val (.int (Int32.ofNat k1)), .unset, .unset, .unset, .unset] [(.int (((sx.toUInt32 >>> ((3 : Int32) &&& 31).toUInt32).toInt32) &&& (3 : Int32)))])) target
      refine XS.istore X64j.here hx rfl (hb hby at_96) rfl (l' := #[.val (.int ua), .val (.int ub), .val (.int ux), .val (.int sx), .val (.ref b_1), .val (.int (1 : Int32)), .val (.int (2 : Int32)), .val (.int (Int32.ofNat un)), .val (.int (Int32.ofNat un)), .val (.int (3 : Int32)), .val (.int (Int32.ofNat k1)), .val (.int (((sx.toUInt32 >>> ((3 : Int32) &&& 31).toUInt32).toInt32) &&& (3 : Int32))), .unset, .unset, .unset]) rfl ?_
      show Steps p.tables e below (T64j.setTop (mkF m 98 #[.val (.int ua), .val (.int ub), .val (.int ux), .val (.int sx), .val (.ref b_1), .val (.int (1 : Int32)), .val (.int (2 : Int32)), .val (.int (Int32.ofNat un)), .val (.int (Int32.ofNat un)), .val (.int (3 : Int32)), .val (.int (Int32.ofNat k1)), .val (.int (((sx.toUInt32 >>> ((3 : Int32) &&& 31).toUInt32).toInt32) &&& (3 : Int32))), .unset, .unset, .unset] [])) target
      exact kt
    obtain ⟨k2, hk2, ek2⟩ := own_and3 (((sx.toUInt32 >>> ((3 : Int32) &&& 31).toUInt32).toInt32))
    rw [ek2]
    obtain ⟨cq_13, kq_13, q_13a, q_13b, q_13c⟩ := isOf hZ e64j Ej
    obtain ⟨_, _, ⟨T_13, L_13, k_13, n_13⟩, -, X_13, ⟨Lc_13, hQ_13, l_13, y_13, z_13⟩, st_13⟩ := X64j.virtualBack hx (y := (⟨"com/example/filigree/filigree/engine/DecisionTree", "keep", "(I)V"⟩ : MethodName)) (z := (⟨"com/example/filigree/filigree/engine/DecisionTree", "keep", "(I)V"⟩ : MethodName)) hown (mvT hZ (hw _ (List.mem_of_getElem? (i := 32) rfl))) (mvT hZ (hw _ (List.mem_of_getElem? (i := 33) rfl))) (notFace_of_selects (args := #[]) (mvT hZ (hw _ (List.mem_of_getElem? (i := 35) rfl)))) (mvT hZ (hw _ (List.mem_of_getElem? (i := 35) rfl))) (mvT hZ (hw _ (List.mem_of_getElem? (i := 34) rfl))) (by decide) (backOf (W := 0) (rm_keep l Z a0 hw [] b_1 k1 un own_s0 b0_x_4 b3_x_4 b4_x_4 b5_x_4 b6_x_4 k0_x_4 k3_x_4 k4_x_4 k5_x_4 k6_x_4 h64j n0 Z64j Fj0 Fj3 Fj4 Fj5 Fj6 Vj0 Vj3 Vj4 Vj5 Vj6 gn_b3_x_4 gn_b4_x_4 gn_b5_x_4 gn_b6_x_4 p_4_17 p_4_20 p_4_21 p_4_22 p_4_23 p_4_26 p_4_27 p_4_28 p_4_29 p_4_39 p_4_40 p_4_41 p_4_42 p_4_43 p_4_44 hk1 hun) hZ (hw _ (List.mem_of_getElem? (i := 36) rfl)) (hw _ (List.mem_of_getElem? (i := 2) rfl)) (by decide) (by decide)) q_13a q_13c (g := (mkF m 102 #[.val (.int ua), .val (.int ub), .val (.int ux), .val (.int sx), .val (.ref b_1), .val (.int (1 : Int32)), .val (.int (2 : Int32)), .val (.int (Int32.ofNat un)), .val (.int (Int32.ofNat un)), .val (.int (3 : Int32)), .val (.int (Int32.ofNat k1)), .val (.int (Int32.ofNat k2)), .unset, .unset, .unset] [(.int (Int32.ofNat k1)), (.ref b_1)])) rfl (by rw [hml]; rfl) (Steps.refl _) (argsL := [(.int (Int32.ofNat k1))]) (rest := []) (lenOf pd_I_V rfl) rfl (by show 2 * 0 + _ ≤ _; exact Nat.le_of_eq rfl) (hb hby at_102) (fun _ _ => ⟨rfl, e64j, (by decide : 8 + 0 ≤ _), (by decide : 456 + 0 ≤ _)⟩)
    dsimp only [Pt.U, Pt.locs, Pt.cells, Pt.slots] at X_13 l_13 y_13 z_13 st_13 hQ_13
    subst y_13 z_13
    obtain ⟨rfl, N_13q, p_13_0, p_13_1, p_13_2, p_13_3, p_13_4⟩ := hQ_13
    have N_13 : Fr n0 L_13 := by rw [l_13]; exact Fr.app N64j N_13q
    clear l_13
    have Z_14 : n0 ≤ T_13.heap.size := Nat.le_trans Z64j p_13_0.1
    have f_17 := (Fj0.keep p_13_0 (by simp only [List.mem_cons, List.not_mem_nil, or_false, not_or]; exact ⟨p_4_20, p_4_21, p_4_22, p_4_23⟩))
    have f_18 := (Fj3.keep p_13_0 (by simp only [List.mem_cons, List.not_mem_nil, or_false, not_or]; exact ⟨p_4_20, p_4_21, p_4_22, p_4_23⟩))
    have f_19 := (Fj4.keep p_13_0 (by simp only [List.mem_cons, List.not_mem_nil, or_false, not_or]; exact ⟨p_4_20, p_4_21, p_4_22, p_4_23⟩))
    have f_20 := (Fj5.keep p_13_0 (by simp only [List.mem_cons, List.not_mem_nil, or_false, not_or]; exact ⟨p_4_20, p_4_21, p_4_22, p_4_23⟩))
    have f_21 := (Fj6.keep p_13_0 (by simp only [List.mem_cons, List.not_mem_nil, or_false, not_or]; exact ⟨p_4_20, p_4_21, p_4_22, p_4_23⟩))
    have f_22 := (Vj0.keep p_13_0 (by simp only [List.mem_cons, List.not_mem_nil, or_false, not_or]; exact ⟨p_4_26, p_4_27, p_4_28, p_4_29⟩))
    have f_23 := (Ej.keep p_13_0)
    obtain ⟨cq_16, kq_16, q_16a, q_16b, q_16c⟩ := isOf hZ rfl f_23
    obtain ⟨_, _, ⟨T_16, L_16, k_16, n_16⟩, -, X_16, ⟨Lc_16, hQ_16, l_16, y_16, z_16⟩, st_16⟩ := X_13.virtualBack hx (y := (⟨"com/example/filigree/filigree/engine/DecisionTree", "keep", "(I)V"⟩ : MethodName)) (z := (⟨"com/example/filigree/filigree/engine/DecisionTree", "keep", "(I)V"⟩ : MethodName)) hown (mvT hZ (hw _ (List.mem_of_getElem? (i := 32) rfl))) (mvT hZ (hw _ (List.mem_of_getElem? (i := 33) rfl))) (notFace_of_selects (args := #[]) (mvT hZ (hw _ (List.mem_of_getElem? (i := 35) rfl)))) (mvT hZ (hw _ (List.mem_of_getElem? (i := 35) rfl))) (mvT hZ (hw _ (List.mem_of_getElem? (i := 34) rfl))) (by decide) (backOf (W := 0) (rm_keep l Z a0 hw [] b_1 k2 un (own_keep un 4 k1 own_s0) b0_x_4 b3_x_4 b4_x_4 b5_x_4 b6_x_4 k0_x_4 k3_x_4 k4_x_4 k5_x_4 k6_x_4 T_13.heap n0 Z_14 f_17 f_18 f_19 f_20 f_21 f_22 p_13_1 p_13_2 p_13_3 p_13_4 gn_b3_x_4 gn_b4_x_4 gn_b5_x_4 gn_b6_x_4 p_4_17 p_4_20 p_4_21 p_4_22 p_4_23 p_4_26 p_4_27 p_4_28 p_4_29 p_4_39 p_4_40 p_4_41 p_4_42 p_4_43 p_4_44 hk2 hun) hZ (hw _ (List.mem_of_getElem? (i := 36) rfl)) (hw _ (List.mem_of_getElem? (i := 2) rfl)) (by decide) (by decide)) q_16a q_16c (g := (mkF m 109 #[.val (.int ua), .val (.int ub), .val (.int ux), .val (.int sx), .val (.ref b_1), .val (.int (1 : Int32)), .val (.int (2 : Int32)), .val (.int (Int32.ofNat un)), .val (.int (Int32.ofNat un)), .val (.int (3 : Int32)), .val (.int (Int32.ofNat k1)), .val (.int (Int32.ofNat k2)), .unset, .unset, .unset] [(.int (Int32.ofNat k2)), (.ref b_1)])) rfl (by rw [hml]; rfl) (Steps.refl _) (argsL := [(.int (Int32.ofNat k2))]) (rest := []) (lenOf pd_I_V rfl) rfl (by show 2 * 0 + _ ≤ _; exact Nat.le_of_eq rfl) (hb hby at_109) (fun _ _ => ⟨rfl, rfl, (by decide : 8 + 0 ≤ _), (by decide : 456 + 0 ≤ _)⟩)
    dsimp only [Pt.U, Pt.locs, Pt.cells, Pt.slots] at X_16 l_16 y_16 z_16 st_16 hQ_16
    subst y_16 z_16
    obtain ⟨rfl, N_16q, p_16_0, p_16_1, p_16_2, p_16_3, p_16_4⟩ := hQ_16
    have N_16 : Fr n0 L_16 := by rw [l_16]; exact Fr.app N_13 N_16q
    clear l_16
    have Z_24 : n0 ≤ T_16.heap.size := Nat.le_trans Z_14 p_16_0.1
    refine own_go (S' := T_16.setTop (mkF m 112 #[.val (.int ua), .val (.int ub), .val (.int ux), .val (.int sx), .val (.ref b_1), .val (.int (1 : Int32)), .val (.int (2 : Int32)), .val (.int (Int32.ofNat un)), .val (.int (Int32.ofNat un)), .val (.int (3 : Int32)), .val (.int (Int32.ofNat k1)), .val (.int (Int32.ofNat k2)), .unset, .unset, .unset] [])) (fun target kt => ?_) ?_
    · show Steps p.tables e below (T64j.setTop (mkF m 98 #[.val (.int ua), .val (.int ub), .val (.int ux), .val (.int sx), .val (.ref b_1), .val (.int (1 : Int32)), .val (.int (2 : Int32)), .val (.int (Int32.ofNat un)), .val (.int (Int32.ofNat un)), .val (.int (3 : Int32)), .val (.int (Int32.ofNat k1)), .val (.int (Int32.ofNat k2)), .unset, .unset, .unset] [])) target
      refine XS.aload X64j.here hx rfl (hb hby at_98) rfl rfl ?_
      show Steps p.tables e below (T64j.setTop (mkF m 100 #[.val (.int ua), .val (.int ub), .val (.int ux), .val (.int sx), .val (.ref b_1), .val (.int (1 : Int32)), .val (.int (2 : Int32)), .val (.int (Int32.ofNat un)), .val (.int (Int32.ofNat un)), .val (.int (3 : Int32)), .val (.int (Int32.ofNat k1)), .val (.int (Int32.ofNat k2)), .unset, .unset, .unset] [(.ref b_1)])) target
      refine XS.iload X64j.here hx rfl (hb hby at_100) rfl ?_
      show Steps p.tables e below (T64j.setTop (mkF m 102 #[.val (.int ua), .val (.int ub), .val (.int ux), .val (.int sx), .val (.ref b_1), .val (.int (1 : Int32)), .val (.int (2 : Int32)), .val (.int (Int32.ofNat un)), .val (.int (Int32.ofNat un)), .val (.int (3 : Int32)), .val (.int (Int32.ofNat k1)), .val (.int (Int32.ofNat k2)), .unset, .unset, .unset] [(.int (Int32.ofNat k1)), (.ref b_1)])) target
      refine st_13.trans ?_
      show Steps p.tables e below (T_13.setTop (mkF m 105 #[.val (.int ua), .val (.int ub), .val (.int ux), .val (.int sx), .val (.ref b_1), .val (.int (1 : Int32)), .val (.int (2 : Int32)), .val (.int (Int32.ofNat un)), .val (.int (Int32.ofNat un)), .val (.int (3 : Int32)), .val (.int (Int32.ofNat k1)), .val (.int (Int32.ofNat k2)), .unset, .unset, .unset] [])) target
      refine XS.aload X_13.here hx rfl (hb hby at_105) rfl rfl ?_
      show Steps p.tables e below (T_13.setTop (mkF m 107 #[.val (.int ua), .val (.int ub), .val (.int ux), .val (.int sx), .val (.ref b_1), .val (.int (1 : Int32)), .val (.int (2 : Int32)), .val (.int (Int32.ofNat un)), .val (.int (Int32.ofNat un)), .val (.int (3 : Int32)), .val (.int (Int32.ofNat k1)), .val (.int (Int32.ofNat k2)), .unset, .unset, .unset] [(.ref b_1)])) target
      refine XS.iload X_13.here hx rfl (hb hby at_107) rfl ?_
      show Steps p.tables e below (T_13.setTop (mkF m 109 #[.val (.int ua), .val (.int ub), .val (.int ux), .val (.int sx), .val (.ref b_1), .val (.int (1 : Int32)), .val (.int (2 : Int32)), .val (.int (Int32.ofNat un)), .val (.int (Int32.ofNat un)), .val (.int (3 : Int32)), .val (.int (Int32.ofNat k1)), .val (.int (Int32.ofNat k2)), .unset, .unset, .unset] [(.int (Int32.ofNat k2)), (.ref b_1)])) target
      refine st_16.trans ?_
      show Steps p.tables e below (T_16.setTop (mkF m 112 #[.val (.int ua), .val (.int ub), .val (.int ux), .val (.int sx), .val (.ref b_1), .val (.int (1 : Int32)), .val (.int (2 : Int32)), .val (.int (Int32.ofNat un)), .val (.int (Int32.ofNat un)), .val (.int (3 : Int32)), .val (.int (Int32.ofNat k1)), .val (.int (Int32.ofNat k2)), .unset, .unset, .unset] [])) target
      exact kt
    refine own_join (α := Int32) (fun a => (a = (own_e3 k1 k2))) (fun a => T_16.setTop (mkF m 131 #[.val (.int ua), .val (.int ub), .val (.int ux), .val (.int sx), .val (.ref b_1), .val (.int (1 : Int32)), .val (.int (2 : Int32)), .val (.int (Int32.ofNat un)), .val (.int (Int32.ofNat un)), .val (.int (3 : Int32)), .val (.int (Int32.ofNat k1)), .val (.int (Int32.ofNat k2)), .val (.int a), .unset, .unset] [])) ?_ ?_
    · rintro z12 hz12_
      have hz12 : z12 = (own_e3 k1 k2) := hz12_
      show own_G p.tables e below _ (T_16.setTop (mkF m 131 #[.val (.int ua), .val (.int ub), .val (.int ux), .val (.int sx), .val (.ref b_1), .val (.int (1 : Int32)), .val (.int (2 : Int32)), .val (.int (Int32.ofNat un)), .val (.int (Int32.ofNat un)), .val (.int (3 : Int32)), .val (.int (Int32.ofNat k1)), .val (.int (Int32.ofNat k2)), .val (.int z12), .unset, .unset] []))
      subst hz12
      refine own_join (α := Int32) (fun a => (a = (own_e2 k1 k2))) (fun a => T_16.setTop (mkF m 150 #[.val (.int ua), .val (.int ub), .val (.int ux), .val (.int sx), .val (.ref b_1), .val (.int (1 : Int32)), .val (.int (2 : Int32)), .val (.int (Int32.ofNat un)), .val (.int (Int32.ofNat un)), .val (.int (3 : Int32)), .val (.int (Int32.ofNat k1)), .val (.int (Int32.ofNat k2)), .val (.int (own_e3 k1 k2)), .val (.int a), .unset] [])) ?_ ?_
      · rintro z13 hz13_
        have hz13 : z13 = (own_e2 k1 k2) := hz13_
        show own_G p.tables e below _ (T_16.setTop (mkF m 150 #[.val (.int ua), .val (.int ub), .val (.int ux), .val (.int sx), .val (.ref b_1), .val (.int (1 : Int32)), .val (.int (2 : Int32)), .val (.int (Int32.ofNat un)), .val (.int (Int32.ofNat un)), .val (.int (3 : Int32)), .val (.int (Int32.ofNat k1)), .val (.int (Int32.ofNat k2)), .val (.int (own_e3 k1 k2)), .val (.int z13), .unset] []))
        subst hz13
        refine own_join (α := Int32) (fun a => (a = (own_e1 un k1 k2))) (fun a => T_16.setTop (mkF m 184 #[.val (.int ua), .val (.int ub), .val (.int ux), .val (.int sx), .val (.ref b_1), .val (.int (1 : Int32)), .val (.int (2 : Int32)), .val (.int (Int32.ofNat un)), .val (.int (Int32.ofNat un)), .val (.int (3 : Int32)), .val (.int (Int32.ofNat k1)), .val (.int (Int32.ofNat k2)), .val (.int (own_e3 k1 k2)), .val (.int (own_e2 k1 k2)), .val (.int a)] [])) ?_ ?_
        · rintro z14 hz14_
          have hz14 : z14 = (own_e1 un k1 k2) := hz14_
          show own_G p.tables e below _ (T_16.setTop (mkF m 184 #[.val (.int ua), .val (.int ub), .val (.int ux), .val (.int sx), .val (.ref b_1), .val (.int (1 : Int32)), .val (.int (2 : Int32)), .val (.int (Int32.ofNat un)), .val (.int (Int32.ofNat un)), .val (.int (3 : Int32)), .val (.int (Int32.ofNat k1)), .val (.int (Int32.ofNat k2)), .val (.int (own_e3 k1 k2)), .val (.int (own_e2 k1 k2)), .val (.int z14)] []))
          subst hz14
          have f_27 := (f_21.keep p_16_0 (by simp only [List.mem_cons, List.not_mem_nil, or_false, not_or]; exact ⟨p_4_20, p_4_21, p_4_22, p_4_23⟩))
          have f_28 := (f_23.keep p_16_0)
          obtain ⟨cq_26, kq_26, q_26a, q_26b, q_26c⟩ := isOf hZ rfl f_28
          obtain ⟨_, _, ⟨T_26, L_26, k_26, n_26⟩, -, X_26, ⟨Lc_26, hQ_26, l_26, y_26, z_26⟩, st_26⟩ := X_16.virtualBack hx (y := (⟨"com/example/filigree/filigree/engine/DecisionTree", "kept", "(I)Z"⟩ : MethodName)) (z := (⟨"com/example/filigree/filigree/engine/DecisionTree", "kept", "(I)Z"⟩ : MethodName)) hown (mvT hZ (hw _ (List.mem_of_getElem? (i := 37) rfl))) (mvT hZ (hw _ (List.mem_of_getElem? (i := 38) rfl))) (notFace_of_selects (args := #[]) (mvT hZ (hw _ (List.mem_of_getElem? (i := 40) rfl)))) (mvT hZ (hw _ (List.mem_of_getElem? (i := 40) rfl))) (mvT hZ (hw _ (List.mem_of_getElem? (i := 39) rfl))) (by decide) (backOf (W := 0) (rm_kept l Z a0 hw [] b_1 (1 : Int32) b6_x_4 k6_x_4 ((own_keep un 4 k2 (own_keep un 4 k1 own_s0)).1) T_16.heap n0 Z_24 f_27 p_16_4 (by decide)) hZ (hw _ (List.mem_of_getElem? (i := 41) rfl)) (hw _ (List.mem_of_getElem? (i := 2) rfl)) (by decide) (by decide)) q_26a q_26c (g := (mkF m 187 #[.val (.int ua), .val (.int ub), .val (.int ux), .val (.int sx), .val (.ref b_1), .val (.int (1 : Int32)), .val (.int (2 : Int32)), .val (.int (Int32.ofNat un)), .val (.int (Int32.ofNat un)), .val (.int (3 : Int32)), .val (.int (Int32.ofNat k1)), .val (.int (Int32.ofNat k2)), .val (.int (own_e3 k1 k2)), .val (.int (own_e2 k1 k2)), .val (.int (own_e1 un k1 k2))] [(.int (1 : Int32)), (.ref b_1)])) rfl (by rw [hml]; rfl) (Steps.refl _) (argsL := [(.int (1 : Int32))]) (rest := []) (lenOf pd_I_Z rfl) rfl (by show 2 * 0 + _ ≤ _; exact Nat.le_of_eq rfl) (hb hby at_187) (fun _ _ => ⟨rfl, rfl, (by decide : 8 + 0 ≤ _), (by decide : 456 + 0 ≤ _)⟩)
          dsimp only [Pt.U, Pt.locs, Pt.cells, Pt.slots] at X_26 l_26 y_26 z_26 st_26 hQ_26
          subst y_26 z_26
          obtain ⟨rfl, N_26q, p_26_0⟩ := hQ_26
          have N_26 : Fr n0 L_26 := by rw [l_26]; exact Fr.app N_16 N_26q
          clear l_26
          obtain ⟨cq_29, kq_29, q_29a, q_29b, q_29c⟩ := isOf hZ p_26_0 f_28
          obtain ⟨_, _, ⟨T_29, L_29, k_29, n_29⟩, -, X_29, ⟨Lc_29, hQ_29, l_29, y_29, z_29⟩, st_29⟩ := X_26.virtualBack hx (y := (⟨"com/example/filigree/filigree/engine/DecisionTree", "kept", "(I)Z"⟩ : MethodName)) (z := (⟨"com/example/filigree/filigree/engine/DecisionTree", "kept", "(I)Z"⟩ : MethodName)) hown (mvT hZ (hw _ (List.mem_of_getElem? (i := 37) rfl))) (mvT hZ (hw _ (List.mem_of_getElem? (i := 38) rfl))) (notFace_of_selects (args := #[]) (mvT hZ (hw _ (List.mem_of_getElem? (i := 40) rfl)))) (mvT hZ (hw _ (List.mem_of_getElem? (i := 40) rfl))) (mvT hZ (hw _ (List.mem_of_getElem? (i := 39) rfl))) (by decide) (backOf (W := 0) (rm_kept l Z a0 hw [] b_1 (2 : Int32) b6_x_4 k6_x_4 ((own_keep un 4 k2 (own_keep un 4 k1 own_s0)).1) T_16.heap n0 Z_24 f_27 p_16_4 (by decide)) hZ (hw _ (List.mem_of_getElem? (i := 41) rfl)) (hw _ (List.mem_of_getElem? (i := 2) rfl)) (by decide) (by decide)) q_29a q_29c (g := (mkF m 198 #[.val (.int ua), .val (.int ub), .val (.int ux), .val (.int sx), .val (.ref b_1), .val (.int (1 : Int32)), .val (.int (2 : Int32)), .val (.int (Int32.ofNat un)), .val (.int (Int32.ofNat un)), .val (.int (3 : Int32)), .val (.int (Int32.ofNat k1)), .val (.int (Int32.ofNat k2)), .val (.int (own_e3 k1 k2)), .val (.int (own_e2 k1 k2)), .val (.int (own_e1 un k1 k2))] [(.int (2 : Int32)), (.ref b_1)])) rfl (by rw [hml]; rfl) (Steps.refl _) (argsL := [(.int (2 : Int32))]) (rest := []) (lenOf pd_I_Z rfl) rfl (by show 2 * 0 + _ ≤ _; exact Nat.le_of_eq rfl) (hb hby at_198) (fun _ _ => ⟨rfl, p_26_0, (by decide : 8 + 0 ≤ _), (by decide : 456 + 0 ≤ _)⟩)
          dsimp only [Pt.U, Pt.locs, Pt.cells, Pt.slots] at X_29 l_29 y_29 z_29 st_29 hQ_29
          subst y_29 z_29
          obtain ⟨rfl, N_29q, p_29_0⟩ := hQ_29
          have N_29 : Fr n0 L_29 := by rw [l_29]; exact Fr.app N_26 N_29q
          clear l_29
          obtain ⟨cq_30, kq_30, q_30a, q_30b, q_30c⟩ := isOf hZ p_29_0 f_28
          obtain ⟨_, _, ⟨T_30, L_30, k_30, n_30⟩, -, X_30, ⟨Lc_30, hQ_30, l_30, y_30, z_30⟩, st_30⟩ := X_29.virtualBack hx (y := (⟨"com/example/filigree/filigree/engine/DecisionTree", "kept", "(I)Z"⟩ : MethodName)) (z := (⟨"com/example/filigree/filigree/engine/DecisionTree", "kept", "(I)Z"⟩ : MethodName)) hown (mvT hZ (hw _ (List.mem_of_getElem? (i := 37) rfl))) (mvT hZ (hw _ (List.mem_of_getElem? (i := 38) rfl))) (notFace_of_selects (args := #[]) (mvT hZ (hw _ (List.mem_of_getElem? (i := 40) rfl)))) (mvT hZ (hw _ (List.mem_of_getElem? (i := 40) rfl))) (mvT hZ (hw _ (List.mem_of_getElem? (i := 39) rfl))) (by decide) (backOf (W := 0) (rm_kept l Z a0 hw [] b_1 (3 : Int32) b6_x_4 k6_x_4 ((own_keep un 4 k2 (own_keep un 4 k1 own_s0)).1) T_16.heap n0 Z_24 f_27 p_16_4 (by decide)) hZ (hw _ (List.mem_of_getElem? (i := 41) rfl)) (hw _ (List.mem_of_getElem? (i := 2) rfl)) (by decide) (by decide)) q_30a q_30c (g := (mkF m 209 #[.val (.int ua), .val (.int ub), .val (.int ux), .val (.int sx), .val (.ref b_1), .val (.int (1 : Int32)), .val (.int (2 : Int32)), .val (.int (Int32.ofNat un)), .val (.int (Int32.ofNat un)), .val (.int (3 : Int32)), .val (.int (Int32.ofNat k1)), .val (.int (Int32.ofNat k2)), .val (.int (own_e3 k1 k2)), .val (.int (own_e2 k1 k2)), .val (.int (own_e1 un k1 k2))] [(.int (3 : Int32)), (.ref b_1)])) rfl (by rw [hml]; rfl) (Steps.refl _) (argsL := [(.int (3 : Int32))]) (rest := []) (lenOf pd_I_Z rfl) rfl (by show 2 * 0 + _ ≤ _; exact Nat.le_of_eq rfl) (hb hby at_209) (fun _ _ => ⟨rfl, p_29_0, (by decide : 8 + 0 ≤ _), (by decide : 456 + 0 ≤ _)⟩)
          dsimp only [Pt.U, Pt.locs, Pt.cells, Pt.slots] at X_30 l_30 y_30 z_30 st_30 hQ_30
          subst y_30 z_30
          obtain ⟨rfl, N_30q, p_30_0⟩ := hQ_30
          have N_30 : Fr n0 L_30 := by rw [l_30]; exact Fr.app N_29 N_30q
          clear l_30
          refine own_go (S' := T_30.setTop (mkF m 223 #[.val (.int ua), .val (.int ub), .val (.int ux), .val (.int sx), .val (.ref b_1), .val (.int (1 : Int32)), .val (.int (2 : Int32)), .val (.int (Int32.ofNat un)), .val (.int (Int32.ofNat un)), .val (.int (3 : Int32)), .val (.int (Int32.ofNat k1)), .val (.int (Int32.ofNat k2)), .val (.int (own_e3 k1 k2)), .val (.int (own_e2 k1 k2)), .val (.int (own_e1 un k1 k2))] [(.int (1 : Int32)), (.int (own_e1 un k1 k2)), (.int (0 : Int32)), (.ref b_1)])) (fun target kt => ?_) ?_
          · show Steps p.tables e below (T_16.setTop (mkF m 184 #[.val (.int ua), .val (.int ub), .val (.int ux), .val (.int sx), .val (.ref b_1), .val (.int (1 : Int32)), .val (.int (2 : Int32)), .val (.int (Int32.ofNat un)), .val (.int (Int32.ofNat un)), .val (.int (3 : Int32)), .val (.int (Int32.ofNat k1)), .val (.int (Int32.ofNat k2)), .val (.int (own_e3 k1 k2)), .val (.int (own_e2 k1 k2)), .val (.int (own_e1 un k1 k2))] [])) target
            refine XS.aload X_16.here hx rfl (hb hby at_184) rfl rfl ?_
            show Steps p.tables e below (T_16.setTop (mkF m 186 #[.val (.int ua), .val (.int ub), .val (.int ux), .val (.int sx), .val (.ref b_1), .val (.int (1 : Int32)), .val (.int (2 : Int32)), .val (.int (Int32.ofNat un)), .val (.int (Int32.ofNat un)), .val (.int (3 : Int32)), .val (.int (Int32.ofNat k1)), .val (.int (Int32.ofNat k2)), .val (.int (own_e3 k1 k2)), .val (.int (own_e2 k1 k2)), .val (.int (own_e1 un k1 k2))] [(.ref b_1)])) target
            refine XS.iconst X_16.here hx rfl (hb hby at_186) ?_
            show Steps p.tables e below (T_16.setTop (mkF m 187 #[.val (.int ua), .val (.int ub), .val (.int ux), .val (.int sx), .val (.ref b_1), .val (.int (1 : Int32)), .val (.int (2 : Int32)), .val (.int (Int32.ofNat un)), .val (.int (Int32.ofNat un)), .val (.int (3 : Int32)), .val (.int (Int32.ofNat k1)), .val (.int (Int32.ofNat k2)), .val (.int (own_e3 k1 k2)), .val (.int (own_e2 k1 k2)), .val (.int (own_e1 un k1 k2))] [(.int (1 : Int32)), (.ref b_1)])) target
            refine st_26.trans ?_
            show Steps p.tables e below (T_26.setTop (mkF m 190 #[.val (.int ua), .val (.int ub), .val (.int ux), .val (.int sx), .val (.ref b_1), .val (.int (1 : Int32)), .val (.int (2 : Int32)), .val (.int (Int32.ofNat un)), .val (.int (Int32.ofNat un)), .val (.int (3 : Int32)), .val (.int (Int32.ofNat k1)), .val (.int (Int32.ofNat k2)), .val (.int (own_e3 k1 k2)), .val (.int (own_e2 k1 k2)), .val (.int (own_e1 un k1 k2))] [(.int (nar .boolean ((own_keep un 4 k2 (own_keep un 4 k1 own_s0)).1 (1 : Int32).toNatClampNeg)))])) target
            refine XS.iload X_26.here hx rfl (hb hby at_190) rfl ?_
            show Steps p.tables e below (T_26.setTop (mkF m 192 #[.val (.int ua), .val (.int ub), .val (.int ux), .val (.int sx), .val (.ref b_1), .val (.int (1 : Int32)), .val (.int (2 : Int32)), .val (.int (Int32.ofNat un)), .val (.int (Int32.ofNat un)), .val (.int (3 : Int32)), .val (.int (Int32.ofNat k1)), .val (.int (Int32.ofNat k2)), .val (.int (own_e3 k1 k2)), .val (.int (own_e2 k1 k2)), .val (.int (own_e1 un k1 k2))] [(.int (own_e1 un k1 k2)), (.int (nar .boolean ((own_keep un 4 k2 (own_keep un 4 k1 own_s0)).1 (1 : Int32).toNatClampNeg)))])) target
            refine XS.icmpNo X_26.here hx rfl (hb hby at_192) rfl (teq ((own_fin un k1 k2 hun hk1 hk2).1 : (nar .boolean ((own_keep un 4 k2 (own_keep un 4 k1 own_s0)).1 (1 : Int32).toNatClampNeg)) = (own_e1 un k1 k2))).2 ?_
            show Steps p.tables e below (T_26.setTop (mkF m 195 #[.val (.int ua), .val (.int ub), .val (.int ux), .val (.int sx), .val (.ref b_1), .val (.int (1 : Int32)), .val (.int (2 : Int32)), .val (.int (Int32.ofNat un)), .val (.int (Int32.ofNat un)), .val (.int (3 : Int32)), .val (.int (Int32.ofNat k1)), .val (.int (Int32.ofNat k2)), .val (.int (own_e3 k1 k2)), .val (.int (own_e2 k1 k2)), .val (.int (own_e1 un k1 k2))] [])) target
            refine XS.aload X_26.here hx rfl (hb hby at_195) rfl rfl ?_
            show Steps p.tables e below (T_26.setTop (mkF m 197 #[.val (.int ua), .val (.int ub), .val (.int ux), .val (.int sx), .val (.ref b_1), .val (.int (1 : Int32)), .val (.int (2 : Int32)), .val (.int (Int32.ofNat un)), .val (.int (Int32.ofNat un)), .val (.int (3 : Int32)), .val (.int (Int32.ofNat k1)), .val (.int (Int32.ofNat k2)), .val (.int (own_e3 k1 k2)), .val (.int (own_e2 k1 k2)), .val (.int (own_e1 un k1 k2))] [(.ref b_1)])) target
            refine XS.iconst X_26.here hx rfl (hb hby at_197) ?_
            show Steps p.tables e below (T_26.setTop (mkF m 198 #[.val (.int ua), .val (.int ub), .val (.int ux), .val (.int sx), .val (.ref b_1), .val (.int (1 : Int32)), .val (.int (2 : Int32)), .val (.int (Int32.ofNat un)), .val (.int (Int32.ofNat un)), .val (.int (3 : Int32)), .val (.int (Int32.ofNat k1)), .val (.int (Int32.ofNat k2)), .val (.int (own_e3 k1 k2)), .val (.int (own_e2 k1 k2)), .val (.int (own_e1 un k1 k2))] [(.int (2 : Int32)), (.ref b_1)])) target
            refine st_29.trans ?_
            show Steps p.tables e below (T_29.setTop (mkF m 201 #[.val (.int ua), .val (.int ub), .val (.int ux), .val (.int sx), .val (.ref b_1), .val (.int (1 : Int32)), .val (.int (2 : Int32)), .val (.int (Int32.ofNat un)), .val (.int (Int32.ofNat un)), .val (.int (3 : Int32)), .val (.int (Int32.ofNat k1)), .val (.int (Int32.ofNat k2)), .val (.int (own_e3 k1 k2)), .val (.int (own_e2 k1 k2)), .val (.int (own_e1 un k1 k2))] [(.int (nar .boolean ((own_keep un 4 k2 (own_keep un 4 k1 own_s0)).1 (2 : Int32).toNatClampNeg)))])) target
            refine XS.iload X_29.here hx rfl (hb hby at_201) rfl ?_
            show Steps p.tables e below (T_29.setTop (mkF m 203 #[.val (.int ua), .val (.int ub), .val (.int ux), .val (.int sx), .val (.ref b_1), .val (.int (1 : Int32)), .val (.int (2 : Int32)), .val (.int (Int32.ofNat un)), .val (.int (Int32.ofNat un)), .val (.int (3 : Int32)), .val (.int (Int32.ofNat k1)), .val (.int (Int32.ofNat k2)), .val (.int (own_e3 k1 k2)), .val (.int (own_e2 k1 k2)), .val (.int (own_e1 un k1 k2))] [(.int (own_e2 k1 k2)), (.int (nar .boolean ((own_keep un 4 k2 (own_keep un 4 k1 own_s0)).1 (2 : Int32).toNatClampNeg)))])) target
            refine XS.icmpNo X_29.here hx rfl (hb hby at_203) rfl (teq ((own_fin un k1 k2 hun hk1 hk2).2.1 : (nar .boolean ((own_keep un 4 k2 (own_keep un 4 k1 own_s0)).1 (2 : Int32).toNatClampNeg)) = (own_e2 k1 k2))).2 ?_
            show Steps p.tables e below (T_29.setTop (mkF m 206 #[.val (.int ua), .val (.int ub), .val (.int ux), .val (.int sx), .val (.ref b_1), .val (.int (1 : Int32)), .val (.int (2 : Int32)), .val (.int (Int32.ofNat un)), .val (.int (Int32.ofNat un)), .val (.int (3 : Int32)), .val (.int (Int32.ofNat k1)), .val (.int (Int32.ofNat k2)), .val (.int (own_e3 k1 k2)), .val (.int (own_e2 k1 k2)), .val (.int (own_e1 un k1 k2))] [])) target
            refine XS.aload X_29.here hx rfl (hb hby at_206) rfl rfl ?_
            show Steps p.tables e below (T_29.setTop (mkF m 208 #[.val (.int ua), .val (.int ub), .val (.int ux), .val (.int sx), .val (.ref b_1), .val (.int (1 : Int32)), .val (.int (2 : Int32)), .val (.int (Int32.ofNat un)), .val (.int (Int32.ofNat un)), .val (.int (3 : Int32)), .val (.int (Int32.ofNat k1)), .val (.int (Int32.ofNat k2)), .val (.int (own_e3 k1 k2)), .val (.int (own_e2 k1 k2)), .val (.int (own_e1 un k1 k2))] [(.ref b_1)])) target
            refine XS.iconst X_29.here hx rfl (hb hby at_208) ?_
            show Steps p.tables e below (T_29.setTop (mkF m 209 #[.val (.int ua), .val (.int ub), .val (.int ux), .val (.int sx), .val (.ref b_1), .val (.int (1 : Int32)), .val (.int (2 : Int32)), .val (.int (Int32.ofNat un)), .val (.int (Int32.ofNat un)), .val (.int (3 : Int32)), .val (.int (Int32.ofNat k1)), .val (.int (Int32.ofNat k2)), .val (.int (own_e3 k1 k2)), .val (.int (own_e2 k1 k2)), .val (.int (own_e1 un k1 k2))] [(.int (3 : Int32)), (.ref b_1)])) target
            refine st_30.trans ?_
            show Steps p.tables e below (T_30.setTop (mkF m 212 #[.val (.int ua), .val (.int ub), .val (.int ux), .val (.int sx), .val (.ref b_1), .val (.int (1 : Int32)), .val (.int (2 : Int32)), .val (.int (Int32.ofNat un)), .val (.int (Int32.ofNat un)), .val (.int (3 : Int32)), .val (.int (Int32.ofNat k1)), .val (.int (Int32.ofNat k2)), .val (.int (own_e3 k1 k2)), .val (.int (own_e2 k1 k2)), .val (.int (own_e1 un k1 k2))] [(.int (nar .boolean ((own_keep un 4 k2 (own_keep un 4 k1 own_s0)).1 (3 : Int32).toNatClampNeg)))])) target
            refine XS.iload X_30.here hx rfl (hb hby at_212) rfl ?_
            show Steps p.tables e below (T_30.setTop (mkF m 214 #[.val (.int ua), .val (.int ub), .val (.int ux), .val (.int sx), .val (.ref b_1), .val (.int (1 : Int32)), .val (.int (2 : Int32)), .val (.int (Int32.ofNat un)), .val (.int (Int32.ofNat un)), .val (.int (3 : Int32)), .val (.int (Int32.ofNat k1)), .val (.int (Int32.ofNat k2)), .val (.int (own_e3 k1 k2)), .val (.int (own_e2 k1 k2)), .val (.int (own_e1 un k1 k2))] [(.int (own_e3 k1 k2)), (.int (nar .boolean ((own_keep un 4 k2 (own_keep un 4 k1 own_s0)).1 (3 : Int32).toNatClampNeg)))])) target
            refine XS.icmpNo X_30.here hx rfl (hb hby at_214) rfl (teq ((own_fin un k1 k2 hun hk1 hk2).2.2.1 : (nar .boolean ((own_keep un 4 k2 (own_keep un 4 k1 own_s0)).1 (3 : Int32).toNatClampNeg)) = (own_e3 k1 k2))).2 ?_
            show Steps p.tables e below (T_30.setTop (mkF m 217 #[.val (.int ua), .val (.int ub), .val (.int ux), .val (.int sx), .val (.ref b_1), .val (.int (1 : Int32)), .val (.int (2 : Int32)), .val (.int (Int32.ofNat un)), .val (.int (Int32.ofNat un)), .val (.int (3 : Int32)), .val (.int (Int32.ofNat k1)), .val (.int (Int32.ofNat k2)), .val (.int (own_e3 k1 k2)), .val (.int (own_e2 k1 k2)), .val (.int (own_e1 un k1 k2))] [])) target
            refine XS.aload X_30.here hx rfl (hb hby at_217) rfl rfl ?_
            show Steps p.tables e below (T_30.setTop (mkF m 219 #[.val (.int ua), .val (.int ub), .val (.int ux), .val (.int sx), .val (.ref b_1), .val (.int (1 : Int32)), .val (.int (2 : Int32)), .val (.int (Int32.ofNat un)), .val (.int (Int32.ofNat un)), .val (.int (3 : Int32)), .val (.int (Int32.ofNat k1)), .val (.int (Int32.ofNat k2)), .val (.int (own_e3 k1 k2)), .val (.int (own_e2 k1 k2)), .val (.int (own_e1 un k1 k2))] [(.ref b_1)])) target
            refine XS.iconst X_30.here hx rfl (hb hby at_219) ?_
            show Steps p.tables e below (T_30.setTop (mkF m 220 #[.val (.int ua), .val (.int ub), .val (.int ux), .val (.int sx), .val (.ref b_1), .val (.int (1 : Int32)), .val (.int (2 : Int32)), .val (.int (Int32.ofNat un)), .val (.int (Int32.ofNat un)), .val (.int (3 : Int32)), .val (.int (Int32.ofNat k1)), .val (.int (Int32.ofNat k2)), .val (.int (own_e3 k1 k2)), .val (.int (own_e2 k1 k2)), .val (.int (own_e1 un k1 k2))] [(.int (0 : Int32)), (.ref b_1)])) target
            refine XS.iload X_30.here hx rfl (hb hby at_220) rfl ?_
            show Steps p.tables e below (T_30.setTop (mkF m 222 #[.val (.int ua), .val (.int ub), .val (.int ux), .val (.int sx), .val (.ref b_1), .val (.int (1 : Int32)), .val (.int (2 : Int32)), .val (.int (Int32.ofNat un)), .val (.int (Int32.ofNat un)), .val (.int (3 : Int32)), .val (.int (Int32.ofNat k1)), .val (.int (Int32.ofNat k2)), .val (.int (own_e3 k1 k2)), .val (.int (own_e2 k1 k2)), .val (.int (own_e1 un k1 k2))] [(.int (own_e1 un k1 k2)), (.int (0 : Int32)), (.ref b_1)])) target
            refine XS.iconst X_30.here hx rfl (hb hby at_222) ?_
            show Steps p.tables e below (T_30.setTop (mkF m 223 #[.val (.int ua), .val (.int ub), .val (.int ux), .val (.int sx), .val (.ref b_1), .val (.int (1 : Int32)), .val (.int (2 : Int32)), .val (.int (Int32.ofNat un)), .val (.int (Int32.ofNat un)), .val (.int (3 : Int32)), .val (.int (Int32.ofNat k1)), .val (.int (Int32.ofNat k2)), .val (.int (own_e3 k1 k2)), .val (.int (own_e2 k1 k2)), .val (.int (own_e1 un k1 k2))] [(.int (1 : Int32)), (.int (own_e1 un k1 k2)), (.int (0 : Int32)), (.ref b_1)])) target
            exact kt
          refine own_join (α := Int32) (fun a => (a = (own_x3 un k1 k2))) (fun a => T_30.setTop (mkF m 238 #[.val (.int ua), .val (.int ub), .val (.int ux), .val (.int sx), .val (.ref b_1), .val (.int (1 : Int32)), .val (.int (2 : Int32)), .val (.int (Int32.ofNat un)), .val (.int (Int32.ofNat un)), .val (.int (3 : Int32)), .val (.int (Int32.ofNat k1)), .val (.int (Int32.ofNat k2)), .val (.int (own_e3 k1 k2)), .val (.int (own_e2 k1 k2)), .val (.int (own_e1 un k1 k2))] [(.int a), (.int (1 : Int32)), (.int (own_e1 un k1 k2)), (.int (0 : Int32)), (.ref b_1)])) ?_ ?_
          · rintro zx hzx_
            have hzx : zx = (own_x3 un k1 k2) := hzx_
            show own_G p.tables e below _ (T_30.setTop (mkF m 238 #[.val (.int ua), .val (.int ub), .val (.int ux), .val (.int sx), .val (.ref b_1), .val (.int (1 : Int32)), .val (.int (2 : Int32)), .val (.int (Int32.ofNat un)), .val (.int (Int32.ofNat un)), .val (.int (3 : Int32)), .val (.int (Int32.ofNat k1)), .val (.int (Int32.ofNat k2)), .val (.int (own_e3 k1 k2)), .val (.int (own_e2 k1 k2)), .val (.int (own_e1 un k1 k2))] [(.int zx), (.int (1 : Int32)), (.int (own_e1 un k1 k2)), (.int (0 : Int32)), (.ref b_1)]))
            subst hzx
            have f_32 := (f_18.keep p_16_0 (by simp only [List.mem_cons, List.not_mem_nil, or_false, not_or]; exact ⟨p_4_20, p_4_21, p_4_22, p_4_23⟩))
            have f_33 := (f_19.keep p_16_0 (by simp only [List.mem_cons, List.not_mem_nil, or_false, not_or]; exact ⟨p_4_20, p_4_21, p_4_22, p_4_23⟩))
            have f_34 := (f_20.keep p_16_0 (by simp only [List.mem_cons, List.not_mem_nil, or_false, not_or]; exact ⟨p_4_20, p_4_21, p_4_22, p_4_23⟩))
            obtain ⟨_, _, ⟨T_31, L_31, k_31, n_31⟩, -, X_31, ⟨Lc_31, hQ_31, l_31, y_31, z_31⟩, st_31⟩ := Jvm.LawKit.callS X_30 hx (y := (⟨"com/example/filigree/filigree/engine/DecisionTreeKeepPinLaw", "children", "(Lcom/example/filigree/filigree/engine/DecisionTree;IZIZI)Z"⟩ : MethodName)) hown (mvT hZ (hw _ (List.mem_of_getElem? (i := 42) rfl))) (mvT hZ (hw _ (List.mem_of_getElem? (i := 43) rfl))) (mvT hZ (hw _ (List.mem_of_getElem? (i := 44) rfl))) (mvT hZ (hw _ (List.mem_of_getElem? (i := 45) rfl))) (by decide) (backOf (W := 0) (rm_chl l Z a0 hw [] b_1 (0 : Int32) (own_e1 un k1 k2) (1 : Int32) (own_x3 un k1 k2) (3 : Int32) ((own_keep un 4 k2 (own_keep un 4 k1 own_s0)).2.1) ((own_keep un 4 k2 (own_keep un 4 k1 own_s0)).2.2.2) ((own_keep un 4 k2 (own_keep un 4 k1 own_s0)).2.2.1) b3_x_4 b4_x_4 b5_x_4 k3_x_4 k4_x_4 k5_x_4 T_16.heap n0 Z_24 f_28 f_32 f_33 f_34 p_16_1 p_16_2 p_16_3 (by decide)) hZ (hw _ (List.mem_of_getElem? (i := 45) rfl)) (hw _ (List.mem_of_getElem? (i := 44) rfl)) (by decide) (by decide)) (g := (mkF m 239 #[.val (.int ua), .val (.int ub), .val (.int ux), .val (.int sx), .val (.ref b_1), .val (.int (1 : Int32)), .val (.int (2 : Int32)), .val (.int (Int32.ofNat un)), .val (.int (Int32.ofNat un)), .val (.int (3 : Int32)), .val (.int (Int32.ofNat k1)), .val (.int (Int32.ofNat k2)), .val (.int (own_e3 k1 k2)), .val (.int (own_e2 k1 k2)), .val (.int (own_e1 un k1 k2))] [(.int (3 : Int32)), (.int (own_x3 un k1 k2)), (.int (1 : Int32)), (.int (own_e1 un k1 k2)), (.int (0 : Int32)), (.ref b_1)])) rfl (by rw [hml]; rfl) (argsL := [(.ref b_1), (.int (0 : Int32)), (.int (own_e1 un k1 k2)), (.int (1 : Int32)), (.int (own_x3 un k1 k2)), (.int (3 : Int32))]) (rest := []) (lenOf pd_LcomexamplefiligreefiligreeengineDecisionTreeIZIZI_Z rfl) rfl (by show 2 * 0 + _ ≤ _; exact Nat.le_of_eq rfl) (hb hby at_239) (fun _ _ => ⟨rfl, p_30_0, (by decide : 8 + 0 ≤ _), (by decide : 456 + 0 ≤ _)⟩)
            dsimp only [Pt.U, Pt.locs, Pt.cells, Pt.slots] at X_31 l_31 y_31 z_31 st_31 hQ_31
            subst y_31 z_31
            obtain ⟨rfl, N_31q, p_31_0⟩ := hQ_31
            have N_31 : Fr n0 L_31 := by rw [l_31]; exact Fr.app N_30 N_31q
            clear l_31
            refine own_go (S' := T_31.setTop (mkF m 251 #[.val (.int ua), .val (.int ub), .val (.int ux), .val (.int sx), .val (.ref b_1), .val (.int (1 : Int32)), .val (.int (2 : Int32)), .val (.int (Int32.ofNat un)), .val (.int (Int32.ofNat un)), .val (.int (3 : Int32)), .val (.int (Int32.ofNat k1)), .val (.int (Int32.ofNat k2)), .val (.int (own_e3 k1 k2)), .val (.int (own_e2 k1 k2)), .val (.int (own_e1 un k1 k2))] [(.int (2 : Int32)), (.int (own_e2 k1 k2)), (.int (1 : Int32)), (.ref b_1)])) (fun target kt => ?_) ?_
            · show Steps p.tables e below (T_30.setTop (mkF m 238 #[.val (.int ua), .val (.int ub), .val (.int ux), .val (.int sx), .val (.ref b_1), .val (.int (1 : Int32)), .val (.int (2 : Int32)), .val (.int (Int32.ofNat un)), .val (.int (Int32.ofNat un)), .val (.int (3 : Int32)), .val (.int (Int32.ofNat k1)), .val (.int (Int32.ofNat k2)), .val (.int (own_e3 k1 k2)), .val (.int (own_e2 k1 k2)), .val (.int (own_e1 un k1 k2))] [(.int (own_x3 un k1 k2)), (.int (1 : Int32)), (.int (own_e1 un k1 k2)), (.int (0 : Int32)), (.ref b_1)])) target
              refine XS.iconst X_30.here hx rfl (hb hby at_238) ?_
              show Steps p.tables e below (T_30.setTop (mkF m 239 #[.val (.int ua), .val (.int ub), .val (.int ux), .val (.int sx), .val (.ref b_1), .val (.int (1 : Int32)), .val (.int (2 : Int32)), .val (.int (Int32.ofNat un)), .val (.int (Int32.ofNat un)), .val (.int (3 : Int32)), .val (.int (Int32.ofNat k1)), .val (.int (Int32.ofNat k2)), .val (.int (own_e3 k1 k2)), .val (.int (own_e2 k1 k2)), .val (.int (own_e1 un k1 k2))] [(.int (3 : Int32)), (.int (own_x3 un k1 k2)), (.int (1 : Int32)), (.int (own_e1 un k1 k2)), (.int (0 : Int32)), (.ref b_1)])) target
              refine st_31 _ ?_
              show Steps p.tables e below (T_31.setTop (mkF m 242 #[.val (.int ua), .val (.int ub), .val (.int ux), .val (.int sx), .val (.ref b_1), .val (.int (1 : Int32)), .val (.int (2 : Int32)), .val (.int (Int32.ofNat un)), .val (.int (Int32.ofNat un)), .val (.int (3 : Int32)), .val (.int (Int32.ofNat k1)), .val (.int (Int32.ofNat k2)), .val (.int (own_e3 k1 k2)), .val (.int (own_e2 k1 k2)), .val (.int (own_e1 un k1 k2))] [(.int (own_ch (own_keep un 4 k2 (own_keep un 4 k1 own_s0)).2.1 (own_keep un 4 k2 (own_keep un 4 k1 own_s0)).2.2.2 (own_keep un 4 k2 (own_keep un 4 k1 own_s0)).2.2.1 (0 : Int32) (own_e1 un k1 k2) (1 : Int32) (own_x3 un k1 k2) (3 : Int32)))])) target
              refine XS.ifNo X_31.here hx rfl (hb hby at_242) rfl ((if0 _ _).trans (feq ((own_fin un k1 k2 hun hk1 hk2).2.2.2.1 : ¬ ((own_ch (own_keep un 4 k2 (own_keep un 4 k1 own_s0)).2.1 (own_keep un 4 k2 (own_keep un 4 k1 own_s0)).2.2.2 (own_keep un 4 k2 (own_keep un 4 k1 own_s0)).2.2.1 (0 : Int32) (own_e1 un k1 k2) (1 : Int32) (own_x3 un k1 k2) (3 : Int32)) = (0 : Int32)))).1) ?_
              show Steps p.tables e below (T_31.setTop (mkF m 245 #[.val (.int ua), .val (.int ub), .val (.int ux), .val (.int sx), .val (.ref b_1), .val (.int (1 : Int32)), .val (.int (2 : Int32)), .val (.int (Int32.ofNat un)), .val (.int (Int32.ofNat un)), .val (.int (3 : Int32)), .val (.int (Int32.ofNat k1)), .val (.int (Int32.ofNat k2)), .val (.int (own_e3 k1 k2)), .val (.int (own_e2 k1 k2)), .val (.int (own_e1 un k1 k2))] [])) target
              refine XS.aload X_31.here hx rfl (hb hby at_245) rfl rfl ?_
              show Steps p.tables e below (T_31.setTop (mkF m 247 #[.val (.int ua), .val (.int ub), .val (.int ux), .val (.int sx), .val (.ref b_1), .val (.int (1 : Int32)), .val (.int (2 : Int32)), .val (.int (Int32.ofNat un)), .val (.int (Int32.ofNat un)), .val (.int (3 : Int32)), .val (.int (Int32.ofNat k1)), .val (.int (Int32.ofNat k2)), .val (.int (own_e3 k1 k2)), .val (.int (own_e2 k1 k2)), .val (.int (own_e1 un k1 k2))] [(.ref b_1)])) target
              refine XS.iconst X_31.here hx rfl (hb hby at_247) ?_
              show Steps p.tables e below (T_31.setTop (mkF m 248 #[.val (.int ua), .val (.int ub), .val (.int ux), .val (.int sx), .val (.ref b_1), .val (.int (1 : Int32)), .val (.int (2 : Int32)), .val (.int (Int32.ofNat un)), .val (.int (Int32.ofNat un)), .val (.int (3 : Int32)), .val (.int (Int32.ofNat k1)), .val (.int (Int32.ofNat k2)), .val (.int (own_e3 k1 k2)), .val (.int (own_e2 k1 k2)), .val (.int (own_e1 un k1 k2))] [(.int (1 : Int32)), (.ref b_1)])) target
              refine XS.iload X_31.here hx rfl (hb hby at_248) rfl ?_
              show Steps p.tables e below (T_31.setTop (mkF m 250 #[.val (.int ua), .val (.int ub), .val (.int ux), .val (.int sx), .val (.ref b_1), .val (.int (1 : Int32)), .val (.int (2 : Int32)), .val (.int (Int32.ofNat un)), .val (.int (Int32.ofNat un)), .val (.int (3 : Int32)), .val (.int (Int32.ofNat k1)), .val (.int (Int32.ofNat k2)), .val (.int (own_e3 k1 k2)), .val (.int (own_e2 k1 k2)), .val (.int (own_e1 un k1 k2))] [(.int (own_e2 k1 k2)), (.int (1 : Int32)), (.ref b_1)])) target
              refine XS.iconst X_31.here hx rfl (hb hby at_250) ?_
              show Steps p.tables e below (T_31.setTop (mkF m 251 #[.val (.int ua), .val (.int ub), .val (.int ux), .val (.int sx), .val (.ref b_1), .val (.int (1 : Int32)), .val (.int (2 : Int32)), .val (.int (Int32.ofNat un)), .val (.int (Int32.ofNat un)), .val (.int (3 : Int32)), .val (.int (Int32.ofNat k1)), .val (.int (Int32.ofNat k2)), .val (.int (own_e3 k1 k2)), .val (.int (own_e2 k1 k2)), .val (.int (own_e1 un k1 k2))] [(.int (2 : Int32)), (.int (own_e2 k1 k2)), (.int (1 : Int32)), (.ref b_1)])) target
              exact kt
            refine own_join (α := Int32) (fun a => (a = (own_y3 un k1 k2))) (fun a => T_31.setTop (mkF m 266 #[.val (.int ua), .val (.int ub), .val (.int ux), .val (.int sx), .val (.ref b_1), .val (.int (1 : Int32)), .val (.int (2 : Int32)), .val (.int (Int32.ofNat un)), .val (.int (Int32.ofNat un)), .val (.int (3 : Int32)), .val (.int (Int32.ofNat k1)), .val (.int (Int32.ofNat k2)), .val (.int (own_e3 k1 k2)), .val (.int (own_e2 k1 k2)), .val (.int (own_e1 un k1 k2))] [(.int a), (.int (2 : Int32)), (.int (own_e2 k1 k2)), (.int (1 : Int32)), (.ref b_1)])) ?_ ?_
            · rintro zy hzy_
              have hzy : zy = (own_y3 un k1 k2) := hzy_
              show own_G p.tables e below _ (T_31.setTop (mkF m 266 #[.val (.int ua), .val (.int ub), .val (.int ux), .val (.int sx), .val (.ref b_1), .val (.int (1 : Int32)), .val (.int (2 : Int32)), .val (.int (Int32.ofNat un)), .val (.int (Int32.ofNat un)), .val (.int (3 : Int32)), .val (.int (Int32.ofNat k1)), .val (.int (Int32.ofNat k2)), .val (.int (own_e3 k1 k2)), .val (.int (own_e2 k1 k2)), .val (.int (own_e1 un k1 k2))] [(.int zy), (.int (2 : Int32)), (.int (own_e2 k1 k2)), (.int (1 : Int32)), (.ref b_1)]))
              subst hzy
              obtain ⟨_, _, ⟨T_35, L_35, k_35, n_35⟩, -, X_35, ⟨Lc_35, hQ_35, l_35, y_35, z_35⟩, st_35⟩ := Jvm.LawKit.callS X_31 hx (y := (⟨"com/example/filigree/filigree/engine/DecisionTreeKeepPinLaw", "children", "(Lcom/example/filigree/filigree/engine/DecisionTree;IZIZI)Z"⟩ : MethodName)) hown (mvT hZ (hw _ (List.mem_of_getElem? (i := 42) rfl))) (mvT hZ (hw _ (List.mem_of_getElem? (i := 43) rfl))) (mvT hZ (hw _ (List.mem_of_getElem? (i := 44) rfl))) (mvT hZ (hw _ (List.mem_of_getElem? (i := 45) rfl))) (by decide) (backOf (W := 0) (rm_chl l Z a0 hw [] b_1 (1 : Int32) (own_e2 k1 k2) (2 : Int32) (own_y3 un k1 k2) (3 : Int32) ((own_keep un 4 k2 (own_keep un 4 k1 own_s0)).2.1) ((own_keep un 4 k2 (own_keep un 4 k1 own_s0)).2.2.2) ((own_keep un 4 k2 (own_keep un 4 k1 own_s0)).2.2.1) b3_x_4 b4_x_4 b5_x_4 k3_x_4 k4_x_4 k5_x_4 T_16.heap n0 Z_24 f_28 f_32 f_33 f_34 p_16_1 p_16_2 p_16_3 (by decide)) hZ (hw _ (List.mem_of_getElem? (i := 45) rfl)) (hw _ (List.mem_of_getElem? (i := 44) rfl)) (by decide) (by decide)) (g := (mkF m 267 #[.val (.int ua), .val (.int ub), .val (.int ux), .val (.int sx), .val (.ref b_1), .val (.int (1 : Int32)), .val (.int (2 : Int32)), .val (.int (Int32.ofNat un)), .val (.int (Int32.ofNat un)), .val (.int (3 : Int32)), .val (.int (Int32.ofNat k1)), .val (.int (Int32.ofNat k2)), .val (.int (own_e3 k1 k2)), .val (.int (own_e2 k1 k2)), .val (.int (own_e1 un k1 k2))] [(.int (3 : Int32)), (.int (own_y3 un k1 k2)), (.int (2 : Int32)), (.int (own_e2 k1 k2)), (.int (1 : Int32)), (.ref b_1)])) rfl (by rw [hml]; rfl) (argsL := [(.ref b_1), (.int (1 : Int32)), (.int (own_e2 k1 k2)), (.int (2 : Int32)), (.int (own_y3 un k1 k2)), (.int (3 : Int32))]) (rest := []) (lenOf pd_LcomexamplefiligreefiligreeengineDecisionTreeIZIZI_Z rfl) rfl (by show 2 * 0 + _ ≤ _; exact Nat.le_of_eq rfl) (hb hby at_267) (fun _ _ => ⟨rfl, p_31_0, (by decide : 8 + 0 ≤ _), (by decide : 456 + 0 ≤ _)⟩)
              dsimp only [Pt.U, Pt.locs, Pt.cells, Pt.slots] at X_35 l_35 y_35 z_35 st_35 hQ_35
              subst y_35 z_35
              obtain ⟨rfl, N_35q, p_35_0⟩ := hQ_35
              have N_35 : Fr n0 L_35 := by rw [l_35]; exact Fr.app N_31 N_35q
              clear l_35
              obtain ⟨_, _, ⟨T_36, L_36, k_36, n_36⟩, -, X_36, ⟨Lc_36, hQ_36, l_36, y_36, z_36⟩, st_36⟩ := Jvm.LawKit.callS X_35 hx (y := (⟨"com/example/filigree/filigree/engine/DecisionTreeKeepPinLaw", "children", "(Lcom/example/filigree/filigree/engine/DecisionTree;IZIZI)Z"⟩ : MethodName)) hown (mvT hZ (hw _ (List.mem_of_getElem? (i := 42) rfl))) (mvT hZ (hw _ (List.mem_of_getElem? (i := 43) rfl))) (mvT hZ (hw _ (List.mem_of_getElem? (i := 44) rfl))) (mvT hZ (hw _ (List.mem_of_getElem? (i := 45) rfl))) (by decide) (backOf (W := 0) (rm_chl l Z a0 hw [] b_1 (2 : Int32) (0 : Int32) (-1 : Int32) (0 : Int32) (-1 : Int32) ((own_keep un 4 k2 (own_keep un 4 k1 own_s0)).2.1) ((own_keep un 4 k2 (own_keep un 4 k1 own_s0)).2.2.2) ((own_keep un 4 k2 (own_keep un 4 k1 own_s0)).2.2.1) b3_x_4 b4_x_4 b5_x_4 k3_x_4 k4_x_4 k5_x_4 T_16.heap n0 Z_24 f_28 f_32 f_33 f_34 p_16_1 p_16_2 p_16_3 (by decide)) hZ (hw _ (List.mem_of_getElem? (i := 45) rfl)) (hw _ (List.mem_of_getElem? (i := 44) rfl)) (by decide) (by decide)) (g := (mkF m 280 #[.val (.int ua), .val (.int ub), .val (.int ux), .val (.int sx), .val (.ref b_1), .val (.int (1 : Int32)), .val (.int (2 : Int32)), .val (.int (Int32.ofNat un)), .val (.int (Int32.ofNat un)), .val (.int (3 : Int32)), .val (.int (Int32.ofNat k1)), .val (.int (Int32.ofNat k2)), .val (.int (own_e3 k1 k2)), .val (.int (own_e2 k1 k2)), .val (.int (own_e1 un k1 k2))] [(.int (-1 : Int32)), (.int (0 : Int32)), (.int (-1 : Int32)), (.int (0 : Int32)), (.int (2 : Int32)), (.ref b_1)])) rfl (by rw [hml]; rfl) (argsL := [(.ref b_1), (.int (2 : Int32)), (.int (0 : Int32)), (.int (-1 : Int32)), (.int (0 : Int32)), (.int (-1 : Int32))]) (rest := []) (lenOf pd_LcomexamplefiligreefiligreeengineDecisionTreeIZIZI_Z rfl) rfl (by show 2 * 0 + _ ≤ _; exact Nat.le_of_eq rfl) (hb hby at_280) (fun _ _ => ⟨rfl, p_35_0, (by decide : 8 + 0 ≤ _), (by decide : 456 + 0 ≤ _)⟩)
              dsimp only [Pt.U, Pt.locs, Pt.cells, Pt.slots] at X_36 l_36 y_36 z_36 st_36 hQ_36
              subst y_36 z_36
              obtain ⟨rfl, N_36q, p_36_0⟩ := hQ_36
              have N_36 : Fr n0 L_36 := by rw [l_36]; exact Fr.app N_35 N_36q
              clear l_36
              obtain ⟨_, _, ⟨T_37, L_37, k_37, n_37⟩, -, X_37, ⟨Lc_37, hQ_37, l_37, y_37, z_37⟩, st_37⟩ := Jvm.LawKit.callS X_36 hx (y := (⟨"com/example/filigree/filigree/engine/DecisionTreeKeepPinLaw", "children", "(Lcom/example/filigree/filigree/engine/DecisionTree;IZIZI)Z"⟩ : MethodName)) hown (mvT hZ (hw _ (List.mem_of_getElem? (i := 42) rfl))) (mvT hZ (hw _ (List.mem_of_getElem? (i := 43) rfl))) (mvT hZ (hw _ (List.mem_of_getElem? (i := 44) rfl))) (mvT hZ (hw _ (List.mem_of_getElem? (i := 45) rfl))) (by decide) (backOf (W := 0) (rm_chl l Z a0 hw [] b_1 (3 : Int32) (0 : Int32) (-1 : Int32) (0 : Int32) (-1 : Int32) ((own_keep un 4 k2 (own_keep un 4 k1 own_s0)).2.1) ((own_keep un 4 k2 (own_keep un 4 k1 own_s0)).2.2.2) ((own_keep un 4 k2 (own_keep un 4 k1 own_s0)).2.2.1) b3_x_4 b4_x_4 b5_x_4 k3_x_4 k4_x_4 k5_x_4 T_16.heap n0 Z_24 f_28 f_32 f_33 f_34 p_16_1 p_16_2 p_16_3 (by decide)) hZ (hw _ (List.mem_of_getElem? (i := 45) rfl)) (hw _ (List.mem_of_getElem? (i := 44) rfl)) (by decide) (by decide)) (g := (mkF m 293 #[.val (.int ua), .val (.int ub), .val (.int ux), .val (.int sx), .val (.ref b_1), .val (.int (1 : Int32)), .val (.int (2 : Int32)), .val (.int (Int32.ofNat un)), .val (.int (Int32.ofNat un)), .val (.int (3 : Int32)), .val (.int (Int32.ofNat k1)), .val (.int (Int32.ofNat k2)), .val (.int (own_e3 k1 k2)), .val (.int (own_e2 k1 k2)), .val (.int (own_e1 un k1 k2))] [(.int (-1 : Int32)), (.int (0 : Int32)), (.int (-1 : Int32)), (.int (0 : Int32)), (.int (3 : Int32)), (.ref b_1)])) rfl (by rw [hml]; rfl) (argsL := [(.ref b_1), (.int (3 : Int32)), (.int (0 : Int32)), (.int (-1 : Int32)), (.int (0 : Int32)), (.int (-1 : Int32))]) (rest := []) (lenOf pd_LcomexamplefiligreefiligreeengineDecisionTreeIZIZI_Z rfl) rfl (by show 2 * 0 + _ ≤ _; exact Nat.le_of_eq rfl) (hb hby at_293) (fun _ _ => ⟨rfl, p_36_0, (by decide : 8 + 0 ≤ _), (by decide : 456 + 0 ≤ _)⟩)
              dsimp only [Pt.U, Pt.locs, Pt.cells, Pt.slots] at X_37 l_37 y_37 z_37 st_37 hQ_37
              subst y_37 z_37
              obtain ⟨rfl, N_37q, p_37_0⟩ := hQ_37
              have N_37 : Fr n0 L_37 := by rw [l_37]; exact Fr.app N_36 N_37q
              clear l_37
              refine own_go (S' := T_37.setTop (mkF m 304 #[.val (.int ua), .val (.int ub), .val (.int ux), .val (.int sx), .val (.ref b_1), .val (.int (1 : Int32)), .val (.int (2 : Int32)), .val (.int (Int32.ofNat un)), .val (.int (Int32.ofNat un)), .val (.int (3 : Int32)), .val (.int (Int32.ofNat k1)), .val (.int (Int32.ofNat k2)), .val (.int (own_e3 k1 k2)), .val (.int (own_e2 k1 k2)), .val (.int (own_e1 un k1 k2))] [(.int (1 : Int32))])) (fun target kt => ?_) ?_
              · show Steps p.tables e below (T_31.setTop (mkF m 266 #[.val (.int ua), .val (.int ub), .val (.int ux), .val (.int sx), .val (.ref b_1), .val (.int (1 : Int32)), .val (.int (2 : Int32)), .val (.int (Int32.ofNat un)), .val (.int (Int32.ofNat un)), .val (.int (3 : Int32)), .val (.int (Int32.ofNat k1)), .val (.int (Int32.ofNat k2)), .val (.int (own_e3 k1 k2)), .val (.int (own_e2 k1 k2)), .val (.int (own_e1 un k1 k2))] [(.int (own_y3 un k1 k2)), (.int (2 : Int32)), (.int (own_e2 k1 k2)), (.int (1 : Int32)), (.ref b_1)])) target
                refine XS.iconst X_31.here hx rfl (hb hby at_266) ?_
                show Steps p.tables e below (T_31.setTop (mkF m 267 #[.val (.int ua), .val (.int ub), .val (.int ux), .val (.int sx), .val (.ref b_1), .val (.int (1 : Int32)), .val (.int (2 : Int32)), .val (.int (Int32.ofNat un)), .val (.int (Int32.ofNat un)), .val (.int (3 : Int32)), .val (.int (Int32.ofNat k1)), .val (.int (Int32.ofNat k2)), .val (.int (own_e3 k1 k2)), .val (.int (own_e2 k1 k2)), .val (.int (own_e1 un k1 k2))] [(.int (3 : Int32)), (.int (own_y3 un k1 k2)), (.int (2 : Int32)), (.int (own_e2 k1 k2)), (.int (1 : Int32)), (.ref b_1)])) target
                refine st_35 _ ?_
                show Steps p.tables e below (T_35.setTop (mkF m 270 #[.val (.int ua), .val (.int ub), .val (.int ux), .val (.int sx), .val (.ref b_1), .val (.int (1 : Int32)), .val (.int (2 : Int32)), .val (.int (Int32.ofNat un)), .val (.int (Int32.ofNat un)), .val (.int (3 : Int32)), .val (.int (Int32.ofNat k1)), .val (.int (Int32.ofNat k2)), .val (.int (own_e3 k1 k2)), .val (.int (own_e2 k1 k2)), .val (.int (own_e1 un k1 k2))] [(.int (own_ch (own_keep un 4 k2 (own_keep un 4 k1 own_s0)).2.1 (own_keep un 4 k2 (own_keep un 4 k1 own_s0)).2.2.2 (own_keep un 4 k2 (own_keep un 4 k1 own_s0)).2.2.1 (1 : Int32) (own_e2 k1 k2) (2 : Int32) (own_y3 un k1 k2) (3 : Int32)))])) target
                refine XS.ifNo X_35.here hx rfl (hb hby at_270) rfl ((if0 _ _).trans (feq ((own_fin un k1 k2 hun hk1 hk2).2.2.2.2.1 : ¬ ((own_ch (own_keep un 4 k2 (own_keep un 4 k1 own_s0)).2.1 (own_keep un 4 k2 (own_keep un 4 k1 own_s0)).2.2.2 (own_keep un 4 k2 (own_keep un 4 k1 own_s0)).2.2.1 (1 : Int32) (own_e2 k1 k2) (2 : Int32) (own_y3 un k1 k2) (3 : Int32)) = (0 : Int32)))).1) ?_
                show Steps p.tables e below (T_35.setTop (mkF m 273 #[.val (.int ua), .val (.int ub), .val (.int ux), .val (.int sx), .val (.ref b_1), .val (.int (1 : Int32)), .val (.int (2 : Int32)), .val (.int (Int32.ofNat un)), .val (.int (Int32.ofNat un)), .val (.int (3 : Int32)), .val (.int (Int32.ofNat k1)), .val (.int (Int32.ofNat k2)), .val (.int (own_e3 k1 k2)), .val (.int (own_e2 k1 k2)), .val (.int (own_e1 un k1 k2))] [])) target
                refine XS.aload X_35.here hx rfl (hb hby at_273) rfl rfl ?_
                show Steps p.tables e below (T_35.setTop (mkF m 275 #[.val (.int ua), .val (.int ub), .val (.int ux), .val (.int sx), .val (.ref b_1), .val (.int (1 : Int32)), .val (.int (2 : Int32)), .val (.int (Int32.ofNat un)), .val (.int (Int32.ofNat un)), .val (.int (3 : Int32)), .val (.int (Int32.ofNat k1)), .val (.int (Int32.ofNat k2)), .val (.int (own_e3 k1 k2)), .val (.int (own_e2 k1 k2)), .val (.int (own_e1 un k1 k2))] [(.ref b_1)])) target
                refine XS.iconst X_35.here hx rfl (hb hby at_275) ?_
                show Steps p.tables e below (T_35.setTop (mkF m 276 #[.val (.int ua), .val (.int ub), .val (.int ux), .val (.int sx), .val (.ref b_1), .val (.int (1 : Int32)), .val (.int (2 : Int32)), .val (.int (Int32.ofNat un)), .val (.int (Int32.ofNat un)), .val (.int (3 : Int32)), .val (.int (Int32.ofNat k1)), .val (.int (Int32.ofNat k2)), .val (.int (own_e3 k1 k2)), .val (.int (own_e2 k1 k2)), .val (.int (own_e1 un k1 k2))] [(.int (2 : Int32)), (.ref b_1)])) target
                refine XS.iconst X_35.here hx rfl (hb hby at_276) ?_
                show Steps p.tables e below (T_35.setTop (mkF m 277 #[.val (.int ua), .val (.int ub), .val (.int ux), .val (.int sx), .val (.ref b_1), .val (.int (1 : Int32)), .val (.int (2 : Int32)), .val (.int (Int32.ofNat un)), .val (.int (Int32.ofNat un)), .val (.int (3 : Int32)), .val (.int (Int32.ofNat k1)), .val (.int (Int32.ofNat k2)), .val (.int (own_e3 k1 k2)), .val (.int (own_e2 k1 k2)), .val (.int (own_e1 un k1 k2))] [(.int (0 : Int32)), (.int (2 : Int32)), (.ref b_1)])) target
                refine XS.iconst X_35.here hx rfl (hb hby at_277) ?_
                show Steps p.tables e below (T_35.setTop (mkF m 278 #[.val (.int ua), .val (.int ub), .val (.int ux), .val (.int sx), .val (.ref b_1), .val (.int (1 : Int32)), .val (.int (2 : Int32)), .val (.int (Int32.ofNat un)), .val (.int (Int32.ofNat un)), .val (.int (3 : Int32)), .val (.int (Int32.ofNat k1)), .val (.int (Int32.ofNat k2)), .val (.int (own_e3 k1 k2)), .val (.int (own_e2 k1 k2)), .val (.int (own_e1 un k1 k2))] [(.int (-1 : Int32)), (.int (0 : Int32)), (.int (2 : Int32)), (.ref b_1)])) target
                refine XS.iconst X_35.here hx rfl (hb hby at_278) ?_
                show Steps p.tables e below (T_35.setTop (mkF m 279 #[.val (.int ua), .val (.int ub), .val (.int ux), .val (.int sx), .val (.ref b_1), .val (.int (1 : Int32)), .val (.int (2 : Int32)), .val (.int (Int32.ofNat un)), .val (.int (Int32.ofNat un)), .val (.int (3 : Int32)), .val (.int (Int32.ofNat k1)), .val (.int (Int32.ofNat k2)), .val (.int (own_e3 k1 k2)), .val (.int (own_e2 k1 k2)), .val (.int (own_e1 un k1 k2))] [(.int (0 : Int32)), (.int (-1 : Int32)), (.int (0 : Int32)), (.int (2 : Int32)), (.ref b_1)])) target
                refine XS.iconst X_35.here hx rfl (hb hby at_279) ?_
                show Steps p.tables e below (T_35.setTop (mkF m 280 #[.val (.int ua), .val (.int ub), .val (.int ux), .val (.int sx), .val (.ref b_1), .val (.int (1 : Int32)), .val (.int (2 : Int32)), .val (.int (Int32.ofNat un)), .val (.int (Int32.ofNat un)), .val (.int (3 : Int32)), .val (.int (Int32.ofNat k1)), .val (.int (Int32.ofNat k2)), .val (.int (own_e3 k1 k2)), .val (.int (own_e2 k1 k2)), .val (.int (own_e1 un k1 k2))] [(.int (-1 : Int32)), (.int (0 : Int32)), (.int (-1 : Int32)), (.int (0 : Int32)), (.int (2 : Int32)), (.ref b_1)])) target
                refine st_36 _ ?_
                show Steps p.tables e below (T_36.setTop (mkF m 283 #[.val (.int ua), .val (.int ub), .val (.int ux), .val (.int sx), .val (.ref b_1), .val (.int (1 : Int32)), .val (.int (2 : Int32)), .val (.int (Int32.ofNat un)), .val (.int (Int32.ofNat un)), .val (.int (3 : Int32)), .val (.int (Int32.ofNat k1)), .val (.int (Int32.ofNat k2)), .val (.int (own_e3 k1 k2)), .val (.int (own_e2 k1 k2)), .val (.int (own_e1 un k1 k2))] [(.int (own_ch (own_keep un 4 k2 (own_keep un 4 k1 own_s0)).2.1 (own_keep un 4 k2 (own_keep un 4 k1 own_s0)).2.2.2 (own_keep un 4 k2 (own_keep un 4 k1 own_s0)).2.2.1 (2 : Int32) (0 : Int32) (-1 : Int32) (0 : Int32) (-1 : Int32)))])) target
                refine XS.ifNo X_36.here hx rfl (hb hby at_283) rfl ((if0 _ _).trans (feq ((own_fin un k1 k2 hun hk1 hk2).2.2.2.2.2.1 : ¬ ((own_ch (own_keep un 4 k2 (own_keep un 4 k1 own_s0)).2.1 (own_keep un 4 k2 (own_keep un 4 k1 own_s0)).2.2.2 (own_keep un 4 k2 (own_keep un 4 k1 own_s0)).2.2.1 (2 : Int32) (0 : Int32) (-1 : Int32) (0 : Int32) (-1 : Int32)) = (0 : Int32)))).1) ?_
                show Steps p.tables e below (T_36.setTop (mkF m 286 #[.val (.int ua), .val (.int ub), .val (.int ux), .val (.int sx), .val (.ref b_1), .val (.int (1 : Int32)), .val (.int (2 : Int32)), .val (.int (Int32.ofNat un)), .val (.int (Int32.ofNat un)), .val (.int (3 : Int32)), .val (.int (Int32.ofNat k1)), .val (.int (Int32.ofNat k2)), .val (.int (own_e3 k1 k2)), .val (.int (own_e2 k1 k2)), .val (.int (own_e1 un k1 k2))] [])) target
                refine XS.aload X_36.here hx rfl (hb hby at_286) rfl rfl ?_
                show Steps p.tables e below (T_36.setTop (mkF m 288 #[.val (.int ua), .val (.int ub), .val (.int ux), .val (.int sx), .val (.ref b_1), .val (.int (1 : Int32)), .val (.int (2 : Int32)), .val (.int (Int32.ofNat un)), .val (.int (Int32.ofNat un)), .val (.int (3 : Int32)), .val (.int (Int32.ofNat k1)), .val (.int (Int32.ofNat k2)), .val (.int (own_e3 k1 k2)), .val (.int (own_e2 k1 k2)), .val (.int (own_e1 un k1 k2))] [(.ref b_1)])) target
                refine XS.iconst X_36.here hx rfl (hb hby at_288) ?_
                show Steps p.tables e below (T_36.setTop (mkF m 289 #[.val (.int ua), .val (.int ub), .val (.int ux), .val (.int sx), .val (.ref b_1), .val (.int (1 : Int32)), .val (.int (2 : Int32)), .val (.int (Int32.ofNat un)), .val (.int (Int32.ofNat un)), .val (.int (3 : Int32)), .val (.int (Int32.ofNat k1)), .val (.int (Int32.ofNat k2)), .val (.int (own_e3 k1 k2)), .val (.int (own_e2 k1 k2)), .val (.int (own_e1 un k1 k2))] [(.int (3 : Int32)), (.ref b_1)])) target
                refine XS.iconst X_36.here hx rfl (hb hby at_289) ?_
                show Steps p.tables e below (T_36.setTop (mkF m 290 #[.val (.int ua), .val (.int ub), .val (.int ux), .val (.int sx), .val (.ref b_1), .val (.int (1 : Int32)), .val (.int (2 : Int32)), .val (.int (Int32.ofNat un)), .val (.int (Int32.ofNat un)), .val (.int (3 : Int32)), .val (.int (Int32.ofNat k1)), .val (.int (Int32.ofNat k2)), .val (.int (own_e3 k1 k2)), .val (.int (own_e2 k1 k2)), .val (.int (own_e1 un k1 k2))] [(.int (0 : Int32)), (.int (3 : Int32)), (.ref b_1)])) target
                refine XS.iconst X_36.here hx rfl (hb hby at_290) ?_
                show Steps p.tables e below (T_36.setTop (mkF m 291 #[.val (.int ua), .val (.int ub), .val (.int ux), .val (.int sx), .val (.ref b_1), .val (.int (1 : Int32)), .val (.int (2 : Int32)), .val (.int (Int32.ofNat un)), .val (.int (Int32.ofNat un)), .val (.int (3 : Int32)), .val (.int (Int32.ofNat k1)), .val (.int (Int32.ofNat k2)), .val (.int (own_e3 k1 k2)), .val (.int (own_e2 k1 k2)), .val (.int (own_e1 un k1 k2))] [(.int (-1 : Int32)), (.int (0 : Int32)), (.int (3 : Int32)), (.ref b_1)])) target
                refine XS.iconst X_36.here hx rfl (hb hby at_291) ?_
                show Steps p.tables e below (T_36.setTop (mkF m 292 #[.val (.int ua), .val (.int ub), .val (.int ux), .val (.int sx), .val (.ref b_1), .val (.int (1 : Int32)), .val (.int (2 : Int32)), .val (.int (Int32.ofNat un)), .val (.int (Int32.ofNat un)), .val (.int (3 : Int32)), .val (.int (Int32.ofNat k1)), .val (.int (Int32.ofNat k2)), .val (.int (own_e3 k1 k2)), .val (.int (own_e2 k1 k2)), .val (.int (own_e1 un k1 k2))] [(.int (0 : Int32)), (.int (-1 : Int32)), (.int (0 : Int32)), (.int (3 : Int32)), (.ref b_1)])) target
                refine XS.iconst X_36.here hx rfl (hb hby at_292) ?_
                show Steps p.tables e below (T_36.setTop (mkF m 293 #[.val (.int ua), .val (.int ub), .val (.int ux), .val (.int sx), .val (.ref b_1), .val (.int (1 : Int32)), .val (.int (2 : Int32)), .val (.int (Int32.ofNat un)), .val (.int (Int32.ofNat un)), .val (.int (3 : Int32)), .val (.int (Int32.ofNat k1)), .val (.int (Int32.ofNat k2)), .val (.int (own_e3 k1 k2)), .val (.int (own_e2 k1 k2)), .val (.int (own_e1 un k1 k2))] [(.int (-1 : Int32)), (.int (0 : Int32)), (.int (-1 : Int32)), (.int (0 : Int32)), (.int (3 : Int32)), (.ref b_1)])) target
                refine st_37 _ ?_
                show Steps p.tables e below (T_37.setTop (mkF m 296 #[.val (.int ua), .val (.int ub), .val (.int ux), .val (.int sx), .val (.ref b_1), .val (.int (1 : Int32)), .val (.int (2 : Int32)), .val (.int (Int32.ofNat un)), .val (.int (Int32.ofNat un)), .val (.int (3 : Int32)), .val (.int (Int32.ofNat k1)), .val (.int (Int32.ofNat k2)), .val (.int (own_e3 k1 k2)), .val (.int (own_e2 k1 k2)), .val (.int (own_e1 un k1 k2))] [(.int (own_ch (own_keep un 4 k2 (own_keep un 4 k1 own_s0)).2.1 (own_keep un 4 k2 (own_keep un 4 k1 own_s0)).2.2.2 (own_keep un 4 k2 (own_keep un 4 k1 own_s0)).2.2.1 (3 : Int32) (0 : Int32) (-1 : Int32) (0 : Int32) (-1 : Int32)))])) target
                refine XS.ifNo X_37.here hx rfl (hb hby at_296) rfl ((if0 _ _).trans (feq ((own_fin un k1 k2 hun hk1 hk2).2.2.2.2.2.2 : ¬ ((own_ch (own_keep un 4 k2 (own_keep un 4 k1 own_s0)).2.1 (own_keep un 4 k2 (own_keep un 4 k1 own_s0)).2.2.2 (own_keep un 4 k2 (own_keep un 4 k1 own_s0)).2.2.1 (3 : Int32) (0 : Int32) (-1 : Int32) (0 : Int32) (-1 : Int32)) = (0 : Int32)))).1) ?_
                show Steps p.tables e below (T_37.setTop (mkF m 299 #[.val (.int ua), .val (.int ub), .val (.int ux), .val (.int sx), .val (.ref b_1), .val (.int (1 : Int32)), .val (.int (2 : Int32)), .val (.int (Int32.ofNat un)), .val (.int (Int32.ofNat un)), .val (.int (3 : Int32)), .val (.int (Int32.ofNat k1)), .val (.int (Int32.ofNat k2)), .val (.int (own_e3 k1 k2)), .val (.int (own_e2 k1 k2)), .val (.int (own_e1 un k1 k2))] [])) target
                refine XS.iconst X_37.here hx rfl (hb hby at_299) ?_
                show Steps p.tables e below (T_37.setTop (mkF m 300 #[.val (.int ua), .val (.int ub), .val (.int ux), .val (.int sx), .val (.ref b_1), .val (.int (1 : Int32)), .val (.int (2 : Int32)), .val (.int (Int32.ofNat un)), .val (.int (Int32.ofNat un)), .val (.int (3 : Int32)), .val (.int (Int32.ofNat k1)), .val (.int (Int32.ofNat k2)), .val (.int (own_e3 k1 k2)), .val (.int (own_e2 k1 k2)), .val (.int (own_e1 un k1 k2))] [(.int (1 : Int32))])) target
                refine XS.goto X_37.here hx rfl (pc0 := 300) (pc' := 304) rfl (hb hby at_300) (by decide) (by decide) ?_
                show Steps p.tables e below (T_37.setTop (mkF m 304 #[.val (.int ua), .val (.int ub), .val (.int ux), .val (.int sx), .val (.ref b_1), .val (.int (1 : Int32)), .val (.int (2 : Int32)), .val (.int (Int32.ofNat un)), .val (.int (Int32.ofNat un)), .val (.int (3 : Int32)), .val (.int (Int32.ofNat k1)), .val (.int (Int32.ofNat k2)), .val (.int (own_e3 k1 k2)), .val (.int (own_e2 k1 k2)), .val (.int (own_e1 un k1 k2))] [(.int (1 : Int32))])) target
                exact kt
              obtain ⟨fs, hr, hrun, hended, hW, hsame⟩ := X_37.leave (v := some (.int (1 : Int32))) (fun h => by rw [Bd.returns] at h; cases h)
              refine ⟨_, _, retN X_37 hx (t := .boolean) Bd.returns (by simp) (hb hby at_304) hr, hrun, hended, _, _, rfl, ?_, ⟨_, rfl⟩, hW, hsame.mono (by decide) (by decide)⟩
              show Q_law Z ua ub ux sx h0 n0 _ T_37.heap _
              rw [p_37_0]
              exact ⟨rfl, N_37⟩
            · intro J266
              refine own_go (S' := T_31.setTop (mkF m 253 #[.val (.int ua), .val (.int ub), .val (.int ux), .val (.int sx), .val (.ref b_1), .val (.int (1 : Int32)), .val (.int (2 : Int32)), .val (.int (Int32.ofNat un)), .val (.int (Int32.ofNat un)), .val (.int (3 : Int32)), .val (.int (Int32.ofNat k1)), .val (.int (Int32.ofNat k2)), .val (.int (own_e3 k1 k2)), .val (.int (own_e2 k1 k2)), .val (.int (own_e1 un k1 k2))] [(.int (own_e3 k1 k2)), (.int (2 : Int32)), (.int (own_e2 k1 k2)), (.int (1 : Int32)), (.ref b_1)])) (fun target kt => ?_) ?_
              · show Steps p.tables e below (T_31.setTop (mkF m 251 #[.val (.int ua), .val (.int ub), .val (.int ux), .val (.int sx), .val (.ref b_1), .val (.int (1 : Int32)), .val (.int (2 : Int32)), .val (.int (Int32.ofNat un)), .val (.int (Int32.ofNat un)), .val (.int (3 : Int32)), .val (.int (Int32.ofNat k1)), .val (.int (Int32.ofNat k2)), .val (.int (own_e3 k1 k2)), .val (.int (own_e2 k1 k2)), .val (.int (own_e1 un k1 k2))] [(.int (2 : Int32)), (.int (own_e2 k1 k2)), (.int (1 : Int32)), (.ref b_1)])) target
                refine XS.iload X_31.here hx rfl (hb hby at_251) rfl ?_
                show Steps p.tables e below (T_31.setTop (mkF m 253 #[.val (.int ua), .val (.int ub), .val (.int ux), .val (.int sx), .val (.ref b_1), .val (.int (1 : Int32)), .val (.int (2 : Int32)), .val (.int (Int32.ofNat un)), .val (.int (Int32.ofNat un)), .val (.int (3 : Int32)), .val (.int (Int32.ofNat k1)), .val (.int (Int32.ofNat k2)), .val (.int (own_e3 k1 k2)), .val (.int (own_e2 k1 k2)), .val (.int (own_e1 un k1 k2))] [(.int (own_e3 k1 k2)), (.int (2 : Int32)), (.int (own_e2 k1 k2)), (.int (1 : Int32)), (.ref b_1)])) target
                exact kt
              by_cases hc253 : (own_e3 k1 k2) = (0 : Int32)
              · -- pc 253: yes
                refine own_go (S' := T_31.setTop (mkF m 266 #[.val (.int ua), .val (.int ub), .val (.int ux), .val (.int sx), .val (.ref b_1), .val (.int (1 : Int32)), .val (.int (2 : Int32)), .val (.int (Int32.ofNat un)), .val (.int (Int32.ofNat un)), .val (.int (3 : Int32)), .val (.int (Int32.ofNat k1)), .val (.int (Int32.ofNat k2)), .val (.int (own_e3 k1 k2)), .val (.int (own_e2 k1 k2)), .val (.int (own_e1 un k1 k2))] [(.int (0 : Int32)), (.int (2 : Int32)), (.int (own_e2 k1 k2)), (.int (1 : Int32)), (.ref b_1)])) (fun target kt => ?_) ?_
                · show Steps p.tables e below (T_31.setTop (mkF m 253 #[.val (.int ua), .val (.int ub), .val (.int ux), .val (.int sx), .val (.ref b_1), .val (.int (1 : Int32)), .val (.int (2 : Int32)), .val (.int (Int32.ofNat un)), .val (.int (Int32.ofNat un)), .val (.int (3 : Int32)), .val (.int (Int32.ofNat k1)), .val (.int (Int32.ofNat k2)), .val (.int (own_e3 k1 k2)), .val (.int (own_e2 k1 k2)), .val (.int (own_e1 un k1 k2))] [(.int (own_e3 k1 k2)), (.int (2 : Int32)), (.int (own_e2 k1 k2)), (.int (1 : Int32)), (.ref b_1)])) target
                  refine XS.ifYes X_31.here hx rfl (pc0 := 253) (pc' := 265) rfl (hb hby at_253) rfl ((if0 _ _).trans (teq hc253).1) (by decide) (by decide) ?_
                  show Steps p.tables e below (T_31.setTop (mkF m 265 #[.val (.int ua), .val (.int ub), .val (.int ux), .val (.int sx), .val (.ref b_1), .val (.int (1 : Int32)), .val (.int (2 : Int32)), .val (.int (Int32.ofNat un)), .val (.int (Int32.ofNat un)), .val (.int (3 : Int32)), .val (.int (Int32.ofNat k1)), .val (.int (Int32.ofNat k2)), .val (.int (own_e3 k1 k2)), .val (.int (own_e2 k1 k2)), .val (.int (own_e1 un k1 k2))] [(.int (2 : Int32)), (.int (own_e2 k1 k2)), (.int (1 : Int32)), (.ref b_1)])) target
                  refine XS.iconst X_31.here hx rfl (hb hby at_265) ?_
                  show Steps p.tables e below (T_31.setTop (mkF m 266 #[.val (.int ua), .val (.int ub), .val (.int ux), .val (.int sx), .val (.ref b_1), .val (.int (1 : Int32)), .val (.int (2 : Int32)), .val (.int (Int32.ofNat un)), .val (.int (Int32.ofNat un)), .val (.int (3 : Int32)), .val (.int (Int32.ofNat k1)), .val (.int (Int32.ofNat k2)), .val (.int (own_e3 k1 k2)), .val (.int (own_e2 k1 k2)), .val (.int (own_e1 un k1 k2))] [(.int (0 : Int32)), (.int (2 : Int32)), (.int (own_e2 k1 k2)), (.int (1 : Int32)), (.ref b_1)])) target
                  exact kt
                exact J266 ((0 : Int32)) (own_ev_zy_t un k1 k2 hun hk1 hk2 hc253)
              · -- pc 253: no
                refine own_go (S' := T_31.setTop (mkF m 258 #[.val (.int ua), .val (.int ub), .val (.int ux), .val (.int sx), .val (.ref b_1), .val (.int (1 : Int32)), .val (.int (2 : Int32)), .val (.int (Int32.ofNat un)), .val (.int (Int32.ofNat un)), .val (.int (3 : Int32)), .val (.int (Int32.ofNat k1)), .val (.int (Int32.ofNat k2)), .val (.int (own_e3 k1 k2)), .val (.int (own_e2 k1 k2)), .val (.int (own_e1 un k1 k2))] [(.int (Int32.ofNat un)), (.int (2 : Int32)), (.int (own_e2 k1 k2)), (.int (1 : Int32)), (.ref b_1)])) (fun target kt => ?_) ?_
                · show Steps p.tables e below (T_31.setTop (mkF m 253 #[.val (.int ua), .val (.int ub), .val (.int ux), .val (.int sx), .val (.ref b_1), .val (.int (1 : Int32)), .val (.int (2 : Int32)), .val (.int (Int32.ofNat un)), .val (.int (Int32.ofNat un)), .val (.int (3 : Int32)), .val (.int (Int32.ofNat k1)), .val (.int (Int32.ofNat k2)), .val (.int (own_e3 k1 k2)), .val (.int (own_e2 k1 k2)), .val (.int (own_e1 un k1 k2))] [(.int (own_e3 k1 k2)), (.int (2 : Int32)), (.int (own_e2 k1 k2)), (.int (1 : Int32)), (.ref b_1)])) target
                  refine XS.ifNo X_31.here hx rfl (hb hby at_253) rfl ((if0 _ _).trans (feq hc253).1) ?_
                  show Steps p.tables e below (T_31.setTop (mkF m 256 #[.val (.int ua), .val (.int ub), .val (.int ux), .val (.int sx), .val (.ref b_1), .val (.int (1 : Int32)), .val (.int (2 : Int32)), .val (.int (Int32.ofNat un)), .val (.int (Int32.ofNat un)), .val (.int (3 : Int32)), .val (.int (Int32.ofNat k1)), .val (.int (Int32.ofNat k2)), .val (.int (own_e3 k1 k2)), .val (.int (own_e2 k1 k2)), .val (.int (own_e1 un k1 k2))] [(.int (2 : Int32)), (.int (own_e2 k1 k2)), (.int (1 : Int32)), (.ref b_1)])) target
                  refine XS.iload X_31.here hx rfl (hb hby at_256) rfl ?_
                  show Steps p.tables e below (T_31.setTop (mkF m 258 #[.val (.int ua), .val (.int ub), .val (.int ux), .val (.int sx), .val (.ref b_1), .val (.int (1 : Int32)), .val (.int (2 : Int32)), .val (.int (Int32.ofNat un)), .val (.int (Int32.ofNat un)), .val (.int (3 : Int32)), .val (.int (Int32.ofNat k1)), .val (.int (Int32.ofNat k2)), .val (.int (own_e3 k1 k2)), .val (.int (own_e2 k1 k2)), .val (.int (own_e1 un k1 k2))] [(.int (Int32.ofNat un)), (.int (2 : Int32)), (.int (own_e2 k1 k2)), (.int (1 : Int32)), (.ref b_1)])) target
                  exact kt
                by_cases hc258 : (Int32.ofNat un) = (0 : Int32)
                · -- pc 258: yes
                  refine own_go (S' := T_31.setTop (mkF m 266 #[.val (.int ua), .val (.int ub), .val (.int ux), .val (.int sx), .val (.ref b_1), .val (.int (1 : Int32)), .val (.int (2 : Int32)), .val (.int (Int32.ofNat un)), .val (.int (Int32.ofNat un)), .val (.int (3 : Int32)), .val (.int (Int32.ofNat k1)), .val (.int (Int32.ofNat k2)), .val (.int (own_e3 k1 k2)), .val (.int (own_e2 k1 k2)), .val (.int (own_e1 un k1 k2))] [(.int (0 : Int32)), (.int (2 : Int32)), (.int (own_e2 k1 k2)), (.int (1 : Int32)), (.ref b_1)])) (fun target kt => ?_) ?_
                  · show Steps p.tables e below (T_31.setTop (mkF m 258 #[.val (.int ua), .val (.int ub), .val (.int ux), .val (.int sx), .val (.ref b_1), .val (.int (1 : Int32)), .val (.int (2 : Int32)), .val (.int (Int32.ofNat un)), .val (.int (Int32.ofNat un)), .val (.int (3 : Int32)), .val (.int (Int32.ofNat k1)), .val (.int (Int32.ofNat k2)), .val (.int (own_e3 k1 k2)), .val (.int (own_e2 k1 k2)), .val (.int (own_e1 un k1 k2))] [(.int (Int32.ofNat un)), (.int (2 : Int32)), (.int (own_e2 k1 k2)), (.int (1 : Int32)), (.ref b_1)])) target
                    refine XS.ifYes X_31.here hx rfl (pc0 := 258) (pc' := 265) rfl (hb hby at_258) rfl ((if0 _ _).trans (teq hc258).1) (by decide) (by decide) ?_
                    show Steps p.tables e below (T_31.setTop (mkF m 265 #[.val (.int ua), .val (.int ub), .val (.int ux), .val (.int sx), .val (.ref b_1), .val (.int (1 : Int32)), .val (.int (2 : Int32)), .val (.int (Int32.ofNat un)), .val (.int (Int32.ofNat un)), .val (.int (3 : Int32)), .val (.int (Int32.ofNat k1)), .val (.int (Int32.ofNat k2)), .val (.int (own_e3 k1 k2)), .val (.int (own_e2 k1 k2)), .val (.int (own_e1 un k1 k2))] [(.int (2 : Int32)), (.int (own_e2 k1 k2)), (.int (1 : Int32)), (.ref b_1)])) target
                    refine XS.iconst X_31.here hx rfl (hb hby at_265) ?_
                    show Steps p.tables e below (T_31.setTop (mkF m 266 #[.val (.int ua), .val (.int ub), .val (.int ux), .val (.int sx), .val (.ref b_1), .val (.int (1 : Int32)), .val (.int (2 : Int32)), .val (.int (Int32.ofNat un)), .val (.int (Int32.ofNat un)), .val (.int (3 : Int32)), .val (.int (Int32.ofNat k1)), .val (.int (Int32.ofNat k2)), .val (.int (own_e3 k1 k2)), .val (.int (own_e2 k1 k2)), .val (.int (own_e1 un k1 k2))] [(.int (0 : Int32)), (.int (2 : Int32)), (.int (own_e2 k1 k2)), (.int (1 : Int32)), (.ref b_1)])) target
                    exact kt
                  exact J266 ((0 : Int32)) (own_ev_zy_ft un k1 k2 hun hk1 hk2 hc253 hc258)
                · -- pc 258: no
                  refine own_go (S' := T_31.setTop (mkF m 266 #[.val (.int ua), .val (.int ub), .val (.int ux), .val (.int sx), .val (.ref b_1), .val (.int (1 : Int32)), .val (.int (2 : Int32)), .val (.int (Int32.ofNat un)), .val (.int (Int32.ofNat un)), .val (.int (3 : Int32)), .val (.int (Int32.ofNat k1)), .val (.int (Int32.ofNat k2)), .val (.int (own_e3 k1 k2)), .val (.int (own_e2 k1 k2)), .val (.int (own_e1 un k1 k2))] [(.int (1 : Int32)), (.int (2 : Int32)), (.int (own_e2 k1 k2)), (.int (1 : Int32)), (.ref b_1)])) (fun target kt => ?_) ?_
                  · show Steps p.tables e below (T_31.setTop (mkF m 258 #[.val (.int ua), .val (.int ub), .val (.int ux), .val (.int sx), .val (.ref b_1), .val (.int (1 : Int32)), .val (.int (2 : Int32)), .val (.int (Int32.ofNat un)), .val (.int (Int32.ofNat un)), .val (.int (3 : Int32)), .val (.int (Int32.ofNat k1)), .val (.int (Int32.ofNat k2)), .val (.int (own_e3 k1 k2)), .val (.int (own_e2 k1 k2)), .val (.int (own_e1 un k1 k2))] [(.int (Int32.ofNat un)), (.int (2 : Int32)), (.int (own_e2 k1 k2)), (.int (1 : Int32)), (.ref b_1)])) target
                    refine XS.ifNo X_31.here hx rfl (hb hby at_258) rfl ((if0 _ _).trans (feq hc258).1) ?_
                    show Steps p.tables e below (T_31.setTop (mkF m 261 #[.val (.int ua), .val (.int ub), .val (.int ux), .val (.int sx), .val (.ref b_1), .val (.int (1 : Int32)), .val (.int (2 : Int32)), .val (.int (Int32.ofNat un)), .val (.int (Int32.ofNat un)), .val (.int (3 : Int32)), .val (.int (Int32.ofNat k1)), .val (.int (Int32.ofNat k2)), .val (.int (own_e3 k1 k2)), .val (.int (own_e2 k1 k2)), .val (.int (own_e1 un k1 k2))] [(.int (2 : Int32)), (.int (own_e2 k1 k2)), (.int (1 : Int32)), (.ref b_1)])) target
                    refine XS.iconst X_31.here hx rfl (hb hby at_261) ?_
                    show Steps p.tables e below (T_31.setTop (mkF m 262 #[.val (.int ua), .val (.int ub), .val (.int ux), .val (.int sx), .val (.ref b_1), .val (.int (1 : Int32)), .val (.int (2 : Int32)), .val (.int (Int32.ofNat un)), .val (.int (Int32.ofNat un)), .val (.int (3 : Int32)), .val (.int (Int32.ofNat k1)), .val (.int (Int32.ofNat k2)), .val (.int (own_e3 k1 k2)), .val (.int (own_e2 k1 k2)), .val (.int (own_e1 un k1 k2))] [(.int (1 : Int32)), (.int (2 : Int32)), (.int (own_e2 k1 k2)), (.int (1 : Int32)), (.ref b_1)])) target
                    refine XS.goto X_31.here hx rfl (pc0 := 262) (pc' := 266) rfl (hb hby at_262) (by decide) (by decide) ?_
                    show Steps p.tables e below (T_31.setTop (mkF m 266 #[.val (.int ua), .val (.int ub), .val (.int ux), .val (.int sx), .val (.ref b_1), .val (.int (1 : Int32)), .val (.int (2 : Int32)), .val (.int (Int32.ofNat un)), .val (.int (Int32.ofNat un)), .val (.int (3 : Int32)), .val (.int (Int32.ofNat k1)), .val (.int (Int32.ofNat k2)), .val (.int (own_e3 k1 k2)), .val (.int (own_e2 k1 k2)), .val (.int (own_e1 un k1 k2))] [(.int (1 : Int32)), (.int (2 : Int32)), (.int (own_e2 k1 k2)), (.int (1 : Int32)), (.ref b_1)])) target
                    exact kt
                  exact J266 ((1 : Int32)) (own_ev_zy_ff un k1 k2 hun hk1 hk2 hc253 hc258)
          · intro J238
            refine own_go (S' := T_30.setTop (mkF m 225 #[.val (.int ua), .val (.int ub), .val (.int ux), .val (.int sx), .val (.ref b_1), .val (.int (1 : Int32)), .val (.int (2 : Int32)), .val (.int (Int32.ofNat un)), .val (.int (Int32.ofNat un)), .val (.int (3 : Int32)), .val (.int (Int32.ofNat k1)), .val (.int (Int32.ofNat k2)), .val (.int (own_e3 k1 k2)), .val (.int (own_e2 k1 k2)), .val (.int (own_e1 un k1 k2))] [(.int (own_e3 k1 k2)), (.int (1 : Int32)), (.int (own_e1 un k1 k2)), (.int (0 : Int32)), (.ref b_1)])) (fun target kt => ?_) ?_
            · show Steps p.tables e below (T_30.setTop (mkF m 223 #[.val (.int ua), .val (.int ub), .val (.int ux), .val (.int sx), .val (.ref b_1), .val (.int (1 : Int32)), .val (.int (2 : Int32)), .val (.int (Int32.ofNat un)), .val (.int (Int32.ofNat un)), .val (.int (3 : Int32)), .val (.int (Int32.ofNat k1)), .val (.int (Int32.ofNat k2)), .val (.int (own_e3 k1 k2)), .val (.int (own_e2 k1 k2)), .val (.int (own_e1 un k1 k2))] [(.int (1 : Int32)), (.int (own_e1 un k1 k2)), (.int (0 : Int32)), (.ref b_1)])) target
              refine XS.iload X_30.here hx rfl (hb hby at_223) rfl ?_
              show Steps p.tables e below (T_30.setTop (mkF m 225 #[.val (.int ua), .val (.int ub), .val (.int ux), .val (.int sx), .val (.ref b_1), .val (.int (1 : Int32)), .val (.int (2 : Int32)), .val (.int (Int32.ofNat un)), .val (.int (Int32.ofNat un)), .val (.int (3 : Int32)), .val (.int (Int32.ofNat k1)), .val (.int (Int32.ofNat k2)), .val (.int (own_e3 k1 k2)), .val (.int (own_e2 k1 k2)), .val (.int (own_e1 un k1 k2))] [(.int (own_e3 k1 k2)), (.int (1 : Int32)), (.int (own_e1 un k1 k2)), (.int (0 : Int32)), (.ref b_1)])) target
              exact kt
            by_cases hc225 : (own_e3 k1 k2) = (0 : Int32)
            · -- pc 225: yes
              refine own_go (S' := T_30.setTop (mkF m 238 #[.val (.int ua), .val (.int ub), .val (.int ux), .val (.int sx), .val (.ref b_1), .val (.int (1 : Int32)), .val (.int (2 : Int32)), .val (.int (Int32.ofNat un)), .val (.int (Int32.ofNat un)), .val (.int (3 : Int32)), .val (.int (Int32.ofNat k1)), .val (.int (Int32.ofNat k2)), .val (.int (own_e3 k1 k2)), .val (.int (own_e2 k1 k2)), .val (.int (own_e1 un k1 k2))] [(.int (0 : Int32)), (.int (1 : Int32)), (.int (own_e1 un k1 k2)), (.int (0 : Int32)), (.ref b_1)])) (fun target kt => ?_) ?_
              · show Steps p.tables e below (T_30.setTop (mkF m 225 #[.val (.int ua), .val (.int ub), .val (.int ux), .val (.int sx), .val (.ref b_1), .val (.int (1 : Int32)), .val (.int (2 : Int32)), .val (.int (Int32.ofNat un)), .val (.int (Int32.ofNat un)), .val (.int (3 : Int32)), .val (.int (Int32.ofNat k1)), .val (.int (Int32.ofNat k2)), .val (.int (own_e3 k1 k2)), .val (.int (own_e2 k1 k2)), .val (.int (own_e1 un k1 k2))] [(.int (own_e3 k1 k2)), (.int (1 : Int32)), (.int (own_e1 un k1 k2)), (.int (0 : Int32)), (.ref b_1)])) target
                refine XS.ifYes X_30.here hx rfl (pc0 := 225) (pc' := 237) rfl (hb hby at_225) rfl ((if0 _ _).trans (teq hc225).1) (by decide) (by decide) ?_
                show Steps p.tables e below (T_30.setTop (mkF m 237 #[.val (.int ua), .val (.int ub), .val (.int ux), .val (.int sx), .val (.ref b_1), .val (.int (1 : Int32)), .val (.int (2 : Int32)), .val (.int (Int32.ofNat un)), .val (.int (Int32.ofNat un)), .val (.int (3 : Int32)), .val (.int (Int32.ofNat k1)), .val (.int (Int32.ofNat k2)), .val (.int (own_e3 k1 k2)), .val (.int (own_e2 k1 k2)), .val (.int (own_e1 un k1 k2))] [(.int (1 : Int32)), (.int (own_e1 un k1 k2)), (.int (0 : Int32)), (.ref b_1)])) target
                refine XS.iconst X_30.here hx rfl (hb hby at_237) ?_
                show Steps p.tables e below (T_30.setTop (mkF m 238 #[.val (.int ua), .val (.int ub), .val (.int ux), .val (.int sx), .val (.ref b_1), .val (.int (1 : Int32)), .val (.int (2 : Int32)), .val (.int (Int32.ofNat un)), .val (.int (Int32.ofNat un)), .val (.int (3 : Int32)), .val (.int (Int32.ofNat k1)), .val (.int (Int32.ofNat k2)), .val (.int (own_e3 k1 k2)), .val (.int (own_e2 k1 k2)), .val (.int (own_e1 un k1 k2))] [(.int (0 : Int32)), (.int (1 : Int32)), (.int (own_e1 un k1 k2)), (.int (0 : Int32)), (.ref b_1)])) target
                exact kt
              exact J238 ((0 : Int32)) (own_ev_zx_t un k1 k2 hun hk1 hk2 hc225)
            · -- pc 225: no
              refine own_go (S' := T_30.setTop (mkF m 230 #[.val (.int ua), .val (.int ub), .val (.int ux), .val (.int sx), .val (.ref b_1), .val (.int (1 : Int32)), .val (.int (2 : Int32)), .val (.int (Int32.ofNat un)), .val (.int (Int32.ofNat un)), .val (.int (3 : Int32)), .val (.int (Int32.ofNat k1)), .val (.int (Int32.ofNat k2)), .val (.int (own_e3 k1 k2)), .val (.int (own_e2 k1 k2)), .val (.int (own_e1 un k1 k2))] [(.int (Int32.ofNat un)), (.int (1 : Int32)), (.int (own_e1 un k1 k2)), (.int (0 : Int32)), (.ref b_1)])) (fun target kt => ?_) ?_
              · show Steps p.tables e below (T_30.setTop (mkF m 225 #[.val (.int ua), .val (.int ub), .val (.int ux), .val (.int sx), .val (.ref b_1), .val (.int (1 : Int32)), .val (.int (2 : Int32)), .val (.int (Int32.ofNat un)), .val (.int (Int32.ofNat un)), .val (.int (3 : Int32)), .val (.int (Int32.ofNat k1)), .val (.int (Int32.ofNat k2)), .val (.int (own_e3 k1 k2)), .val (.int (own_e2 k1 k2)), .val (.int (own_e1 un k1 k2))] [(.int (own_e3 k1 k2)), (.int (1 : Int32)), (.int (own_e1 un k1 k2)), (.int (0 : Int32)), (.ref b_1)])) target
                refine XS.ifNo X_30.here hx rfl (hb hby at_225) rfl ((if0 _ _).trans (feq hc225).1) ?_
                show Steps p.tables e below (T_30.setTop (mkF m 228 #[.val (.int ua), .val (.int ub), .val (.int ux), .val (.int sx), .val (.ref b_1), .val (.int (1 : Int32)), .val (.int (2 : Int32)), .val (.int (Int32.ofNat un)), .val (.int (Int32.ofNat un)), .val (.int (3 : Int32)), .val (.int (Int32.ofNat k1)), .val (.int (Int32.ofNat k2)), .val (.int (own_e3 k1 k2)), .val (.int (own_e2 k1 k2)), .val (.int (own_e1 un k1 k2))] [(.int (1 : Int32)), (.int (own_e1 un k1 k2)), (.int (0 : Int32)), (.ref b_1)])) target
                refine XS.iload X_30.here hx rfl (hb hby at_228) rfl ?_
                show Steps p.tables e below (T_30.setTop (mkF m 230 #[.val (.int ua), .val (.int ub), .val (.int ux), .val (.int sx), .val (.ref b_1), .val (.int (1 : Int32)), .val (.int (2 : Int32)), .val (.int (Int32.ofNat un)), .val (.int (Int32.ofNat un)), .val (.int (3 : Int32)), .val (.int (Int32.ofNat k1)), .val (.int (Int32.ofNat k2)), .val (.int (own_e3 k1 k2)), .val (.int (own_e2 k1 k2)), .val (.int (own_e1 un k1 k2))] [(.int (Int32.ofNat un)), (.int (1 : Int32)), (.int (own_e1 un k1 k2)), (.int (0 : Int32)), (.ref b_1)])) target
                exact kt
              by_cases hc230 : (Int32.ofNat un) = (0 : Int32)
              · -- pc 230: yes
                refine own_go (S' := T_30.setTop (mkF m 238 #[.val (.int ua), .val (.int ub), .val (.int ux), .val (.int sx), .val (.ref b_1), .val (.int (1 : Int32)), .val (.int (2 : Int32)), .val (.int (Int32.ofNat un)), .val (.int (Int32.ofNat un)), .val (.int (3 : Int32)), .val (.int (Int32.ofNat k1)), .val (.int (Int32.ofNat k2)), .val (.int (own_e3 k1 k2)), .val (.int (own_e2 k1 k2)), .val (.int (own_e1 un k1 k2))] [(.int (1 : Int32)), (.int (1 : Int32)), (.int (own_e1 un k1 k2)), (.int (0 : Int32)), (.ref b_1)])) (fun target kt => ?_) ?_
                · show Steps p.tables e below (T_30.setTop (mkF m 230 #[.val (.int ua), .val (.int ub), .val (.int ux), .val (.int sx), .val (.ref b_1), .val (.int (1 : Int32)), .val (.int (2 : Int32)), .val (.int (Int32.ofNat un)), .val (.int (Int32.ofNat un)), .val (.int (3 : Int32)), .val (.int (Int32.ofNat k1)), .val (.int (Int32.ofNat k2)), .val (.int (own_e3 k1 k2)), .val (.int (own_e2 k1 k2)), .val (.int (own_e1 un k1 k2))] [(.int (Int32.ofNat un)), (.int (1 : Int32)), (.int (own_e1 un k1 k2)), (.int (0 : Int32)), (.ref b_1)])) target
                  refine XS.ifNo X_30.here hx rfl (hb hby at_230) rfl ((if0 _ _).trans (teq hc230).2) ?_
                  show Steps p.tables e below (T_30.setTop (mkF m 233 #[.val (.int ua), .val (.int ub), .val (.int ux), .val (.int sx), .val (.ref b_1), .val (.int (1 : Int32)), .val (.int (2 : Int32)), .val (.int (Int32.ofNat un)), .val (.int (Int32.ofNat un)), .val (.int (3 : Int32)), .val (.int (Int32.ofNat k1)), .val (.int (Int32.ofNat k2)), .val (.int (own_e3 k1 k2)), .val (.int (own_e2 k1 k2)), .val (.int (own_e1 un k1 k2))] [(.int (1 : Int32)), (.int (own_e1 un k1 k2)), (.int (0 : Int32)), (.ref b_1)])) target
                  refine XS.iconst X_30.here hx rfl (hb hby at_233) ?_
                  show Steps p.tables e below (T_30.setTop (mkF m 234 #[.val (.int ua), .val (.int ub), .val (.int ux), .val (.int sx), .val (.ref b_1), .val (.int (1 : Int32)), .val (.int (2 : Int32)), .val (.int (Int32.ofNat un)), .val (.int (Int32.ofNat un)), .val (.int (3 : Int32)), .val (.int (Int32.ofNat k1)), .val (.int (Int32.ofNat k2)), .val (.int (own_e3 k1 k2)), .val (.int (own_e2 k1 k2)), .val (.int (own_e1 un k1 k2))] [(.int (1 : Int32)), (.int (1 : Int32)), (.int (own_e1 un k1 k2)), (.int (0 : Int32)), (.ref b_1)])) target
                  refine XS.goto X_30.here hx rfl (pc0 := 234) (pc' := 238) rfl (hb hby at_234) (by decide) (by decide) ?_
                  show Steps p.tables e below (T_30.setTop (mkF m 238 #[.val (.int ua), .val (.int ub), .val (.int ux), .val (.int sx), .val (.ref b_1), .val (.int (1 : Int32)), .val (.int (2 : Int32)), .val (.int (Int32.ofNat un)), .val (.int (Int32.ofNat un)), .val (.int (3 : Int32)), .val (.int (Int32.ofNat k1)), .val (.int (Int32.ofNat k2)), .val (.int (own_e3 k1 k2)), .val (.int (own_e2 k1 k2)), .val (.int (own_e1 un k1 k2))] [(.int (1 : Int32)), (.int (1 : Int32)), (.int (own_e1 un k1 k2)), (.int (0 : Int32)), (.ref b_1)])) target
                  exact kt
                exact J238 ((1 : Int32)) (own_ev_zx_ft un k1 k2 hun hk1 hk2 hc225 hc230)
              · -- pc 230: no
                refine own_go (S' := T_30.setTop (mkF m 238 #[.val (.int ua), .val (.int ub), .val (.int ux), .val (.int sx), .val (.ref b_1), .val (.int (1 : Int32)), .val (.int (2 : Int32)), .val (.int (Int32.ofNat un)), .val (.int (Int32.ofNat un)), .val (.int (3 : Int32)), .val (.int (Int32.ofNat k1)), .val (.int (Int32.ofNat k2)), .val (.int (own_e3 k1 k2)), .val (.int (own_e2 k1 k2)), .val (.int (own_e1 un k1 k2))] [(.int (0 : Int32)), (.int (1 : Int32)), (.int (own_e1 un k1 k2)), (.int (0 : Int32)), (.ref b_1)])) (fun target kt => ?_) ?_
                · show Steps p.tables e below (T_30.setTop (mkF m 230 #[.val (.int ua), .val (.int ub), .val (.int ux), .val (.int sx), .val (.ref b_1), .val (.int (1 : Int32)), .val (.int (2 : Int32)), .val (.int (Int32.ofNat un)), .val (.int (Int32.ofNat un)), .val (.int (3 : Int32)), .val (.int (Int32.ofNat k1)), .val (.int (Int32.ofNat k2)), .val (.int (own_e3 k1 k2)), .val (.int (own_e2 k1 k2)), .val (.int (own_e1 un k1 k2))] [(.int (Int32.ofNat un)), (.int (1 : Int32)), (.int (own_e1 un k1 k2)), (.int (0 : Int32)), (.ref b_1)])) target
                  refine XS.ifYes X_30.here hx rfl (pc0 := 230) (pc' := 237) rfl (hb hby at_230) rfl ((if0 _ _).trans (feq hc230).2) (by decide) (by decide) ?_
                  show Steps p.tables e below (T_30.setTop (mkF m 237 #[.val (.int ua), .val (.int ub), .val (.int ux), .val (.int sx), .val (.ref b_1), .val (.int (1 : Int32)), .val (.int (2 : Int32)), .val (.int (Int32.ofNat un)), .val (.int (Int32.ofNat un)), .val (.int (3 : Int32)), .val (.int (Int32.ofNat k1)), .val (.int (Int32.ofNat k2)), .val (.int (own_e3 k1 k2)), .val (.int (own_e2 k1 k2)), .val (.int (own_e1 un k1 k2))] [(.int (1 : Int32)), (.int (own_e1 un k1 k2)), (.int (0 : Int32)), (.ref b_1)])) target
                  refine XS.iconst X_30.here hx rfl (hb hby at_237) ?_
                  show Steps p.tables e below (T_30.setTop (mkF m 238 #[.val (.int ua), .val (.int ub), .val (.int ux), .val (.int sx), .val (.ref b_1), .val (.int (1 : Int32)), .val (.int (2 : Int32)), .val (.int (Int32.ofNat un)), .val (.int (Int32.ofNat un)), .val (.int (3 : Int32)), .val (.int (Int32.ofNat k1)), .val (.int (Int32.ofNat k2)), .val (.int (own_e3 k1 k2)), .val (.int (own_e2 k1 k2)), .val (.int (own_e1 un k1 k2))] [(.int (0 : Int32)), (.int (1 : Int32)), (.int (own_e1 un k1 k2)), (.int (0 : Int32)), (.ref b_1)])) target
                  exact kt
                exact J238 ((0 : Int32)) (own_ev_zx_ff un k1 k2 hun hk1 hk2 hc225 hc230)
        · intro J184
          refine own_go (S' := T_16.setTop (mkF m 153 #[.val (.int ua), .val (.int ub), .val (.int ux), .val (.int sx), .val (.ref b_1), .val (.int (1 : Int32)), .val (.int (2 : Int32)), .val (.int (Int32.ofNat un)), .val (.int (Int32.ofNat un)), .val (.int (3 : Int32)), .val (.int (Int32.ofNat k1)), .val (.int (Int32.ofNat k2)), .val (.int (own_e3 k1 k2)), .val (.int (own_e2 k1 k2)), .unset] [(.int (1 : Int32)), (.int (Int32.ofNat k1))])) (fun target kt => ?_) ?_
          · show Steps p.tables e below (T_16.setTop (mkF m 150 #[.val (.int ua), .val (.int ub), .val (.int ux), .val (.int sx), .val (.ref b_1), .val (.int (1 : Int32)), .val (.int (2 : Int32)), .val (.int (Int32.ofNat un)), .val (.int (Int32.ofNat un)), .val (.int (3 : Int32)), .val (.int (Int32.ofNat k1)), .val (.int (Int32.ofNat k2)), .val (.int (own_e3 k1 k2)), .val (.int (own_e2 k1 k2)), .unset] [])) target
            refine XS.iload X_16.here hx rfl (hb hby at_150) rfl ?_
            show Steps p.tables e below (T_16.setTop (mkF m 152 #[.val (.int ua), .val (.int ub), .val (.int ux), .val (.int sx), .val (.ref b_1), .val (.int (1 : Int32)), .val (.int (2 : Int32)), .val (.int (Int32.ofNat un)), .val (.int (Int32.ofNat un)), .val (.int (3 : Int32)), .val (.int (Int32.ofNat k1)), .val (.int (Int32.ofNat k2)), .val (.int (own_e3 k1 k2)), .val (.int (own_e2 k1 k2)), .unset] [(.int (Int32.ofNat k1))])) target
            refine XS.iconst X_16.here hx rfl (hb hby at_152) ?_
            show Steps p.tables e below (T_16.setTop (mkF m 153 #[.val (.int ua), .val (.int ub), .val (.int ux), .val (.int sx), .val (.ref b_1), .val (.int (1 : Int32)), .val (.int (2 : Int32)), .val (.int (Int32.ofNat un)), .val (.int (Int32.ofNat un)), .val (.int (3 : Int32)), .val (.int (Int32.ofNat k1)), .val (.int (Int32.ofNat k2)), .val (.int (own_e3 k1 k2)), .val (.int (own_e2 k1 k2)), .unset] [(.int (1 : Int32)), (.int (Int32.ofNat k1))])) target
            exact kt
          by_cases hc153 : (Int32.ofNat k1) = (1 : Int32)
          · -- pc 153: yes
            refine own_go (S' := T_16.setTop (mkF m 184 #[.val (.int ua), .val (.int ub), .val (.int ux), .val (.int sx), .val (.ref b_1), .val (.int (1 : Int32)), .val (.int (2 : Int32)), .val (.int (Int32.ofNat un)), .val (.int (Int32.ofNat un)), .val (.int (3 : Int32)), .val (.int (Int32.ofNat k1)), .val (.int (Int32.ofNat k2)), .val (.int (own_e3 k1 k2)), .val (.int (own_e2 k1 k2)), .val (.int (1 : Int32))] [])) (fun target kt => ?_) ?_
            · show Steps p.tables e below (T_16.setTop (mkF m 153 #[.val (.int ua), .val (.int ub), .val (.int ux), .val (.int sx), .val (.ref b_1), .val (.int (1 : Int32)), .val (.int (2 : Int32)), .val (.int (Int32.ofNat un)), .val (.int (Int32.ofNat un)), .val (.int (3 : Int32)), .val (.int (Int32.ofNat k1)), .val (.int (Int32.ofNat k2)), .val (.int (own_e3 k1 k2)), .val (.int (own_e2 k1 k2)), .unset] [(.int (1 : Int32)), (.int (Int32.ofNat k1))])) target
              refine XS.icmpYes X_16.here hx rfl (pc0 := 153) (pc' := 177) rfl (hb hby at_153) rfl (teq hc153).1 (by decide) (by decide) ?_
              show Steps p.tables e below (T_16.setTop (mkF m 177 #[.val (.int ua), .val (.int ub), .val (.int ux), .val (.int sx), .val (.ref b_1), .val (.int (1 : Int32)), .val (.int (2 : Int32)), .val (.int (Int32.ofNat un)), .val (.int (Int32.ofNat un)), .val (.int (3 : Int32)), .val (.int (Int32.ofNat k1)), .val (.int (Int32.ofNat k2)), .val (.int (own_e3 k1 k2)), .val (.int (own_e2 k1 k2)), .unset] [])) target
              refine XS.iconst X_16.here hx rfl (hb hby at_177) ?_
              show Steps p.tables e below (T_16.setTop (mkF m 178 #[.val (.int ua), .val (.int ub), .val (.int ux), .val (.int sx), .val (.ref b_1), .val (.int (1 : Int32)), .val (.int (2 : Int32)), .val (.int (Int32.ofNat un)), .val (.int (Int32.ofNat un)), .val (.int (3 : Int32)), .val (.int (Int32.ofNat k1)), .val (.int (Int32.ofNat k2)), .val (.int (own_e3 k1 k2)), .val (.int (own_e2 k1 k2)), .unset] [(.int (1 : Int32))])) target
              refine XS.goto X_16.here hx rfl (pc0 := 178) (pc' := 182) rfl (hb hby at_178) (by decide) (by decide) ?_
              show Steps p.tables e below (T_16.setTop (mkF m 182 #[.val (.int ua), .val (.int ub), .val (.int ux), .val (.int sx), .val (.ref b_1), .val (.int (1 : Int32)), .val (.int (2 : Int32)), .val (.int (Int32.ofNat un)), .val (.int (Int32.ofNat un)), .val (.int (3 : Int32)), .val (.int (Int32.ofNat k1)), .val (.int (Int32.ofNat k2)), .val (.int (own_e3 k1 k2)), .val (.int (own_e2 k1 k2)), .unset] [(.int (1 : Int32))])) target
              refine XS.istore X_16.here hx rfl (hb hby at_182) rfl (l' := #[.val (.int ua), .val (.int ub), .val (.int ux), .val (.int sx), .val (.ref b_1), .val (.int (1 : Int32)), .val (.int (2 : Int32)), .val (.int (Int32.ofNat un)), .val (.int (Int32.ofNat un)), .val (.int (3 : Int32)), .val (.int (Int32.ofNat k1)), .val (.int (Int32.ofNat k2)), .val (.int (own_e3 k1 k2)), .val (.int (own_e2 k1 k2)), .val (.int (1 : Int32))]) rfl ?_
              show Steps p.tables e below (T_16.setTop (mkF m 184 #[.val (.int ua), .val (.int ub), .val (.int ux), .val (.int sx), .val (.ref b_1), .val (.int (1 : Int32)), .val (.int (2 : Int32)), .val (.int (Int32.ofNat un)), .val (.int (Int32.ofNat un)), .val (.int (3 : Int32)), .val (.int (Int32.ofNat k1)), .val (.int (Int32.ofNat k2)), .val (.int (own_e3 k1 k2)), .val (.int (own_e2 k1 k2)), .val (.int (1 : Int32))] [])) target
              exact kt
            exact J184 ((1 : Int32)) (own_ev_z14_t un k1 k2 hun hk1 hk2 hc153)
          · -- pc 153: no
            refine own_go (S' := T_16.setTop (mkF m 159 #[.val (.int ua), .val (.int ub), .val (.int ux), .val (.int sx), .val (.ref b_1), .val (.int (1 : Int32)), .val (.int (2 : Int32)), .val (.int (Int32.ofNat un)), .val (.int (Int32.ofNat un)), .val (.int (3 : Int32)), .val (.int (Int32.ofNat k1)), .val (.int (Int32.ofNat k2)), .val (.int (own_e3 k1 k2)), .val (.int (own_e2 k1 k2)), .unset] [(.int (1 : Int32)), (.int (Int32.ofNat k2))])) (fun target kt => ?_) ?_
            · show Steps p.tables e below (T_16.setTop (mkF m 153 #[.val (.int ua), .val (.int ub), .val (.int ux), .val (.int sx), .val (.ref b_1), .val (.int (1 : Int32)), .val (.int (2 : Int32)), .val (.int (Int32.ofNat un)), .val (.int (Int32.ofNat un)), .val (.int (3 : Int32)), .val (.int (Int32.ofNat k1)), .val (.int (Int32.ofNat k2)), .val (.int (own_e3 k1 k2)), .val (.int (own_e2 k1 k2)), .unset] [(.int (1 : Int32)), (.int (Int32.ofNat k1))])) target
              refine XS.icmpNo X_16.here hx rfl (hb hby at_153) rfl (feq hc153).1 ?_
              show Steps p.tables e below (T_16.setTop (mkF m 156 #[.val (.int ua), .val (.int ub), .val (.int ux), .val (.int sx), .val (.ref b_1), .val (.int (1 : Int32)), .val (.int (2 : Int32)), .val (.int (Int32.ofNat un)), .val (.int (Int32.ofNat un)), .val (.int (3 : Int32)), .val (.int (Int32.ofNat k1)), .val (.int (Int32.ofNat k2)), .val (.int (own_e3 k1 k2)), .val (.int (own_e2 k1 k2)), .unset] [])) target
              refine XS.iload X_16.here hx rfl (hb hby at_156) rfl ?_
              show Steps p.tables e below (T_16.setTop (mkF m 158 #[.val (.int ua), .val (.int ub), .val (.int ux), .val (.int sx), .val (.ref b_1), .val (.int (1 : Int32)), .val (.int (2 : Int32)), .val (.int (Int32.ofNat un)), .val (.int (Int32.ofNat un)), .val (.int (3 : Int32)), .val (.int (Int32.ofNat k1)), .val (.int (Int32.ofNat k2)), .val (.int (own_e3 k1 k2)), .val (.int (own_e2 k1 k2)), .unset] [(.int (Int32.ofNat k2))])) target
              refine XS.iconst X_16.here hx rfl (hb hby at_158) ?_
              show Steps p.tables e below (T_16.setTop (mkF m 159 #[.val (.int ua), .val (.int ub), .val (.int ux), .val (.int sx), .val (.ref b_1), .val (.int (1 : Int32)), .val (.int (2 : Int32)), .val (.int (Int32.ofNat un)), .val (.int (Int32.ofNat un)), .val (.int (3 : Int32)), .val (.int (Int32.ofNat k1)), .val (.int (Int32.ofNat k2)), .val (.int (own_e3 k1 k2)), .val (.int (own_e2 k1 k2)), .unset] [(.int (1 : Int32)), (.int (Int32.ofNat k2))])) target
              exact kt
            by_cases hc159 : (Int32.ofNat k2) = (1 : Int32)
            · -- pc 159: yes
              refine own_go (S' := T_16.setTop (mkF m 184 #[.val (.int ua), .val (.int ub), .val (.int ux), .val (.int sx), .val (.ref b_1), .val (.int (1 : Int32)), .val (.int (2 : Int32)), .val (.int (Int32.ofNat un)), .val (.int (Int32.ofNat un)), .val (.int (3 : Int32)), .val (.int (Int32.ofNat k1)), .val (.int (Int32.ofNat k2)), .val (.int (own_e3 k1 k2)), .val (.int (own_e2 k1 k2)), .val (.int (1 : Int32))] [])) (fun target kt => ?_) ?_
              · show Steps p.tables e below (T_16.setTop (mkF m 159 #[.val (.int ua), .val (.int ub), .val (.int ux), .val (.int sx), .val (.ref b_1), .val (.int (1 : Int32)), .val (.int (2 : Int32)), .val (.int (Int32.ofNat un)), .val (.int (Int32.ofNat un)), .val (.int (3 : Int32)), .val (.int (Int32.ofNat k1)), .val (.int (Int32.ofNat k2)), .val (.int (own_e3 k1 k2)), .val (.int (own_e2 k1 k2)), .unset] [(.int (1 : Int32)), (.int (Int32.ofNat k2))])) target
                refine XS.icmpYes X_16.here hx rfl (pc0 := 159) (pc' := 177) rfl (hb hby at_159) rfl (teq hc159).1 (by decide) (by decide) ?_
                show Steps p.tables e below (T_16.setTop (mkF m 177 #[.val (.int ua), .val (.int ub), .val (.int ux), .val (.int sx), .val (.ref b_1), .val (.int (1 : Int32)), .val (.int (2 : Int32)), .val (.int (Int32.ofNat un)), .val (.int (Int32.ofNat un)), .val (.int (3 : Int32)), .val (.int (Int32.ofNat k1)), .val (.int (Int32.ofNat k2)), .val (.int (own_e3 k1 k2)), .val (.int (own_e2 k1 k2)), .unset] [])) target
                refine XS.iconst X_16.here hx rfl (hb hby at_177) ?_
                show Steps p.tables e below (T_16.setTop (mkF m 178 #[.val (.int ua), .val (.int ub), .val (.int ux), .val (.int sx), .val (.ref b_1), .val (.int (1 : Int32)), .val (.int (2 : Int32)), .val (.int (Int32.ofNat un)), .val (.int (Int32.ofNat un)), .val (.int (3 : Int32)), .val (.int (Int32.ofNat k1)), .val (.int (Int32.ofNat k2)), .val (.int (own_e3 k1 k2)), .val (.int (own_e2 k1 k2)), .unset] [(.int (1 : Int32))])) target
                refine XS.goto X_16.here hx rfl (pc0 := 178) (pc' := 182) rfl (hb hby at_178) (by decide) (by decide) ?_
                show Steps p.tables e below (T_16.setTop (mkF m 182 #[.val (.int ua), .val (.int ub), .val (.int ux), .val (.int sx), .val (.ref b_1), .val (.int (1 : Int32)), .val (.int (2 : Int32)), .val (.int (Int32.ofNat un)), .val (.int (Int32.ofNat un)), .val (.int (3 : Int32)), .val (.int (Int32.ofNat k1)), .val (.int (Int32.ofNat k2)), .val (.int (own_e3 k1 k2)), .val (.int (own_e2 k1 k2)), .unset] [(.int (1 : Int32))])) target
                refine XS.istore X_16.here hx rfl (hb hby at_182) rfl (l' := #[.val (.int ua), .val (.int ub), .val (.int ux), .val (.int sx), .val (.ref b_1), .val (.int (1 : Int32)), .val (.int (2 : Int32)), .val (.int (Int32.ofNat un)), .val (.int (Int32.ofNat un)), .val (.int (3 : Int32)), .val (.int (Int32.ofNat k1)), .val (.int (Int32.ofNat k2)), .val (.int (own_e3 k1 k2)), .val (.int (own_e2 k1 k2)), .val (.int (1 : Int32))]) rfl ?_
                show Steps p.tables e below (T_16.setTop (mkF m 184 #[.val (.int ua), .val (.int ub), .val (.int ux), .val (.int sx), .val (.ref b_1), .val (.int (1 : Int32)), .val (.int (2 : Int32)), .val (.int (Int32.ofNat un)), .val (.int (Int32.ofNat un)), .val (.int (3 : Int32)), .val (.int (Int32.ofNat k1)), .val (.int (Int32.ofNat k2)), .val (.int (own_e3 k1 k2)), .val (.int (own_e2 k1 k2)), .val (.int (1 : Int32))] [])) target
                exact kt
              exact J184 ((1 : Int32)) (own_ev_z14_ft un k1 k2 hun hk1 hk2 hc153 hc159)
            · -- pc 159: no
              refine own_go (S' := T_16.setTop (mkF m 164 #[.val (.int ua), .val (.int ub), .val (.int ux), .val (.int sx), .val (.ref b_1), .val (.int (1 : Int32)), .val (.int (2 : Int32)), .val (.int (Int32.ofNat un)), .val (.int (Int32.ofNat un)), .val (.int (3 : Int32)), .val (.int (Int32.ofNat k1)), .val (.int (Int32.ofNat k2)), .val (.int (own_e3 k1 k2)), .val (.int (own_e2 k1 k2)), .unset] [(.int (own_e2 k1 k2))])) (fun target kt => ?_) ?_
              · show Steps p.tables e below (T_16.setTop (mkF m 159 #[.val (.int ua), .val (.int ub), .val (.int ux), .val (.int sx), .val (.ref b_1), .val (.int (1 : Int32)), .val (.int (2 : Int32)), .val (.int (Int32.ofNat un)), .val (.int (Int32.ofNat un)), .val (.int (3 : Int32)), .val (.int (Int32.ofNat k1)), .val (.int (Int32.ofNat k2)), .val (.int (own_e3 k1 k2)), .val (.int (own_e2 k1 k2)), .unset] [(.int (1 : Int32)), (.int (Int32.ofNat k2))])) target
                refine XS.icmpNo X_16.here hx rfl (hb hby at_159) rfl (feq hc159).1 ?_
                show Steps p.tables e below (T_16.setTop (mkF m 162 #[.val (.int ua), .val (.int ub), .val (.int ux), .val (.int sx), .val (.ref b_1), .val (.int (1 : Int32)), .val (.int (2 : Int32)), .val (.int (Int32.ofNat un)), .val (.int (Int32.ofNat un)), .val (.int (3 : Int32)), .val (.int (Int32.ofNat k1)), .val (.int (Int32.ofNat k2)), .val (.int (own_e3 k1 k2)), .val (.int (own_e2 k1 k2)), .unset] [])) target
                refine XS.iload X_16.here hx rfl (hb hby at_162) rfl ?_
                show Steps p.tables e below (T_16.setTop (mkF m 164 #[.val (.int ua), .val (.int ub), .val (.int ux), .val (.int sx), .val (.ref b_1), .val (.int (1 : Int32)), .val (.int (2 : Int32)), .val (.int (Int32.ofNat un)), .val (.int (Int32.ofNat un)), .val (.int (3 : Int32)), .val (.int (Int32.ofNat k1)), .val (.int (Int32.ofNat k2)), .val (.int (own_e3 k1 k2)), .val (.int (own_e2 k1 k2)), .unset] [(.int (own_e2 k1 k2))])) target
                exact kt
              by_cases hc164 : (own_e2 k1 k2) = (0 : Int32)
              · -- pc 164: yes
                refine own_go (S' := T_16.setTop (mkF m 169 #[.val (.int ua), .val (.int ub), .val (.int ux), .val (.int sx), .val (.ref b_1), .val (.int (1 : Int32)), .val (.int (2 : Int32)), .val (.int (Int32.ofNat un)), .val (.int (Int32.ofNat un)), .val (.int (3 : Int32)), .val (.int (Int32.ofNat k1)), .val (.int (Int32.ofNat k2)), .val (.int (own_e3 k1 k2)), .val (.int (own_e2 k1 k2)), .unset] [(.int (own_e3 k1 k2))])) (fun target kt => ?_) ?_
                · show Steps p.tables e below (T_16.setTop (mkF m 164 #[.val (.int ua), .val (.int ub), .val (.int ux), .val (.int sx), .val (.ref b_1), .val (.int (1 : Int32)), .val (.int (2 : Int32)), .val (.int (Int32.ofNat un)), .val (.int (Int32.ofNat un)), .val (.int (3 : Int32)), .val (.int (Int32.ofNat k1)), .val (.int (Int32.ofNat k2)), .val (.int (own_e3 k1 k2)), .val (.int (own_e2 k1 k2)), .unset] [(.int (own_e2 k1 k2))])) target
                  refine XS.ifNo X_16.here hx rfl (hb hby at_164) rfl ((if0 _ _).trans (teq hc164).2) ?_
                  show Steps p.tables e below (T_16.setTop (mkF m 167 #[.val (.int ua), .val (.int ub), .val (.int ux), .val (.int sx), .val (.ref b_1), .val (.int (1 : Int32)), .val (.int (2 : Int32)), .val (.int (Int32.ofNat un)), .val (.int (Int32.ofNat un)), .val (.int (3 : Int32)), .val (.int (Int32.ofNat k1)), .val (.int (Int32.ofNat k2)), .val (.int (own_e3 k1 k2)), .val (.int (own_e2 k1 k2)), .unset] [])) target
                  refine XS.iload X_16.here hx rfl (hb hby at_167) rfl ?_
                  show Steps p.tables e below (T_16.setTop (mkF m 169 #[.val (.int ua), .val (.int ub), .val (.int ux), .val (.int sx), .val (.ref b_1), .val (.int (1 : Int32)), .val (.int (2 : Int32)), .val (.int (Int32.ofNat un)), .val (.int (Int32.ofNat un)), .val (.int (3 : Int32)), .val (.int (Int32.ofNat k1)), .val (.int (Int32.ofNat k2)), .val (.int (own_e3 k1 k2)), .val (.int (own_e2 k1 k2)), .unset] [(.int (own_e3 k1 k2))])) target
                  exact kt
                by_cases hc169 : (own_e3 k1 k2) = (0 : Int32)
                · -- pc 169: yes
                  refine own_go (S' := T_16.setTop (mkF m 184 #[.val (.int ua), .val (.int ub), .val (.int ux), .val (.int sx), .val (.ref b_1), .val (.int (1 : Int32)), .val (.int (2 : Int32)), .val (.int (Int32.ofNat un)), .val (.int (Int32.ofNat un)), .val (.int (3 : Int32)), .val (.int (Int32.ofNat k1)), .val (.int (Int32.ofNat k2)), .val (.int (own_e3 k1 k2)), .val (.int (own_e2 k1 k2)), .val (.int (0 : Int32))] [])) (fun target kt => ?_) ?_
                  · show Steps p.tables e below (T_16.setTop (mkF m 169 #[.val (.int ua), .val (.int ub), .val (.int ux), .val (.int sx), .val (.ref b_1), .val (.int (1 : Int32)), .val (.int (2 : Int32)), .val (.int (Int32.ofNat un)), .val (.int (Int32.ofNat un)), .val (.int (3 : Int32)), .val (.int (Int32.ofNat k1)), .val (.int (Int32.ofNat k2)), .val (.int (own_e3 k1 k2)), .val (.int (own_e2 k1 k2)), .unset] [(.int (own_e3 k1 k2))])) target
                    refine XS.ifYes X_16.here hx rfl (pc0 := 169) (pc' := 181) rfl (hb hby at_169) rfl ((if0 _ _).trans (teq hc169).1) (by decide) (by decide) ?_
                    show Steps p.tables e below (T_16.setTop (mkF m 181 #[.val (.int ua), .val (.int ub), .val (.int ux), .val (.int sx), .val (.ref b_1), .val (.int (1 : Int32)), .val (.int (2 : Int32)), .val (.int (Int32.ofNat un)), .val (.int (Int32.ofNat un)), .val (.int (3 : Int32)), .val (.int (Int32.ofNat k1)), .val (.int (Int32.ofNat k2)), .val (.int (own_e3 k1 k2)), .val (.int (own_e2 k1 k2)), .unset] [])) target
                    refine XS.iconst X_16.here hx rfl (hb hby at_181) ?_
                    show Steps p.tables e below (T_16.setTop (mkF m 182 #[.val (.int ua), .val (.int ub), .val (.int ux), .val (.int sx), .val (.ref b_1), .val (.int (1 : Int32)), .val (.int (2 : Int32)), .val (.int (Int32.ofNat un)), .val (.int (Int32.ofNat un)), .val (.int (3 : Int32)), .val (.int (Int32.ofNat k1)), .val (.int (Int32.ofNat k2)), .val (.int (own_e3 k1 k2)), .val (.int (own_e2 k1 k2)), .unset] [(.int (0 : Int32))])) target
                    refine XS.istore X_16.here hx rfl (hb hby at_182) rfl (l' := #[.val (.int ua), .val (.int ub), .val (.int ux), .val (.int sx), .val (.ref b_1), .val (.int (1 : Int32)), .val (.int (2 : Int32)), .val (.int (Int32.ofNat un)), .val (.int (Int32.ofNat un)), .val (.int (3 : Int32)), .val (.int (Int32.ofNat k1)), .val (.int (Int32.ofNat k2)), .val (.int (own_e3 k1 k2)), .val (.int (own_e2 k1 k2)), .val (.int (0 : Int32))]) rfl ?_
                    show Steps p.tables e below (T_16.setTop (mkF m 184 #[.val (.int ua), .val (.int ub), .val (.int ux), .val (.int sx), .val (.ref b_1), .val (.int (1 : Int32)), .val (.int (2 : Int32)), .val (.int (Int32.ofNat un)), .val (.int (Int32.ofNat un)), .val (.int (3 : Int32)), .val (.int (Int32.ofNat k1)), .val (.int (Int32.ofNat k2)), .val (.int (own_e3 k1 k2)), .val (.int (own_e2 k1 k2)), .val (.int (0 : Int32))] [])) target
                    exact kt
                  exact J184 ((0 : Int32)) (own_ev_z14_fftt un k1 k2 hun hk1 hk2 hc153 hc159 hc164 hc169)
                · -- pc 169: no
                  refine own_go (S' := T_16.setTop (mkF m 174 #[.val (.int ua), .val (.int ub), .val (.int ux), .val (.int sx), .val (.ref b_1), .val (.int (1 : Int32)), .val (.int (2 : Int32)), .val (.int (Int32.ofNat un)), .val (.int (Int32.ofNat un)), .val (.int (3 : Int32)), .val (.int (Int32.ofNat k1)), .val (.int (Int32.ofNat k2)), .val (.int (own_e3 k1 k2)), .val (.int (own_e2 k1 k2)), .unset] [(.int (Int32.ofNat un))])) (fun target kt => ?_) ?_
                  · show Steps p.tables e below (T_16.setTop (mkF m 169 #[.val (.int ua), .val (.int ub), .val (.int ux), .val (.int sx), .val (.ref b_1), .val (.int (1 : Int32)), .val (.int (2 : Int32)), .val (.int (Int32.ofNat un)), .val (.int (Int32.ofNat un)), .val (.int (3 : Int32)), .val (.int (Int32.ofNat k1)), .val (.int (Int32.ofNat k2)), .val (.int (own_e3 k1 k2)), .val (.int (own_e2 k1 k2)), .unset] [(.int (own_e3 k1 k2))])) target
                    refine XS.ifNo X_16.here hx rfl (hb hby at_169) rfl ((if0 _ _).trans (feq hc169).1) ?_
                    show Steps p.tables e below (T_16.setTop (mkF m 172 #[.val (.int ua), .val (.int ub), .val (.int ux), .val (.int sx), .val (.ref b_1), .val (.int (1 : Int32)), .val (.int (2 : Int32)), .val (.int (Int32.ofNat un)), .val (.int (Int32.ofNat un)), .val (.int (3 : Int32)), .val (.int (Int32.ofNat k1)), .val (.int (Int32.ofNat k2)), .val (.int (own_e3 k1 k2)), .val (.int (own_e2 k1 k2)), .unset] [])) target
                    refine XS.iload X_16.here hx rfl (hb hby at_172) rfl ?_
                    show Steps p.tables e below (T_16.setTop (mkF m 174 #[.val (.int ua), .val (.int ub), .val (.int ux), .val (.int sx), .val (.ref b_1), .val (.int (1 : Int32)), .val (.int (2 : Int32)), .val (.int (Int32.ofNat un)), .val (.int (Int32.ofNat un)), .val (.int (3 : Int32)), .val (.int (Int32.ofNat k1)), .val (.int (Int32.ofNat k2)), .val (.int (own_e3 k1 k2)), .val (.int (own_e2 k1 k2)), .unset] [(.int (Int32.ofNat un))])) target
                    exact kt
                  by_cases hc174 : (Int32.ofNat un) = (0 : Int32)
                  · -- pc 174: yes
                    refine own_go (S' := T_16.setTop (mkF m 184 #[.val (.int ua), .val (.int ub), .val (.int ux), .val (.int sx), .val (.ref b_1), .val (.int (1 : Int32)), .val (.int (2 : Int32)), .val (.int (Int32.ofNat un)), .val (.int (Int32.ofNat un)), .val (.int (3 : Int32)), .val (.int (Int32.ofNat k1)), .val (.int (Int32.ofNat k2)), .val (.int (own_e3 k1 k2)), .val (.int (own_e2 k1 k2)), .val (.int (0 : Int32))] [])) (fun target kt => ?_) ?_
                    · show Steps p.tables e below (T_16.setTop (mkF m 174 #[.val (.int ua), .val (.int ub), .val (.int ux), .val (.int sx), .val (.ref b_1), .val (.int (1 : Int32)), .val (.int (2 : Int32)), .val (.int (Int32.ofNat un)), .val (.int (Int32.ofNat un)), .val (.int (3 : Int32)), .val (.int (Int32.ofNat k1)), .val (.int (Int32.ofNat k2)), .val (.int (own_e3 k1 k2)), .val (.int (own_e2 k1 k2)), .unset] [(.int (Int32.ofNat un))])) target
                      refine XS.ifYes X_16.here hx rfl (pc0 := 174) (pc' := 181) rfl (hb hby at_174) rfl ((if0 _ _).trans (teq hc174).1) (by decide) (by decide) ?_
                      show Steps p.tables e below (T_16.setTop (mkF m 181 #[.val (.int ua), .val (.int ub), .val (.int ux), .val (.int sx), .val (.ref b_1), .val (.int (1 : Int32)), .val (.int (2 : Int32)), .val (.int (Int32.ofNat un)), .val (.int (Int32.ofNat un)), .val (.int (3 : Int32)), .val (.int (Int32.ofNat k1)), .val (.int (Int32.ofNat k2)), .val (.int (own_e3 k1 k2)), .val (.int (own_e2 k1 k2)), .unset] [])) target
                      refine XS.iconst X_16.here hx rfl (hb hby at_181) ?_
                      show Steps p.tables e below (T_16.setTop (mkF m 182 #[.val (.int ua), .val (.int ub), .val (.int ux), .val (.int sx), .val (.ref b_1), .val (.int (1 : Int32)), .val (.int (2 : Int32)), .val (.int (Int32.ofNat un)), .val (.int (Int32.ofNat un)), .val (.int (3 : Int32)), .val (.int (Int32.ofNat k1)), .val (.int (Int32.ofNat k2)), .val (.int (own_e3 k1 k2)), .val (.int (own_e2 k1 k2)), .unset] [(.int (0 : Int32))])) target
                      refine XS.istore X_16.here hx rfl (hb hby at_182) rfl (l' := #[.val (.int ua), .val (.int ub), .val (.int ux), .val (.int sx), .val (.ref b_1), .val (.int (1 : Int32)), .val (.int (2 : Int32)), .val (.int (Int32.ofNat un)), .val (.int (Int32.ofNat un)), .val (.int (3 : Int32)), .val (.int (Int32.ofNat k1)), .val (.int (Int32.ofNat k2)), .val (.int (own_e3 k1 k2)), .val (.int (own_e2 k1 k2)), .val (.int (0 : Int32))]) rfl ?_
                      show Steps p.tables e below (T_16.setTop (mkF m 184 #[.val (.int ua), .val (.int ub), .val (.int ux), .val (.int sx), .val (.ref b_1), .val (.int (1 : Int32)), .val (.int (2 : Int32)), .val (.int (Int32.ofNat un)), .val (.int (Int32.ofNat un)), .val (.int (3 : Int32)), .val (.int (Int32.ofNat k1)), .val (.int (Int32.ofNat k2)), .val (.int (own_e3 k1 k2)), .val (.int (own_e2 k1 k2)), .val (.int (0 : Int32))] [])) target
                      exact kt
                    exact J184 ((0 : Int32)) (own_ev_z14_fftft un k1 k2 hun hk1 hk2 hc153 hc159 hc164 hc169 hc174)
                  · -- pc 174: no
                    refine own_go (S' := T_16.setTop (mkF m 184 #[.val (.int ua), .val (.int ub), .val (.int ux), .val (.int sx), .val (.ref b_1), .val (.int (1 : Int32)), .val (.int (2 : Int32)), .val (.int (Int32.ofNat un)), .val (.int (Int32.ofNat un)), .val (.int (3 : Int32)), .val (.int (Int32.ofNat k1)), .val (.int (Int32.ofNat k2)), .val (.int (own_e3 k1 k2)), .val (.int (own_e2 k1 k2)), .val (.int (1 : Int32))] [])) (fun target kt => ?_) ?_
                    · show Steps p.tables e below (T_16.setTop (mkF m 174 #[.val (.int ua), .val (.int ub), .val (.int ux), .val (.int sx), .val (.ref b_1), .val (.int (1 : Int32)), .val (.int (2 : Int32)), .val (.int (Int32.ofNat un)), .val (.int (Int32.ofNat un)), .val (.int (3 : Int32)), .val (.int (Int32.ofNat k1)), .val (.int (Int32.ofNat k2)), .val (.int (own_e3 k1 k2)), .val (.int (own_e2 k1 k2)), .unset] [(.int (Int32.ofNat un))])) target
                      refine XS.ifNo X_16.here hx rfl (hb hby at_174) rfl ((if0 _ _).trans (feq hc174).1) ?_
                      show Steps p.tables e below (T_16.setTop (mkF m 177 #[.val (.int ua), .val (.int ub), .val (.int ux), .val (.int sx), .val (.ref b_1), .val (.int (1 : Int32)), .val (.int (2 : Int32)), .val (.int (Int32.ofNat un)), .val (.int (Int32.ofNat un)), .val (.int (3 : Int32)), .val (.int (Int32.ofNat k1)), .val (.int (Int32.ofNat k2)), .val (.int (own_e3 k1 k2)), .val (.int (own_e2 k1 k2)), .unset] [])) target
                      refine XS.iconst X_16.here hx rfl (hb hby at_177) ?_
                      show Steps p.tables e below (T_16.setTop (mkF m 178 #[.val (.int ua), .val (.int ub), .val (.int ux), .val (.int sx), .val (.ref b_1), .val (.int (1 : Int32)), .val (.int (2 : Int32)), .val (.int (Int32.ofNat un)), .val (.int (Int32.ofNat un)), .val (.int (3 : Int32)), .val (.int (Int32.ofNat k1)), .val (.int (Int32.ofNat k2)), .val (.int (own_e3 k1 k2)), .val (.int (own_e2 k1 k2)), .unset] [(.int (1 : Int32))])) target
                      refine XS.goto X_16.here hx rfl (pc0 := 178) (pc' := 182) rfl (hb hby at_178) (by decide) (by decide) ?_
                      show Steps p.tables e below (T_16.setTop (mkF m 182 #[.val (.int ua), .val (.int ub), .val (.int ux), .val (.int sx), .val (.ref b_1), .val (.int (1 : Int32)), .val (.int (2 : Int32)), .val (.int (Int32.ofNat un)), .val (.int (Int32.ofNat un)), .val (.int (3 : Int32)), .val (.int (Int32.ofNat k1)), .val (.int (Int32.ofNat k2)), .val (.int (own_e3 k1 k2)), .val (.int (own_e2 k1 k2)), .unset] [(.int (1 : Int32))])) target
                      refine XS.istore X_16.here hx rfl (hb hby at_182) rfl (l' := #[.val (.int ua), .val (.int ub), .val (.int ux), .val (.int sx), .val (.ref b_1), .val (.int (1 : Int32)), .val (.int (2 : Int32)), .val (.int (Int32.ofNat un)), .val (.int (Int32.ofNat un)), .val (.int (3 : Int32)), .val (.int (Int32.ofNat k1)), .val (.int (Int32.ofNat k2)), .val (.int (own_e3 k1 k2)), .val (.int (own_e2 k1 k2)), .val (.int (1 : Int32))]) rfl ?_
                      show Steps p.tables e below (T_16.setTop (mkF m 184 #[.val (.int ua), .val (.int ub), .val (.int ux), .val (.int sx), .val (.ref b_1), .val (.int (1 : Int32)), .val (.int (2 : Int32)), .val (.int (Int32.ofNat un)), .val (.int (Int32.ofNat un)), .val (.int (3 : Int32)), .val (.int (Int32.ofNat k1)), .val (.int (Int32.ofNat k2)), .val (.int (own_e3 k1 k2)), .val (.int (own_e2 k1 k2)), .val (.int (1 : Int32))] [])) target
                      exact kt
                    exact J184 ((1 : Int32)) (own_ev_z14_fftff un k1 k2 hun hk1 hk2 hc153 hc159 hc164 hc169 hc174)
              · -- pc 164: no
                refine own_go (S' := T_16.setTop (mkF m 184 #[.val (.int ua), .val (.int ub), .val (.int ux), .val (.int sx), .val (.ref b_1), .val (.int (1 : Int32)), .val (.int (2 : Int32)), .val (.int (Int32.ofNat un)), .val (.int (Int32.ofNat un)), .val (.int (3 : Int32)), .val (.int (Int32.ofNat k1)), .val (.int (Int32.ofNat k2)), .val (.int (own_e3 k1 k2)), .val (.int (own_e2 k1 k2)), .val (.int (1 : Int32))] [])) (fun target kt => ?_) ?_
                · show Steps p.tables e below (T_16.setTop (mkF m 164 #[.val (.int ua), .val (.int ub), .val (.int ux), .val (.int sx), .val (.ref b_1), .val (.int (1 : Int32)), .val (.int (2 : Int32)), .val (.int (Int32.ofNat un)), .val (.int (Int32.ofNat un)), .val (.int (3 : Int32)), .val (.int (Int32.ofNat k1)), .val (.int (Int32.ofNat k2)), .val (.int (own_e3 k1 k2)), .val (.int (own_e2 k1 k2)), .unset] [(.int (own_e2 k1 k2))])) target
                  refine XS.ifYes X_16.here hx rfl (pc0 := 164) (pc' := 177) rfl (hb hby at_164) rfl ((if0 _ _).trans (feq hc164).2) (by decide) (by decide) ?_
                  show Steps p.tables e below (T_16.setTop (mkF m 177 #[.val (.int ua), .val (.int ub), .val (.int ux), .val (.int sx), .val (.ref b_1), .val (.int (1 : Int32)), .val (.int (2 : Int32)), .val (.int (Int32.ofNat un)), .val (.int (Int32.ofNat un)), .val (.int (3 : Int32)), .val (.int (Int32.ofNat k1)), .val (.int (Int32.ofNat k2)), .val (.int (own_e3 k1 k2)), .val (.int (own_e2 k1 k2)), .unset] [])) target
                  refine XS.iconst X_16.here hx rfl (hb hby at_177) ?_
                  show Steps p.tables e below (T_16.setTop (mkF m 178 #[.val (.int ua), .val (.int ub), .val (.int ux), .val (.int sx), .val (.ref b_1), .val (.int (1 : Int32)), .val (.int (2 : Int32)), .val (.int (Int32.ofNat un)), .val (.int (Int32.ofNat un)), .val (.int (3 : Int32)), .val (.int (Int32.ofNat k1)), .val (.int (Int32.ofNat k2)), .val (.int (own_e3 k1 k2)), .val (.int (own_e2 k1 k2)), .unset] [(.int (1 : Int32))])) target
                  refine XS.goto X_16.here hx rfl (pc0 := 178) (pc' := 182) rfl (hb hby at_178) (by decide) (by decide) ?_
                  show Steps p.tables e below (T_16.setTop (mkF m 182 #[.val (.int ua), .val (.int ub), .val (.int ux), .val (.int sx), .val (.ref b_1), .val (.int (1 : Int32)), .val (.int (2 : Int32)), .val (.int (Int32.ofNat un)), .val (.int (Int32.ofNat un)), .val (.int (3 : Int32)), .val (.int (Int32.ofNat k1)), .val (.int (Int32.ofNat k2)), .val (.int (own_e3 k1 k2)), .val (.int (own_e2 k1 k2)), .unset] [(.int (1 : Int32))])) target
                  refine XS.istore X_16.here hx rfl (hb hby at_182) rfl (l' := #[.val (.int ua), .val (.int ub), .val (.int ux), .val (.int sx), .val (.ref b_1), .val (.int (1 : Int32)), .val (.int (2 : Int32)), .val (.int (Int32.ofNat un)), .val (.int (Int32.ofNat un)), .val (.int (3 : Int32)), .val (.int (Int32.ofNat k1)), .val (.int (Int32.ofNat k2)), .val (.int (own_e3 k1 k2)), .val (.int (own_e2 k1 k2)), .val (.int (1 : Int32))]) rfl ?_
                  show Steps p.tables e below (T_16.setTop (mkF m 184 #[.val (.int ua), .val (.int ub), .val (.int ux), .val (.int sx), .val (.ref b_1), .val (.int (1 : Int32)), .val (.int (2 : Int32)), .val (.int (Int32.ofNat un)), .val (.int (Int32.ofNat un)), .val (.int (3 : Int32)), .val (.int (Int32.ofNat k1)), .val (.int (Int32.ofNat k2)), .val (.int (own_e3 k1 k2)), .val (.int (own_e2 k1 k2)), .val (.int (1 : Int32))] [])) target
                  exact kt
                exact J184 ((1 : Int32)) (own_ev_z14_fff un k1 k2 hun hk1 hk2 hc153 hc159 hc164)
      · intro J150
        refine own_go (S' := T_16.setTop (mkF m 134 #[.val (.int ua), .val (.int ub), .val (.int ux), .val (.int sx), .val (.ref b_1), .val (.int (1 : Int32)), .val (.int (2 : Int32)), .val (.int (Int32.ofNat un)), .val (.int (Int32.ofNat un)), .val (.int (3 : Int32)), .val (.int (Int32.ofNat k1)), .val (.int (Int32.ofNat k2)), .val (.int (own_e3 k1 k2)), .unset, .unset] [(.int (2 : Int32)), (.int (Int32.ofNat k1))])) (fun target kt => ?_) ?_
        · show Steps p.tables e below (T_16.setTop (mkF m 131 #[.val (.int ua), .val (.int ub), .val (.int ux), .val (.int sx), .val (.ref b_1), .val (.int (1 : Int32)), .val (.int (2 : Int32)), .val (.int (Int32.ofNat un)), .val (.int (Int32.ofNat un)), .val (.int (3 : Int32)), .val (.int (Int32.ofNat k1)), .val (.int (Int32.ofNat k2)), .val (.int (own_e3 k1 k2)), .unset, .unset] [])) target
          refine XS.iload X_16.here hx rfl (hb hby at_131) rfl ?_
          show Steps p.tables e below (T_16.setTop (mkF m 133 #[.val (.int ua), .val (.int ub), .val (.int ux), .val (.int sx), .val (.ref b_1), .val (.int (1 : Int32)), .val (.int (2 : Int32)), .val (.int (Int32.ofNat un)), .val (.int (Int32.ofNat un)), .val (.int (3 : Int32)), .val (.int (Int32.ofNat k1)), .val (.int (Int32.ofNat k2)), .val (.int (own_e3 k1 k2)), .unset, .unset] [(.int (Int32.ofNat k1))])) target
          refine XS.iconst X_16.here hx rfl (hb hby at_133) ?_
          show Steps p.tables e below (T_16.setTop (mkF m 134 #[.val (.int ua), .val (.int ub), .val (.int ux), .val (.int sx), .val (.ref b_1), .val (.int (1 : Int32)), .val (.int (2 : Int32)), .val (.int (Int32.ofNat un)), .val (.int (Int32.ofNat un)), .val (.int (3 : Int32)), .val (.int (Int32.ofNat k1)), .val (.int (Int32.ofNat k2)), .val (.int (own_e3 k1 k2)), .unset, .unset] [(.int (2 : Int32)), (.int (Int32.ofNat k1))])) target
          exact kt
        by_cases hc134 : (Int32.ofNat k1) = (2 : Int32)
        · -- pc 134: yes
          refine own_go (S' := T_16.setTop (mkF m 150 #[.val (.int ua), .val (.int ub), .val (.int ux), .val (.int sx), .val (.ref b_1), .val (.int (1 : Int32)), .val (.int (2 : Int32)), .val (.int (Int32.ofNat un)), .val (.int (Int32.ofNat un)), .val (.int (3 : Int32)), .val (.int (Int32.ofNat k1)), .val (.int (Int32.ofNat k2)), .val (.int (own_e3 k1 k2)), .val (.int (1 : Int32)), .unset] [])) (fun target kt => ?_) ?_
          · show Steps p.tables e below (T_16.setTop (mkF m 134 #[.val (.int ua), .val (.int ub), .val (.int ux), .val (.int sx), .val (.ref b_1), .val (.int (1 : Int32)), .val (.int (2 : Int32)), .val (.int (Int32.ofNat un)), .val (.int (Int32.ofNat un)), .val (.int (3 : Int32)), .val (.int (Int32.ofNat k1)), .val (.int (Int32.ofNat k2)), .val (.int (own_e3 k1 k2)), .unset, .unset] [(.int (2 : Int32)), (.int (Int32.ofNat k1))])) target
            refine XS.icmpYes X_16.here hx rfl (pc0 := 134) (pc' := 143) rfl (hb hby at_134) rfl (teq hc134).1 (by decide) (by decide) ?_
            show Steps p.tables e below (T_16.setTop (mkF m 143 #[.val (.int ua), .val (.int ub), .val (.int ux), .val (.int sx), .val (.ref b_1), .val (.int (1 : Int32)), .val (.int (2 : Int32)), .val (.int (Int32.ofNat un)), .val (.int (Int32.ofNat un)), .val (.int (3 : Int32)), .val (.int (Int32.ofNat k1)), .val (.int (Int32.ofNat k2)), .val (.int (own_e3 k1 k2)), .unset, .unset] [])) target
            refine XS.iconst X_16.here hx rfl (hb hby at_143) ?_
            show Steps p.tables e below (T_16.setTop (mkF m 144 #[.val (.int ua), .val (.int ub), .val (.int ux), .val (.int sx), .val (.ref b_1), .val (.int (1 : Int32)), .val (.int (2 : Int32)), .val (.int (Int32.ofNat un)), .val (.int (Int32.ofNat un)), .val (.int (3 : Int32)), .val (.int (Int32.ofNat k1)), .val (.int (Int32.ofNat k2)), .val (.int (own_e3 k1 k2)), .unset, .unset] [(.int (1 : Int32))])) target
            refine XS.goto X_16.here hx rfl (pc0 := 144) (pc' := 148) rfl (hb hby at_144) (by decide) (by decide) ?_
            show Steps p.tables e below (T_16.setTop (mkF m 148 #[.val (.int ua), .val (.int ub), .val (.int ux), .val (.int sx), .val (.ref b_1), .val (.int (1 : Int32)), .val (.int (2 : Int32)), .val (.int (Int32.ofNat un)), .val (.int (Int32.ofNat un)), .val (.int (3 : Int32)), .val (.int (Int32.ofNat k1)), .val (.int (Int32.ofNat k2)), .val (.int (own_e3 k1 k2)), .unset, .unset] [(.int (1 : Int32))])) target
            refine XS.istore X_16.here hx rfl (hb hby at_148) rfl (l' := #[.val (.int ua), .val (.int ub), .val (.int ux), .val (.int sx), .val (.ref b_1), .val (.int (1 : Int32)), .val (.int (2 : Int32)), .val (.int (Int32.ofNat un)), .val (.int (Int32.ofNat un)), .val (.int (3 : Int32)), .val (.int (Int32.ofNat k1)), .val (.int (Int32.ofNat k2)), .val (.int (own_e3 k1 k2)), .val (.int (1 : Int32)), .unset]) rfl ?_
            show Steps p.tables e below (T_16.setTop (mkF m 150 #[.val (.int ua), .val (.int ub), .val (.int ux), .val (.int sx), .val (.ref b_1), .val (.int (1 : Int32)), .val (.int (2 : Int32)), .val (.int (Int32.ofNat un)), .val (.int (Int32.ofNat un)), .val (.int (3 : Int32)), .val (.int (Int32.ofNat k1)), .val (.int (Int32.ofNat k2)), .val (.int (own_e3 k1 k2)), .val (.int (1 : Int32)), .unset] [])) target
            exact kt
          exact J150 ((1 : Int32)) (own_ev_z13_t un k1 k2 hun hk1 hk2 hc134)
        · -- pc 134: no
          refine own_go (S' := T_16.setTop (mkF m 140 #[.val (.int ua), .val (.int ub), .val (.int ux), .val (.int sx), .val (.ref b_1), .val (.int (1 : Int32)), .val (.int (2 : Int32)), .val (.int (Int32.ofNat un)), .val (.int (Int32.ofNat un)), .val (.int (3 : Int32)), .val (.int (Int32.ofNat k1)), .val (.int (Int32.ofNat k2)), .val (.int (own_e3 k1 k2)), .unset, .unset] [(.int (2 : Int32)), (.int (Int32.ofNat k2))])) (fun target kt => ?_) ?_
          · show Steps p.tables e below (T_16.setTop (mkF m 134 #[.val (.int ua), .val (.int ub), .val (.int ux), .val (.int sx), .val (.ref b_1), .val (.int (1 : Int32)), .val (.int (2 : Int32)), .val (.int (Int32.ofNat un)), .val (.int (Int32.ofNat un)), .val (.int (3 : Int32)), .val (.int (Int32.ofNat k1)), .val (.int (Int32.ofNat k2)), .val (.int (own_e3 k1 k2)), .unset, .unset] [(.int (2 : Int32)), (.int (Int32.ofNat k1))])) target
            refine XS.icmpNo X_16.here hx rfl (hb hby at_134) rfl (feq hc134).1 ?_
            show Steps p.tables e below (T_16.setTop (mkF m 137 #[.val (.int ua), .val (.int ub), .val (.int ux), .val (.int sx), .val (.ref b_1), .val (.int (1 : Int32)), .val (.int (2 : Int32)), .val (.int (Int32.ofNat un)), .val (.int (Int32.ofNat un)), .val (.int (3 : Int32)), .val (.int (Int32.ofNat k1)), .val (.int (Int32.ofNat k2)), .val (.int (own_e3 k1 k2)), .unset, .unset] [])) target
            refine XS.iload X_16.here hx rfl (hb hby at_137) rfl ?_
            show Steps p.tables e below (T_16.setTop (mkF m 139 #[.val (.int ua), .val (.int ub), .val (.int ux), .val (.int sx), .val (.ref b_1), .val (.int (1 : Int32)), .val (.int (2 : Int32)), .val (.int (Int32.ofNat un)), .val (.int (Int32.ofNat un)), .val (.int (3 : Int32)), .val (.int (Int32.ofNat k1)), .val (.int (Int32.ofNat k2)), .val (.int (own_e3 k1 k2)), .unset, .unset] [(.int (Int32.ofNat k2))])) target
            refine XS.iconst X_16.here hx rfl (hb hby at_139) ?_
            show Steps p.tables e below (T_16.setTop (mkF m 140 #[.val (.int ua), .val (.int ub), .val (.int ux), .val (.int sx), .val (.ref b_1), .val (.int (1 : Int32)), .val (.int (2 : Int32)), .val (.int (Int32.ofNat un)), .val (.int (Int32.ofNat un)), .val (.int (3 : Int32)), .val (.int (Int32.ofNat k1)), .val (.int (Int32.ofNat k2)), .val (.int (own_e3 k1 k2)), .unset, .unset] [(.int (2 : Int32)), (.int (Int32.ofNat k2))])) target
            exact kt
          by_cases hc140 : (Int32.ofNat k2) = (2 : Int32)
          · -- pc 140: yes
            refine own_go (S' := T_16.setTop (mkF m 150 #[.val (.int ua), .val (.int ub), .val (.int ux), .val (.int sx), .val (.ref b_1), .val (.int (1 : Int32)), .val (.int (2 : Int32)), .val (.int (Int32.ofNat un)), .val (.int (Int32.ofNat un)), .val (.int (3 : Int32)), .val (.int (Int32.ofNat k1)), .val (.int (Int32.ofNat k2)), .val (.int (own_e3 k1 k2)), .val (.int (1 : Int32)), .unset] [])) (fun target kt => ?_) ?_
            · show Steps p.tables e below (T_16.setTop (mkF m 140 #[.val (.int ua), .val (.int ub), .val (.int ux), .val (.int sx), .val (.ref b_1), .val (.int (1 : Int32)), .val (.int (2 : Int32)), .val (.int (Int32.ofNat un)), .val (.int (Int32.ofNat un)), .val (.int (3 : Int32)), .val (.int (Int32.ofNat k1)), .val (.int (Int32.ofNat k2)), .val (.int (own_e3 k1 k2)), .unset, .unset] [(.int (2 : Int32)), (.int (Int32.ofNat k2))])) target
              refine XS.icmpNo X_16.here hx rfl (hb hby at_140) rfl (teq hc140).2 ?_
              show Steps p.tables e below (T_16.setTop (mkF m 143 #[.val (.int ua), .val (.int ub), .val (.int ux), .val (.int sx), .val (.ref b_1), .val (.int (1 : Int32)), .val (.int (2 : Int32)), .val (.int (Int32.ofNat un)), .val (.int (Int32.ofNat un)), .val (.int (3 : Int32)), .val (.int (Int32.ofNat k1)), .val (.int (Int32.ofNat k2)), .val (.int (own_e3 k1 k2)), .unset, .unset] [])) target
              refine XS.iconst X_16.here hx rfl (hb hby at_143) ?_
              show Steps p.tables e below (T_16.setTop (mkF m 144 #[.val (.int ua), .val (.int ub), .val (.int ux), .val (.int sx), .val (.ref b_1), .val (.int (1 : Int32)), .val (.int (2 : Int32)), .val (.int (Int32.ofNat un)), .val (.int (Int32.ofNat un)), .val (.int (3 : Int32)), .val (.int (Int32.ofNat k1)), .val (.int (Int32.ofNat k2)), .val (.int (own_e3 k1 k2)), .unset, .unset] [(.int (1 : Int32))])) target
              refine XS.goto X_16.here hx rfl (pc0 := 144) (pc' := 148) rfl (hb hby at_144) (by decide) (by decide) ?_
              show Steps p.tables e below (T_16.setTop (mkF m 148 #[.val (.int ua), .val (.int ub), .val (.int ux), .val (.int sx), .val (.ref b_1), .val (.int (1 : Int32)), .val (.int (2 : Int32)), .val (.int (Int32.ofNat un)), .val (.int (Int32.ofNat un)), .val (.int (3 : Int32)), .val (.int (Int32.ofNat k1)), .val (.int (Int32.ofNat k2)), .val (.int (own_e3 k1 k2)), .unset, .unset] [(.int (1 : Int32))])) target
              refine XS.istore X_16.here hx rfl (hb hby at_148) rfl (l' := #[.val (.int ua), .val (.int ub), .val (.int ux), .val (.int sx), .val (.ref b_1), .val (.int (1 : Int32)), .val (.int (2 : Int32)), .val (.int (Int32.ofNat un)), .val (.int (Int32.ofNat un)), .val (.int (3 : Int32)), .val (.int (Int32.ofNat k1)), .val (.int (Int32.ofNat k2)), .val (.int (own_e3 k1 k2)), .val (.int (1 : Int32)), .unset]) rfl ?_
              show Steps p.tables e below (T_16.setTop (mkF m 150 #[.val (.int ua), .val (.int ub), .val (.int ux), .val (.int sx), .val (.ref b_1), .val (.int (1 : Int32)), .val (.int (2 : Int32)), .val (.int (Int32.ofNat un)), .val (.int (Int32.ofNat un)), .val (.int (3 : Int32)), .val (.int (Int32.ofNat k1)), .val (.int (Int32.ofNat k2)), .val (.int (own_e3 k1 k2)), .val (.int (1 : Int32)), .unset] [])) target
              exact kt
            exact J150 ((1 : Int32)) (own_ev_z13_ft un k1 k2 hun hk1 hk2 hc134 hc140)
          · -- pc 140: no
            refine own_go (S' := T_16.setTop (mkF m 150 #[.val (.int ua), .val (.int ub), .val (.int ux), .val (.int sx), .val (.ref b_1), .val (.int (1 : Int32)), .val (.int (2 : Int32)), .val (.int (Int32.ofNat un)), .val (.int (Int32.ofNat un)), .val (.int (3 : Int32)), .val (.int (Int32.ofNat k1)), .val (.int (Int32.ofNat k2)), .val (.int (own_e3 k1 k2)), .val (.int (0 : Int32)), .unset] [])) (fun target kt => ?_) ?_
            · show Steps p.tables e below (T_16.setTop (mkF m 140 #[.val (.int ua), .val (.int ub), .val (.int ux), .val (.int sx), .val (.ref b_1), .val (.int (1 : Int32)), .val (.int (2 : Int32)), .val (.int (Int32.ofNat un)), .val (.int (Int32.ofNat un)), .val (.int (3 : Int32)), .val (.int (Int32.ofNat k1)), .val (.int (Int32.ofNat k2)), .val (.int (own_e3 k1 k2)), .unset, .unset] [(.int (2 : Int32)), (.int (Int32.ofNat k2))])) target
              refine XS.icmpYes X_16.here hx rfl (pc0 := 140) (pc' := 147) rfl (hb hby at_140) rfl (feq hc140).2 (by decide) (by decide) ?_
              show Steps p.tables e below (T_16.setTop (mkF m 147 #[.val (.int ua), .val (.int ub), .val (.int ux), .val (.int sx), .val (.ref b_1), .val (.int (1 : Int32)), .val (.int (2 : Int32)), .val (.int (Int32.ofNat un)), .val (.int (Int32.ofNat un)), .val (.int (3 : Int32)), .val (.int (Int32.ofNat k1)), .val (.int (Int32.ofNat k2)), .val (.int (own_e3 k1 k2)), .unset, .unset] [])) target
              refine XS.iconst X_16.here hx rfl (hb hby at_147) ?_
              show Steps p.tables e below (T_16.setTop (mkF m 148 #[.val (.int ua), .val (.int ub), .val (.int ux), .val (.int sx), .val (.ref b_1), .val (.int (1 : Int32)), .val (.int (2 : Int32)), .val (.int (Int32.ofNat un)), .val (.int (Int32.ofNat un)), .val (.int (3 : Int32)), .val (.int (Int32.ofNat k1)), .val (.int (Int32.ofNat k2)), .val (.int (own_e3 k1 k2)), .unset, .unset] [(.int (0 : Int32))])) target
              refine XS.istore X_16.here hx rfl (hb hby at_148) rfl (l' := #[.val (.int ua), .val (.int ub), .val (.int ux), .val (.int sx), .val (.ref b_1), .val (.int (1 : Int32)), .val (.int (2 : Int32)), .val (.int (Int32.ofNat un)), .val (.int (Int32.ofNat un)), .val (.int (3 : Int32)), .val (.int (Int32.ofNat k1)), .val (.int (Int32.ofNat k2)), .val (.int (own_e3 k1 k2)), .val (.int (0 : Int32)), .unset]) rfl ?_
              show Steps p.tables e below (T_16.setTop (mkF m 150 #[.val (.int ua), .val (.int ub), .val (.int ux), .val (.int sx), .val (.ref b_1), .val (.int (1 : Int32)), .val (.int (2 : Int32)), .val (.int (Int32.ofNat un)), .val (.int (Int32.ofNat un)), .val (.int (3 : Int32)), .val (.int (Int32.ofNat k1)), .val (.int (Int32.ofNat k2)), .val (.int (own_e3 k1 k2)), .val (.int (0 : Int32)), .unset] [])) target
              exact kt
            exact J150 ((0 : Int32)) (own_ev_z13_ff un k1 k2 hun hk1 hk2 hc134 hc140)
    · intro J131
      refine own_go (S' := T_16.setTop (mkF m 115 #[.val (.int ua), .val (.int ub), .val (.int ux), .val (.int sx), .val (.ref b_1), .val (.int (1 : Int32)), .val (.int (2 : Int32)), .val (.int (Int32.ofNat un)), .val (.int (Int32.ofNat un)), .val (.int (3 : Int32)), .val (.int (Int32.ofNat k1)), .val (.int (Int32.ofNat k2)), .unset, .unset, .unset] [(.int (3 : Int32)), (.int (Int32.ofNat k1))])) (fun target kt => ?_) ?_
      · show Steps p.tables e below (T_16.setTop (mkF m 112 #[.val (.int ua), .val (.int ub), .val (.int ux), .val (.int sx), .val (.ref b_1), .val (.int (1 : Int32)), .val (.int (2 : Int32)), .val (.int (Int32.ofNat un)), .val (.int (Int32.ofNat un)), .val (.int (3 : Int32)), .val (.int (Int32.ofNat k1)), .val (.int (Int32.ofNat k2)), .unset, .unset, .unset] [])) target
        refine XS.iload X_16.here hx rfl (hb hby at_112) rfl ?_
        show Steps p.tables e below (T_16.setTop (mkF m 114 #[.val (.int ua), .val (.int ub), .val (.int ux), .val (.int sx), .val (.ref b_1), .val (.int (1 : Int32)), .val (.int (2 : Int32)), .val (.int (Int32.ofNat un)), .val (.int (Int32.ofNat un)), .val (.int (3 : Int32)), .val (.int (Int32.ofNat k1)), .val (.int (Int32.ofNat k2)), .unset, .unset, .unset] [(.int (Int32.ofNat k1))])) target
        refine XS.iconst X_16.here hx rfl (hb hby at_114) ?_
        show Steps p.tables e below (T_16.setTop (mkF m 115 #[.val (.int ua), .val (.int ub), .val (.int ux), .val (.int sx), .val (.ref b_1), .val (.int (1 : Int32)), .val (.int (2 : Int32)), .val (.int (Int32.ofNat un)), .val (.int (Int32.ofNat un)), .val (.int (3 : Int32)), .val (.int (Int32.ofNat k1)), .val (.int (Int32.ofNat k2)), .unset, .unset, .unset] [(.int (3 : Int32)), (.int (Int32.ofNat k1))])) target
        exact kt
      by_cases hc115 : (Int32.ofNat k1) = (3 : Int32)
      · -- pc 115: yes
        refine own_go (S' := T_16.setTop (mkF m 131 #[.val (.int ua), .val (.int ub), .val (.int ux), .val (.int sx), .val (.ref b_1), .val (.int (1 : Int32)), .val (.int (2 : Int32)), .val (.int (Int32.ofNat un)), .val (.int (Int32.ofNat un)), .val (.int (3 : Int32)), .val (.int (Int32.ofNat k1)), .val (.int (Int32.ofNat k2)), .val (.int (1 : Int32)), .unset, .unset] [])) (fun target kt => ?_) ?_
        · show Steps p.tables e below (T_16.setTop (mkF m 115 #[.val (.int ua), .val (.int ub), .val (.int ux), .val (.int sx), .val (.ref b_1), .val (.int (1 : Int32)), .val (.int (2 : Int32)), .val (.int (Int32.ofNat un)), .val (.int (Int32.ofNat un)), .val (.int (3 : Int32)), .val (.int (Int32.ofNat k1)), .val (.int (Int32.ofNat k2)), .unset, .unset, .unset] [(.int (3 : Int32)), (.int (Int32.ofNat k1))])) target
          refine XS.icmpYes X_16.here hx rfl (pc0 := 115) (pc' := 124) rfl (hb hby at_115) rfl (teq hc115).1 (by decide) (by decide) ?_
          show Steps p.tables e below (T_16.setTop (mkF m 124 #[.val (.int ua), .val (.int ub), .val (.int ux), .val (.int sx), .val (.ref b_1), .val (.int (1 : Int32)), .val (.int (2 : Int32)), .val (.int (Int32.ofNat un)), .val (.int (Int32.ofNat un)), .val (.int (3 : Int32)), .val (.int (Int32.ofNat k1)), .val (.int (Int32.ofNat k2)), .unset, .unset, .unset] [])) target
          refine XS.iconst X_16.here hx rfl (hb hby at_124) ?_
          show Steps p.tables e below (T_16.setTop (mkF m 125 #[.val (.int ua), .val (.int ub), .val (.int ux), .val (.int sx), .val (.ref b_1), .val (.int (1 : Int32)), .val (.int (2 : Int32)), .val (.int (Int32.ofNat un)), .val (.int (Int32.ofNat un)), .val (.int (3 : Int32)), .val (.int (Int32.ofNat k1)), .val (.int (Int32.ofNat k2)), .unset, .unset, .unset] [(.int (1 : Int32))])) target
          refine XS.goto X_16.here hx rfl (pc0 := 125) (pc' := 129) rfl (hb hby at_125) (by decide) (by decide) ?_
          show Steps p.tables e below (T_16.setTop (mkF m 129 #[.val (.int ua), .val (.int ub), .val (.int ux), .val (.int sx), .val (.ref b_1), .val (.int (1 : Int32)), .val (.int (2 : Int32)), .val (.int (Int32.ofNat un)), .val (.int (Int32.ofNat un)), .val (.int (3 : Int32)), .val (.int (Int32.ofNat k1)), .val (.int (Int32.ofNat k2)), .unset, .unset, .unset] [(.int (1 : Int32))])) target
          refine XS.istore X_16.here hx rfl (hb hby at_129) rfl (l' := #[.val (.int ua), .val (.int ub), .val (.int ux), .val (.int sx), .val (.ref b_1), .val (.int (1 : Int32)), .val (.int (2 : Int32)), .val (.int (Int32.ofNat un)), .val (.int (Int32.ofNat un)), .val (.int (3 : Int32)), .val (.int (Int32.ofNat k1)), .val (.int (Int32.ofNat k2)), .val (.int (1 : Int32)), .unset, .unset]) rfl ?_
          show Steps p.tables e below (T_16.setTop (mkF m 131 #[.val (.int ua), .val (.int ub), .val (.int ux), .val (.int sx), .val (.ref b_1), .val (.int (1 : Int32)), .val (.int (2 : Int32)), .val (.int (Int32.ofNat un)), .val (.int (Int32.ofNat un)), .val (.int (3 : Int32)), .val (.int (Int32.ofNat k1)), .val (.int (Int32.ofNat k2)), .val (.int (1 : Int32)), .unset, .unset] [])) target
          exact kt
        exact J131 ((1 : Int32)) (own_ev_z12_t un k1 k2 hun hk1 hk2 hc115)
      · -- pc 115: no
        refine own_go (S' := T_16.setTop (mkF m 121 #[.val (.int ua), .val (.int ub), .val (.int ux), .val (.int sx), .val (.ref b_1), .val (.int (1 : Int32)), .val (.int (2 : Int32)), .val (.int (Int32.ofNat un)), .val (.int (Int32.ofNat un)), .val (.int (3 : Int32)), .val (.int (Int32.ofNat k1)), .val (.int (Int32.ofNat k2)), .unset, .unset, .unset] [(.int (3 : Int32)), (.int (Int32.ofNat k2))])) (fun target kt => ?_) ?_
        · show Steps p.tables e below (T_16.setTop (mkF m 115 #[.val (.int ua), .val (.int ub), .val (.int ux), .val (.int sx), .val (.ref b_1), .val (.int (1 : Int32)), .val (.int (2 : Int32)), .val (.int (Int32.ofNat un)), .val (.int (Int32.ofNat un)), .val (.int (3 : Int32)), .val (.int (Int32.ofNat k1)), .val (.int (Int32.ofNat k2)), .unset, .unset, .unset] [(.int (3 : Int32)), (.int (Int32.ofNat k1))])) target
          refine XS.icmpNo X_16.here hx rfl (hb hby at_115) rfl (feq hc115).1 ?_
          show Steps p.tables e below (T_16.setTop (mkF m 118 #[.val (.int ua), .val (.int ub), .val (.int ux), .val (.int sx), .val (.ref b_1), .val (.int (1 : Int32)), .val (.int (2 : Int32)), .val (.int (Int32.ofNat un)), .val (.int (Int32.ofNat un)), .val (.int (3 : Int32)), .val (.int (Int32.ofNat k1)), .val (.int (Int32.ofNat k2)), .unset, .unset, .unset] [])) target
          refine XS.iload X_16.here hx rfl (hb hby at_118) rfl ?_
          show Steps p.tables e below (T_16.setTop (mkF m 120 #[.val (.int ua), .val (.int ub), .val (.int ux), .val (.int sx), .val (.ref b_1), .val (.int (1 : Int32)), .val (.int (2 : Int32)), .val (.int (Int32.ofNat un)), .val (.int (Int32.ofNat un)), .val (.int (3 : Int32)), .val (.int (Int32.ofNat k1)), .val (.int (Int32.ofNat k2)), .unset, .unset, .unset] [(.int (Int32.ofNat k2))])) target
          refine XS.iconst X_16.here hx rfl (hb hby at_120) ?_
          show Steps p.tables e below (T_16.setTop (mkF m 121 #[.val (.int ua), .val (.int ub), .val (.int ux), .val (.int sx), .val (.ref b_1), .val (.int (1 : Int32)), .val (.int (2 : Int32)), .val (.int (Int32.ofNat un)), .val (.int (Int32.ofNat un)), .val (.int (3 : Int32)), .val (.int (Int32.ofNat k1)), .val (.int (Int32.ofNat k2)), .unset, .unset, .unset] [(.int (3 : Int32)), (.int (Int32.ofNat k2))])) target
          exact kt
        by_cases hc121 : (Int32.ofNat k2) = (3 : Int32)
        · -- pc 121: yes
          refine own_go (S' := T_16.setTop (mkF m 131 #[.val (.int ua), .val (.int ub), .val (.int ux), .val (.int sx), .val (.ref b_1), .val (.int (1 : Int32)), .val (.int (2 : Int32)), .val (.int (Int32.ofNat un)), .val (.int (Int32.ofNat un)), .val (.int (3 : Int32)), .val (.int (Int32.ofNat k1)), .val (.int (Int32.ofNat k2)), .val (.int (1 : Int32)), .unset, .unset] [])) (fun target kt => ?_) ?_
          · show Steps p.tables e below (T_16.setTop (mkF m 121 #[.val (.int ua), .val (.int ub), .val (.int ux), .val (.int sx), .val (.ref b_1), .val (.int (1 : Int32)), .val (.int (2 : Int32)), .val (.int (Int32.ofNat un)), .val (.int (Int32.ofNat un)), .val (.int (3 : Int32)), .val (.int (Int32.ofNat k1)), .val (.int (Int32.ofNat k2)), .unset, .unset, .unset] [(.int (3 : Int32)), (.int (Int32.ofNat k2))])) target
            refine XS.icmpNo X_16.here hx rfl (hb hby at_121) rfl (teq hc121).2 ?_
            show Steps p.tables e below (T_16.setTop (mkF m 124 #[.val (.int ua), .val (.int ub), .val (.int ux), .val (.int sx), .val (.ref b_1), .val (.int (1 : Int32)), .val (.int (2 : Int32)), .val (.int (Int32.ofNat un)), .val (.int (Int32.ofNat un)), .val (.int (3 : Int32)), .val (.int (Int32.ofNat k1)), .val (.int (Int32.ofNat k2)), .unset, .unset, .unset] [])) target
            refine XS.iconst X_16.here hx rfl (hb hby at_124) ?_
            show Steps p.tables e below (T_16.setTop (mkF m 125 #[.val (.int ua), .val (.int ub), .val (.int ux), .val (.int sx), .val (.ref b_1), .val (.int (1 : Int32)), .val (.int (2 : Int32)), .val (.int (Int32.ofNat un)), .val (.int (Int32.ofNat un)), .val (.int (3 : Int32)), .val (.int (Int32.ofNat k1)), .val (.int (Int32.ofNat k2)), .unset, .unset, .unset] [(.int (1 : Int32))])) target
            refine XS.goto X_16.here hx rfl (pc0 := 125) (pc' := 129) rfl (hb hby at_125) (by decide) (by decide) ?_
            show Steps p.tables e below (T_16.setTop (mkF m 129 #[.val (.int ua), .val (.int ub), .val (.int ux), .val (.int sx), .val (.ref b_1), .val (.int (1 : Int32)), .val (.int (2 : Int32)), .val (.int (Int32.ofNat un)), .val (.int (Int32.ofNat un)), .val (.int (3 : Int32)), .val (.int (Int32.ofNat k1)), .val (.int (Int32.ofNat k2)), .unset, .unset, .unset] [(.int (1 : Int32))])) target
            refine XS.istore X_16.here hx rfl (hb hby at_129) rfl (l' := #[.val (.int ua), .val (.int ub), .val (.int ux), .val (.int sx), .val (.ref b_1), .val (.int (1 : Int32)), .val (.int (2 : Int32)), .val (.int (Int32.ofNat un)), .val (.int (Int32.ofNat un)), .val (.int (3 : Int32)), .val (.int (Int32.ofNat k1)), .val (.int (Int32.ofNat k2)), .val (.int (1 : Int32)), .unset, .unset]) rfl ?_
            show Steps p.tables e below (T_16.setTop (mkF m 131 #[.val (.int ua), .val (.int ub), .val (.int ux), .val (.int sx), .val (.ref b_1), .val (.int (1 : Int32)), .val (.int (2 : Int32)), .val (.int (Int32.ofNat un)), .val (.int (Int32.ofNat un)), .val (.int (3 : Int32)), .val (.int (Int32.ofNat k1)), .val (.int (Int32.ofNat k2)), .val (.int (1 : Int32)), .unset, .unset] [])) target
            exact kt
          exact J131 ((1 : Int32)) (own_ev_z12_ft un k1 k2 hun hk1 hk2 hc115 hc121)
        · -- pc 121: no
          refine own_go (S' := T_16.setTop (mkF m 131 #[.val (.int ua), .val (.int ub), .val (.int ux), .val (.int sx), .val (.ref b_1), .val (.int (1 : Int32)), .val (.int (2 : Int32)), .val (.int (Int32.ofNat un)), .val (.int (Int32.ofNat un)), .val (.int (3 : Int32)), .val (.int (Int32.ofNat k1)), .val (.int (Int32.ofNat k2)), .val (.int (0 : Int32)), .unset, .unset] [])) (fun target kt => ?_) ?_
          · show Steps p.tables e below (T_16.setTop (mkF m 121 #[.val (.int ua), .val (.int ub), .val (.int ux), .val (.int sx), .val (.ref b_1), .val (.int (1 : Int32)), .val (.int (2 : Int32)), .val (.int (Int32.ofNat un)), .val (.int (Int32.ofNat un)), .val (.int (3 : Int32)), .val (.int (Int32.ofNat k1)), .val (.int (Int32.ofNat k2)), .unset, .unset, .unset] [(.int (3 : Int32)), (.int (Int32.ofNat k2))])) target
            refine XS.icmpYes X_16.here hx rfl (pc0 := 121) (pc' := 128) rfl (hb hby at_121) rfl (feq hc121).2 (by decide) (by decide) ?_
            show Steps p.tables e below (T_16.setTop (mkF m 128 #[.val (.int ua), .val (.int ub), .val (.int ux), .val (.int sx), .val (.ref b_1), .val (.int (1 : Int32)), .val (.int (2 : Int32)), .val (.int (Int32.ofNat un)), .val (.int (Int32.ofNat un)), .val (.int (3 : Int32)), .val (.int (Int32.ofNat k1)), .val (.int (Int32.ofNat k2)), .unset, .unset, .unset] [])) target
            refine XS.iconst X_16.here hx rfl (hb hby at_128) ?_
            show Steps p.tables e below (T_16.setTop (mkF m 129 #[.val (.int ua), .val (.int ub), .val (.int ux), .val (.int sx), .val (.ref b_1), .val (.int (1 : Int32)), .val (.int (2 : Int32)), .val (.int (Int32.ofNat un)), .val (.int (Int32.ofNat un)), .val (.int (3 : Int32)), .val (.int (Int32.ofNat k1)), .val (.int (Int32.ofNat k2)), .unset, .unset, .unset] [(.int (0 : Int32))])) target
            refine XS.istore X_16.here hx rfl (hb hby at_129) rfl (l' := #[.val (.int ua), .val (.int ub), .val (.int ux), .val (.int sx), .val (.ref b_1), .val (.int (1 : Int32)), .val (.int (2 : Int32)), .val (.int (Int32.ofNat un)), .val (.int (Int32.ofNat un)), .val (.int (3 : Int32)), .val (.int (Int32.ofNat k1)), .val (.int (Int32.ofNat k2)), .val (.int (0 : Int32)), .unset, .unset]) rfl ?_
            show Steps p.tables e below (T_16.setTop (mkF m 131 #[.val (.int ua), .val (.int ub), .val (.int ux), .val (.int sx), .val (.ref b_1), .val (.int (1 : Int32)), .val (.int (2 : Int32)), .val (.int (Int32.ofNat un)), .val (.int (Int32.ofNat un)), .val (.int (3 : Int32)), .val (.int (Int32.ofNat k1)), .val (.int (Int32.ofNat k2)), .val (.int (0 : Int32)), .unset, .unset] [])) target
            exact kt
          exact J131 ((0 : Int32)) (own_ev_z12_ff un k1 k2 hun hk1 hk2 hc115 hc121)
  · intro J64
    refine own_go (S' := T_10.setTop (mkF m 31 #[.val (.int ua), .val (.int ub), .val (.int ux), .val (.int sx), .val (.ref b_1), .val (.int (1 : Int32)), .val (.int (2 : Int32)), .unset, .unset, .unset, .unset, .unset, .unset, .unset, .unset] [(.int (sx &&& (1 : Int32)))])) (fun target kt => ?_) ?_
    · show Steps p.tables e below (T_10.setTop (mkF m 28 #[.val (.int ua), .val (.int ub), .val (.int ux), .val (.int sx), .val (.ref b_1), .val (.int (1 : Int32)), .val (.int (2 : Int32)), .unset, .unset, .unset, .unset, .unset, .unset, .unset, .unset] [])) target
      refine XS.iloadN X_10.here hx rfl (hb hby at_28) rfl ?_
      show Steps p.tables e below (T_10.setTop (mkF m 29 #[.val (.int ua), .val (.int ub), .val (.int ux), .val (.int sx), .val (.ref b_1), .val (.int (1 : Int32)), .val (.int (2 : Int32)), .unset, .unset, .unset, .unset, .unset, .unset, .unset, .unset] [(.int sx)])) target
      refine XS.iconst X_10.here hx rfl (hb hby at_29) ?_
      show Steps p.tables e below (T_10.setTop (mkF m 30 #[.val (.int ua), .val (.int ub), .val (.int ux), .val (.int sx), .val (.ref b_1), .val (.int (1 : Int32)), .val (.int (2 : Int32)), .unset, .unset, .unset, .unset, .unset, .unset, .unset, .unset] [(.int (1 : Int32)), (.int sx)])) target
      refine XS.iand X_10.here hx rfl (hb hby at_30) rfl ?_
      show Steps p.tables e below (T_10.setTop (mkF m 31 #[.val (.int ua), .val (.int ub), .val (.int ux), .val (.int sx), .val (.ref b_1), .val (.int (1 : Int32)), .val (.int (2 : Int32)), .unset, .unset, .unset, .unset, .unset, .unset, .unset, .unset] [(.int (sx &&& (1 : Int32)))])) target
      exact kt
    by_cases hc31 : (sx &&& (1 : Int32)) = (0 : Int32)
    · -- pc 31: yes
      obtain ⟨cq_38, kq_38, q_38a, q_38b, q_38c⟩ := isOf hZ rfl p_10_1
      obtain ⟨_, _, ⟨T_38, L_38, k_38, n_38⟩, -, X_38, ⟨Lc_38, hQ_38, l_38, y_38, z_38⟩, st_38⟩ := X_10.virtualBack hx (y := (⟨"com/example/filigree/filigree/engine/DecisionTree", "add", "(II)I"⟩ : MethodName)) (z := (⟨"com/example/filigree/filigree/engine/DecisionTree", "add", "(II)I"⟩ : MethodName)) hown (mvT hZ (hw _ (List.mem_of_getElem? (i := 27) rfl))) (mvT hZ (hw _ (List.mem_of_getElem? (i := 28) rfl))) (notFace_of_selects (args := #[]) (mvT hZ (hw _ (List.mem_of_getElem? (i := 30) rfl)))) (mvT hZ (hw _ (List.mem_of_getElem? (i := 30) rfl))) (mvT hZ (hw _ (List.mem_of_getElem? (i := 29) rfl))) (by decide) (backOf (W := 0) (rm_add30 l Z a0 hw [] b_1 ux b0_x_4 b1_x_4 b2_x_4 b3_x_4 b4_x_4 b5_x_4 b6_x_4 k0_x_4 k1_x_4 k2_x_4 k3_x_4 k4_x_4 k5_x_4 k6_x_4 ua ub T_10.heap n0 Z_11 p_10_1 p_10_2 p_10_3 p_10_4 p_10_5 p_10_6 p_10_7 p_10_8 p_10_9 p_10_10 p_10_11 p_10_12 p_10_13 p_10_14 p_10_15 p_10_16 gn_b_1 gn_b0_x_4 gn_b1_x_4 gn_b2_x_4 gn_b3_x_4 gn_b4_x_4 gn_b5_x_4 gn_b6_x_4 p_4_17 p_4_18 p_4_19 p_4_20 p_4_21 p_4_22 p_4_23 p_4_24 p_4_25 p_4_26 p_4_27 p_4_28 p_4_29 p_4_30 p_4_31 p_4_32 p_4_33 p_4_34 p_4_35 p_4_36 p_4_37 p_4_38 p_4_39 p_4_40 p_4_41 p_4_42 p_4_43 p_4_44) hZ (hw _ (List.mem_of_getElem? (i := 31) rfl)) (hw _ (List.mem_of_getElem? (i := 2) rfl)) (by decide) (by decide)) q_38a q_38c (g := (mkF m 59 #[.val (.int ua), .val (.int ub), .val (.int ux), .val (.int sx), .val (.ref b_1), .val (.int (1 : Int32)), .val (.int (2 : Int32)), .val (.int (0 : Int32)), .val (.int (0 : Int32)), .unset, .unset, .unset, .unset, .unset, .unset] [(.int ux), (.int (0 : Int32)), (.ref b_1)])) rfl (by rw [hml]; rfl) (Steps.refl _) (argsL := [(.int (0 : Int32)), (.int ux)]) (rest := []) (lenOf pd_II_I rfl) rfl (by show 2 * 0 + _ ≤ _; exact Nat.le_of_eq rfl) (hb hby at_59) (fun _ _ => ⟨rfl, rfl, (by decide : 8 + 0 ≤ _), (by decide : 456 + 0 ≤ _)⟩)
      dsimp only [Pt.U, Pt.locs, Pt.cells, Pt.slots] at X_38 l_38 y_38 z_38 st_38 hQ_38
      subst y_38 z_38
      obtain ⟨rfl, N_38q, p_38_0, p_38_1, p_38_2, p_38_3, p_38_4, p_38_5, p_38_6, p_38_7, p_38_8, p_38_9, p_38_10, p_38_11, p_38_12, p_38_13, p_38_14, p_38_15, p_38_16⟩ := hQ_38
      have N_38 : Fr n0 L_38 := by rw [l_38]; exact Fr.app N_10 N_38q
      clear l_38
      have Z_39 : n0 ≤ T_38.heap.size := Nat.le_trans Z_11 p_38_0.1
      refine own_go (S' := T_38.setTop (mkF m 64 #[.val (.int ua), .val (.int ub), .val (.int ux), .val (.int sx), .val (.ref b_1), .val (.int (1 : Int32)), .val (.int (2 : Int32)), .val (.int (0 : Int32)), .val (.int (0 : Int32)), .val (.int (3 : Int32)), .unset, .unset, .unset, .unset, .unset] [])) (fun target kt => ?_) ?_
      · show Steps p.tables e below (T_10.setTop (mkF m 31 #[.val (.int ua), .val (.int ub), .val (.int ux), .val (.int sx), .val (.ref b_1), .val (.int (1 : Int32)), .val (.int (2 : Int32)), .unset, .unset, .unset, .unset, .unset, .unset, .unset, .unset] [(.int (sx &&& (1 : Int32)))])) target
        refine XS.ifYes X_10.here hx rfl (pc0 := 31) (pc' := 38) rfl (hb hby at_31) rfl ((if0 _ _).trans (teq hc31).1) (by decide) (by decide) ?_
        show Steps p.tables e below (T_10.setTop (mkF m 38 #[.val (.int ua), .val (.int ub), .val (.int ux), .val (.int sx), .val (.ref b_1), .val (.int (1 : Int32)), .val (.int (2 : Int32)), .unset, .unset, .unset, .unset, .unset, .unset, .unset, .unset] [])) target
        refine XS.iconst X_10.here hx rfl (hb hby at_38) ?_
        show Steps p.tables e below (T_10.setTop (mkF m 39 #[.val (.int ua), .val (.int ub), .val (.int ux), .val (.int sx), .val (.ref b_1), .val (.int (1 : Int32)), .val (.int (2 : Int32)), .unset, .unset, .unset, .unset, .unset, .unset, .unset, .unset] [(.int (0 : Int32))])) target
        refine XS.istore X_10.here hx rfl (hb hby at_39) rfl (l' := #[.val (.int ua), .val (.int ub), .val (.int ux), .val (.int sx), .val (.ref b_1), .val (.int (1 : Int32)), .val (.int (2 : Int32)), .val (.int (0 : Int32)), .unset, .unset, .unset, .unset, .unset, .unset, .unset]) rfl ?_
        show Steps p.tables e below (T_10.setTop (mkF m 41 #[.val (.int ua), .val (.int ub), .val (.int ux), .val (.int sx), .val (.ref b_1), .val (.int (1 : Int32)), .val (.int (2 : Int32)), .val (.int (0 : Int32)), .unset, .unset, .unset, .unset, .unset, .unset, .unset] [])) target
        refine XS.iload X_10.here hx rfl (hb hby at_41) rfl ?_
        show Steps p.tables e below (T_10.setTop (mkF m 43 #[.val (.int ua), .val (.int ub), .val (.int ux), .val (.int sx), .val (.ref b_1), .val (.int (1 : Int32)), .val (.int (2 : Int32)), .val (.int (0 : Int32)), .unset, .unset, .unset, .unset, .unset, .unset, .unset] [(.int (0 : Int32))])) target
        refine XS.ifYes X_10.here hx rfl (pc0 := 43) (pc' := 51) rfl (hb hby at_43) rfl ((if0 _ _).trans (teq (by decide : (0 : Int32) = (0 : Int32))).1) (by decide) (by decide) ?_
        show Steps p.tables e below (T_10.setTop (mkF m 51 #[.val (.int ua), .val (.int ub), .val (.int ux), .val (.int sx), .val (.ref b_1), .val (.int (1 : Int32)), .val (.int (2 : Int32)), .val (.int (0 : Int32)), .unset, .unset, .unset, .unset, .unset, .unset, .unset] [])) target
        refine XS.iconst X_10.here hx rfl (hb hby at_51) ?_
        show Steps p.tables e below (T_10.setTop (mkF m 52 #[.val (.int ua), .val (.int ub), .val (.int ux), .val (.int sx), .val (.ref b_1), .val (.int (1 : Int32)), .val (.int (2 : Int32)), .val (.int (0 : Int32)), .unset, .unset, .unset, .unset, .unset, .unset, .unset] [(.int (0 : Int32))])) target
        refine XS.istore X_10.here hx rfl (hb hby at_52) rfl (l' := #[.val (.int ua), .val (.int ub), .val (.int ux), .val (.int sx), .val (.ref b_1), .val (.int (1 : Int32)), .val (.int (2 : Int32)), .val (.int (0 : Int32)), .val (.int (0 : Int32)), .unset, .unset, .unset, .unset, .unset, .unset]) rfl ?_
        show Steps p.tables e below (T_10.setTop (mkF m 54 #[.val (.int ua), .val (.int ub), .val (.int ux), .val (.int sx), .val (.ref b_1), .val (.int (1 : Int32)), .val (.int (2 : Int32)), .val (.int (0 : Int32)), .val (.int (0 : Int32)), .unset, .unset, .unset, .unset, .unset, .unset] [])) target
        refine XS.aload X_10.here hx rfl (hb hby at_54) rfl rfl ?_
        show Steps p.tables e below (T_10.setTop (mkF m 56 #[.val (.int ua), .val (.int ub), .val (.int ux), .val (.int sx), .val (.ref b_1), .val (.int (1 : Int32)), .val (.int (2 : Int32)), .val (.int (0 : Int32)), .val (.int (0 : Int32)), .unset, .unset, .unset, .unset, .unset, .unset] [(.ref b_1)])) target
        refine XS.iload X_10.here hx rfl (hb hby at_56) rfl ?_
        show Steps p.tables e below (T_10.setTop (mkF m 58 #[.val (.int ua), .val (.int ub), .val (.int ux), .val (.int sx), .val (.ref b_1), .val (.int (1 : Int32)), .val (.int (2 : Int32)), .val (.int (0 : Int32)), .val (.int (0 : Int32)), .unset, .unset, .unset, .unset, .unset, .unset] [(.int (0 : Int32)), (.ref b_1)])) target
        refine XS.iloadN X_10.here hx rfl (hb hby at_58) rfl ?_
        show Steps p.tables e below (T_10.setTop (mkF m 59 #[.val (.int ua), .val (.int ub), .val (.int ux), .val (.int sx), .val (.ref b_1), .val (.int (1 : Int32)), .val (.int (2 : Int32)), .val (.int (0 : Int32)), .val (.int (0 : Int32)), .unset, .unset, .unset, .unset, .unset, .unset] [(.int ux), (.int (0 : Int32)), (.ref b_1)])) target
        refine st_38.trans ?_
        show Steps p.tables e below (T_38.setTop (mkF m 62 #[.val (.int ua), .val (.int ub), .val (.int ux), .val (.int sx), .val (.ref b_1), .val (.int (1 : Int32)), .val (.int (2 : Int32)), .val (.int (0 : Int32)), .val (.int (0 : Int32)), .unset, .unset, .unset, .unset, .unset, .unset] [(.int (3 : Int32))])) target
        refine XS.istore X_38.here hx rfl (hb hby at_62) rfl (l' := #[.val (.int ua), .val (.int ub), .val (.int ux), .val (.int sx), .val (.ref b_1), .val (.int (1 : Int32)), .val (.int (2 : Int32)), .val (.int (0 : Int32)), .val (.int (0 : Int32)), .val (.int (3 : Int32)), .unset, .unset, .unset, .unset, .unset]) rfl ?_
        show Steps p.tables e below (T_38.setTop (mkF m 64 #[.val (.int ua), .val (.int ub), .val (.int ux), .val (.int sx), .val (.ref b_1), .val (.int (1 : Int32)), .val (.int (2 : Int32)), .val (.int (0 : Int32)), .val (.int (0 : Int32)), .val (.int (3 : Int32)), .unset, .unset, .unset, .unset, .unset] [])) target
        exact kt
      exact J64 (T_38, T_38.heap, _, 0) ⟨X_38, rfl, N_38, Z_39, p_38_1, p_38_2, p_38_3, p_38_4, p_38_5, p_38_6, p_38_7, p_38_8, p_38_10, p_38_13, p_38_14, p_38_15, p_38_16, (show 0 ≤ 1 from by decide)⟩
    · -- pc 31: no
      obtain ⟨cq_41, kq_41, q_41a, q_41b, q_41c⟩ := isOf hZ rfl p_10_1
      obtain ⟨_, _, ⟨T_41, L_41, k_41, n_41⟩, -, X_41, ⟨Lc_41, hQ_41, l_41, y_41, z_41⟩, st_41⟩ := X_10.virtualBack hx (y := (⟨"com/example/filigree/filigree/engine/DecisionTree", "add", "(II)I"⟩ : MethodName)) (z := (⟨"com/example/filigree/filigree/engine/DecisionTree", "add", "(II)I"⟩ : MethodName)) hown (mvT hZ (hw _ (List.mem_of_getElem? (i := 27) rfl))) (mvT hZ (hw _ (List.mem_of_getElem? (i := 28) rfl))) (notFace_of_selects (args := #[]) (mvT hZ (hw _ (List.mem_of_getElem? (i := 30) rfl)))) (mvT hZ (hw _ (List.mem_of_getElem? (i := 30) rfl))) (mvT hZ (hw _ (List.mem_of_getElem? (i := 29) rfl))) (by decide) (backOf (W := 0) (rm_add31 l Z a0 hw [] b_1 ux b0_x_4 b1_x_4 b2_x_4 b3_x_4 b4_x_4 b5_x_4 b6_x_4 k0_x_4 k1_x_4 k2_x_4 k3_x_4 k4_x_4 k5_x_4 k6_x_4 ua ub T_10.heap n0 Z_11 p_10_1 p_10_2 p_10_3 p_10_4 p_10_5 p_10_6 p_10_7 p_10_8 p_10_9 p_10_10 p_10_11 p_10_12 p_10_13 p_10_14 p_10_15 p_10_16 gn_b_1 gn_b0_x_4 gn_b1_x_4 gn_b2_x_4 gn_b3_x_4 gn_b4_x_4 gn_b5_x_4 gn_b6_x_4 p_4_17 p_4_18 p_4_19 p_4_20 p_4_21 p_4_22 p_4_23 p_4_24 p_4_25 p_4_26 p_4_27 p_4_28 p_4_29 p_4_30 p_4_31 p_4_32 p_4_33 p_4_34 p_4_35 p_4_36 p_4_37 p_4_38 p_4_39 p_4_40 p_4_41 p_4_42 p_4_43 p_4_44) hZ (hw _ (List.mem_of_getElem? (i := 31) rfl)) (hw _ (List.mem_of_getElem? (i := 2) rfl)) (by decide) (by decide)) q_41a q_41c (g := (mkF m 59 #[.val (.int ua), .val (.int ub), .val (.int ux), .val (.int sx), .val (.ref b_1), .val (.int (1 : Int32)), .val (.int (2 : Int32)), .val (.int (1 : Int32)), .val (.int (1 : Int32)), .unset, .unset, .unset, .unset, .unset, .unset] [(.int ux), (.int (1 : Int32)), (.ref b_1)])) rfl (by rw [hml]; rfl) (Steps.refl _) (argsL := [(.int (1 : Int32)), (.int ux)]) (rest := []) (lenOf pd_II_I rfl) rfl (by show 2 * 0 + _ ≤ _; exact Nat.le_of_eq rfl) (hb hby at_59) (fun _ _ => ⟨rfl, rfl, (by decide : 8 + 0 ≤ _), (by decide : 456 + 0 ≤ _)⟩)
      dsimp only [Pt.U, Pt.locs, Pt.cells, Pt.slots] at X_41 l_41 y_41 z_41 st_41 hQ_41
      subst y_41 z_41
      obtain ⟨rfl, N_41q, p_41_0, p_41_1, p_41_2, p_41_3, p_41_4, p_41_5, p_41_6, p_41_7, p_41_8, p_41_9, p_41_10, p_41_11, p_41_12, p_41_13, p_41_14, p_41_15, p_41_16⟩ := hQ_41
      have N_41 : Fr n0 L_41 := by rw [l_41]; exact Fr.app N_10 N_41q
      clear l_41
      have Z_42 : n0 ≤ T_41.heap.size := Nat.le_trans Z_11 p_41_0.1
      refine own_go (S' := T_41.setTop (mkF m 64 #[.val (.int ua), .val (.int ub), .val (.int ux), .val (.int sx), .val (.ref b_1), .val (.int (1 : Int32)), .val (.int (2 : Int32)), .val (.int (1 : Int32)), .val (.int (1 : Int32)), .val (.int (3 : Int32)), .unset, .unset, .unset, .unset, .unset] [])) (fun target kt => ?_) ?_
      · show Steps p.tables e below (T_10.setTop (mkF m 31 #[.val (.int ua), .val (.int ub), .val (.int ux), .val (.int sx), .val (.ref b_1), .val (.int (1 : Int32)), .val (.int (2 : Int32)), .unset, .unset, .unset, .unset, .unset, .unset, .unset, .unset] [(.int (sx &&& (1 : Int32)))])) target
        refine XS.ifNo X_10.here hx rfl (hb hby at_31) rfl ((if0 _ _).trans (feq hc31).1) ?_
        show Steps p.tables e below (T_10.setTop (mkF m 34 #[.val (.int ua), .val (.int ub), .val (.int ux), .val (.int sx), .val (.ref b_1), .val (.int (1 : Int32)), .val (.int (2 : Int32)), .unset, .unset, .unset, .unset, .unset, .unset, .unset, .unset] [])) target
        refine XS.iconst X_10.here hx rfl (hb hby at_34) ?_
        show Steps p.tables e below (T_10.setTop (mkF m 35 #[.val (.int ua), .val (.int ub), .val (.int ux), .val (.int sx), .val (.ref b_1), .val (.int (1 : Int32)), .val (.int (2 : Int32)), .unset, .unset, .unset, .unset, .unset, .unset, .unset, .unset] [(.int (1 : Int32))])) target
        refine XS.goto X_10.here hx rfl (pc0 := 35) (pc' := 39) rfl (hb hby at_35) (by decide) (by decide) ?_
        show Steps p.tables e below (T_10.setTop (mkF m 39 #[.val (.int ua), .val (.int ub), .val (.int ux), .val (.int sx), .val (.ref b_1), .val (.int (1 : Int32)), .val (.int (2 : Int32)), .unset, .unset, .unset, .unset, .unset, .unset, .unset, .unset] [(.int (1 : Int32))])) target
        refine XS.istore X_10.here hx rfl (hb hby at_39) rfl (l' := #[.val (.int ua), .val (.int ub), .val (.int ux), .val (.int sx), .val (.ref b_1), .val (.int (1 : Int32)), .val (.int (2 : Int32)), .val (.int (1 : Int32)), .unset, .unset, .unset, .unset, .unset, .unset, .unset]) rfl ?_
        show Steps p.tables e below (T_10.setTop (mkF m 41 #[.val (.int ua), .val (.int ub), .val (.int ux), .val (.int sx), .val (.ref b_1), .val (.int (1 : Int32)), .val (.int (2 : Int32)), .val (.int (1 : Int32)), .unset, .unset, .unset, .unset, .unset, .unset, .unset] [])) target
        refine XS.iload X_10.here hx rfl (hb hby at_41) rfl ?_
        show Steps p.tables e below (T_10.setTop (mkF m 43 #[.val (.int ua), .val (.int ub), .val (.int ux), .val (.int sx), .val (.ref b_1), .val (.int (1 : Int32)), .val (.int (2 : Int32)), .val (.int (1 : Int32)), .unset, .unset, .unset, .unset, .unset, .unset, .unset] [(.int (1 : Int32))])) target
        refine XS.ifNo X_10.here hx rfl (hb hby at_43) rfl ((if0 _ _).trans (feq (by decide : ¬ ((1 : Int32) = (0 : Int32)))).1) ?_
        show Steps p.tables e below (T_10.setTop (mkF m 46 #[.val (.int ua), .val (.int ub), .val (.int ux), .val (.int sx), .val (.ref b_1), .val (.int (1 : Int32)), .val (.int (2 : Int32)), .val (.int (1 : Int32)), .unset, .unset, .unset, .unset, .unset, .unset, .unset] [])) target
        refine XS.iload X_10.here hx rfl (hb hby at_46) rfl ?_
        show Steps p.tables e below (T_10.setTop (mkF m 48 #[.val (.int ua), .val (.int ub), .val (.int ux), .val (.int sx), .val (.ref b_1), .val (.int (1 : Int32)), .val (.int (2 : Int32)), .val (.int (1 : Int32)), .unset, .unset, .unset, .unset, .unset, .unset, .unset] [(.int (1 : Int32))])) target
        refine XS.goto X_10.here hx rfl (pc0 := 48) (pc' := 52) rfl (hb hby at_48) (by decide) (by decide) ?_
        show Steps p.tables e below (T_10.setTop (mkF m 52 #[.val (.int ua), .val (.int ub), .val (.int ux), .val (.int sx), .val (.ref b_1), .val (.int (1 : Int32)), .val (.int (2 : Int32)), .val (.int (1 : Int32)), .unset, .unset, .unset, .unset, .unset, .unset, .unset] [(.int (1 : Int32))])) target
        refine XS.istore X_10.here hx rfl (hb hby at_52) rfl (l' := #[.val (.int ua), .val (.int ub), .val (.int ux), .val (.int sx), .val (.ref b_1), .val (.int (1 : Int32)), .val (.int (2 : Int32)), .val (.int (1 : Int32)), .val (.int (1 : Int32)), .unset, .unset, .unset, .unset, .unset, .unset]) rfl ?_
        show Steps p.tables e below (T_10.setTop (mkF m 54 #[.val (.int ua), .val (.int ub), .val (.int ux), .val (.int sx), .val (.ref b_1), .val (.int (1 : Int32)), .val (.int (2 : Int32)), .val (.int (1 : Int32)), .val (.int (1 : Int32)), .unset, .unset, .unset, .unset, .unset, .unset] [])) target
        refine XS.aload X_10.here hx rfl (hb hby at_54) rfl rfl ?_
        show Steps p.tables e below (T_10.setTop (mkF m 56 #[.val (.int ua), .val (.int ub), .val (.int ux), .val (.int sx), .val (.ref b_1), .val (.int (1 : Int32)), .val (.int (2 : Int32)), .val (.int (1 : Int32)), .val (.int (1 : Int32)), .unset, .unset, .unset, .unset, .unset, .unset] [(.ref b_1)])) target
        refine XS.iload X_10.here hx rfl (hb hby at_56) rfl ?_
        show Steps p.tables e below (T_10.setTop (mkF m 58 #[.val (.int ua), .val (.int ub), .val (.int ux), .val (.int sx), .val (.ref b_1), .val (.int (1 : Int32)), .val (.int (2 : Int32)), .val (.int (1 : Int32)), .val (.int (1 : Int32)), .unset, .unset, .unset, .unset, .unset, .unset] [(.int (1 : Int32)), (.ref b_1)])) target
        refine XS.iloadN X_10.here hx rfl (hb hby at_58) rfl ?_
        show Steps p.tables e below (T_10.setTop (mkF m 59 #[.val (.int ua), .val (.int ub), .val (.int ux), .val (.int sx), .val (.ref b_1), .val (.int (1 : Int32)), .val (.int (2 : Int32)), .val (.int (1 : Int32)), .val (.int (1 : Int32)), .unset, .unset, .unset, .unset, .unset, .unset] [(.int ux), (.int (1 : Int32)), (.ref b_1)])) target
        refine st_41.trans ?_
        show Steps p.tables e below (T_41.setTop (mkF m 62 #[.val (.int ua), .val (.int ub), .val (.int ux), .val (.int sx), .val (.ref b_1), .val (.int (1 : Int32)), .val (.int (2 : Int32)), .val (.int (1 : Int32)), .val (.int (1 : Int32)), .unset, .unset, .unset, .unset, .unset, .unset] [(.int (3 : Int32))])) target
        refine XS.istore X_41.here hx rfl (hb hby at_62) rfl (l' := #[.val (.int ua), .val (.int ub), .val (.int ux), .val (.int sx), .val (.ref b_1), .val (.int (1 : Int32)), .val (.int (2 : Int32)), .val (.int (1 : Int32)), .val (.int (1 : Int32)), .val (.int (3 : Int32)), .unset, .unset, .unset, .unset, .unset]) rfl ?_
        show Steps p.tables e below (T_41.setTop (mkF m 64 #[.val (.int ua), .val (.int ub), .val (.int ux), .val (.int sx), .val (.ref b_1), .val (.int (1 : Int32)), .val (.int (2 : Int32)), .val (.int (1 : Int32)), .val (.int (1 : Int32)), .val (.int (3 : Int32)), .unset, .unset, .unset, .unset, .unset] [])) target
        exact kt
      exact J64 (T_41, T_41.heap, _, 1) ⟨X_41, rfl, N_41, Z_42, p_41_1, p_41_2, p_41_3, p_41_4, p_41_5, p_41_6, p_41_7, p_41_8, p_41_10, p_41_13, p_41_14, p_41_15, p_41_16, (show 1 ≤ 1 from by decide)⟩
set_option maxRecDepth 65536 in
set_option maxHeartbeats 40000000 in
theorem comes_1 {Post : Tables → Env → Array Value → State → Outcome → State → Prop} (hpost : ∀ tb e args s v u, (limb_1_1.after args s (.returned v) u = true ∧ limb_1_2.after args s (.returned v) u = true ∧ True) → FrameEnd s (.returned v) u (Jvm.fieldLocs frame_1_writes args s ++ Jvm.arrayLocs frame_1_arrays args s ++ Jvm.staticLocs frame_1_statics s) 24 1024 → Post tb e args s (.returned v) u) :
    ArmFor flags0 classFile x code maxLocals ret World_1 tables_1 room_1 Calls_1 rest_1 Pre_1 Post := by
  intro l hfl _ _ p e ha hc hk s m args below hf hA hF happ hP
  obtain ⟨hcalls, hrest, hpre⟩ := hP
  obtain ⟨-, -, -, hnamed, -, -, -, hat⟩ := (Spec.applies_iff hf).mp happ
  obtain ⟨hg, hn⟩ := and_e (Cond.before_iff.mp (show (Jvm.Cond.and given_1 narrow_1).before args s = true from hpre))
  obtain ⟨gc0, gd0⟩ := and_e hg
  obtain ⟨gc1, gd1⟩ := and_e gd0
  obtain ⟨gc2, gd2⟩ := and_e gd1
  obtain ⟨gc3, gd3⟩ := and_e gd2
  obtain ⟨w0, w1, w2, w3, rfl⟩ : ∃ w0 w1 w2 w3 : Value, args = #[w0, w1, w2, w3] := by
    have hs : args.size = 4 := by simpa [Cond.value, given_1] using gc0
    obtain ⟨L⟩ := args
    match L, hs with
    | [w0, w1, w2, w3], _ => exact ⟨w0, w1, w2, w3, rfl⟩
  have hw := fun d (hd : d ∈ tables_1) => atoms_spec (ws := Jvm.Cond.code x code maxLocals ret :: tables_1) hat d (List.mem_cons_of_mem _ hd)
  obtain ⟨i0, ei0⟩ := is_v gc1
  obtain rfl : w0 = (.int i0) := Option.some.inj ei0
  obtain ⟨i1, ei1⟩ := is_v gc2
  obtain rfl : w1 = (.int i1) := Option.some.inj ei1
  obtain ⟨i2, ei2⟩ := is_v gc3
  obtain rfl : w2 = (.int i2) := Option.some.inj ei2
  obtain ⟨i3, ei3⟩ := is_v gd3
  obtain rfl : w3 = (.int i3) := Option.some.inj ei3
  obtain ⟨n, o, h1, h2, h3, _, L, rfl, ⟨rfl, N⟩, hq⟩ := rm_law l s _ hw tables_1 i0 i1 i2 i3 s.heap s.heap.size (Nat.le_refl _) p e ha hc hk s m _ below hf ((Spec.applies_iff_loose hf).mp happ).1 ⟨rfl, State.Warmed39.refl s, rfl⟩ trivial
  refine ⟨n, _, h1, h2, h3, hpost _ _ _ _ _ _ ⟨Cond.after_iff.mpr rfl, Cond.after_iff.mpr (eq_i res_at (Term.int_eval (1)) rfl), trivial⟩ ⟨hq.1, hq.2.1, (hq.2.2.sift fun y hy => Or.inr (N y hy)).mono (by decide) (by decide)⟩⟩
theorem main_1_1 : Claimed_1_1 := comes_1 fun _ _ _ _ _ _ h hF => ⟨h.1, hF⟩
theorem main_1_2 : Claimed_1_2 := comes_1 fun _ _ _ _ _ _ h hF => ⟨h.2.1, hF⟩
end Jvm.Pilot.@@N@@
namespace Jvm.Pilot.@@N@@
open Jvm Jvm.ClassFile Sem Op Lib Jvm.Free Jvm.Stand Jvm.Pilot.@@N@@.Jvm.D
/-! MADE BY PROGRAM (witnessworld.py) out of the Statement's table words and the real class files: 11 classes; the members and pool entries that the words name. The judged class is class 1, her method 1. -/
namespace start1
open Jvm.ClassFile
def u (s : String) : CpInfo := .utf8 (stringToUtf16 s)
/-- a pool by its gaps: so many unusable entries, then the entry; so many at the end -/
def gap : Nat → List CpInfo → List CpInfo
  | 0, r => r
  | n + 1, r => .unusable :: gap n r
def poolList (es : List (Nat × CpInfo)) (last : Nat) : List CpInfo := es.foldr (fun e r => gap e.1 (e.2 :: r)) (gap last [])
def pool (es : List (Nat × CpInfo)) (last : Nat) : Array CpInfo := ⟨poolList es last⟩
def fileOf (pool : Array CpInfo) (this : Nat) (attrs : Array Attribute := #[]) (ms : Array MethodInfo := #[]) (fl : Nat := 33) (sup : Nat := 0) (ifs : Array Nat := #[]) (fds : Array FieldInfo := #[]) : ClassFile where
  minorVersion := 0
  majorVersion := 65
  constantPool := pool
  accessFlags := fl
  thisClass := this
  superClass := sup
  interfaces := ifs
  fields := fds
  methods := ms
  attributes := attrs
def plain (name : String) (sup : Option ClassId) : Class where
  name := name
  kind := .ordinary
  loader := none
  accessFlags := 33
  super := sup
  interfaces := #[]
  cf := none
  fields := #[]
  methods := #[]
  instanceTypes := #[]
  staticTypes := #[]
  resolved := #[]
  callSites := []
  init := .initialized
  statics := none
  mirror := none

def pool0 : Array CpInfo := pool [(5, u "<init>"), (0, u "()V"), (1, .class_ 10), (1, u "java/lang/Object")] 113

def k0c0 : Code := { maxStack := 0, maxLocals := 1, code := object_method_1_code, exceptionTable := #[], attributes := #[] }
def k0m0 : Method := { name := "<init>", desc := "()V", sig := { parameters := [], returnType := none }, accessFlags := 1, code := some k0c0 }
/-- java/lang/Object -/
def k0 : Class := { plain "java/lang/Object" none with
  accessFlags := 33
  interfaces := #[]
  cf := some (fileOf pool0 8 #[] #[{ accessFlags := 1, nameIndex := 5, descriptorIndex := 6, attributes := #[] }] 33 0 #[] #[])
  fields := #[]
  methods := #[k0m0]
  instanceTypes := #[]
  staticTypes := #[]
  resolved := Array.replicate 124 none
  statics := none }

def pool1 : Array CpInfo := pool [(2, .class_ 4), (0, .nameAndType 5 6), (0, u "java/lang/Object"), (0, u "<init>"), (0, u "()V"), (0, .class_ 8), (0, u "com/example/filigree/filigree/engine/DecisionTree"), (0, .methodref 7 3), (0, .methodref 7 11), (0, .nameAndType 12 13), (0, u "add"), (0, u "(II)I"), (0, .methodref 7 15), (0, .nameAndType 16 17), (0, u "keep"), (0, u "(I)V"), (0, .methodref 7 19), (0, .nameAndType 20 21), (0, u "kept"), (0, u "(I)Z"), (0, .methodref 23 24), (0, .class_ 25), (0, .nameAndType 26 27), (0, u "com/example/filigree/filigree/engine/DecisionTreeKeepPinLaw"), (0, u "children"), (0, u "(Lcom/example/filigree/filigree/engine/DecisionTree;IZIZI)Z"), (0, .methodref 7 29), (0, .nameAndType 30 31), (0, u "keptCount"), (0, u "(I)I"), (0, .methodref 7 33), (0, .nameAndType 34 31), (0, u "firstKept"), (0, .methodref 7 36), (0, .nameAndType 37 31), (0, u "nextKept"), (2, u "law"), (0, u "(IIII)Z")] 3

def k1m0 : Method := { name := "<init>", desc := "()V", sig := { parameters := [], returnType := none }, accessFlags := 1, code := none }
def k1c1 : Code := { maxStack := 6, maxLocals := 15, code := code, exceptionTable := #[], attributes := #[] }
def k1m1 : Method := { name := "law", desc := "(IIII)Z", sig := { parameters := [.int, .int, .int, .int], returnType := some .boolean }, accessFlags := 9, code := some k1c1 }
def k1c2 : Code := { maxStack := 2, maxLocals := 10, code := method_3_code, exceptionTable := #[], attributes := #[] }
def k1m2 : Method := { name := "children", desc := "(Lcom/example/filigree/filigree/engine/DecisionTree;IZIZI)Z", sig := { parameters := [(.object "com/example/filigree/filigree/engine/DecisionTree"), .int, .boolean, .int, .boolean, .int], returnType := some .boolean }, accessFlags := 10, code := some k1c2 }
/-- com/example/filigree/filigree/engine/DecisionTreeKeepPinLaw -/
def k1 : Class := { plain "com/example/filigree/filigree/engine/DecisionTreeKeepPinLaw" (some 0) with
  accessFlags := 49
  interfaces := #[]
  cf := some (fileOf pool1 23 #[] #[{ accessFlags := 1, nameIndex := 5, descriptorIndex := 6, attributes := #[] }, { accessFlags := 9, nameIndex := 40, descriptorIndex := 41, attributes := #[] }, { accessFlags := 10, nameIndex := 26, descriptorIndex := 27, attributes := #[] }] 49 2 #[] #[])
  fields := #[]
  methods := #[k1m0, k1m1, k1m2]
  instanceTypes := #[]
  staticTypes := #[]
  resolved := Array.replicate 45 none
  statics := none }

def pool2 : Array CpInfo := pool [(1, .methodref 2 3), (0, .class_ 4), (0, .nameAndType 5 6), (0, u "java/lang/Object"), (0, u "<init>"), (0, u "()V"), (0, .fieldref 8 9), (0, .class_ 10), (0, .nameAndType 11 12), (0, u "com/example/filigree/filigree/engine/DecisionTree"), (0, u "m_aParent"), (0, u "[I"), (0, .fieldref 8 14), (0, .nameAndType 15 12), (0, u "m_aDecision"), (0, .fieldref 8 17), (0, .nameAndType 18 12), (0, u "m_aDepth"), (0, .fieldref 8 20), (0, .nameAndType 21 12), (0, u "m_aFirstKept"), (0, .fieldref 8 23), (0, .nameAndType 24 12), (0, u "m_aKeptCount"), (0, .fieldref 8 26), (0, .nameAndType 27 12), (0, u "m_aNextKept"), (0, .fieldref 8 29), (0, .nameAndType 30 31), (0, u "m_aKept"), (0, u "[Z"), (0, .fieldref 8 33), (0, .nameAndType 34 35), (0, u "m_nSize"), (0, u "I"), (22, u "(II)I"), (0, u "ROOT"), (4, u "add"), (2, u "(I)I"), (1, u "keep"), (0, u "(I)V"), (0, u "kept"), (0, u "(I)Z"), (0, u "firstKept"), (0, u "nextKept"), (0, u "keptCount")] 6

def k2c0 : Code := { maxStack := 3, maxLocals := 1, code := prog_11_method_1_code, exceptionTable := #[], attributes := #[] }
def k2m0 : Method := { name := "<init>", desc := "()V", sig := { parameters := [], returnType := none }, accessFlags := 0, code := some k2c0 }
def k2c1 : Code := { maxStack := 4, maxLocals := 4, code := prog_11_method_2_code, exceptionTable := #[], attributes := #[] }
def k2m1 : Method := { name := "add", desc := "(II)I", sig := { parameters := [.int, .int], returnType := some .int }, accessFlags := 0, code := some k2c1 }
def k2c2 : Code := { maxStack := 4, maxLocals := 4, code := prog_11_method_5_code, exceptionTable := #[], attributes := #[] }
def k2m2 : Method := { name := "keep", desc := "(I)V", sig := { parameters := [.int], returnType := none }, accessFlags := 0, code := some k2c2 }
def k2c3 : Code := { maxStack := 2, maxLocals := 2, code := prog_11_method_6_code, exceptionTable := #[], attributes := #[] }
def k2m3 : Method := { name := "kept", desc := "(I)Z", sig := { parameters := [.int], returnType := some .boolean }, accessFlags := 0, code := some k2c3 }
def k2c4 : Code := { maxStack := 2, maxLocals := 2, code := prog_11_method_7_code, exceptionTable := #[], attributes := #[] }
def k2m4 : Method := { name := "firstKept", desc := "(I)I", sig := { parameters := [.int], returnType := some .int }, accessFlags := 0, code := some k2c4 }
def k2c5 : Code := { maxStack := 2, maxLocals := 2, code := prog_11_method_8_code, exceptionTable := #[], attributes := #[] }
def k2m5 : Method := { name := "nextKept", desc := "(I)I", sig := { parameters := [.int], returnType := some .int }, accessFlags := 0, code := some k2c5 }
def k2c6 : Code := { maxStack := 2, maxLocals := 2, code := prog_11_method_9_code, exceptionTable := #[], attributes := #[] }
def k2m6 : Method := { name := "keptCount", desc := "(I)I", sig := { parameters := [.int], returnType := some .int }, accessFlags := 0, code := some k2c6 }
/-- com/example/filigree/filigree/engine/DecisionTree -/
def k2 : Class := { plain "com/example/filigree/filigree/engine/DecisionTree" (some 0) with
  accessFlags := 48
  interfaces := #[]
  cf := some (fileOf pool2 8 #[] #[{ accessFlags := 0, nameIndex := 5, descriptorIndex := 6, attributes := #[] }, { accessFlags := 0, nameIndex := 64, descriptorIndex := 58, attributes := #[] }, { accessFlags := 0, nameIndex := 69, descriptorIndex := 70, attributes := #[] }, { accessFlags := 0, nameIndex := 71, descriptorIndex := 72, attributes := #[] }, { accessFlags := 0, nameIndex := 73, descriptorIndex := 67, attributes := #[] }, { accessFlags := 0, nameIndex := 74, descriptorIndex := 67, attributes := #[] }, { accessFlags := 0, nameIndex := 75, descriptorIndex := 67, attributes := #[] }] 48 2 #[] #[{ accessFlags := 24, nameIndex := 59, descriptorIndex := 35, attributes := #[] }, { accessFlags := 2, nameIndex := 11, descriptorIndex := 12, attributes := #[] }, { accessFlags := 2, nameIndex := 15, descriptorIndex := 12, attributes := #[] }, { accessFlags := 2, nameIndex := 18, descriptorIndex := 12, attributes := #[] }, { accessFlags := 2, nameIndex := 21, descriptorIndex := 12, attributes := #[] }, { accessFlags := 2, nameIndex := 24, descriptorIndex := 12, attributes := #[] }, { accessFlags := 2, nameIndex := 27, descriptorIndex := 12, attributes := #[] }, { accessFlags := 2, nameIndex := 30, descriptorIndex := 31, attributes := #[] }, { accessFlags := 2, nameIndex := 34, descriptorIndex := 35, attributes := #[] }])
  fields := #[{ name := "ROOT", type := .int, accessFlags := 24, slot := 0, constantValue := 0 }, { name := "m_aParent", type := (.array .int), accessFlags := 2, slot := 0, constantValue := 0 }, { name := "m_aDecision", type := (.array .int), accessFlags := 2, slot := 1, constantValue := 0 }, { name := "m_aDepth", type := (.array .int), accessFlags := 2, slot := 2, constantValue := 0 }, { name := "m_aFirstKept", type := (.array .int), accessFlags := 2, slot := 3, constantValue := 0 }, { name := "m_aKeptCount", type := (.array .int), accessFlags := 2, slot := 4, constantValue := 0 }, { name := "m_aNextKept", type := (.array .int), accessFlags := 2, slot := 5, constantValue := 0 }, { name := "m_aKept", type := (.array .boolean), accessFlags := 2, slot := 6, constantValue := 0 }, { name := "m_nSize", type := .int, accessFlags := 2, slot := 7, constantValue := 0 }]
  methods := #[k2m0, k2m1, k2m2, k2m3, k2m4, k2m5, k2m6]
  instanceTypes := #[(.array .int), (.array .int), (.array .int), (.array .int), (.array .int), (.array .int), (.array .boolean), .int]
  staticTypes := #[.int]
  resolved := Array.replicate 82 none
  statics := none }

def pool3 : Array CpInfo := pool [(1, u "java/lang/Cloneable"), (0, .class_ 1), (0, u "java/lang/Object"), (0, .class_ 3)] 3

/-- java/lang/Cloneable -/
def k3 : Class := { plain "java/lang/Cloneable" (some 0) with
  accessFlags := 1537
  interfaces := #[]
  cf := some (fileOf pool3 2 #[] #[] 1537 4 #[] #[])
  fields := #[]
  methods := #[]
  instanceTypes := #[]
  staticTypes := #[]
  resolved := Array.replicate 8 none
  statics := none }

def pool4 : Array CpInfo := pool [(1, u "java/io/Serializable"), (0, .class_ 1), (0, u "java/lang/Object"), (0, .class_ 3)] 3

/-- java/io/Serializable -/
def k4 : Class := { plain "java/io/Serializable" (some 0) with
  accessFlags := 1537
  interfaces := #[]
  cf := some (fileOf pool4 2 #[] #[] 1537 4 #[] #[])
  fields := #[]
  methods := #[]
  instanceTypes := #[]
  staticTypes := #[]
  resolved := Array.replicate 8 none
  statics := none }

/-- the primitive boolean -/
def k5 : Class := { plain "boolean" none with kind := .primitive 'Z', accessFlags := 0x411 }
/-- [Z -/
def k6 : Class := { plain "[Z" (some 0) with kind := .array 5 .boolean, interfaces := #[3, 4], accessFlags := 1041 }

/-- the primitive byte -/
def k7 : Class := { plain "byte" none with kind := .primitive 'B', accessFlags := 0x411 }
/-- [B -/
def k8 : Class := { plain "[B" (some 0) with kind := .array 7 .byte, interfaces := #[3, 4], accessFlags := 1041 }

/-- the primitive int -/
def k9 : Class := { plain "int" none with kind := .primitive 'I', accessFlags := 0x411 }
/-- [I -/
def k10 : Class := { plain "[I" (some 0) with kind := .array 9 .int, interfaces := #[3, 4], accessFlags := 1041 }

def heap : Heap := #[]
def classes : Array Class := #[k0, k1, k2, k3, k4, k5, k6, k7, k8, k9, k10]
def interned : List (Array UInt16 × Addr) := []
def slotsUsed : Nat := 0
def theMethod : MethodId := ⟨1, 1⟩
def args0 : Array Value := #[.int 5, .int 7, .int 1, .int 3]
def aboutOver (below : List Frame) : State where
  vm := { classes := classes, interned := interned.toArray }
  heap := heap
  slotsUsed := slotsUsed
  threads := #[{ frames := .invoking theMethod args0 :: below }]
def below0 : List Frame := [.native { method := ⟨0, 0⟩, args := #[] }]
def about1 : State := aboutOver below0
def p0 : Program := .bare "" "" ""
def e0 : Env := launch0.env 0 0 0
theorem w_frames : about1.frames = Frame.invoking theMethod args0 :: below0 := rfl
set_option maxRecDepth 65536 in
theorem w_args : argsFit about1.vm theMethod args0 = true := by decide +kernel
set_option maxRecDepth 65536 in
theorem w_heap : heapFits about1 = true := by decide +kernel
set_option maxRecDepth 65536 in
theorem w_runnable : about1.curStatus? = some .runnable := by decide +kernel
set_option maxRecDepth 65536 in
theorem w_alone : about1.alone = true := by decide +kernel
set_option maxRecDepth 65536 in
theorem w_named : about1.methodNamed? x = some theMethod := by decide +kernel
set_option maxRecDepth 65536 in
theorem w_hears : about1.hears theMethod below0 = true := by decide +kernel
set_option maxRecDepth 65536 in
theorem w_ripe : about1.ripe theMethod args0 below0 = true := by decide +kernel
theorem w_running : about1.status = .running := rfl
set_option maxRecDepth 65536 in
theorem w_room : about1.hasRoom e0.platform room_1 = true :=
  launch0.hasRoom_least _ room_1 (by decide +kernel) (by decide +kernel) (by decide +kernel) (by decide +kernel) (by decide +kernel) (by decide +kernel)
theorem allAtoms_all (ts : List Jvm.Cond) (a : Array Jvm.Value) (st : Jvm.State) : (allAtoms ts).before a st = ts.all (fun c => c.before a st) := by
  induction ts with
  | nil => rfl
  | cons c t ih =>
    show (Jvm.Cond.and c (allAtoms t)).before a st = _
    rw [Jvm.Cond.before_and, ih, List.all_cons]
def words1 : List Jvm.Cond := Jvm.Cond.code x code maxLocals ret :: tables_1
/-- a 'code' word, met by the world's own term for the bytes: nothing is compared byte by byte -/
theorem code_word {y : MethodName} {bytes : ByteArray} {mx : Nat} {rt : Option FieldType} {a : Array Value} {s : State} {m : MethodId} {meth : Method} {c : Code} (h1 : s.methodNamed? y = some m) (h2 : s.vm.method? m = some meth) (h3 : meth.code = some c) (h4 : c.code = bytes)
    (h5 : (c.maxLocals == mx && c.exceptionTable.isEmpty && decide (c.maxStack ≤ mostOperands) && decide (meth.sig.returnType = rt) && !meth.locks && decide (parseMethodDescriptor y.desc = some meth.sig)) = true) : (Jvm.Cond.code y bytes mx rt).before a s = true := by
  simp only [Bool.and_eq_true, beq_iff_eq, Bool.not_eq_true', decide_eq_true_eq] at h5
  obtain ⟨⟨⟨⟨⟨g1, g2⟩, g3⟩, g4⟩, g5⟩, g6⟩ := h5
  simp [Cond.before, Cond.holds, Cond.value, h1, h2, h3, h4, g1, g2, g3, g4, g5, g6]
def isCode : Jvm.Cond → Bool
  | .code _ _ _ _ => true
  | _ => false
theorem all_split {L : List Jvm.Cond} {P : Jvm.Cond → Bool} (h1 : L.all (fun c => isCode c || P c) = true) (h2 : ∀ c ∈ L.filter isCode, P c = true) : L.all P = true := by
  refine List.all_eq_true.mpr fun c hc => ?_
  have h := List.all_eq_true.mp h1 c hc
  rcases Bool.eq_false_or_eq_true (isCode c) with hi | hi
  · exact h2 c (List.mem_filter.mpr ⟨hc, hi⟩)
  · simpa [hi] using h
set_option maxRecDepth 65536 in
theorem w_c0 : (Jvm.Cond.code x code maxLocals ret).before args0 about1 = true := code_word (m := ⟨1, 1⟩) (meth := k1m1) (c := k1c1) (by decide +kernel) rfl rfl rfl (by decide +kernel)
set_option maxRecDepth 65536 in
theorem w_c1 : (Jvm.Cond.code ({ cls := "com/example/filigree/filigree/engine/DecisionTree", name := "<init>", desc := "()V" } : Jvm.MethodName) prog_11_method_1_code (1 : Nat) (Option.none : Option Jvm.ClassFile.FieldType)).before args0 about1 = true := code_word (m := ⟨2, 0⟩) (meth := k2m0) (c := k2c0) (by decide +kernel) rfl rfl rfl (by decide +kernel)
set_option maxRecDepth 65536 in
theorem w_c2 : (Jvm.Cond.code ({ cls := "java/lang/Object", name := "<init>", desc := "()V" } : Jvm.MethodName) object_method_1_code (1 : Nat) (Option.none : Option Jvm.ClassFile.FieldType)).before args0 about1 = true := code_word (m := ⟨0, 0⟩) (meth := k0m0) (c := k0c0) (by decide +kernel) rfl rfl rfl (by decide +kernel)
set_option maxRecDepth 65536 in
theorem w_c3 : (Jvm.Cond.code ({ cls := "com/example/filigree/filigree/engine/DecisionTree", name := "add", desc := "(II)I" } : Jvm.MethodName) prog_11_method_2_code (4 : Nat) (Option.some Jvm.ClassFile.FieldType.int)).before args0 about1 = true := code_word (m := ⟨2, 1⟩) (meth := k2m1) (c := k2c1) (by decide +kernel) rfl rfl rfl (by decide +kernel)
set_option maxRecDepth 65536 in
theorem w_c4 : (Jvm.Cond.code ({ cls := "com/example/filigree/filigree/engine/DecisionTree", name := "keep", desc := "(I)V" } : Jvm.MethodName) prog_11_method_5_code (4 : Nat) (Option.none : Option Jvm.ClassFile.FieldType)).before args0 about1 = true := code_word (m := ⟨2, 2⟩) (meth := k2m2) (c := k2c2) (by decide +kernel) rfl rfl rfl (by decide +kernel)
set_option maxRecDepth 65536 in
theorem w_c5 : (Jvm.Cond.code ({ cls := "com/example/filigree/filigree/engine/DecisionTree", name := "kept", desc := "(I)Z" } : Jvm.MethodName) prog_11_method_6_code (2 : Nat) (Option.some Jvm.ClassFile.FieldType.boolean)).before args0 about1 = true := code_word (m := ⟨2, 3⟩) (meth := k2m3) (c := k2c3) (by decide +kernel) rfl rfl rfl (by decide +kernel)
set_option maxRecDepth 65536 in
theorem w_c6 : (Jvm.Cond.code ({ cls := "com/example/filigree/filigree/engine/DecisionTreeKeepPinLaw", name := "children", desc := "(Lcom/example/filigree/filigree/engine/DecisionTree;IZIZI)Z" } : Jvm.MethodName) method_3_code (10 : Nat) (Option.some Jvm.ClassFile.FieldType.boolean)).before args0 about1 = true := code_word (m := ⟨1, 2⟩) (meth := k1m2) (c := k1c2) (by decide +kernel) rfl rfl rfl (by decide +kernel)
set_option maxRecDepth 65536 in
theorem w_c7 : (Jvm.Cond.code ({ cls := "com/example/filigree/filigree/engine/DecisionTree", name := "keptCount", desc := "(I)I" } : Jvm.MethodName) prog_11_method_9_code (2 : Nat) (Option.some Jvm.ClassFile.FieldType.int)).before args0 about1 = true := code_word (m := ⟨2, 6⟩) (meth := k2m6) (c := k2c6) (by decide +kernel) rfl rfl rfl (by decide +kernel)
set_option maxRecDepth 65536 in
theorem w_c8 : (Jvm.Cond.code ({ cls := "com/example/filigree/filigree/engine/DecisionTree", name := "firstKept", desc := "(I)I" } : Jvm.MethodName) prog_11_method_7_code (2 : Nat) (Option.some Jvm.ClassFile.FieldType.int)).before args0 about1 = true := code_word (m := ⟨2, 4⟩) (meth := k2m4) (c := k2c4) (by decide +kernel) rfl rfl rfl (by decide +kernel)
set_option maxRecDepth 65536 in
theorem w_c9 : (Jvm.Cond.code ({ cls := "com/example/filigree/filigree/engine/DecisionTree", name := "nextKept", desc := "(I)I" } : Jvm.MethodName) prog_11_method_8_code (2 : Nat) (Option.some Jvm.ClassFile.FieldType.int)).before args0 about1 = true := code_word (m := ⟨2, 5⟩) (meth := k2m5) (c := k2c5) (by decide +kernel) rfl rfl rfl (by decide +kernel)
def codes1 : List Jvm.Cond := [Jvm.Cond.code x code maxLocals ret, Jvm.Cond.code ({ cls := "com/example/filigree/filigree/engine/DecisionTree", name := "<init>", desc := "()V" } : Jvm.MethodName) prog_11_method_1_code (1 : Nat) (Option.none : Option Jvm.ClassFile.FieldType), Jvm.Cond.code ({ cls := "java/lang/Object", name := "<init>", desc := "()V" } : Jvm.MethodName) object_method_1_code (1 : Nat) (Option.none : Option Jvm.ClassFile.FieldType), Jvm.Cond.code ({ cls := "com/example/filigree/filigree/engine/DecisionTree", name := "add", desc := "(II)I" } : Jvm.MethodName) prog_11_method_2_code (4 : Nat) (Option.some Jvm.ClassFile.FieldType.int), Jvm.Cond.code ({ cls := "com/example/filigree/filigree/engine/DecisionTree", name := "keep", desc := "(I)V" } : Jvm.MethodName) prog_11_method_5_code (4 : Nat) (Option.none : Option Jvm.ClassFile.FieldType), Jvm.Cond.code ({ cls := "com/example/filigree/filigree/engine/DecisionTree", name := "kept", desc := "(I)Z" } : Jvm.MethodName) prog_11_method_6_code (2 : Nat) (Option.some Jvm.ClassFile.FieldType.boolean), Jvm.Cond.code ({ cls := "com/example/filigree/filigree/engine/DecisionTreeKeepPinLaw", name := "children", desc := "(Lcom/example/filigree/filigree/engine/DecisionTree;IZIZI)Z" } : Jvm.MethodName) method_3_code (10 : Nat) (Option.some Jvm.ClassFile.FieldType.boolean), Jvm.Cond.code ({ cls := "com/example/filigree/filigree/engine/DecisionTree", name := "keptCount", desc := "(I)I" } : Jvm.MethodName) prog_11_method_9_code (2 : Nat) (Option.some Jvm.ClassFile.FieldType.int), Jvm.Cond.code ({ cls := "com/example/filigree/filigree/engine/DecisionTree", name := "firstKept", desc := "(I)I" } : Jvm.MethodName) prog_11_method_7_code (2 : Nat) (Option.some Jvm.ClassFile.FieldType.int), Jvm.Cond.code ({ cls := "com/example/filigree/filigree/engine/DecisionTree", name := "nextKept", desc := "(I)I" } : Jvm.MethodName) prog_11_method_8_code (2 : Nat) (Option.some Jvm.ClassFile.FieldType.int)]
set_option maxRecDepth 65536 in
theorem codes_eq : words1.filter isCode = codes1 := rfl
theorem w_codes : ∀ c ∈ words1.filter isCode, c.before args0 about1 = true := by
  rw [codes_eq]
  intro c hc
  simp only [codes1, List.mem_cons, List.not_mem_nil, or_false] at hc
  rcases hc with rfl | rfl | rfl | rfl | rfl | rfl | rfl | rfl | rfl | rfl
  · exact w_c0
  · exact w_c1
  · exact w_c2
  · exact w_c3
  · exact w_c4
  · exact w_c5
  · exact w_c6
  · exact w_c7
  · exact w_c8
  · exact w_c9
set_option maxRecDepth 65536 in
theorem w_t1 : (words1.take 24).all (fun c => isCode c || c.before args0 about1) = true := by decide +kernel
set_option maxRecDepth 65536 in
theorem w_t2 : ((words1.drop 24).take 24).all (fun c => isCode c || c.before args0 about1) = true := by decide +kernel
set_option maxRecDepth 65536 in
theorem w_t3 : ((words1.drop 24).drop 24).all (fun c => isCode c || c.before args0 about1) = true := by decide +kernel
theorem w_tables : (allAtoms (Jvm.Cond.code x code maxLocals ret :: tables_1)).before args0 about1 = true := by
  rw [allAtoms_all]
  show words1.all (fun c => c.before args0 about1) = true
  refine all_split ?_ w_codes
  rw [← List.take_append_drop 24 words1, List.all_append, w_t1, ← List.take_append_drop 24 (words1.drop 24), List.all_append, w_t2, w_t3]
  rfl
set_option maxRecDepth 65536 in
theorem w_case : (Jvm.Cond.and given_1 narrow_1).before args0 about1 = true := by decide +kernel
theorem w_applies : (headSpec (Jvm.Cond.code x code maxLocals ret :: tables_1) room_1).applies x e0.platform about1 = true :=
  (Spec.applies_iff w_frames).mpr ⟨w_running, w_runnable, w_alone, w_named, w_hears, w_ripe, w_room, w_tables⟩
theorem atStart : AtStart classFile x code maxLocals ret World_1 tables_1 room_1 Calls_1 rest_1 Pre_1 launch0 p0 e0 about1 theMethod args0 below0 :=
  ⟨lists_1, trivial, launch0.admits_env _ _ _, launch0.least_env, fairChoices_fair.cas, fairChoices_fair.clock, w_frames, w_args, w_heap, w_applies, trivial, trivial, w_case⟩
end start1
theorem witness_1 : WitnessClaimed_1 := ⟨start1.p0, start1.e0, start1.about1, start1.theMethod, start1.args0, start1.below0, start1.atStart⟩
end Jvm.Pilot.@@N@@
