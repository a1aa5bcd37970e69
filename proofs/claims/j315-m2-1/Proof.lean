import JvmDerived
import JvmDerived.Pilot.@@N@@Statement
import JvmDerived.Pilot.@@N@@Code
set_option linter.unusedVariables false
set_option linter.unusedSimpArgs false
namespace Jvm.RoadKit
open Sem ClassFile Op Lib Jvm.Stand Jvm.Free Jvm.LawKit
section New
variable {p : Program} {l : Launch} {e : Env} {R : Room} {s : State} {m : MethodId} {args : Array Value} {below : List Frame} {meth : Method} {c : Code} {T : State} {locs : List Loc} {cells slots : Nat}
theorem retI (X : Stand p l e R s m args below meth c T locs cells slots) (hx : p.tables.exec = Jvm.exec) {pc : Nat} {Ls : Array Slot} {z : Int32} {rest : List Value} (hret : meth.sig.returnType = some .int) (hd : decode c.code pc = .ok (.ireturn, 1)) {fs : List Frame}
  (hl : ∀ (f : JFrame) (acts : List Action), f.method = m → f.locked = none → f.entered = [] → (doReturn e (T.setTop f) acts (some (.int z))).1 = T.setFrames fs) : Steps p.tables e below (T.setTop (mkF m pc Ls (.int z :: rest))) (T.setFrames fs) := by
 have hm' : T.vm.method? m = some meth := X.method'
 have hn : narrow .int (.int z) = .int z := rfl
 show Steps p.tables e below (T.setTop { method := m, pc := pc, locals := Ls, stack := _ :: rest, locked := none }) _
 jvm_step X.here [X.here.top, hx, hd, hm', hret, hn]
 first | (intro acts; rw [hl _ acts rfl rfl rfl]) | rw [hl _ _ rfl rfl rfl]
 exact Steps.refl _
theorem own_retJ (X : Stand p l e R s m args below meth c T locs cells slots) (hx : p.tables.exec = Jvm.exec) {pc : Nat} {Ls : Array Slot} {z : Int64} {rest : List Value} (hret : meth.sig.returnType = some .long) (hd : decode c.code pc = .ok (.lreturn, 1)) {fs : List Frame}
  (hl : ∀ (f : JFrame) (acts : List Action), f.method = m → f.locked = none → f.entered = [] → (doReturn e (T.setTop f) acts (some (.long z))).1 = T.setFrames fs) : Steps p.tables e below (T.setTop (mkF m pc Ls (.long z :: rest))) (T.setFrames fs) :=
 retOut X hx hret rfl (Or.inr (Or.inl ⟨rfl, rfl, z, rfl⟩)) hd hl
theorem own_retR (X : Stand p l e R s m args below meth c T locs cells slots) (hx : p.tables.exec = Jvm.exec) {pc : Nat} {Ls : Array Slot} {w : Value} {t : FieldType} {rest : List Value} (hret : meth.sig.returnType = some t) (ht : t.isReference = true) (hw : w.isRef = true) (hd : decode c.code pc = .ok (.areturn, 1)) {fs : List Frame}
  (hl : ∀ (f : JFrame) (acts : List Action), f.method = m → f.locked = none → f.entered = [] → (doReturn e (T.setTop f) acts (some w)).1 = T.setFrames fs) : Steps p.tables e below (T.setTop (mkF m pc Ls (w :: rest))) (T.setFrames fs) :=
 retOut X hx hret (by cases t <;> first | rfl | cases ht) (Or.inr (Or.inr (Or.inr (Or.inr ⟨rfl, ht, hw⟩)))) hd hl
theorem own_lrem {tb : Tables} [Ours tb] {e : Env} {below : List Frame} {T target : State} {m : MethodId} {c : Code} {g : JFrame} (h : At T m c below) (hx : tb.exec = Jvm.exec) (hg : g.method = m) {x y : Int64} {rest : List Value} (hd : decode c.code g.pc = .ok (.lrem, 1)) (hs : g.stack = .long y :: .long x :: rest) (hy : y ≠ 0)
  (hr : Steps tb e below (T.setTop { g with pc := g.pc + 1, stack := .long (x % y) :: rest }) target) : Steps tb e below (T.setTop g) target :=
 XS.lrem h hx hg hd hs hy (by rw [lrem_mod]; exact hr)
theorem own_go {tb : Tables} {e : Env} {below : List Frame} {A B : State} {P : State → Outcome → Prop} (h : ∀ t, Steps tb e below B t → Steps tb e below A t) (k : ∃ s₂ o, Steps tb e below B s₂ ∧ P s₂ o) : ∃ s₂ o, Steps tb e below A s₂ ∧ P s₂ o := by
 obtain ⟨s₂, o, h1, h2⟩ := k
 exact ⟨s₂, o, h _ h1, h2⟩
theorem own_isucc (t : Nat) : Int32.ofNat t + (1 : Int32) = Int32.ofNat (t + 1) := by rw [Int32.ofNat_add]; rfl
theorem own_cut {α : Type} {C : α → Prop} {B : α → State} {tb : Tables} {e : Env} {below : List Frame} {A : State} {P : State → Outcome → Prop} (h : ∀ a, C a → ∃ s₂ o, Steps tb e below (B a) s₂ ∧ P s₂ o) (k : (∀ a, C a → ∃ s₂ o, Steps tb e below (B a) s₂ ∧ P s₂ o) → ∃ s₂ o, Steps tb e below A s₂ ∧ P s₂ o) : ∃ s₂ o, Steps tb e below A s₂ ∧ P s₂ o := k h
theorem own_narZ (P : Prop) [Decidable P] : narrow .boolean (.int (if P then (1 : Int32) else 0)) = .int (if P then (1 : Int32) else 0) := by split <;> rfl
theorem own_fitZ (P : Prop) [Decidable P] : fits .boolean (.int (if P then (1 : Int32) else 0)) = true := by split <;> rfl
theorem own_retZ (P : Prop) [Decidable P] : (some (.int (nar .boolean (if P then (1 : Int32) else 0))) : Option Value) = some (.int (if P then (1 : Int32) else 0)) := by split <;> rfl
theorem own_staKeep {Z : State} {h h' : Heap} {C n d : String} {v : Value} {ws : List Addr} (F : Sta Z h C n d v) (K : Keep h h' ws) (q : ∀ x ∈ ws, ∃ c : Cell, h[x]? = some c ∧ c.vm.isStatics = false) : Sta Z h' C n d v := by
 obtain ⟨cf, i, k, f, st, cell, h1, h2, h3, h4, h5, h6, h7⟩ := F
 refine ⟨cf, i, k, f, st, cell, h1, h2, h3, h4, K.2.1 _ _ h5 fun hm => ?_, h6, h7⟩
 obtain ⟨c', g1, g2⟩ := q _ hm
 cases h5.symm.trans g1
 rw [h6] at g2
 cases g2
theorem own_arrKeep {Z : State} {h h' : Heap} {a : Addr} {c : Cell} {ty : FieldType} {ws : List Addr} (F : Arr Z h a c ty) (K : Keep h h' ws) (q : a ∉ ws) : Arr Z h' a c ty := ⟨K.2.1 _ _ F.1 q, F.2⟩
theorem own_ns0 {h : Heap} : ∀ x ∈ ([] : List Addr), ∃ c : Cell, h[x]? = some c ∧ c.vm.isStatics = false := fun _ q => nomatch q
theorem own_nsS {h : Heap} {y : Addr} {L : List Addr} (q : ∃ c : Cell, h[y]? = some c ∧ c.vm.isStatics = false) (r : ∀ x ∈ L, ∃ c : Cell, h[x]? = some c ∧ c.vm.isStatics = false) : ∀ x ∈ y :: L, ∃ c : Cell, h[x]? = some c ∧ c.vm.isStatics = false := fun x z => (List.mem_cons.mp z).elim (fun u => u ▸ q) (r x)
theorem own_nsE {Z : State} {h : Heap} {a : Addr} {C : String} (F : Exa Z h a C) : ∃ c : Cell, h[a]? = some c ∧ c.vm.isStatics = false := by
 obtain ⟨c, k, h1, h2, h3, h4, h5⟩ := F
 exact ⟨c, h1, h4⟩
theorem own_nsV {Z : State} {h : Heap} {a : Addr} {k : ClassId} {ty : FieldType} {z : Int32} {vs : List Value} {d : Value} (F : Arv Z h a k ty z vs d) : ∃ c : Cell, h[a]? = some c ∧ c.vm.isStatics = false := by
 obtain ⟨c, A, r⟩ := F
 exact ⟨c, A.1, A.plain⟩
theorem own_safeStr {Z : State} {EL : List (String × Nat)} {vm : Vm} {h : Heap} {x : Addr} (hal : Z.vm.Alike vm) (E : Exa Z h x "java/lang/String") (N : Fld Z h x "java/lang/String" "value" "[B" .null) : Safe Z EL vm h x := fun B => by
 obtain ⟨cell, k, e1, e2, e3, -, -⟩ := E
 obtain ⟨cell', cf, k', i, f, n1, n2, -, -, -, -, n7⟩ := N
 cases e1.symm.trans n1
 obtain ⟨p, -, u, a, -, q, -, F, rfl | rfl⟩ := B
 ·cases (show h[q.sa]? = some q.sC from F.ha).symm.trans e1
  obtain ⟨cS, ⟨⟨s1, s2, s3, ⟨cv, kv, iv, s4, s4'⟩, -, s6, s7, s8, -⟩, -, -⟩, -⟩ := F
  obtain ⟨kv', z4⟩ := ff_back (U := Wst Z vm h) hal s4
  cases n2.symm.trans z4
  cases n7.symm.trans s8
 ·cases (show h[q.sd]? = some q.SA from F.hd).symm.trans e1
  obtain ⟨cS, -, -, g, -⟩ := F
  have g' : vm.findClass "[B" = some q.SA.cls := g
  rw [hal.findClass] at g'
  obtain ⟨k1, q1, q2⟩ := Vm.findClass_spec g'
  obtain ⟨k2, q3, q4⟩ := Vm.findClass_spec e2
  cases q1.symm.trans q3
  exact absurd (q2.symm.trans q4) (by decide)
theorem own_since (s : State) (n : Nat) : s.Since s.vm n := ⟨State.Warmed39.refl s, fun j p hj hp => absurd (Array.getElem?_eq_some_iff.mp hp).1 (Nat.not_lt.mpr hj)⟩
end New
end Jvm.RoadKit
namespace Jvm.Pilot.@@N@@
open Jvm Jvm.ClassFile Sem Op Lib Jvm.Free Jvm.Stand Jvm.LawKit Jvm.RoadKit Bundle Jvm.Pilot.@@N@@.Jvm.D
theorem own_lenStart {Z : State} {args : Array Value} {t : Term} {ty : FieldType} {a : Addr} {cl : Cell} {n : Int32} (ev : t.eval args Z none [] Z = some (.ref a)) (A : Arr Z Z.heap a cl ty) (hl : (Jvm.Cond.eq (.length t) (.int n)).value args Z none Z [] = some true) : cl.slots.size < 2 ^ 31 ∧ cl.slots.size.toInt32 = n := by
 have hA : Z.arrayAt? a = some cl := Arr.fin (Vm.Alike.refl _) A
 by_cases q : cl.slots.size < 2 ^ 31
 ·have e2 := len_f ev hA q
  refine ⟨q, ?_⟩
  simp only [Cond.value, e2, Term.int_eval] at hl
  simpa using hl
 ·have e2 : (Term.length t).eval args Z none [] Z = none := by simp [Term.eval, ev, hA, q]
  simp only [Cond.value, e2, Term.int_eval] at hl
  cases hl
theorem own_eqStart {Z : State} {args : Array Value} {t u : Term} {v : Value} (hv : u.eval args Z none [] Z = some v) (h : (Jvm.Cond.eq t u).value args Z none Z [] = some true) : t.eval args Z none [] Z = some v := by
 cases ht : t.eval args Z none [] Z with
 | none => simp only [Cond.value, ht, hv] at h; cases v <;> cases h
 | some y => simp only [Cond.value, ht, hv] at h; cases v <;> cases y <;> simp at h <;> first | rw [h] | rfl
theorem own_elemStart {Z : State} {args : Array Value} {t u : Term} {ty : FieldType} {a : Addr} {cl : Cell} {j : Int32} {v : Value} (ev : t.eval args Z none [] Z = some (.ref a)) (A : Arr Z Z.heap a cl ty) (hv : u.eval args Z none [] Z = some v) (h : (Jvm.Cond.eq (.elem t (.int j)) u).value args Z none Z [] = some true) : cl.slots[j.toNatClampNeg]? = some v :=
 (elem_in (own_eqStart hv h) ev (Term.int_eval j) A.1).2
theorem own_fldRef {Z : State} {args : Array Value} {t : Term} {C n d : String} {a b : Addr} (ev : t.eval args Z none [] Z = some (.ref a)) (h : (Term.field t C n d).eval args Z none [] Z = some (.ref b)) : Fld Z Z.heap a C n d (.ref b) := Fld.start ((fld_at ev).symm.trans h)
theorem own_neStart {Z : State} {args : Array Value} {t : Term} {x k : Int32} (ev : t.eval args Z none [] Z = some (.int x)) (h : (Jvm.Cond.not (Jvm.Cond.eq t (.int k))).value args Z none Z [] = some true) : ¬ x = k := by
 have h1 := not_v h
 simp only [Cond.value, ev, Term.int_eval] at h1
 simpa using h1
def own_rv : Option Addr → Value
 | none => .null
 | some a => .ref a
theorem own_refStart {Z : State} {args : Array Value} {t : Term} (h : (Jvm.Cond.isRef t).value args Z none Z [] = some true) : ∃ x : Option Addr, t.eval args Z none [] Z = some (own_rv x) := by
 cases ht : t.eval args Z none [] Z with
 | none => simp [Cond.value, ht] at h
 | some v =>
  cases v with
  | null => exact ⟨none, rfl⟩
  | ref a => exact ⟨some a, rfl⟩
  | _ => simp [Cond.value, ht] at h
def own_tab (N : Nat) (g : Nat → Int32) : List Value := (List.range N).map fun j => .int (g j)
theorem own_tab_len (N : Nat) (g : Nat → Int32) : (own_tab N g).length = N := by simp [own_tab]
theorem own_tab_get {N : Nat} (g : Nat → Int32) {i : Nat} (d : Value) (h : i < N) : (own_tab N g).getD i d = .int (g i) := by
 simp [own_tab, List.getD, h]
theorem own_tab_set {N : Nat} (g : Nat → Int32) {i : Nat} (x : Int32) (h : i < N) : (own_tab N g).set i (.int x) = own_tab N (fun j => if j = i then x else g j) := by
 apply List.ext_getElem
 ·simp [own_tab]
 ·intro k h1 h2
  simp only [own_tab, List.getElem_set, List.getElem_map, List.getElem_range]
  by_cases e : i = k
  ·subst e; simp
  ·rw [if_neg e, if_neg (fun q => e q.symm)]
theorem own_tab0 (N : Nat) (i : Nat) : (own_tab N (fun _ => 0)).getD i (.int 0) = ([] : List Value).getD i (.int 0) := by
 by_cases h : i < N
 ·rw [own_tab_get _ _ h]; rfl
 ·simp [own_tab, List.getD, h]
theorem own_toInt {t : Nat} (h : t < 2147483648) : (Int32.ofNat t).toInt = t := Int32.toInt_ofNat_of_lt h
theorem own_ix {j : Int32} {n : Nat} (h : j.toInt = n) : ¬ j < 0 ∧ j.toNatClampNeg = n := by
 have q : ¬ j < 0 := by rw [Int32.lt_iff_toInt_lt]; have : (0 : Int32).toInt = 0 := rfl; omega
 have e := nat_of q
 exact ⟨q, by omega⟩
theorem own_nat {t : Nat} (h : t < 2147483648) : (Int32.ofNat t).toNatClampNeg = t := (own_ix (own_toInt h)).2
theorem own_at {N : Nat} (g : Nat → Int32) {j : Int32} {n : Nat} (d : Value) (h : j.toInt = n) (hn : n < N) : (own_tab N g).getD j.toNatClampNeg d = .int (g n) := by
 rw [(own_ix h).2]; exact own_tab_get g d hn
theorem own_ltc {t k : Nat} (h : t < k) (hk : k < 2147483648) (c : Int32) (hc : c.toInt = k) : ¬ (Int32.ofNat t) < 0 ∧ (Int32.ofNat t) < c := by
 refine ⟨(own_ix (own_toInt (by omega))).1, ?_⟩
 rw [Int32.lt_iff_toInt_lt, own_toInt (by omega), hc]; omega
theorem own_narB (x : Int32) : (x.toInt8.toInt32).toInt8.toInt32 = x.toInt8.toInt32 := by
 have e := c_i2b x
 have e2 := c_i2b (x.toInt8.toInt32)
 rw [← Int32.toInt_inj]
 omega
theorem own_inb {j c : Int32} {k N : Nat} (h : j.toInt = (k : Int)) (hk : k < N) (hc : c.toInt = N) : ¬ j < 0 ∧ j < c := ⟨(own_ix h).1, by rw [Int32.lt_iff_toInt_lt, h, hc]; omega⟩
def own_ch (p : Int32) : Int32 := ((p &&& (65535 : Int32)).toUInt32.toUInt16.toUInt32.toInt32)
def own_chr (p : Int32) : Int32 := if ((p &&& (65535 : Int32)).toUInt32.toUInt16.toUInt32.toInt32) = (32 : Int32) then 95 else ((p &&& (65535 : Int32)).toUInt32.toUInt16.toUInt32.toInt32)
theorem own_narC (x : Int32) (h : 0 ≤ x.toInt ∧ x.toInt ≤ 65535) : x.toUInt32.toUInt16.toUInt32.toInt32 = x := by
 have e := c_i2c x
 rw [← Int32.toInt_inj]
 omega
theorem own_i2c (x : Int32) : 0 ≤ x.toUInt32.toUInt16.toUInt32.toInt32.toInt ∧ x.toUInt32.toUInt16.toUInt32.toInt32.toInt ≤ 65535 := by
 have e := c_i2c x
 omega
theorem own_chr_b (p : Int32) : (0 ≤ (own_chr p).toInt ∧ (own_chr p).toInt ≤ 65535) ∧ own_chr p ≠ 32 := by
 unfold own_chr
 by_cases h : ((p &&& (65535 : Int32)).toUInt32.toUInt16.toUInt32.toInt32) = (32 : Int32)
 ·rw [if_pos h]; decide
 ·rw [if_neg h]; exact ⟨own_i2c _, h⟩
def own_pw (n : Int32) : Int32 := if n = 0 then 1 else if n = 1 then 31 else if n = 2 then 961 else if n = 3 then 29791 else if n = 4 then 923521 else if n = 5 then 28629151 else 887503681
def own_l (cs : Nat → Int32) (j : Nat) : Int32 := (cs j).toInt8.toInt32
def own_lo (cs : Nat → Int32) : Nat → (Nat → Int32)
 | 0 => fun _ => 0
 | k + 1 => fun j => if j = k then (cs k).toInt8.toInt32 else own_lo cs k j
theorem own_lo7 (cs : Nat → Int32) : own_tab 7 (own_lo cs 7) = own_tab 7 (own_l cs) := rfl
theorem own_step {cs : Nat → Int32} {t : Nat} (h : ∀ i, i < t → ¬ (255 : Int32) < cs i) (q : ¬ (255 : Int32) < cs t) : ∀ i, i < t + 1 → ¬ (255 : Int32) < cs i := by
 intro i hi
 by_cases e : i = t
 ·rw [e]; exact q
 ·exact h i (by omega)
def own_term (cs : Nat → Int32) (s : Nat) (n i : Int32) : Int32 := if i < n then cs (s + i.toNatClampNeg) * own_pw ((n - 1) - i) else 0
theorem own_tix {i s n : Nat} {p2 p3 ii : Int32} (hi : ii.toInt = i) (hs : p2.toInt = s ∧ p3.toInt = n ∧ s + n ≤ 7) (h : ii < p3) : (p2 + ii).toInt = ((s + i : Nat) : Int) ∧ s + i < 7 := by
 have e := c_iadd p2 ii
 have r := rng32 (p2 + ii)
 rw [Int32.lt_iff_toInt_lt] at h
 omega
theorem own_dbl {t : Nat} (h : t < 7) : ((Int32.ofNat t) <<< ((1 : Int32) &&& 31)) = Int32.ofNat (2 * t) := by
 revert t; decide
def own_u0 (x : Int32) : Int32 := (x >>> ((0 : Int32) &&& 31)).toInt8.toInt32
def own_u1 (x : Int32) : Int32 := (x >>> ((8 : Int32) &&& 31)).toInt8.toInt32
def own_u (cs : Nat → Int32) (j : Nat) : Int32 := if j % 2 = 0 then own_u0 (cs (j / 2)) else own_u1 (cs (j / 2))
theorem own_gc1 {x : Int32} (h : 0 ≤ x.toInt ∧ x.toInt ≤ 65535) : (((own_u0 x &&& (255 : Int32)) <<< ((0 : Int32) &&& 31)) ||| ((own_u1 x &&& (255 : Int32)) <<< ((8 : Int32) &&& 31))) = x := by
 have e0 := c_ishr x 0 0 (by decide)
 have e1 := c_ishr x 8 8 (by decide)
 have b0 := c_i2b (x >>> ((0 : Int32) &&& 31))
 have b1 := c_i2b (x >>> ((8 : Int32) &&& 31))
 have m0 := c_mask (own_u0 x) 255 8 (by decide) (by decide)
 have m1 := c_mask (own_u1 x) 255 8 (by decide) (by decide)
 have s0 := c_ishl (own_u0 x &&& 255) 0 0 (by decide)
 have s1 := c_ishl (own_u1 x &&& 255) 8 8 (by decide)
 have r0 := rng32 ((own_u0 x &&& 255) <<< ((0 : Int32) &&& 31))
 have r1 := rng32 ((own_u1 x &&& 255) <<< ((8 : Int32) &&& 31))
 have o := c_or' ((own_u0 x &&& 255) <<< ((0 : Int32) &&& 31)) ((own_u1 x &&& 255) <<< ((8 : Int32) &&& 31)) 8 (by decide) 256 rfl
 have r2 := rng32 (((own_u0 x &&& 255) <<< ((0 : Int32) &&& 31)) ||| ((own_u1 x &&& 255) <<< ((8 : Int32) &&& 31)))
 change ((own_u0 x).toInt - _) % 256 = 0 ∧ -128 ≤ (own_u0 x).toInt ∧ (own_u0 x).toInt < 128 at b0
 change ((own_u1 x).toInt - _) % 256 = 0 ∧ -128 ≤ (own_u1 x).toInt ∧ (own_u1 x).toInt < 128 at b1
 rw [← Int32.toInt_inj]
 omega
theorem own_gc {x : Int32} (h : 0 ≤ x.toInt ∧ x.toInt ≤ 65535) : some (Value.int (nar .char ((((own_u0 x &&& (255 : Int32)) <<< ((0 : Int32) &&& 31)) ||| ((own_u1 x &&& (255 : Int32)) <<< ((8 : Int32) &&& 31))).toUInt32.toUInt16.toUInt32.toInt32))) = some (Value.int x) := by
 rw [own_gc1 h, own_narC x h]
 exact congrArg (fun z => some (Value.int z)) (own_narC x h)
def own_uo (cs : Nat → Int32) : Nat → (Nat → Int32)
 | 0 => fun _ => 0
 | k + 1 => fun j => if j = 2 * k + 1 then (((cs k) >>> ((8 : Int32) &&& 31)).toInt8.toInt32) else (fun j => if j = 2 * k then (((cs k) >>> ((0 : Int32) &&& 31)).toInt8.toInt32) else own_uo cs k j) j
theorem own_uoE (cs : Nat → Int32) : ∀ k j, j < 2 * k → own_uo cs k j = own_u cs j := by
 intro k
 induction k with
 | zero => intro j h; omega
 | succ k ih =>
  intro j h
  by_cases q : j = 2 * k + 1
  ·subst q
   rw [own_u, if_neg (by omega), show (2 * k + 1) / 2 = k by omega]
   simp only [own_uo, if_true]; rfl
  ·by_cases r : j = 2 * k
   ·subst r
    rw [own_u, if_pos (by omega), Nat.mul_div_cancel_left k (by decide)]
    simp only [own_uo, if_neg q, if_true]; rfl
   ·simp only [own_uo, if_neg q, if_neg r]
    exact ih j (by omega)
theorem own_tab_ext {N : Nat} {f g : Nat → Int32} (h : ∀ i, i < N → f i = g i) : own_tab N f = own_tab N g := by
 unfold own_tab
 apply List.map_congr_left
 intro i hi
 rw [h i (List.mem_range.mp hi)]
theorem own_uo14 (cs : Nat → Int32) : own_tab 14 (own_uo cs 7) = own_tab 14 (own_u cs) := own_tab_ext (own_uoE cs 7)
def own_cf (n : Int32) : Int32 := (((((7 : Int32) - n).toUInt32 >>> ((31 : Int32) &&& 31).toUInt32).toInt32).toInt8.toInt32)
def own_sp (cs : Nat → Int32) (k n : Int32) (vs : List Value) : Prop := (k = 0 ∧ n = 7 ∧ vs = own_tab 7 (own_l cs) ∧ ∀ i, i < 7 → ¬ (255 : Int32) < cs i) ∨ (k = 1 ∧ n = 14 ∧ vs = own_tab 14 (own_u cs))
theorem own_of7 {r : Nat} (h : r < 7) : ¬ Int32.ofNat r = 7 := by
 revert r; decide
theorem own_fnar {Z : State} {h : Heap} {a : Addr} {n : Int32} {C f d : String} (q : Fld Z h a C f d (.int (nar .byte (own_cf n)))) : Fld Z h a C f d (.int (own_cf n)) := by
 rw [show nar .byte (own_cf n) = own_cf n from own_narB _] at q; exact q
theorem own_ue (cs : Nat → Int32) (t : Nat) : Value.int (own_u cs (2 * t)) = .int (own_u0 (cs t)) := by
 rw [own_u, if_pos (by omega), Nat.mul_div_cancel_left t (by decide)]
theorem own_uo1 (cs : Nat → Int32) (t : Nat) : Value.int (own_u cs (2 * t + 1)) = .int (own_u1 (cs t)) := by
 rw [own_u, if_neg (by omega), show (2 * t + 1) / 2 = t by omega]
def own_sk (cs : Nat → Int32) : Nat → Nat → Int32
 | 0, _ => -1
 | k + 1, f => if cs f = 32 then Int32.ofNat f else own_sk cs k (f + 1)
theorem own_sk7 {cs : Nat → Int32} {f : Nat} (h : ¬ f < 7) : own_sk cs (7 - f) f = -1 := by
 rw [show 7 - f = 0 by omega]; rfl
theorem own_skS {cs : Nat → Int32} {t : Nat} (ht : t < 7) (h : ¬ cs t = 32) : own_sk cs (7 - t) t = own_sk cs (7 - (t + 1)) (t + 1) := by
 rw [show 7 - t = (7 - (t + 1)) + 1 by omega, own_sk, if_neg h]
theorem own_skF {cs : Nat → Int32} {t : Nat} (ht : t < 7) (h : cs t = 32) : own_sk cs (7 - t) t = Int32.ofNat t := by
 rw [show 7 - t = (7 - (t + 1)) + 1 by omega, own_sk, if_pos h]
theorem own_skN0 {cs : Nat → Int32} : ∀ k f, (∀ i, f ≤ i → i < f + k → ¬ cs i = 32) → own_sk cs k f = -1 := by
 intro k
 induction k with
 | zero => intro f _; rfl
 | succ k ih =>
  intro f h
  rw [own_sk, if_neg (h f (Nat.le_refl _) (by omega))]
  exact ih _ fun i h1 h2 => h i (by omega) (by omega)
theorem own_skN {cs : Nat → Int32} {f : Nat} (hf : f ≤ 7) (h : ∀ i, f ≤ i → i < 7 → ¬ cs i = 32) : own_sk cs (7 - f) f = -1 :=
 own_skN0 _ _ fun i h1 h2 => h i h1 (by omega)
theorem own_skA0 {cs : Nat → Int32} : ∀ d k f, (∀ i, f ≤ i → i < f + d → ¬ cs i = 32) → cs (f + d) = 32 → d < k → own_sk cs k f = Int32.ofNat (f + d) := by
 intro d
 induction d with
 | zero =>
  intro k f _ h2 h3
  obtain ⟨k, rfl⟩ : ∃ j, k = j + 1 := ⟨k - 1, by omega⟩
  rw [own_sk, if_pos (show cs f = 32 from h2)]; rfl
 | succ d ih =>
  intro k f h1 h2 h3
  obtain ⟨k, rfl⟩ : ∃ j, k = j + 1 := ⟨k - 1, by omega⟩
  rw [own_sk, if_neg (h1 f (Nat.le_refl _) (by omega)), ih k (f + 1) (fun i q1 q2 => h1 i (by omega) (by omega)) (by rw [← h2]; congr 1; omega) (by omega)]
  congr 1; omega
theorem own_skA {cs : Nat → Int32} {f q : Nat} (h1 : f ≤ q) (h2 : q < 7) (h3 : cs q = 32) (h4 : ∀ i, f ≤ i → i < q → ¬ cs i = 32) : own_sk cs (7 - f) f = Int32.ofNat q := by
 obtain ⟨d, rfl⟩ : ∃ d, q = f + d := ⟨q - f, by omega⟩
 exact own_skA0 d _ f h4 h3 (by omega)
def own_h (cs : Nat → Int32) (a : Nat) : Nat → Int32
 | 0 => 0
 | t + 1 => if t < a then 0 else ((31 : Int32) * own_h cs a t) + cs t
theorem own_h0 (cs : Nat → Int32) (a : Nat) : own_h cs a a = (0 : Int32) := by
 cases a with
 | zero => rfl
 | succ n => rw [own_h, if_pos (Nat.lt_succ_self n)]
theorem own_hS {cs : Nat → Int32} {a t : Nat} (h : a ≤ t) : ((31 : Int32) * own_h cs a t) + cs t = own_h cs a (t + 1) := by
 rw [own_h, if_neg (by omega)]
theorem own_hk (cs : Nat → Int32) (a n : Nat) : own_h cs a (a + (n + 1)) = (31 : Int32) * own_h cs a (a + n) + cs (a + n) := (own_hS (Nat.le_add_right a n)).symm
theorem own_sum0 (cs : Nat → Int32) (a : Nat) : ∀ n, n ≤ 7 → (((((((own_term cs a (Int32.ofNat n) 0) + (own_term cs a (Int32.ofNat n) 1)) + (own_term cs a (Int32.ofNat n) 2)) + (own_term cs a (Int32.ofNat n) 3)) + (own_term cs a (Int32.ofNat n) 4)) + (own_term cs a (Int32.ofNat n) 5)) + (own_term cs a (Int32.ofNat n) 6)) = own_h cs a (a + n) := by
 intro n hn
 match n, hn with
 | 0, _ => rw [Nat.add_zero, own_h0]; rfl
 | 1, _ => 
  rw [own_hk, Nat.add_zero, own_h0]
  show cs a * 1 + 0 + 0 + 0 + 0 + 0 + 0 = _
  grind
 | 2, _ => 
  rw [own_hk, own_hk, Nat.add_zero, own_h0]
  show cs a * 31 + cs (a + 1) * 1 + 0 + 0 + 0 + 0 + 0 = _
  grind
 | 3, _ => 
  rw [own_hk, own_hk, own_hk, Nat.add_zero, own_h0]
  show cs a * 961 + cs (a + 1) * 31 + cs (a + 2) * 1 + 0 + 0 + 0 + 0 = _
  grind
 | 4, _ => 
  rw [own_hk, own_hk, own_hk, own_hk, Nat.add_zero, own_h0]
  show cs a * 29791 + cs (a + 1) * 961 + cs (a + 2) * 31 + cs (a + 3) * 1 + 0 + 0 + 0 = _
  grind
 | 5, _ => 
  rw [own_hk, own_hk, own_hk, own_hk, own_hk, Nat.add_zero, own_h0]
  show cs a * 923521 + cs (a + 1) * 29791 + cs (a + 2) * 961 + cs (a + 3) * 31 + cs (a + 4) * 1 + 0 + 0 = _
  grind
 | 6, _ => 
  rw [own_hk, own_hk, own_hk, own_hk, own_hk, own_hk, Nat.add_zero, own_h0]
  show cs a * 28629151 + cs (a + 1) * 923521 + cs (a + 2) * 29791 + cs (a + 3) * 961 + cs (a + 4) * 31 + cs (a + 5) * 1 + 0 = _
  grind
 | 7, _ => 
  rw [own_hk, own_hk, own_hk, own_hk, own_hk, own_hk, own_hk, Nat.add_zero, own_h0]
  show cs a * 887503681 + cs (a + 1) * 28629151 + cs (a + 2) * 923521 + cs (a + 3) * 29791 + cs (a + 4) * 961 + cs (a + 5) * 31 + cs (a + 6) * 1 = _
  grind
theorem own_sum {cs : Nat → Int32} {a b : Nat} (h : a ≤ b) (hb : b ≤ 7) : (((((((own_term cs a (Int32.ofNat (b - a)) 0) + (own_term cs a (Int32.ofNat (b - a)) 1)) + (own_term cs a (Int32.ofNat (b - a)) 2)) + (own_term cs a (Int32.ofNat (b - a)) 3)) + (own_term cs a (Int32.ofNat (b - a)) 4)) + (own_term cs a (Int32.ofNat (b - a)) 5)) + (own_term cs a (Int32.ofNat (b - a)) 6)) = own_h cs a b := by
 obtain ⟨n, rfl⟩ : ∃ n, b = a + n := ⟨b - a, by omega⟩
 rw [Nat.add_sub_cancel_left]
 exact own_sum0 cs a n (by omega)
theorem own_isub {a b : Nat} (h : a ≤ b) (hb : b ≤ 8) : Int32.ofNat b - Int32.ofNat a = Int32.ofNat (b - a) := by
 have : ∀ b : Nat, b < 9 → ∀ a : Nat, a < 9 → a ≤ b → Int32.ofNat b - Int32.ofNat a = Int32.ofNat (b - a) := by decide
 exact this b (by omega) a (by omega) h
theorem own_md {x m : Int32} {n : Nat} (h0 : 0 ≤ x.toInt) (hm : m.toInt = n) (hn : 0 < n) : ∃ p : Nat, p < n ∧ x % m = Int32.ofNat p := by
 refine ⟨(x.toInt % n).toNat, ?_, ?_⟩
 ·have := Int.emod_lt_of_pos x.toInt (show (0:Int) < n by omega)
  have := Int.emod_nonneg x.toInt (show (n:Int) ≠ 0 by omega)
  omega
 ·rw [← Int32.toInt_inj, Int32.toInt_mod, hm, Int.tmod_eq_emod_of_nonneg h0]
  have h1 := Int.emod_lt_of_pos x.toInt (show (0:Int) < n by omega)
  have h2 := Int.emod_nonneg x.toInt (show (n:Int) ≠ 0 by omega)
  have h3 := m.toInt_lt
  rw [Int32.toInt_ofNat_of_lt (by omega)]
  omega
theorem own_c2 {p : Nat} (h : p < 2) : Int32.ofNat p = 0 ∨ Int32.ofNat p = 1 := by
 revert p; decide
theorem own_c3 {p : Nat} (h : p < 3) : Int32.ofNat p = 0 ∨ Int32.ofNat p = 1 ∨ Int32.ofNat p = 2 := by
 revert p; decide
theorem own_pm {p : Nat} (h : p < 6) : (6 : Int32) - Int32.ofNat p ≠ 0 ∧ ((6 : Int32) - Int32.ofNat p).toInt = ((6 - p : Nat) : Int) := by
 revert p; decide
theorem own_pq {p q : Nat} (h : p < 6) (hq : q < 6 - p) : ((Int32.ofNat p + (1 : Int32)) + Int32.ofNat q) = Int32.ofNat (p + 1 + q) := by
 have : ∀ p : Nat, p < 6 → ∀ q : Nat, q < 6 → q < 6 - p → ((Int32.ofNat p + (1 : Int32)) + Int32.ofNat q) = Int32.ofNat (p + 1 + q) := by decide
 exact this p h q (by omega) hq
def own_w1 (cs : Nat → Int32) (p : Nat) (j : Nat) : Int32 := if j = p then 32 else cs j
theorem own_w1C {cs : Nat → Int32} {p : Nat} (hC : ∀ i, i < 7 → 0 ≤ (cs i).toInt ∧ (cs i).toInt ≤ 65535) : ∀ i, i < 7 → 0 ≤ (own_w1 cs p i).toInt ∧ (own_w1 cs p i).toInt ≤ 65535 := by
 intro i hi
 unfold own_w1
 by_cases h : i = p
 ·rw [if_pos h]; decide
 ·rw [if_neg h]; exact hC i hi
theorem own_w1p (cs : Nat → Int32) (p : Nat) : own_w1 cs p p = 32 := if_pos rfl
theorem own_w1n (cs : Nat → Int32) {p i : Nat} (h : i ≠ p) : own_w1 cs p i = cs i := if_neg h
theorem own_w1N {cs : Nat → Int32} {p i : Nat} (h : i ≠ p) (q : ¬ cs i = 32) : ¬ own_w1 cs p i = 32 := by rw [own_w1n cs h]; exact q
theorem own_ipred (b : Nat) : Int32.ofNat (b + 1) - (1 : Int32) = Int32.ofNat b := by
 rw [Int32.ofNat_add]; exact Int32.add_sub_cancel _ _
theorem own_kd {cs : Nat → Int32} {kd nb : Int32} {vb : List Value} (h : own_sp cs kd nb vb) : some (Value.int (nar .byte kd)) = some (Value.int kd) := by
 rcases h with ⟨rfl, -⟩ | ⟨rfl, -⟩ <;> rfl
theorem own_len7 {cs : Nat → Int32} {kd nb : Int32} {vb : List Value} (h : own_sp cs kd nb vb) : (nb >>> (kd &&& 31)) = (7 : Int32) := by
 rcases h with ⟨rfl, rfl, -⟩ | ⟨rfl, rfl, -⟩ <;> decide
theorem own_nb0 {cs : Nat → Int32} {kd nb : Int32} {vb : List Value} (h : own_sp cs kd nb vb) : ¬ nb = (0 : Int32) := by
 rcases h with ⟨rfl, rfl, -⟩ | ⟨rfl, rfl, -⟩ <;> decide
theorem own_le255 {x : Int32} (h : ¬ (255 : Int32) < x) : x.toInt ≤ 255 := by
 rw [Int32.lt_iff_toInt_lt] at h
 have : (255 : Int32).toInt = 255 := rfl
 omega
theorem own_lc {x : Int32} (h : ¬ (255 : Int32) < x) (hC : 0 ≤ x.toInt ∧ x.toInt ≤ 65535) : x.toInt8.toInt32 = (32 : Int32) ↔ x = 32 := by
 have e := c_i2b x
 have l := own_le255 h
 rw [← Int32.toInt_inj, ← Int32.toInt_inj]
 have : (32 : Int32).toInt = 32 := rfl
 omega
theorem own_lget {x : Int32} (h : ¬ (255 : Int32) < x) (hC : 0 ≤ x.toInt ∧ x.toInt ≤ 65535) : some (Value.int (nar .char ((x.toInt8.toInt32 &&& (255 : Int32)).toUInt32.toUInt16.toUInt32.toInt32))) = some (Value.int x) := by
 have e : x.toInt8.toInt32 &&& (255 : Int32) = x := by
  have e := c_i2b x
  have l := own_le255 h
  have q := c_mask x.toInt8.toInt32 255 8 (by decide) (by decide)
  rw [← Int32.toInt_inj]
  omega
 rw [e, own_narC x hC]
 exact congrArg (fun z => some (Value.int z)) (own_narC x hC)
theorem own_ngt {f : Nat} (h : f < 7) : ¬ (7 : Int32) < Int32.ofNat f := by revert f; decide
theorem own_nlt {f : Nat} (h : ¬ f < 7) (h' : f ≤ 7) : ¬ Int32.ofNat f < (7 : Int32) := by
 obtain rfl : f = 7 := by omega
 decide
theorem own_ge0 {f : Nat} (h : f ≤ 7) : ¬ Int32.ofNat f < (0 : Int32) := (own_ix (own_toInt (by omega))).1
theorem own_ltn {t b : Nat} (h : t < b) (hb : b ≤ 7) : Int32.ofNat t < Int32.ofNat b := (own_ltc h (by omega) _ (own_toInt (by omega))).2
theorem own_m15 (y : Int32) : 0 ≤ (y &&& (32767 : Int32)).toInt := by
 have q := c_mask y 32767 15 (by decide) (by decide)
 omega
theorem own_m31 (y : Int32) : 0 ≤ (y &&& (2147483647 : Int32)).toInt := by
 have q := c_mask y 2147483647 31 (by decide) (by decide)
 omega
theorem own_m2 (y : Int32) : 0 ≤ (y &&& (3 : Int32)).toInt := by
 have q := c_mask y 3 2 (by decide) (by decide)
 omega
theorem own_k3 (y : Int32) : (y &&& (3 : Int32)) % (3 : Int32) = 0 ∨ (y &&& (3 : Int32)) % (3 : Int32) = 1 ∨ (y &&& (3 : Int32)) % (3 : Int32) = 2 := by
 obtain ⟨p, h, e⟩ := own_md (n := 3) (m := 3) (own_m2 y) (by decide) (by decide)
 rw [e]; exact own_c3 h
theorem own_w3 (y : Int32) : (y &&& (2147483647 : Int32)) % (3 : Int32) = 0 ∨ (y &&& (2147483647 : Int32)) % (3 : Int32) = 1 ∨ (y &&& (2147483647 : Int32)) % (3 : Int32) = 2 := by
 obtain ⟨p, h, e⟩ := own_md (n := 3) (m := 3) (own_m31 y) (by decide) (by decide)
 rw [e]; exact own_c3 h
theorem own_w2 (y : Int32) : (y &&& (2147483647 : Int32)) % (2 : Int32) = 0 ∨ (y &&& (2147483647 : Int32)) % (2 : Int32) = 1 := by
 obtain ⟨p, h, e⟩ := own_md (n := 2) (m := 2) (own_m31 y) (by decide) (by decide)
 rw [e]; exact own_c2 h
theorem own_wd1 (y : Int32) : (y &&& (2147483647 : Int32)) % (1 : Int32) = 0 := by
 obtain ⟨p, h, e⟩ := own_md (n := 1) (m := 1) (own_m31 y) (by decide) (by decide)
 rw [e]; obtain rfl : p = 0 := by omega
 rfl
theorem own_mdq (y : Int32) {p : Nat} (hp : p < 6) : ∃ q : Nat, (p < q ∧ q < 7) ∧ ((Int32.ofNat p + (1 : Int32)) + ((y &&& (32767 : Int32)) % ((6 : Int32) - Int32.ofNat p))) = Int32.ofNat q := by
 obtain ⟨q, h, e⟩ := own_md (own_m15 y) (own_pm hp).2 (by omega)
 refine ⟨p + 1 + q, by omega, ?_⟩
 rw [e]; exact own_pq hp h
def own_c7 (p1 p2 p3 p4 : Int32) : Nat → Int32 := (fun j => if j = 6 then (own_chr p4) else (fun j => if j = 5 then (own_chr ((p3.toUInt32 >>> ((16 : Int32) &&& 31).toUInt32).toInt32)) else (fun j => if j = 4 then (own_chr p3) else (fun j => if j = 3 then (own_chr ((p2.toUInt32 >>> ((16 : Int32) &&& 31).toUInt32).toInt32)) else (fun j => if j = 2 then (own_chr p2) else (fun j => if j = 1 then (own_chr ((p1.toUInt32 >>> ((16 : Int32) &&& 31).toUInt32).toInt32)) else (fun j => if j = 0 then (own_chr p1) else (fun _ => 0) j) j) j) j) j) j) j)
theorem own_c7b (p1 p2 p3 p4 : Int32) : ∀ i, i < 7 → (0 ≤ (own_c7 p1 p2 p3 p4 i).toInt ∧ (own_c7 p1 p2 p3 p4 i).toInt ≤ 65535) ∧ ¬ own_c7 p1 p2 p3 p4 i = 32 := by
 intro i hi
 match i, hi with
 | 0, _ => exact own_chr_b _
 | 1, _ => exact own_chr_b _
 | 2, _ => exact own_chr_b _
 | 3, _ => exact own_chr_b _
 | 4, _ => exact own_chr_b _
 | 5, _ => exact own_chr_b _
 | 6, _ => exact own_chr_b _
theorem own_chrF {Z : State} {h : Heap} {a : Addr} {k : ClassId} {n x : Int32} {N i : Nat} {g : Nat → Int32} {d : Value} (q : Arv Z h a k .char n (own_tab N (fun j => if j = i then nar .char (own_chr x) else g j)) d) : Arv Z h a k .char n (own_tab N (fun j => if j = i then own_chr x else g j)) d := by
 rw [show nar .char (own_chr x) = own_chr x from own_narC _ (own_chr_b x).1] at q; exact q
theorem pn_12 : plainName "com/example/restate/restate/WordsHashPinLaw" = true := by first | (simp [plainName, overriddenIn]; done) | decide +kernel
theorem d1_0 : decode method_3_code 0 = .ok (.iload_n 0, 1) := by decide +kernel
theorem d1_1 : decode method_3_code 1 = .ok (.ldc 36, 2) := by decide +kernel
theorem d1_3 : decode method_3_code 3 = .ok (.iand, 1) := by decide +kernel
theorem d1_4 : decode method_3_code 4 = .ok (.i2c, 1) := by decide +kernel
theorem d1_5 : decode method_3_code 5 = .ok (.istore_n 1, 1) := by decide +kernel
theorem d1_6 : decode method_3_code 6 = .ok (.iload_n 1, 1) := by decide +kernel
theorem d1_7 : decode method_3_code 7 = .ok (.bipush 32, 2) := by decide +kernel
theorem d1_9 : decode method_3_code 9 = .ok (.if_icmp .ne 8, 3) := by decide +kernel
theorem d1_12 : decode method_3_code 12 = .ok (.bipush 95, 2) := by decide +kernel
theorem d1_14 : decode method_3_code 14 = .ok (.goto 4, 3) := by decide +kernel
theorem d1_17 : decode method_3_code 17 = .ok (.iload_n 1, 1) := by decide +kernel
theorem d1_18 : decode method_3_code 18 = .ok (.ireturn, 1) := by decide +kernel
theorem ef_1 (m : MethodId) (p1 : Int32) : entryFrame m #[(.int p1)] 2 = mkF m 0 #[.val (.int p1), .unset] [] := by first | (simp [entryFrame, mkF, argsToLocals, Value.category]; done) | rfl
def Q1 (Z : State) (p1 : Int32) (h0 : Heap) (n0 : Nat) (v : Option Value) (h : Heap) (L : List Loc) : Prop := v = some (.int (own_chr p1)) ∧ Fr n0 L ∧ h = h0
set_option maxRecDepth 65536 in
set_option maxHeartbeats 40000000 in
theorem rm1 (l : Launch) (Z : State) (a0 : Array Value) (hw : ∀ d ∈ tables_1, d.before a0 Z = true) (ws : List Jvm.Cond) (p1 : Int32) (h0 : Heap) (n0 : Nat) (Z0 : n0 ≤ h0.size) :
  MetFree l (⟨"com/example/restate/restate/WordsHashPinLaw", "chr", "(I)C"⟩ : MethodName) (head1 (Jvm.Cond.code (⟨"com/example/restate/restate/WordsHashPinLaw", "chr", "(I)C"⟩ : MethodName) method_3_code 2 (some .char) :: ws) ({ frames := 0, cells := 0, slots := 0, locals := 0 } : Room)) (fun a U => a = #[(.int p1)] ∧ Z.Warmed39 U.vm ∧ U.heap = h0) (fun _ _ _ _ _ => True) (fun _ U o U' => ∃ v L, o = .returned v ∧ Q1 Z p1 h0 n0 v U'.heap L ∧ FrameEnd U o U' L ({ frames := 0, cells := 0, slots := 0, locals := 0 } : Room).cells ({ frames := 0, cells := 0, slots := 0, locals := 0 } : Room).slots) := by
 refine MetFree.of_bodySF (plainFor_of_name pn_12) hisR ?_
 intro p e s m args below meth c s₁ Bd hml0 hP hK
 obtain ⟨rfl, hZ, hh⟩ := hP
 have hx := Bd.exec
 have hby := Bd.bytes
 have hml : c.maxLocals = 2 := hml0
 have hown : s.vm.findClass "com/example/restate/restate/WordsHashPinLaw" = some m.cls := findClass_of_methodNamed Bd.named
 have hnm := (name_of_methodNamed Bd.named Bd.method).1
 have X0 : Stand p l e ({ frames := 0, cells := 0, slots := 0, locals := 0 } : Room) s m #[(.int p1)] below meth c s₁ [] 0 0 := Stand.of_body Bd
 have e0 : s₁.heap = h0 := by rw [← hh, Bd.state]; rfl
 have N0 := Fr.nil n0
 refine own_go (B := s₁.setTop (mkF m 0 #[.val (.int p1), .unset] [])) (fun t k => castTop (ef_1 m p1) k) ?_
 refine own_go (B := s₁.setTop (mkF m 9 #[.val (.int p1), .val (.int ((p1 &&& (65535 : Int32)).toUInt32.toUInt16.toUInt32.toInt32))] [(.int 32), (.int ((p1 &&& (65535 : Int32)).toUInt32.toUInt16.toUInt32.toInt32))])) (fun tg kt => ?_) ?_
 ·refine XS.iloadN X0.here hx rfl (hb hby d1_0) rfl ?_
  refine X0.ldcInt hx hown (mvT hZ (hw _ (List.mem_of_getElem? (i := 5) rfl))) (g := (mkF m 1 #[.val (.int p1), .unset] [(.int p1)])) rfl (hb hby d1_1) _ ?_
  refine XS.iand X0.here hx rfl (hb hby d1_3) rfl ?_
  refine XS.i2c X0.here hx rfl (hb hby d1_4) rfl ?_
  refine XS.istoreN X0.here hx rfl (hb hby d1_5) rfl (l' := #[.val (.int p1), .val (.int ((p1 &&& (65535 : Int32)).toUInt32.toUInt16.toUInt32.toInt32))]) rfl ?_
  refine XS.iloadN X0.here hx rfl (hb hby d1_6) rfl ?_
  refine XS.bipush X0.here hx rfl (hb hby d1_7) ?_
  exact kt
 by_cases hc1 : ((p1 &&& (65535 : Int32)).toUInt32.toUInt16.toUInt32.toInt32) = (32 : Int32)
 ·refine own_go (B := s₁.setTop (mkF m 18 #[.val (.int p1), .val (.int ((p1 &&& (65535 : Int32)).toUInt32.toUInt16.toUInt32.toInt32))] [(.int 95)])) (fun tg kt => ?_) ?_
  ·refine XS.icmpNo X0.here hx rfl (hb hby d1_9) rfl (teq hc1).2 ?_
   refine XS.bipush X0.here hx rfl (hb hby d1_12) ?_
   refine XS.goto X0.here hx rfl (pc0 := 14) (pc' := 18) rfl (hb hby d1_14) (by decide) (by decide) ?_
   exact kt
  obtain ⟨fs, hr, hrun, hended, hW, hsame⟩ := X0.leave (v := some (.int 95)) (fun h => by rw [Bd.returns] at h; cases h)
  refine ⟨_, _, ?_, hrun, hended, _, _, rfl, ?_, ⟨_, rfl⟩, hW, hsame.mono (by decide) (by decide)⟩
  ·exact retN X0 hx (t := .char) Bd.returns (by simp) (hb hby d1_18) hr
  ·show Q1 Z p1 h0 n0 _ s₁.heap _
   rw [e0]
   exact ⟨(by rw [own_chr, if_pos hc1]), N0, rfl⟩
 ·refine own_go (B := s₁.setTop (mkF m 18 #[.val (.int p1), .val (.int ((p1 &&& (65535 : Int32)).toUInt32.toUInt16.toUInt32.toInt32))] [(.int ((p1 &&& (65535 : Int32)).toUInt32.toUInt16.toUInt32.toInt32))])) (fun tg kt => ?_) ?_
  ·refine XS.icmpYes X0.here hx rfl (pc0 := 9) (pc' := 17) rfl (hb hby d1_9) rfl (feq hc1).2 (by decide) (by decide) ?_
   refine XS.iloadN X0.here hx rfl (hb hby d1_17) rfl ?_
   exact kt
  obtain ⟨fs, hr, hrun, hended, hW, hsame⟩ := X0.leave (v := some (.int (nar .char ((p1 &&& (65535 : Int32)).toUInt32.toUInt16.toUInt32.toInt32)))) (fun h => by rw [Bd.returns] at h; cases h)
  refine ⟨_, _, ?_, hrun, hended, _, _, rfl, ?_, ⟨_, rfl⟩, hW, hsame.mono (by decide) (by decide)⟩
  ·exact retN X0 hx (t := .char) Bd.returns (by simp) (hb hby d1_18) hr
  ·show Q1 Z p1 h0 n0 _ s₁.heap _
   rw [e0]
   exact ⟨(by rw [own_chr, if_neg hc1]; exact congrArg (fun z => some (Value.int z)) (own_narC _ (own_i2c _))), N0, rfl⟩
theorem d3_0 : decode method_5_code 0 = .ok (.iload_n 0, 1) := by decide +kernel
theorem d3_1 : decode method_5_code 1 = .ok (.ifCond .ne 5, 3) := by decide +kernel
theorem d3_4 : decode method_5_code 4 = .ok (.iconst 1, 1) := by decide +kernel
theorem d3_5 : decode method_5_code 5 = .ok (.ireturn, 1) := by decide +kernel
theorem d3_6 : decode method_5_code 6 = .ok (.iload_n 0, 1) := by decide +kernel
theorem d3_7 : decode method_5_code 7 = .ok (.iconst 1, 1) := by decide +kernel
theorem d3_8 : decode method_5_code 8 = .ok (.if_icmp .ne 6, 3) := by decide +kernel
theorem d3_11 : decode method_5_code 11 = .ok (.bipush 31, 2) := by decide +kernel
theorem d3_13 : decode method_5_code 13 = .ok (.ireturn, 1) := by decide +kernel
theorem d3_14 : decode method_5_code 14 = .ok (.iload_n 0, 1) := by decide +kernel
theorem d3_15 : decode method_5_code 15 = .ok (.iconst 2, 1) := by decide +kernel
theorem d3_16 : decode method_5_code 16 = .ok (.if_icmp .ne 7, 3) := by decide +kernel
theorem d3_19 : decode method_5_code 19 = .ok (.sipush 961, 3) := by decide +kernel
theorem d3_22 : decode method_5_code 22 = .ok (.ireturn, 1) := by decide +kernel
theorem d3_23 : decode method_5_code 23 = .ok (.iload_n 0, 1) := by decide +kernel
theorem d3_24 : decode method_5_code 24 = .ok (.iconst 3, 1) := by decide +kernel
theorem d3_25 : decode method_5_code 25 = .ok (.if_icmp .ne 7, 3) := by decide +kernel
theorem d3_28 : decode method_5_code 28 = .ok (.sipush 29791, 3) := by decide +kernel
theorem d3_31 : decode method_5_code 31 = .ok (.ireturn, 1) := by decide +kernel
theorem d3_32 : decode method_5_code 32 = .ok (.iload_n 0, 1) := by decide +kernel
theorem d3_33 : decode method_5_code 33 = .ok (.iconst 4, 1) := by decide +kernel
theorem d3_34 : decode method_5_code 34 = .ok (.if_icmp .ne 6, 3) := by decide +kernel
theorem d3_37 : decode method_5_code 37 = .ok (.ldc 40, 2) := by decide +kernel
theorem d3_39 : decode method_5_code 39 = .ok (.ireturn, 1) := by decide +kernel
theorem d3_40 : decode method_5_code 40 = .ok (.iload_n 0, 1) := by decide +kernel
theorem d3_41 : decode method_5_code 41 = .ok (.iconst 5, 1) := by decide +kernel
theorem d3_42 : decode method_5_code 42 = .ok (.if_icmp .ne 6, 3) := by decide +kernel
theorem d3_45 : decode method_5_code 45 = .ok (.ldc 41, 2) := by decide +kernel
theorem d3_47 : decode method_5_code 47 = .ok (.ireturn, 1) := by decide +kernel
theorem d3_48 : decode method_5_code 48 = .ok (.ldc 42, 2) := by decide +kernel
theorem d3_50 : decode method_5_code 50 = .ok (.ireturn, 1) := by decide +kernel
theorem ef_3 (m : MethodId) (p1 : Int32) : entryFrame m #[(.int p1)] 1 = mkF m 0 #[.val (.int p1)] [] := by first | (simp [entryFrame, mkF, argsToLocals, Value.category]; done) | rfl
def Q3 (Z : State) (p1 : Int32) (h0 : Heap) (n0 : Nat) (v : Option Value) (h : Heap) (L : List Loc) : Prop := v = some (.int (own_pw p1)) ∧ Fr n0 L ∧ h = h0
set_option maxRecDepth 65536 in
set_option maxHeartbeats 40000000 in
theorem rm3 (l : Launch) (Z : State) (a0 : Array Value) (hw : ∀ d ∈ tables_1, d.before a0 Z = true) (ws : List Jvm.Cond) (p1 : Int32) (h0 : Heap) (n0 : Nat) (Z0 : n0 ≤ h0.size) :
  MetFree l (⟨"com/example/restate/restate/WordsHashPinLaw", "pow31", "(I)I"⟩ : MethodName) (head1 (Jvm.Cond.code (⟨"com/example/restate/restate/WordsHashPinLaw", "pow31", "(I)I"⟩ : MethodName) method_5_code 1 (some .int) :: ws) ({ frames := 0, cells := 0, slots := 0, locals := 0 } : Room)) (fun a U => a = #[(.int p1)] ∧ Z.Warmed39 U.vm ∧ U.heap = h0) (fun _ _ _ _ _ => True) (fun _ U o U' => ∃ v L, o = .returned v ∧ Q3 Z p1 h0 n0 v U'.heap L ∧ FrameEnd U o U' L ({ frames := 0, cells := 0, slots := 0, locals := 0 } : Room).cells ({ frames := 0, cells := 0, slots := 0, locals := 0 } : Room).slots) := by
 refine MetFree.of_bodySF (plainFor_of_name pn_12) hisR ?_
 intro p e s m args below meth c s₁ Bd hml0 hP hK
 obtain ⟨rfl, hZ, hh⟩ := hP
 have hx := Bd.exec
 have hby := Bd.bytes
 have hml : c.maxLocals = 1 := hml0
 have hown : s.vm.findClass "com/example/restate/restate/WordsHashPinLaw" = some m.cls := findClass_of_methodNamed Bd.named
 have hnm := (name_of_methodNamed Bd.named Bd.method).1
 have X0 : Stand p l e ({ frames := 0, cells := 0, slots := 0, locals := 0 } : Room) s m #[(.int p1)] below meth c s₁ [] 0 0 := Stand.of_body Bd
 have e0 : s₁.heap = h0 := by rw [← hh, Bd.state]; rfl
 have N0 := Fr.nil n0
 refine own_go (B := s₁.setTop (mkF m 0 #[.val (.int p1)] [])) (fun t k => castTop (ef_3 m p1) k) ?_
 refine own_go (B := s₁.setTop (mkF m 1 #[.val (.int p1)] [(.int p1)])) (fun tg kt => ?_) ?_
 ·refine XS.iloadN X0.here hx rfl (hb hby d3_0) rfl ?_
  exact kt
 by_cases hc4 : p1 = (0 : Int32)
 ·refine own_go (B := s₁.setTop (mkF m 5 #[.val (.int p1)] [(.int 1)])) (fun tg kt => ?_) ?_
  ·refine XS.ifNo X0.here hx rfl (hb hby d3_1) rfl ((if0 _ _).trans (teq hc4).2) ?_
   refine XS.iconst X0.here hx rfl (hb hby d3_4) ?_
   exact kt
  obtain ⟨fs, hr, hrun, hended, hW, hsame⟩ := X0.leave (v := some (.int 1)) (fun h => by rw [Bd.returns] at h; cases h)
  refine ⟨_, _, ?_, hrun, hended, _, _, rfl, ?_, ⟨_, rfl⟩, hW, hsame.mono (by decide) (by decide)⟩
  ·exact retI X0 hx Bd.returns (hb hby d3_5) hr
  ·show Q3 Z p1 h0 n0 _ s₁.heap _
   rw [e0]
   exact ⟨(by simp only [own_pw, if_pos hc4]), N0, rfl⟩
 ·refine own_go (B := s₁.setTop (mkF m 8 #[.val (.int p1)] [(.int 1), (.int p1)])) (fun tg kt => ?_) ?_
  ·refine XS.ifYes X0.here hx rfl (pc0 := 1) (pc' := 6) rfl (hb hby d3_1) rfl ((if0 _ _).trans (feq hc4).2) (by decide) (by decide) ?_
   refine XS.iloadN X0.here hx rfl (hb hby d3_6) rfl ?_
   refine XS.iconst X0.here hx rfl (hb hby d3_7) ?_
   exact kt
  by_cases hc6 : p1 = (1 : Int32)
  ·refine own_go (B := s₁.setTop (mkF m 13 #[.val (.int p1)] [(.int 31)])) (fun tg kt => ?_) ?_
   ·refine XS.icmpNo X0.here hx rfl (hb hby d3_8) rfl (teq hc6).2 ?_
    refine XS.bipush X0.here hx rfl (hb hby d3_11) ?_
    exact kt
   obtain ⟨fs, hr, hrun, hended, hW, hsame⟩ := X0.leave (v := some (.int 31)) (fun h => by rw [Bd.returns] at h; cases h)
   refine ⟨_, _, ?_, hrun, hended, _, _, rfl, ?_, ⟨_, rfl⟩, hW, hsame.mono (by decide) (by decide)⟩
   ·exact retI X0 hx Bd.returns (hb hby d3_13) hr
   ·show Q3 Z p1 h0 n0 _ s₁.heap _
    rw [e0]
    exact ⟨(by simp only [own_pw, if_neg hc4, if_pos hc6]), N0, rfl⟩
  ·refine own_go (B := s₁.setTop (mkF m 16 #[.val (.int p1)] [(.int 2), (.int p1)])) (fun tg kt => ?_) ?_
   ·refine XS.icmpYes X0.here hx rfl (pc0 := 8) (pc' := 14) rfl (hb hby d3_8) rfl (feq hc6).2 (by decide) (by decide) ?_
    refine XS.iloadN X0.here hx rfl (hb hby d3_14) rfl ?_
    refine XS.iconst X0.here hx rfl (hb hby d3_15) ?_
    exact kt
   by_cases hc8 : p1 = (2 : Int32)
   ·refine own_go (B := s₁.setTop (mkF m 22 #[.val (.int p1)] [(.int 961)])) (fun tg kt => ?_) ?_
    ·refine XS.icmpNo X0.here hx rfl (hb hby d3_16) rfl (teq hc8).2 ?_
     refine XS.sipush X0.here hx rfl (hb hby d3_19) ?_
     exact kt
    obtain ⟨fs, hr, hrun, hended, hW, hsame⟩ := X0.leave (v := some (.int 961)) (fun h => by rw [Bd.returns] at h; cases h)
    refine ⟨_, _, ?_, hrun, hended, _, _, rfl, ?_, ⟨_, rfl⟩, hW, hsame.mono (by decide) (by decide)⟩
    ·exact retI X0 hx Bd.returns (hb hby d3_22) hr
    ·show Q3 Z p1 h0 n0 _ s₁.heap _
     rw [e0]
     exact ⟨(by simp only [own_pw, if_neg hc4, if_neg hc6, if_pos hc8]), N0, rfl⟩
   ·refine own_go (B := s₁.setTop (mkF m 25 #[.val (.int p1)] [(.int 3), (.int p1)])) (fun tg kt => ?_) ?_
    ·refine XS.icmpYes X0.here hx rfl (pc0 := 16) (pc' := 23) rfl (hb hby d3_16) rfl (feq hc8).2 (by decide) (by decide) ?_
     refine XS.iloadN X0.here hx rfl (hb hby d3_23) rfl ?_
     refine XS.iconst X0.here hx rfl (hb hby d3_24) ?_
     exact kt
    by_cases hc10 : p1 = (3 : Int32)
    ·refine own_go (B := s₁.setTop (mkF m 31 #[.val (.int p1)] [(.int 29791)])) (fun tg kt => ?_) ?_
     ·refine XS.icmpNo X0.here hx rfl (hb hby d3_25) rfl (teq hc10).2 ?_
      refine XS.sipush X0.here hx rfl (hb hby d3_28) ?_
      exact kt
     obtain ⟨fs, hr, hrun, hended, hW, hsame⟩ := X0.leave (v := some (.int 29791)) (fun h => by rw [Bd.returns] at h; cases h)
     refine ⟨_, _, ?_, hrun, hended, _, _, rfl, ?_, ⟨_, rfl⟩, hW, hsame.mono (by decide) (by decide)⟩
     ·exact retI X0 hx Bd.returns (hb hby d3_31) hr
     ·show Q3 Z p1 h0 n0 _ s₁.heap _
      rw [e0]
      exact ⟨(by simp only [own_pw, if_neg hc4, if_neg hc6, if_neg hc8, if_pos hc10]), N0, rfl⟩
    ·refine own_go (B := s₁.setTop (mkF m 34 #[.val (.int p1)] [(.int 4), (.int p1)])) (fun tg kt => ?_) ?_
     ·refine XS.icmpYes X0.here hx rfl (pc0 := 25) (pc' := 32) rfl (hb hby d3_25) rfl (feq hc10).2 (by decide) (by decide) ?_
      refine XS.iloadN X0.here hx rfl (hb hby d3_32) rfl ?_
      refine XS.iconst X0.here hx rfl (hb hby d3_33) ?_
      exact kt
     by_cases hc12 : p1 = (4 : Int32)
     ·refine own_go (B := s₁.setTop (mkF m 39 #[.val (.int p1)] [(.int 923521)])) (fun tg kt => ?_) ?_
      ·refine XS.icmpNo X0.here hx rfl (hb hby d3_34) rfl (teq hc12).2 ?_
       refine X0.ldcInt hx hown (mvT hZ (hw _ (List.mem_of_getElem? (i := 15) rfl))) (g := (mkF m 37 #[.val (.int p1)] [])) rfl (hb hby d3_37) _ ?_
       exact kt
      obtain ⟨fs, hr, hrun, hended, hW, hsame⟩ := X0.leave (v := some (.int 923521)) (fun h => by rw [Bd.returns] at h; cases h)
      refine ⟨_, _, ?_, hrun, hended, _, _, rfl, ?_, ⟨_, rfl⟩, hW, hsame.mono (by decide) (by decide)⟩
      ·exact retI X0 hx Bd.returns (hb hby d3_39) hr
      ·show Q3 Z p1 h0 n0 _ s₁.heap _
       rw [e0]
       exact ⟨(by simp only [own_pw, if_neg hc4, if_neg hc6, if_neg hc8, if_neg hc10, if_pos hc12]), N0, rfl⟩
     ·refine own_go (B := s₁.setTop (mkF m 42 #[.val (.int p1)] [(.int 5), (.int p1)])) (fun tg kt => ?_) ?_
      ·refine XS.icmpYes X0.here hx rfl (pc0 := 34) (pc' := 40) rfl (hb hby d3_34) rfl (feq hc12).2 (by decide) (by decide) ?_
       refine XS.iloadN X0.here hx rfl (hb hby d3_40) rfl ?_
       refine XS.iconst X0.here hx rfl (hb hby d3_41) ?_
       exact kt
      by_cases hc14 : p1 = (5 : Int32)
      ·refine own_go (B := s₁.setTop (mkF m 47 #[.val (.int p1)] [(.int 28629151)])) (fun tg kt => ?_) ?_
       ·refine XS.icmpNo X0.here hx rfl (hb hby d3_42) rfl (teq hc14).2 ?_
        refine X0.ldcInt hx hown (mvT hZ (hw _ (List.mem_of_getElem? (i := 14) rfl))) (g := (mkF m 45 #[.val (.int p1)] [])) rfl (hb hby d3_45) _ ?_
        exact kt
       obtain ⟨fs, hr, hrun, hended, hW, hsame⟩ := X0.leave (v := some (.int 28629151)) (fun h => by rw [Bd.returns] at h; cases h)
       refine ⟨_, _, ?_, hrun, hended, _, _, rfl, ?_, ⟨_, rfl⟩, hW, hsame.mono (by decide) (by decide)⟩
       ·exact retI X0 hx Bd.returns (hb hby d3_47) hr
       ·show Q3 Z p1 h0 n0 _ s₁.heap _
        rw [e0]
        exact ⟨(by simp only [own_pw, if_neg hc4, if_neg hc6, if_neg hc8, if_neg hc10, if_neg hc12, if_pos hc14]), N0, rfl⟩
      ·refine own_go (B := s₁.setTop (mkF m 50 #[.val (.int p1)] [(.int 887503681)])) (fun tg kt => ?_) ?_
       ·refine XS.icmpYes X0.here hx rfl (pc0 := 42) (pc' := 48) rfl (hb hby d3_42) rfl (feq hc14).2 (by decide) (by decide) ?_
        refine X0.ldcInt hx hown (mvT hZ (hw _ (List.mem_of_getElem? (i := 13) rfl))) (g := (mkF m 48 #[.val (.int p1)] [])) rfl (hb hby d3_48) _ ?_
        exact kt
       obtain ⟨fs, hr, hrun, hended, hW, hsame⟩ := X0.leave (v := some (.int 887503681)) (fun h => by rw [Bd.returns] at h; cases h)
       refine ⟨_, _, ?_, hrun, hended, _, _, rfl, ?_, ⟨_, rfl⟩, hW, hsame.mono (by decide) (by decide)⟩
       ·exact retI X0 hx Bd.returns (hb hby d3_50) hr
       ·show Q3 Z p1 h0 n0 _ s₁.heap _
        rw [e0]
        exact ⟨(by simp only [own_pw, if_neg hc4, if_neg hc6, if_neg hc8, if_neg hc10, if_neg hc12, if_neg hc14]), N0, rfl⟩
theorem pn_69 : plainName "java/lang/StringUTF16" = true := by first | (simp [plainName, overriddenIn]; done) | decide +kernel
theorem d8_0 : decode jdk_52_method_21_code 0 = .ok (.iconst 0, 1) := by decide +kernel
theorem d8_1 : decode jdk_52_method_21_code 1 = .ok (.istore 5, 2) := by decide +kernel
theorem d8_3 : decode jdk_52_method_21_code 3 = .ok (.iload 5, 2) := by decide +kernel
theorem d8_5 : decode jdk_52_method_21_code 5 = .ok (.iload 4, 2) := by decide +kernel
theorem d8_7 : decode jdk_52_method_21_code 7 = .ok (.if_icmp .ge 37, 3) := by decide +kernel
theorem d8_10 : decode jdk_52_method_21_code 10 = .ok (.aload_n 0, 1) := by decide +kernel
theorem d8_11 : decode jdk_52_method_21_code 11 = .ok (.iload_n 1, 1) := by decide +kernel
theorem d8_12 : decode jdk_52_method_21_code 12 = .ok (.caload, 1) := by decide +kernel
theorem d8_13 : decode jdk_52_method_21_code 13 = .ok (.istore 6, 2) := by decide +kernel
theorem d8_15 : decode jdk_52_method_21_code 15 = .ok (.iload 6, 2) := by decide +kernel
theorem d8_17 : decode jdk_52_method_21_code 17 = .ok (.sipush 255, 3) := by decide +kernel
theorem d8_20 : decode jdk_52_method_21_code 20 = .ok (.if_icmp .le 6, 3) := by decide +kernel
theorem d8_23 : decode jdk_52_method_21_code 23 = .ok (.iload 5, 2) := by decide +kernel
theorem d8_25 : decode jdk_52_method_21_code 25 = .ok (.ireturn, 1) := by decide +kernel
theorem d8_26 : decode jdk_52_method_21_code 26 = .ok (.aload_n 2, 1) := by decide +kernel
theorem d8_27 : decode jdk_52_method_21_code 27 = .ok (.iload_n 3, 1) := by decide +kernel
theorem d8_28 : decode jdk_52_method_21_code 28 = .ok (.iload 6, 2) := by decide +kernel
theorem d8_30 : decode jdk_52_method_21_code 30 = .ok (.i2b, 1) := by decide +kernel
theorem d8_31 : decode jdk_52_method_21_code 31 = .ok (.bastore, 1) := by decide +kernel
theorem d8_32 : decode jdk_52_method_21_code 32 = .ok (.iinc 1 1, 3) := by decide +kernel
theorem d8_35 : decode jdk_52_method_21_code 35 = .ok (.iinc 3 1, 3) := by decide +kernel
theorem d8_38 : decode jdk_52_method_21_code 38 = .ok (.iinc 5 1, 3) := by decide +kernel
theorem d8_41 : decode jdk_52_method_21_code 41 = .ok (.goto (-38), 3) := by decide +kernel
theorem d8_44 : decode jdk_52_method_21_code 44 = .ok (.iload 4, 2) := by decide +kernel
theorem d8_46 : decode jdk_52_method_21_code 46 = .ok (.ireturn, 1) := by decide +kernel
theorem ef_8 (m : MethodId) (a1 : Addr) (a2 : Addr) : entryFrame m #[(.ref a1), (.int 0), (.ref a2), (.int 0), (.int 7)] 7 = mkF m 0 #[.val (.ref a1), .val (.int 0), .val (.ref a2), .val (.int 0), .val (.int 7), .unset, .unset] [] := by first | (simp [entryFrame, mkF, argsToLocals, Value.category]; done) | rfl
def Q8 (Z : State) (a1 : Addr) (a2 : Addr) (k1 : ClassId) (k2 : ClassId) (cs : Nat → Int32) (h0 : Heap) (n0 : Nat) (v : Option Value) (h : Heap) (L : List Loc) : Prop := ∃ (r : Nat) (g : Nat → Int32), v = some (.int (Int32.ofNat r)) ∧ Fr n0 L ∧ Keep h0 h [a2] ∧ Arv Z h a2 k2 .byte (7 : Int32) (own_tab 7 g) (.int 0) ∧ ((r = 7 ∧ (∀ i, i < 7 → ¬ (255 : Int32) < cs i) ∧ own_tab 7 g = own_tab 7 (own_l cs)) ∨ (r < 7 ∧ (255 : Int32) < cs r))
set_option maxRecDepth 65536 in
set_option maxHeartbeats 40000000 in
theorem rm8 (l : Launch) (Z : State) (a0 : Array Value) (hw : ∀ d ∈ tables_1, d.before a0 Z = true) (ws : List Jvm.Cond) (a1 : Addr) (a2 : Addr) (k1 : ClassId) (k2 : ClassId) (cs : Nat → Int32) (h0 : Heap) (n0 : Nat) (Z0 : n0 ≤ h0.size) (V_a1 : Arv Z h0 a1 k1 .char (7 : Int32) (own_tab 7 cs) (.int 0)) (V_a2 : Arv Z h0 a2 k2 .byte (7 : Int32) (own_tab 7 (fun _ => 0)) (.int 0)) (g_a2 : n0 ≤ a2) (n_12 : a1 ≠ a2) :
  MetFree l (⟨"java/lang/StringUTF16", "compress", "([CI[BII)I"⟩ : MethodName) (head1 (Jvm.Cond.code (⟨"java/lang/StringUTF16", "compress", "([CI[BII)I"⟩ : MethodName) jdk_52_method_21_code 7 (some .int) :: ws) ({ frames := 0, cells := 0, slots := 0, locals := 0 } : Room)) (fun a U => a = #[(.ref a1), (.int 0), (.ref a2), (.int 0), (.int 7)] ∧ Z.Warmed39 U.vm ∧ U.heap = h0) (fun _ _ _ _ _ => True) (fun _ U o U' => ∃ v L, o = .returned v ∧ Q8 Z a1 a2 k1 k2 cs h0 n0 v U'.heap L ∧ FrameEnd U o U' L ({ frames := 0, cells := 0, slots := 0, locals := 0 } : Room).cells ({ frames := 0, cells := 0, slots := 0, locals := 0 } : Room).slots) := by
 refine MetFree.of_bodySF (plainFor_of_name pn_69) hisR ?_
 intro p e s m args below meth c s₁ Bd hml0 hP hK
 obtain ⟨rfl, hZ, hh⟩ := hP
 have hx := Bd.exec
 have hby := Bd.bytes
 have hml : c.maxLocals = 7 := hml0
 have hown : s.vm.findClass "java/lang/StringUTF16" = some m.cls := findClass_of_methodNamed Bd.named
 have hnm := (name_of_methodNamed Bd.named Bd.method).1
 have X0 : Stand p l e ({ frames := 0, cells := 0, slots := 0, locals := 0 } : Room) s m #[(.ref a1), (.int 0), (.ref a2), (.int 0), (.int 7)] below meth c s₁ [] 0 0 := Stand.of_body Bd
 have e0 : s₁.heap = h0 := by rw [← hh, Bd.state]; rfl
 have N0 := Fr.nil n0
 refine own_go (B := s₁.setTop (mkF m 0 #[.val (.ref a1), .val (.int 0), .val (.ref a2), .val (.int 0), .val (.int 7), .unset, .unset] [])) (fun t k => castTop (ef_8 m a1 a2) k) ?_
 refine own_go (B := s₁.setTop (mkF m 3 #[.val (.ref a1), .val (.int 0), .val (.ref a2), .val (.int 0), .val (.int 7), .val (.int 0), .unset] [])) (fun tg kt => ?_) ?_
 ·refine XS.iconst X0.here hx rfl (hb hby d8_0) ?_
  refine XS.istore X0.here hx rfl (hb hby d8_1) rfl (l' := #[.val (.ref a1), .val (.int 0), .val (.ref a2), .val (.int 0), .val (.int 7), .val (.int 0), .unset]) rfl ?_
  exact kt
 have loop17 : ∀ (k t : Nat) (T_17 : State) (h_17 : Heap) (lo_17 : List Loc) (z17_6 : Slot), k + t = 7 → Stand p l e ({ frames := 0, cells := 0, slots := 0, locals := 0 } : Room) s m #[(.ref a1), (.int 0), (.ref a2), (.int 0), (.int 7)] below meth c T_17 lo_17 0 0 → T_17.heap = h_17 → Fr n0 lo_17 → Keep h0 h_17 [a2] → One z17_6 → Arv Z h_17 a2 k2 .byte (7 : Int32) (own_tab 7 (own_lo cs t)) (.int 0) → (∀ i, i < t → ¬ (255 : Int32) < cs i) → ∃ s₂ o, Steps p.tables e below (T_17.setTop (mkF m 3 #[.val (.ref a1), .val (.int (Int32.ofNat t)), .val (.ref a2), .val (.int (Int32.ofNat t)), .val (.int 7), .val (.int (Int32.ofNat t)), z17_6] [])) s₂ ∧ s₂.status = .running ∧ Ended s₂ below o ∧ ∃ v L, o = .returned v ∧ Q8 Z a1 a2 k1 k2 cs h0 n0 v s₂.heap L ∧ FrameEnd s o s₂ L ({ frames := 0, cells := 0, slots := 0, locals := 0 } : Room).cells ({ frames := 0, cells := 0, slots := 0, locals := 0 } : Room).slots := by
  intro k
  induction k with
  | zero =>
   intro t T_17 h_17 lo_17 z17_6 hkt17 X_17 e_17 N_17 K_17 hz17_6 fl17_0 hle_17
   obtain rfl : t = 7 := by omega
   refine own_go (B := T_17.setTop (mkF m 46 #[.val (.ref a1), .val (.int (Int32.ofNat 7)), .val (.ref a2), .val (.int (Int32.ofNat 7)), .val (.int 7), .val (.int (Int32.ofNat 7)), z17_6] [(.int 7)])) (fun tg kt => ?_) ?_
   ·refine XS.iload X_17.here hx rfl (hb hby d8_3) rfl ?_
    refine XS.iload X_17.here hx rfl (hb hby d8_5) rfl ?_
    refine XS.icmpYes X_17.here hx rfl (pc0 := 7) (pc' := 44) rfl (hb hby d8_7) rfl (flt (show ¬ ((Int32.ofNat 7) < (7 : Int32)) from (by decide))).2.1 (by decide) (by decide) ?_
    refine XS.iload X_17.here hx rfl (hb hby d8_44) rfl ?_
    exact kt
   obtain ⟨fs, hr, hrun, hended, hW, hsame⟩ := X_17.leave (v := some (.int 7)) (fun h => by rw [Bd.returns] at h; cases h)
   refine ⟨_, _, ?_, hrun, hended, _, _, rfl, ?_, ⟨_, rfl⟩, hW, hsame.mono (by decide) (by decide)⟩
   ·exact retI X_17 hx Bd.returns (hb hby d8_46) hr
   ·show Q8 Z a1 a2 k1 k2 cs h0 n0 _ T_17.heap _
    rw [e_17]
    exact ⟨7, (own_lo cs 7), rfl, N_17, K_17, fl17_0, (Or.inl ⟨rfl, hle_17, own_lo7 cs⟩)⟩
  | succ k ih17 =>
   intro t T_17 h_17 lo_17 z17_6 hkt17 X_17 e_17 N_17 K_17 hz17_6 fl17_0 hle_17
   have ht17 : t < 7 := by omega
   refine own_go (B := T_17.setTop (mkF m 12 #[.val (.ref a1), .val (.int (Int32.ofNat t)), .val (.ref a2), .val (.int (Int32.ofNat t)), .val (.int 7), .val (.int (Int32.ofNat t)), z17_6] [(.int (Int32.ofNat t)), (.ref a1)])) (fun tg kt => ?_) ?_
   ·refine XS.iload X_17.here hx rfl (hb hby d8_3) rfl ?_
    refine XS.iload X_17.here hx rfl (hb hby d8_5) rfl ?_
    refine XS.icmpNo X_17.here hx rfl (hb hby d8_7) rfl (tlt (show (Int32.ofNat t) < (7 : Int32) from (own_ltc ht17 (by decide) _ (by decide)).2)).2.1 ?_
    refine XS.aloadN X_17.here hx rfl (hb hby d8_10) rfl rfl ?_
    refine XS.iloadN X_17.here hx rfl (hb hby d8_11) rfl ?_
    exact kt
   have f19 : Arv Z h_17 a1 k1 .char (7 : Int32) (own_tab 7 cs) (.int 0) := (V_a1.keep K_17 (ninS n_12 nin0))
   obtain ⟨cl20, Ar20, cq20, cS20, cN20, cH20, cG20⟩ := id f19
   have hin20 := inb_of (j := (Int32.ofNat t)) cS20 (own_ltc ht17 (by decide) _ (by decide))
   have hat20 : cl20.slots[((Int32.ofNat t)).toNatClampNeg]? = some (.int (cs t)) := Has.at cH20 hin20 (own_at cs _ (own_toInt (by omega)) (by omega))
   refine own_go (B := T_17.setTop (mkF m 20 #[.val (.ref a1), .val (.int (Int32.ofNat t)), .val (.ref a2), .val (.int (Int32.ofNat t)), .val (.int 7), .val (.int (Int32.ofNat t)), .val (.int (cs t))] [(.int 255), (.int (cs t))])) (fun tg kt => ?_) ?_
   ·refine X_17.caload hx (j := (Int32.ofNat t)) (v := (.int (cs t))) (by rw [e_17]; exact Ar20.1) (State.isArrayOf_alike hZ.alike Ar20.2.1) Ar20.2.2 hin20 hat20 (g := (mkF m 12 #[.val (.ref a1), .val (.int (Int32.ofNat t)), .val (.ref a2), .val (.int (Int32.ofNat t)), .val (.int 7), .val (.int (Int32.ofNat t)), z17_6] [(.int (Int32.ofNat t)), (.ref a1)])) rfl rfl (hb hby d8_12) _ ?_
    refine XS.istoreS X_17.here hx rfl (hb hby d8_13) rfl rfl hz17_6 ?_
    refine XS.iload X_17.here hx rfl (hb hby d8_15) rfl ?_
    refine XS.sipush X_17.here hx rfl (hb hby d8_17) ?_
    exact kt
   by_cases hc21 : (255 : Int32) < (cs t)
   ·refine own_go (B := T_17.setTop (mkF m 25 #[.val (.ref a1), .val (.int (Int32.ofNat t)), .val (.ref a2), .val (.int (Int32.ofNat t)), .val (.int 7), .val (.int (Int32.ofNat t)), .val (.int (cs t))] [(.int (Int32.ofNat t))])) (fun tg kt => ?_) ?_
    ·refine XS.icmpNo X_17.here hx rfl (hb hby d8_20) rfl (tlt hc21).2.2.2 ?_
     refine XS.iload X_17.here hx rfl (hb hby d8_23) rfl ?_
     exact kt
    obtain ⟨fs, hr, hrun, hended, hW, hsame⟩ := X_17.leave (v := some (.int (Int32.ofNat t))) (fun h => by rw [Bd.returns] at h; cases h)
    refine ⟨_, _, ?_, hrun, hended, _, _, rfl, ?_, ⟨_, rfl⟩, hW, hsame.mono (by decide) (by decide)⟩
    ·exact retI X_17 hx Bd.returns (hb hby d8_25) hr
    ·show Q8 Z a1 a2 k1 k2 cs h0 n0 _ T_17.heap _
     rw [e_17]
     exact ⟨t, (own_lo cs t), rfl, N_17, K_17, fl17_0, (Or.inr ⟨ht17, hc21⟩)⟩
   ·refine own_go (B := T_17.setTop (mkF m 31 #[.val (.ref a1), .val (.int (Int32.ofNat t)), .val (.ref a2), .val (.int (Int32.ofNat t)), .val (.int 7), .val (.int (Int32.ofNat t)), .val (.int (cs t))] [(.int ((cs t).toInt8.toInt32)), (.int (Int32.ofNat t)), (.ref a2)])) (fun tg kt => ?_) ?_
    ·refine XS.icmpYes X_17.here hx rfl (pc0 := 20) (pc' := 26) rfl (hb hby d8_20) rfl (flt hc21).2.2.2 (by decide) (by decide) ?_
     refine XS.aloadN X_17.here hx rfl (hb hby d8_26) rfl rfl ?_
     refine XS.iloadN X_17.here hx rfl (hb hby d8_27) rfl ?_
     refine XS.iload X_17.here hx rfl (hb hby d8_28) rfl ?_
     refine XS.i2b X_17.here hx rfl (hb hby d8_30) rfl ?_
     exact kt
    obtain ⟨cl23, Ar23, cq23, cS23, cN23, cH23, cG23⟩ := id fl17_0
    have hin23 := inb_of (j := (Int32.ofNat t)) cS23 (own_ltc ht17 (by decide) _ (by decide))
    obtain ⟨T23, h23, X23, e23, W23, st23⟩ := stB X_17 hx hZ e_17 Ar23 (j := (Int32.ofNat t)) hin23 (g := (mkF m 31 #[.val (.ref a1), .val (.int (Int32.ofNat t)), .val (.ref a2), .val (.int (Int32.ofNat t)), .val (.int 7), .val (.int (Int32.ofNat t)), .val (.int (cs t))] [(.int ((cs t).toInt8.toInt32)), (.int (Int32.ofNat t)), (.ref a2)])) rfl rfl (hb hby d8_31)
    refine own_go st23 ?_
    have V23 : Arv Z h23 a2 k2 .byte (7 : Int32) (own_tab 7 (own_lo cs (t + 1))) (.int 0) := by have q := Arv.set Ar23 cq23 cS23 cN23 cH23 cG23 (fits_nar_byte _) W23 t (own_nat (by omega)) (by rw [own_tab_len]; omega); rw [own_tab_set _ _ (by omega), own_narB] at q; exact q
    have K23 : Keep h0 h23 [a2] := Keep.wr K_17 W23 (Or.inl (List.mem_of_getElem? (i := 0) rfl))
    have N23 := Fr.snoc X23 N_17 g_a2
    refine own_go (B := T23.setTop (mkF m 3 #[.val (.ref a1), .val (.int ((Int32.ofNat t) + (1 : Int32))), .val (.ref a2), .val (.int ((Int32.ofNat t) + (1 : Int32))), .val (.int 7), .val (.int ((Int32.ofNat t) + (1 : Int32))), .val (.int (cs t))] [])) (fun tg kt => ?_) ?_
    ·refine XS.iinc X23.here hx rfl (hb hby d8_32) rfl (l' := #[.val (.ref a1), .val (.int ((Int32.ofNat t) + (1 : Int32))), .val (.ref a2), .val (.int (Int32.ofNat t)), .val (.int 7), .val (.int (Int32.ofNat t)), .val (.int (cs t))]) rfl ?_
     refine XS.iinc X23.here hx rfl (hb hby d8_35) rfl (l' := #[.val (.ref a1), .val (.int ((Int32.ofNat t) + (1 : Int32))), .val (.ref a2), .val (.int ((Int32.ofNat t) + (1 : Int32))), .val (.int 7), .val (.int (Int32.ofNat t)), .val (.int (cs t))]) rfl ?_
     refine XS.iinc X23.here hx rfl (hb hby d8_38) rfl (l' := #[.val (.ref a1), .val (.int ((Int32.ofNat t) + (1 : Int32))), .val (.ref a2), .val (.int ((Int32.ofNat t) + (1 : Int32))), .val (.int 7), .val (.int ((Int32.ofNat t) + (1 : Int32))), .val (.int (cs t))]) rfl ?_
     refine XS.goto X23.here hx rfl (pc0 := 41) (pc' := 3) rfl (hb hby d8_41) (by decide) (by decide) ?_
     exact kt
    rw [show ((Int32.ofNat t) + (1 : Int32)) = (Int32.ofNat (t + 1)) from own_isucc _]
    exact ih17 (t + 1) T23 h23 _ _ (by omega) X23 e23 N23 K23 (One.val rfl) V23 (own_step hle_17 hc21)
 exact loop17 7 0 s₁ h0 _ _ rfl X0 e0 N0 (Keep.refl h0 [a2]) One.u V_a2 (fun i h => absurd h (Nat.not_lt_zero i))
theorem pd_0 : parseMethodDescriptor "(I)I" = some ⟨[.int], some .int⟩ := by decide +kernel
theorem d2_0 : decode method_4_code 0 = .ok (.iload_n 3, 1) := by decide +kernel
theorem d2_1 : decode method_4_code 1 = .ok (.iload_n 2, 1) := by decide +kernel
theorem d2_2 : decode method_4_code 2 = .ok (.if_icmp .ge 20, 3) := by decide +kernel
theorem d2_5 : decode method_4_code 5 = .ok (.aload_n 0, 1) := by decide +kernel
theorem d2_6 : decode method_4_code 6 = .ok (.iload_n 1, 1) := by decide +kernel
theorem d2_7 : decode method_4_code 7 = .ok (.iload_n 3, 1) := by decide +kernel
theorem d2_8 : decode method_4_code 8 = .ok (.iadd, 1) := by decide +kernel
theorem d2_9 : decode method_4_code 9 = .ok (.caload, 1) := by decide +kernel
theorem d2_10 : decode method_4_code 10 = .ok (.iload_n 2, 1) := by decide +kernel
theorem d2_11 : decode method_4_code 11 = .ok (.iconst 1, 1) := by decide +kernel
theorem d2_12 : decode method_4_code 12 = .ok (.isub, 1) := by decide +kernel
theorem d2_13 : decode method_4_code 13 = .ok (.iload_n 3, 1) := by decide +kernel
theorem d2_14 : decode method_4_code 14 = .ok (.isub, 1) := by decide +kernel
theorem d2_15 : decode method_4_code 15 = .ok (.invokestatic 37, 3) := by decide +kernel
theorem d2_18 : decode method_4_code 18 = .ok (.imul, 1) := by decide +kernel
theorem d2_19 : decode method_4_code 19 = .ok (.goto 4, 3) := by decide +kernel
theorem d2_22 : decode method_4_code 22 = .ok (.iconst 0, 1) := by decide +kernel
theorem d2_23 : decode method_4_code 23 = .ok (.ireturn, 1) := by decide +kernel
theorem ef_2_0 (m : MethodId) (a1 : Addr) (p2 : Int32) (p3 : Int32) : entryFrame m #[(.ref a1), (.int p2), (.int p3), (.int 0)] 4 = mkF m 0 #[.val (.ref a1), .val (.int p2), .val (.int p3), .val (.int 0)] [] := by first | (simp [entryFrame, mkF, argsToLocals, Value.category]; done) | rfl
def Q2_0 (Z : State) (a1 : Addr) (p2 : Int32) (p3 : Int32) (k1 : ClassId) (cs : Nat → Int32) (si : Nat) (ni : Nat) (h0 : Heap) (n0 : Nat) (v : Option Value) (h : Heap) (L : List Loc) : Prop := v = some (.int (own_term cs si p3 0)) ∧ Fr n0 L ∧ h = h0
set_option maxRecDepth 65536 in
set_option maxHeartbeats 40000000 in
theorem rm2_0 (l : Launch) (Z : State) (a0 : Array Value) (hw : ∀ d ∈ tables_1, d.before a0 Z = true) (ws : List Jvm.Cond) (a1 : Addr) (p2 : Int32) (p3 : Int32) (k1 : ClassId) (cs : Nat → Int32) (si : Nat) (ni : Nat) (h0 : Heap) (n0 : Nat) (Z0 : n0 ≤ h0.size) (V_a1 : Arv Z h0 a1 k1 .char (7 : Int32) (own_tab 7 cs) (.int 0)) (hs : p2.toInt = si ∧ p3.toInt = ni ∧ si + ni ≤ 7) :
  MetFree l (⟨"com/example/restate/restate/WordsHashPinLaw", "term", "([CIII)I"⟩ : MethodName) (head1 (Jvm.Cond.code (⟨"com/example/restate/restate/WordsHashPinLaw", "term", "([CIII)I"⟩ : MethodName) method_4_code 4 (some .int) :: ws) ({ frames := 1, cells := 0, slots := 0, locals := 13 } : Room)) (fun a U => a = #[(.ref a1), (.int p2), (.int p3), (.int 0)] ∧ Z.Warmed39 U.vm ∧ U.heap = h0) (fun _ _ _ _ _ => True) (fun _ U o U' => ∃ v L, o = .returned v ∧ Q2_0 Z a1 p2 p3 k1 cs si ni h0 n0 v U'.heap L ∧ FrameEnd U o U' L ({ frames := 1, cells := 0, slots := 0, locals := 13 } : Room).cells ({ frames := 1, cells := 0, slots := 0, locals := 13 } : Room).slots) := by
 refine MetFree.of_bodySF (plainFor_of_name pn_12) hisR ?_
 intro p e s m args below meth c s₁ Bd hml0 hP hK
 obtain ⟨rfl, hZ, hh⟩ := hP
 have hx := Bd.exec
 have hby := Bd.bytes
 have hml : c.maxLocals = 4 := hml0
 have hown : s.vm.findClass "com/example/restate/restate/WordsHashPinLaw" = some m.cls := findClass_of_methodNamed Bd.named
 have hnm := (name_of_methodNamed Bd.named Bd.method).1
 have X0 : Stand p l e ({ frames := 1, cells := 0, slots := 0, locals := 13 } : Room) s m #[(.ref a1), (.int p2), (.int p3), (.int 0)] below meth c s₁ [] 0 0 := Stand.of_body Bd
 have e0 : s₁.heap = h0 := by rw [← hh, Bd.state]; rfl
 have N0 := Fr.nil n0
 refine own_go (B := s₁.setTop (mkF m 0 #[.val (.ref a1), .val (.int p2), .val (.int p3), .val (.int 0)] [])) (fun t k => castTop (ef_2_0 m a1 p2 p3) k) ?_
 refine own_go (B := s₁.setTop (mkF m 2 #[.val (.ref a1), .val (.int p2), .val (.int p3), .val (.int 0)] [(.int p3), (.int 0)])) (fun tg kt => ?_) ?_
 ·refine XS.iloadN X0.here hx rfl (hb hby d2_0) rfl ?_
  refine XS.iloadN X0.here hx rfl (hb hby d2_1) rfl ?_
  exact kt
 by_cases hc24 : (0 : Int32) < p3
 ·refine own_go (B := s₁.setTop (mkF m 9 #[.val (.ref a1), .val (.int p2), .val (.int p3), .val (.int 0)] [(.int (p2 + (0 : Int32))), (.ref a1)])) (fun tg kt => ?_) ?_
  ·refine XS.icmpNo X0.here hx rfl (hb hby d2_2) rfl (tlt hc24).2.1 ?_
   refine XS.aloadN X0.here hx rfl (hb hby d2_5) rfl rfl ?_
   refine XS.iloadN X0.here hx rfl (hb hby d2_6) rfl ?_
   refine XS.iloadN X0.here hx rfl (hb hby d2_7) rfl ?_
   refine XS.iadd X0.here hx rfl (hb hby d2_8) rfl ?_
   exact kt
  obtain ⟨cl25, Ar25, cq25, cS25, cN25, cH25, cG25⟩ := id V_a1
  have hin25 := inb_of (j := (p2 + (0 : Int32))) cS25 (own_inb (N := 7) (own_tix (i := 0) (by decide) hs hc24).1 (own_tix (i := 0) (by decide) hs hc24).2 (by decide))
  have hat25 : cl25.slots[((p2 + (0 : Int32))).toNatClampNeg]? = some (.int (cs (si + 0))) := Has.at cH25 hin25 (own_at cs _ (own_tix (i := 0) (by decide) hs hc24).1 (own_tix (i := 0) (by decide) hs hc24).2)
  refine own_go (B := s₁.setTop (mkF m 15 #[.val (.ref a1), .val (.int p2), .val (.int p3), .val (.int 0)] [(.int ((p3 - (1 : Int32)) - (0 : Int32))), (.int (cs (si + 0)))])) (fun tg kt => ?_) ?_
  ·refine X0.caload hx (j := (p2 + (0 : Int32))) (v := (.int (cs (si + 0)))) (by rw [e0]; exact Ar25.1) (State.isArrayOf_alike hZ.alike Ar25.2.1) Ar25.2.2 hin25 hat25 (g := (mkF m 9 #[.val (.ref a1), .val (.int p2), .val (.int p3), .val (.int 0)] [(.int (p2 + (0 : Int32))), (.ref a1)])) rfl rfl (hb hby d2_9) _ ?_
   refine XS.iloadN X0.here hx rfl (hb hby d2_10) rfl ?_
   refine XS.iconst X0.here hx rfl (hb hby d2_11) ?_
   refine XS.isub X0.here hx rfl (hb hby d2_12) rfl ?_
   refine XS.iloadN X0.here hx rfl (hb hby d2_13) rfl ?_
   refine XS.isub X0.here hx rfl (hb hby d2_14) rfl ?_
   exact kt
  obtain ⟨_, _, ⟨T26, L26, k26, n26⟩, -, X26, ⟨Lc26, hQ26, l26, y26, z26⟩, st26⟩ := Jvm.LawKit.callS X0 hx (y := (⟨"com/example/restate/restate/WordsHashPinLaw", "pow31", "(I)I"⟩ : MethodName)) hown (mvT hZ (hw _ (List.mem_of_getElem? (i := 10) rfl))) (mvT hZ (hw _ (List.mem_of_getElem? (i := 11) rfl))) (mvT hZ (hw _ (List.mem_of_getElem? (i := 3) rfl))) (mvT hZ (hw _ (List.mem_of_getElem? (i := 12) rfl))) (by decide) (backOf (W := 1) (rm3 l Z a0 hw [] ((p3 - (1 : Int32)) - (0 : Int32)) h0 n0 Z0 ) hZ (hw _ (List.mem_of_getElem? (i := 12) rfl)) (hw _ (List.mem_of_getElem? (i := 3) rfl)) (by decide) (by decide)) (g := (mkF m 15 #[.val (.ref a1), .val (.int p2), .val (.int p3), .val (.int 0)] [(.int ((p3 - (1 : Int32)) - (0 : Int32))), (.int (cs (si + 0)))])) rfl (by rw [hml]; rfl) (argsL := [(.int ((p3 - (1 : Int32)) - (0 : Int32)))]) (rest := [(.int (cs (si + 0)))]) (lenOf pd_0 rfl) rfl (by show 2 * 0 + _ ≤ _; exact Nat.le_of_eq rfl) (hb hby d2_15) (fun _ _ => ⟨rfl, e0, (by decide : 0 + 0 ≤ _), (by decide : 0 + 0 ≤ _)⟩)
  dsimp only [Pt.U, Pt.locs, Pt.cells, Pt.slots] at X26 l26 y26 z26 st26 hQ26
  rw [l26, y26, z26] at X26
  obtain ⟨rfl, M26, q26_0⟩ := hQ26
  have N26 := Fr.app N0 M26
  refine own_go st26 ?_
  refine own_go (B := T26.setTop (mkF m 23 #[.val (.ref a1), .val (.int p2), .val (.int p3), .val (.int 0)] [(.int ((cs (si + 0)) * (own_pw ((p3 - (1 : Int32)) - (0 : Int32)))))])) (fun tg kt => ?_) ?_
  ·refine XS.imul X26.here hx rfl (hb hby d2_18) rfl ?_
   refine XS.goto X26.here hx rfl (pc0 := 19) (pc' := 23) rfl (hb hby d2_19) (by decide) (by decide) ?_
   exact kt
  obtain ⟨fs, hr, hrun, hended, hW, hsame⟩ := X26.leave (v := some (.int ((cs (si + 0)) * (own_pw ((p3 - (1 : Int32)) - (0 : Int32)))))) (fun h => by rw [Bd.returns] at h; cases h)
  refine ⟨_, _, ?_, hrun, hended, _, _, rfl, ?_, ⟨_, rfl⟩, hW, hsame.mono (by decide) (by decide)⟩
  ·exact retI X26 hx Bd.returns (hb hby d2_23) hr
  ·show Q2_0 Z a1 p2 p3 k1 cs si ni h0 n0 _ T26.heap _
   rw [q26_0]
   exact ⟨(by rw [own_term, if_pos hc24]; rfl), N26, rfl⟩
 ·refine own_go (B := s₁.setTop (mkF m 23 #[.val (.ref a1), .val (.int p2), .val (.int p3), .val (.int 0)] [(.int 0)])) (fun tg kt => ?_) ?_
  ·refine XS.icmpYes X0.here hx rfl (pc0 := 2) (pc' := 22) rfl (hb hby d2_2) rfl (flt hc24).2.1 (by decide) (by decide) ?_
   refine XS.iconst X0.here hx rfl (hb hby d2_22) ?_
   exact kt
  obtain ⟨fs, hr, hrun, hended, hW, hsame⟩ := X0.leave (v := some (.int 0)) (fun h => by rw [Bd.returns] at h; cases h)
  refine ⟨_, _, ?_, hrun, hended, _, _, rfl, ?_, ⟨_, rfl⟩, hW, hsame.mono (by decide) (by decide)⟩
  ·exact retI X0 hx Bd.returns (hb hby d2_23) hr
  ·show Q2_0 Z a1 p2 p3 k1 cs si ni h0 n0 _ s₁.heap _
   rw [e0]
   exact ⟨(by rw [own_term, if_neg hc24]), N0, rfl⟩
theorem ef_2_1 (m : MethodId) (a1 : Addr) (p2 : Int32) (p3 : Int32) : entryFrame m #[(.ref a1), (.int p2), (.int p3), (.int 1)] 4 = mkF m 0 #[.val (.ref a1), .val (.int p2), .val (.int p3), .val (.int 1)] [] := by first | (simp [entryFrame, mkF, argsToLocals, Value.category]; done) | rfl
def Q2_1 (Z : State) (a1 : Addr) (p2 : Int32) (p3 : Int32) (k1 : ClassId) (cs : Nat → Int32) (si : Nat) (ni : Nat) (h0 : Heap) (n0 : Nat) (v : Option Value) (h : Heap) (L : List Loc) : Prop := v = some (.int (own_term cs si p3 1)) ∧ Fr n0 L ∧ h = h0
set_option maxRecDepth 65536 in
set_option maxHeartbeats 40000000 in
theorem rm2_1 (l : Launch) (Z : State) (a0 : Array Value) (hw : ∀ d ∈ tables_1, d.before a0 Z = true) (ws : List Jvm.Cond) (a1 : Addr) (p2 : Int32) (p3 : Int32) (k1 : ClassId) (cs : Nat → Int32) (si : Nat) (ni : Nat) (h0 : Heap) (n0 : Nat) (Z0 : n0 ≤ h0.size) (V_a1 : Arv Z h0 a1 k1 .char (7 : Int32) (own_tab 7 cs) (.int 0)) (hs : p2.toInt = si ∧ p3.toInt = ni ∧ si + ni ≤ 7) :
  MetFree l (⟨"com/example/restate/restate/WordsHashPinLaw", "term", "([CIII)I"⟩ : MethodName) (head1 (Jvm.Cond.code (⟨"com/example/restate/restate/WordsHashPinLaw", "term", "([CIII)I"⟩ : MethodName) method_4_code 4 (some .int) :: ws) ({ frames := 1, cells := 0, slots := 0, locals := 13 } : Room)) (fun a U => a = #[(.ref a1), (.int p2), (.int p3), (.int 1)] ∧ Z.Warmed39 U.vm ∧ U.heap = h0) (fun _ _ _ _ _ => True) (fun _ U o U' => ∃ v L, o = .returned v ∧ Q2_1 Z a1 p2 p3 k1 cs si ni h0 n0 v U'.heap L ∧ FrameEnd U o U' L ({ frames := 1, cells := 0, slots := 0, locals := 13 } : Room).cells ({ frames := 1, cells := 0, slots := 0, locals := 13 } : Room).slots) := by
 refine MetFree.of_bodySF (plainFor_of_name pn_12) hisR ?_
 intro p e s m args below meth c s₁ Bd hml0 hP hK
 obtain ⟨rfl, hZ, hh⟩ := hP
 have hx := Bd.exec
 have hby := Bd.bytes
 have hml : c.maxLocals = 4 := hml0
 have hown : s.vm.findClass "com/example/restate/restate/WordsHashPinLaw" = some m.cls := findClass_of_methodNamed Bd.named
 have hnm := (name_of_methodNamed Bd.named Bd.method).1
 have X0 : Stand p l e ({ frames := 1, cells := 0, slots := 0, locals := 13 } : Room) s m #[(.ref a1), (.int p2), (.int p3), (.int 1)] below meth c s₁ [] 0 0 := Stand.of_body Bd
 have e0 : s₁.heap = h0 := by rw [← hh, Bd.state]; rfl
 have N0 := Fr.nil n0
 refine own_go (B := s₁.setTop (mkF m 0 #[.val (.ref a1), .val (.int p2), .val (.int p3), .val (.int 1)] [])) (fun t k => castTop (ef_2_1 m a1 p2 p3) k) ?_
 refine own_go (B := s₁.setTop (mkF m 2 #[.val (.ref a1), .val (.int p2), .val (.int p3), .val (.int 1)] [(.int p3), (.int 1)])) (fun tg kt => ?_) ?_
 ·refine XS.iloadN X0.here hx rfl (hb hby d2_0) rfl ?_
  refine XS.iloadN X0.here hx rfl (hb hby d2_1) rfl ?_
  exact kt
 by_cases hc29 : (1 : Int32) < p3
 ·refine own_go (B := s₁.setTop (mkF m 9 #[.val (.ref a1), .val (.int p2), .val (.int p3), .val (.int 1)] [(.int (p2 + (1 : Int32))), (.ref a1)])) (fun tg kt => ?_) ?_
  ·refine XS.icmpNo X0.here hx rfl (hb hby d2_2) rfl (tlt hc29).2.1 ?_
   refine XS.aloadN X0.here hx rfl (hb hby d2_5) rfl rfl ?_
   refine XS.iloadN X0.here hx rfl (hb hby d2_6) rfl ?_
   refine XS.iloadN X0.here hx rfl (hb hby d2_7) rfl ?_
   refine XS.iadd X0.here hx rfl (hb hby d2_8) rfl ?_
   exact kt
  obtain ⟨cl30, Ar30, cq30, cS30, cN30, cH30, cG30⟩ := id V_a1
  have hin30 := inb_of (j := (p2 + (1 : Int32))) cS30 (own_inb (N := 7) (own_tix (i := 1) (by decide) hs hc29).1 (own_tix (i := 1) (by decide) hs hc29).2 (by decide))
  have hat30 : cl30.slots[((p2 + (1 : Int32))).toNatClampNeg]? = some (.int (cs (si + 1))) := Has.at cH30 hin30 (own_at cs _ (own_tix (i := 1) (by decide) hs hc29).1 (own_tix (i := 1) (by decide) hs hc29).2)
  refine own_go (B := s₁.setTop (mkF m 15 #[.val (.ref a1), .val (.int p2), .val (.int p3), .val (.int 1)] [(.int ((p3 - (1 : Int32)) - (1 : Int32))), (.int (cs (si + 1)))])) (fun tg kt => ?_) ?_
  ·refine X0.caload hx (j := (p2 + (1 : Int32))) (v := (.int (cs (si + 1)))) (by rw [e0]; exact Ar30.1) (State.isArrayOf_alike hZ.alike Ar30.2.1) Ar30.2.2 hin30 hat30 (g := (mkF m 9 #[.val (.ref a1), .val (.int p2), .val (.int p3), .val (.int 1)] [(.int (p2 + (1 : Int32))), (.ref a1)])) rfl rfl (hb hby d2_9) _ ?_
   refine XS.iloadN X0.here hx rfl (hb hby d2_10) rfl ?_
   refine XS.iconst X0.here hx rfl (hb hby d2_11) ?_
   refine XS.isub X0.here hx rfl (hb hby d2_12) rfl ?_
   refine XS.iloadN X0.here hx rfl (hb hby d2_13) rfl ?_
   refine XS.isub X0.here hx rfl (hb hby d2_14) rfl ?_
   exact kt
  obtain ⟨_, _, ⟨T31, L31, k31, n31⟩, -, X31, ⟨Lc31, hQ31, l31, y31, z31⟩, st31⟩ := Jvm.LawKit.callS X0 hx (y := (⟨"com/example/restate/restate/WordsHashPinLaw", "pow31", "(I)I"⟩ : MethodName)) hown (mvT hZ (hw _ (List.mem_of_getElem? (i := 10) rfl))) (mvT hZ (hw _ (List.mem_of_getElem? (i := 11) rfl))) (mvT hZ (hw _ (List.mem_of_getElem? (i := 3) rfl))) (mvT hZ (hw _ (List.mem_of_getElem? (i := 12) rfl))) (by decide) (backOf (W := 1) (rm3 l Z a0 hw [] ((p3 - (1 : Int32)) - (1 : Int32)) h0 n0 Z0 ) hZ (hw _ (List.mem_of_getElem? (i := 12) rfl)) (hw _ (List.mem_of_getElem? (i := 3) rfl)) (by decide) (by decide)) (g := (mkF m 15 #[.val (.ref a1), .val (.int p2), .val (.int p3), .val (.int 1)] [(.int ((p3 - (1 : Int32)) - (1 : Int32))), (.int (cs (si + 1)))])) rfl (by rw [hml]; rfl) (argsL := [(.int ((p3 - (1 : Int32)) - (1 : Int32)))]) (rest := [(.int (cs (si + 1)))]) (lenOf pd_0 rfl) rfl (by show 2 * 0 + _ ≤ _; exact Nat.le_of_eq rfl) (hb hby d2_15) (fun _ _ => ⟨rfl, e0, (by decide : 0 + 0 ≤ _), (by decide : 0 + 0 ≤ _)⟩)
  dsimp only [Pt.U, Pt.locs, Pt.cells, Pt.slots] at X31 l31 y31 z31 st31 hQ31
  rw [l31, y31, z31] at X31
  obtain ⟨rfl, M31, q31_0⟩ := hQ31
  have N31 := Fr.app N0 M31
  refine own_go st31 ?_
  refine own_go (B := T31.setTop (mkF m 23 #[.val (.ref a1), .val (.int p2), .val (.int p3), .val (.int 1)] [(.int ((cs (si + 1)) * (own_pw ((p3 - (1 : Int32)) - (1 : Int32)))))])) (fun tg kt => ?_) ?_
  ·refine XS.imul X31.here hx rfl (hb hby d2_18) rfl ?_
   refine XS.goto X31.here hx rfl (pc0 := 19) (pc' := 23) rfl (hb hby d2_19) (by decide) (by decide) ?_
   exact kt
  obtain ⟨fs, hr, hrun, hended, hW, hsame⟩ := X31.leave (v := some (.int ((cs (si + 1)) * (own_pw ((p3 - (1 : Int32)) - (1 : Int32)))))) (fun h => by rw [Bd.returns] at h; cases h)
  refine ⟨_, _, ?_, hrun, hended, _, _, rfl, ?_, ⟨_, rfl⟩, hW, hsame.mono (by decide) (by decide)⟩
  ·exact retI X31 hx Bd.returns (hb hby d2_23) hr
  ·show Q2_1 Z a1 p2 p3 k1 cs si ni h0 n0 _ T31.heap _
   rw [q31_0]
   exact ⟨(by rw [own_term, if_pos hc29]; rfl), N31, rfl⟩
 ·refine own_go (B := s₁.setTop (mkF m 23 #[.val (.ref a1), .val (.int p2), .val (.int p3), .val (.int 1)] [(.int 0)])) (fun tg kt => ?_) ?_
  ·refine XS.icmpYes X0.here hx rfl (pc0 := 2) (pc' := 22) rfl (hb hby d2_2) rfl (flt hc29).2.1 (by decide) (by decide) ?_
   refine XS.iconst X0.here hx rfl (hb hby d2_22) ?_
   exact kt
  obtain ⟨fs, hr, hrun, hended, hW, hsame⟩ := X0.leave (v := some (.int 0)) (fun h => by rw [Bd.returns] at h; cases h)
  refine ⟨_, _, ?_, hrun, hended, _, _, rfl, ?_, ⟨_, rfl⟩, hW, hsame.mono (by decide) (by decide)⟩
  ·exact retI X0 hx Bd.returns (hb hby d2_23) hr
  ·show Q2_1 Z a1 p2 p3 k1 cs si ni h0 n0 _ s₁.heap _
   rw [e0]
   exact ⟨(by rw [own_term, if_neg hc29]), N0, rfl⟩
theorem ef_2_2 (m : MethodId) (a1 : Addr) (p2 : Int32) (p3 : Int32) : entryFrame m #[(.ref a1), (.int p2), (.int p3), (.int 2)] 4 = mkF m 0 #[.val (.ref a1), .val (.int p2), .val (.int p3), .val (.int 2)] [] := by first | (simp [entryFrame, mkF, argsToLocals, Value.category]; done) | rfl
def Q2_2 (Z : State) (a1 : Addr) (p2 : Int32) (p3 : Int32) (k1 : ClassId) (cs : Nat → Int32) (si : Nat) (ni : Nat) (h0 : Heap) (n0 : Nat) (v : Option Value) (h : Heap) (L : List Loc) : Prop := v = some (.int (own_term cs si p3 2)) ∧ Fr n0 L ∧ h = h0
set_option maxRecDepth 65536 in
set_option maxHeartbeats 40000000 in
theorem rm2_2 (l : Launch) (Z : State) (a0 : Array Value) (hw : ∀ d ∈ tables_1, d.before a0 Z = true) (ws : List Jvm.Cond) (a1 : Addr) (p2 : Int32) (p3 : Int32) (k1 : ClassId) (cs : Nat → Int32) (si : Nat) (ni : Nat) (h0 : Heap) (n0 : Nat) (Z0 : n0 ≤ h0.size) (V_a1 : Arv Z h0 a1 k1 .char (7 : Int32) (own_tab 7 cs) (.int 0)) (hs : p2.toInt = si ∧ p3.toInt = ni ∧ si + ni ≤ 7) :
  MetFree l (⟨"com/example/restate/restate/WordsHashPinLaw", "term", "([CIII)I"⟩ : MethodName) (head1 (Jvm.Cond.code (⟨"com/example/restate/restate/WordsHashPinLaw", "term", "([CIII)I"⟩ : MethodName) method_4_code 4 (some .int) :: ws) ({ frames := 1, cells := 0, slots := 0, locals := 13 } : Room)) (fun a U => a = #[(.ref a1), (.int p2), (.int p3), (.int 2)] ∧ Z.Warmed39 U.vm ∧ U.heap = h0) (fun _ _ _ _ _ => True) (fun _ U o U' => ∃ v L, o = .returned v ∧ Q2_2 Z a1 p2 p3 k1 cs si ni h0 n0 v U'.heap L ∧ FrameEnd U o U' L ({ frames := 1, cells := 0, slots := 0, locals := 13 } : Room).cells ({ frames := 1, cells := 0, slots := 0, locals := 13 } : Room).slots) := by
 refine MetFree.of_bodySF (plainFor_of_name pn_12) hisR ?_
 intro p e s m args below meth c s₁ Bd hml0 hP hK
 obtain ⟨rfl, hZ, hh⟩ := hP
 have hx := Bd.exec
 have hby := Bd.bytes
 have hml : c.maxLocals = 4 := hml0
 have hown : s.vm.findClass "com/example/restate/restate/WordsHashPinLaw" = some m.cls := findClass_of_methodNamed Bd.named
 have hnm := (name_of_methodNamed Bd.named Bd.method).1
 have X0 : Stand p l e ({ frames := 1, cells := 0, slots := 0, locals := 13 } : Room) s m #[(.ref a1), (.int p2), (.int p3), (.int 2)] below meth c s₁ [] 0 0 := Stand.of_body Bd
 have e0 : s₁.heap = h0 := by rw [← hh, Bd.state]; rfl
 have N0 := Fr.nil n0
 refine own_go (B := s₁.setTop (mkF m 0 #[.val (.ref a1), .val (.int p2), .val (.int p3), .val (.int 2)] [])) (fun t k => castTop (ef_2_2 m a1 p2 p3) k) ?_
 refine own_go (B := s₁.setTop (mkF m 2 #[.val (.ref a1), .val (.int p2), .val (.int p3), .val (.int 2)] [(.int p3), (.int 2)])) (fun tg kt => ?_) ?_
 ·refine XS.iloadN X0.here hx rfl (hb hby d2_0) rfl ?_
  refine XS.iloadN X0.here hx rfl (hb hby d2_1) rfl ?_
  exact kt
 by_cases hc34 : (2 : Int32) < p3
 ·refine own_go (B := s₁.setTop (mkF m 9 #[.val (.ref a1), .val (.int p2), .val (.int p3), .val (.int 2)] [(.int (p2 + (2 : Int32))), (.ref a1)])) (fun tg kt => ?_) ?_
  ·refine XS.icmpNo X0.here hx rfl (hb hby d2_2) rfl (tlt hc34).2.1 ?_
   refine XS.aloadN X0.here hx rfl (hb hby d2_5) rfl rfl ?_
   refine XS.iloadN X0.here hx rfl (hb hby d2_6) rfl ?_
   refine XS.iloadN X0.here hx rfl (hb hby d2_7) rfl ?_
   refine XS.iadd X0.here hx rfl (hb hby d2_8) rfl ?_
   exact kt
  obtain ⟨cl35, Ar35, cq35, cS35, cN35, cH35, cG35⟩ := id V_a1
  have hin35 := inb_of (j := (p2 + (2 : Int32))) cS35 (own_inb (N := 7) (own_tix (i := 2) (by decide) hs hc34).1 (own_tix (i := 2) (by decide) hs hc34).2 (by decide))
  have hat35 : cl35.slots[((p2 + (2 : Int32))).toNatClampNeg]? = some (.int (cs (si + 2))) := Has.at cH35 hin35 (own_at cs _ (own_tix (i := 2) (by decide) hs hc34).1 (own_tix (i := 2) (by decide) hs hc34).2)
  refine own_go (B := s₁.setTop (mkF m 15 #[.val (.ref a1), .val (.int p2), .val (.int p3), .val (.int 2)] [(.int ((p3 - (1 : Int32)) - (2 : Int32))), (.int (cs (si + 2)))])) (fun tg kt => ?_) ?_
  ·refine X0.caload hx (j := (p2 + (2 : Int32))) (v := (.int (cs (si + 2)))) (by rw [e0]; exact Ar35.1) (State.isArrayOf_alike hZ.alike Ar35.2.1) Ar35.2.2 hin35 hat35 (g := (mkF m 9 #[.val (.ref a1), .val (.int p2), .val (.int p3), .val (.int 2)] [(.int (p2 + (2 : Int32))), (.ref a1)])) rfl rfl (hb hby d2_9) _ ?_
   refine XS.iloadN X0.here hx rfl (hb hby d2_10) rfl ?_
   refine XS.iconst X0.here hx rfl (hb hby d2_11) ?_
   refine XS.isub X0.here hx rfl (hb hby d2_12) rfl ?_
   refine XS.iloadN X0.here hx rfl (hb hby d2_13) rfl ?_
   refine XS.isub X0.here hx rfl (hb hby d2_14) rfl ?_
   exact kt
  obtain ⟨_, _, ⟨T36, L36, k36, n36⟩, -, X36, ⟨Lc36, hQ36, l36, y36, z36⟩, st36⟩ := Jvm.LawKit.callS X0 hx (y := (⟨"com/example/restate/restate/WordsHashPinLaw", "pow31", "(I)I"⟩ : MethodName)) hown (mvT hZ (hw _ (List.mem_of_getElem? (i := 10) rfl))) (mvT hZ (hw _ (List.mem_of_getElem? (i := 11) rfl))) (mvT hZ (hw _ (List.mem_of_getElem? (i := 3) rfl))) (mvT hZ (hw _ (List.mem_of_getElem? (i := 12) rfl))) (by decide) (backOf (W := 1) (rm3 l Z a0 hw [] ((p3 - (1 : Int32)) - (2 : Int32)) h0 n0 Z0 ) hZ (hw _ (List.mem_of_getElem? (i := 12) rfl)) (hw _ (List.mem_of_getElem? (i := 3) rfl)) (by decide) (by decide)) (g := (mkF m 15 #[.val (.ref a1), .val (.int p2), .val (.int p3), .val (.int 2)] [(.int ((p3 - (1 : Int32)) - (2 : Int32))), (.int (cs (si + 2)))])) rfl (by rw [hml]; rfl) (argsL := [(.int ((p3 - (1 : Int32)) - (2 : Int32)))]) (rest := [(.int (cs (si + 2)))]) (lenOf pd_0 rfl) rfl (by show 2 * 0 + _ ≤ _; exact Nat.le_of_eq rfl) (hb hby d2_15) (fun _ _ => ⟨rfl, e0, (by decide : 0 + 0 ≤ _), (by decide : 0 + 0 ≤ _)⟩)
  dsimp only [Pt.U, Pt.locs, Pt.cells, Pt.slots] at X36 l36 y36 z36 st36 hQ36
  rw [l36, y36, z36] at X36
  obtain ⟨rfl, M36, q36_0⟩ := hQ36
  have N36 := Fr.app N0 M36
  refine own_go st36 ?_
  refine own_go (B := T36.setTop (mkF m 23 #[.val (.ref a1), .val (.int p2), .val (.int p3), .val (.int 2)] [(.int ((cs (si + 2)) * (own_pw ((p3 - (1 : Int32)) - (2 : Int32)))))])) (fun tg kt => ?_) ?_
  ·refine XS.imul X36.here hx rfl (hb hby d2_18) rfl ?_
   refine XS.goto X36.here hx rfl (pc0 := 19) (pc' := 23) rfl (hb hby d2_19) (by decide) (by decide) ?_
   exact kt
  obtain ⟨fs, hr, hrun, hended, hW, hsame⟩ := X36.leave (v := some (.int ((cs (si + 2)) * (own_pw ((p3 - (1 : Int32)) - (2 : Int32)))))) (fun h => by rw [Bd.returns] at h; cases h)
  refine ⟨_, _, ?_, hrun, hended, _, _, rfl, ?_, ⟨_, rfl⟩, hW, hsame.mono (by decide) (by decide)⟩
  ·exact retI X36 hx Bd.returns (hb hby d2_23) hr
  ·show Q2_2 Z a1 p2 p3 k1 cs si ni h0 n0 _ T36.heap _
   rw [q36_0]
   exact ⟨(by rw [own_term, if_pos hc34]; rfl), N36, rfl⟩
 ·refine own_go (B := s₁.setTop (mkF m 23 #[.val (.ref a1), .val (.int p2), .val (.int p3), .val (.int 2)] [(.int 0)])) (fun tg kt => ?_) ?_
  ·refine XS.icmpYes X0.here hx rfl (pc0 := 2) (pc' := 22) rfl (hb hby d2_2) rfl (flt hc34).2.1 (by decide) (by decide) ?_
   refine XS.iconst X0.here hx rfl (hb hby d2_22) ?_
   exact kt
  obtain ⟨fs, hr, hrun, hended, hW, hsame⟩ := X0.leave (v := some (.int 0)) (fun h => by rw [Bd.returns] at h; cases h)
  refine ⟨_, _, ?_, hrun, hended, _, _, rfl, ?_, ⟨_, rfl⟩, hW, hsame.mono (by decide) (by decide)⟩
  ·exact retI X0 hx Bd.returns (hb hby d2_23) hr
  ·show Q2_2 Z a1 p2 p3 k1 cs si ni h0 n0 _ s₁.heap _
   rw [e0]
   exact ⟨(by rw [own_term, if_neg hc34]), N0, rfl⟩
theorem ef_2_3 (m : MethodId) (a1 : Addr) (p2 : Int32) (p3 : Int32) : entryFrame m #[(.ref a1), (.int p2), (.int p3), (.int 3)] 4 = mkF m 0 #[.val (.ref a1), .val (.int p2), .val (.int p3), .val (.int 3)] [] := by first | (simp [entryFrame, mkF, argsToLocals, Value.category]; done) | rfl
def Q2_3 (Z : State) (a1 : Addr) (p2 : Int32) (p3 : Int32) (k1 : ClassId) (cs : Nat → Int32) (si : Nat) (ni : Nat) (h0 : Heap) (n0 : Nat) (v : Option Value) (h : Heap) (L : List Loc) : Prop := v = some (.int (own_term cs si p3 3)) ∧ Fr n0 L ∧ h = h0
set_option maxRecDepth 65536 in
set_option maxHeartbeats 40000000 in
theorem rm2_3 (l : Launch) (Z : State) (a0 : Array Value) (hw : ∀ d ∈ tables_1, d.before a0 Z = true) (ws : List Jvm.Cond) (a1 : Addr) (p2 : Int32) (p3 : Int32) (k1 : ClassId) (cs : Nat → Int32) (si : Nat) (ni : Nat) (h0 : Heap) (n0 : Nat) (Z0 : n0 ≤ h0.size) (V_a1 : Arv Z h0 a1 k1 .char (7 : Int32) (own_tab 7 cs) (.int 0)) (hs : p2.toInt = si ∧ p3.toInt = ni ∧ si + ni ≤ 7) :
  MetFree l (⟨"com/example/restate/restate/WordsHashPinLaw", "term", "([CIII)I"⟩ : MethodName) (head1 (Jvm.Cond.code (⟨"com/example/restate/restate/WordsHashPinLaw", "term", "([CIII)I"⟩ : MethodName) method_4_code 4 (some .int) :: ws) ({ frames := 1, cells := 0, slots := 0, locals := 13 } : Room)) (fun a U => a = #[(.ref a1), (.int p2), (.int p3), (.int 3)] ∧ Z.Warmed39 U.vm ∧ U.heap = h0) (fun _ _ _ _ _ => True) (fun _ U o U' => ∃ v L, o = .returned v ∧ Q2_3 Z a1 p2 p3 k1 cs si ni h0 n0 v U'.heap L ∧ FrameEnd U o U' L ({ frames := 1, cells := 0, slots := 0, locals := 13 } : Room).cells ({ frames := 1, cells := 0, slots := 0, locals := 13 } : Room).slots) := by
 refine MetFree.of_bodySF (plainFor_of_name pn_12) hisR ?_
 intro p e s m args below meth c s₁ Bd hml0 hP hK
 obtain ⟨rfl, hZ, hh⟩ := hP
 have hx := Bd.exec
 have hby := Bd.bytes
 have hml : c.maxLocals = 4 := hml0
 have hown : s.vm.findClass "com/example/restate/restate/WordsHashPinLaw" = some m.cls := findClass_of_methodNamed Bd.named
 have hnm := (name_of_methodNamed Bd.named Bd.method).1
 have X0 : Stand p l e ({ frames := 1, cells := 0, slots := 0, locals := 13 } : Room) s m #[(.ref a1), (.int p2), (.int p3), (.int 3)] below meth c s₁ [] 0 0 := Stand.of_body Bd
 have e0 : s₁.heap = h0 := by rw [← hh, Bd.state]; rfl
 have N0 := Fr.nil n0
 refine own_go (B := s₁.setTop (mkF m 0 #[.val (.ref a1), .val (.int p2), .val (.int p3), .val (.int 3)] [])) (fun t k => castTop (ef_2_3 m a1 p2 p3) k) ?_
 refine own_go (B := s₁.setTop (mkF m 2 #[.val (.ref a1), .val (.int p2), .val (.int p3), .val (.int 3)] [(.int p3), (.int 3)])) (fun tg kt => ?_) ?_
 ·refine XS.iloadN X0.here hx rfl (hb hby d2_0) rfl ?_
  refine XS.iloadN X0.here hx rfl (hb hby d2_1) rfl ?_
  exact kt
 by_cases hc39 : (3 : Int32) < p3
 ·refine own_go (B := s₁.setTop (mkF m 9 #[.val (.ref a1), .val (.int p2), .val (.int p3), .val (.int 3)] [(.int (p2 + (3 : Int32))), (.ref a1)])) (fun tg kt => ?_) ?_
  ·refine XS.icmpNo X0.here hx rfl (hb hby d2_2) rfl (tlt hc39).2.1 ?_
   refine XS.aloadN X0.here hx rfl (hb hby d2_5) rfl rfl ?_
   refine XS.iloadN X0.here hx rfl (hb hby d2_6) rfl ?_
   refine XS.iloadN X0.here hx rfl (hb hby d2_7) rfl ?_
   refine XS.iadd X0.here hx rfl (hb hby d2_8) rfl ?_
   exact kt
  obtain ⟨cl40, Ar40, cq40, cS40, cN40, cH40, cG40⟩ := id V_a1
  have hin40 := inb_of (j := (p2 + (3 : Int32))) cS40 (own_inb (N := 7) (own_tix (i := 3) (by decide) hs hc39).1 (own_tix (i := 3) (by decide) hs hc39).2 (by decide))
  have hat40 : cl40.slots[((p2 + (3 : Int32))).toNatClampNeg]? = some (.int (cs (si + 3))) := Has.at cH40 hin40 (own_at cs _ (own_tix (i := 3) (by decide) hs hc39).1 (own_tix (i := 3) (by decide) hs hc39).2)
  refine own_go (B := s₁.setTop (mkF m 15 #[.val (.ref a1), .val (.int p2), .val (.int p3), .val (.int 3)] [(.int ((p3 - (1 : Int32)) - (3 : Int32))), (.int (cs (si + 3)))])) (fun tg kt => ?_) ?_
  ·refine X0.caload hx (j := (p2 + (3 : Int32))) (v := (.int (cs (si + 3)))) (by rw [e0]; exact Ar40.1) (State.isArrayOf_alike hZ.alike Ar40.2.1) Ar40.2.2 hin40 hat40 (g := (mkF m 9 #[.val (.ref a1), .val (.int p2), .val (.int p3), .val (.int 3)] [(.int (p2 + (3 : Int32))), (.ref a1)])) rfl rfl (hb hby d2_9) _ ?_
   refine XS.iloadN X0.here hx rfl (hb hby d2_10) rfl ?_
   refine XS.iconst X0.here hx rfl (hb hby d2_11) ?_
   refine XS.isub X0.here hx rfl (hb hby d2_12) rfl ?_
   refine XS.iloadN X0.here hx rfl (hb hby d2_13) rfl ?_
   refine XS.isub X0.here hx rfl (hb hby d2_14) rfl ?_
   exact kt
  obtain ⟨_, _, ⟨T41, L41, k41, n41⟩, -, X41, ⟨Lc41, hQ41, l41, y41, z41⟩, st41⟩ := Jvm.LawKit.callS X0 hx (y := (⟨"com/example/restate/restate/WordsHashPinLaw", "pow31", "(I)I"⟩ : MethodName)) hown (mvT hZ (hw _ (List.mem_of_getElem? (i := 10) rfl))) (mvT hZ (hw _ (List.mem_of_getElem? (i := 11) rfl))) (mvT hZ (hw _ (List.mem_of_getElem? (i := 3) rfl))) (mvT hZ (hw _ (List.mem_of_getElem? (i := 12) rfl))) (by decide) (backOf (W := 1) (rm3 l Z a0 hw [] ((p3 - (1 : Int32)) - (3 : Int32)) h0 n0 Z0 ) hZ (hw _ (List.mem_of_getElem? (i := 12) rfl)) (hw _ (List.mem_of_getElem? (i := 3) rfl)) (by decide) (by decide)) (g := (mkF m 15 #[.val (.ref a1), .val (.int p2), .val (.int p3), .val (.int 3)] [(.int ((p3 - (1 : Int32)) - (3 : Int32))), (.int (cs (si + 3)))])) rfl (by rw [hml]; rfl) (argsL := [(.int ((p3 - (1 : Int32)) - (3 : Int32)))]) (rest := [(.int (cs (si + 3)))]) (lenOf pd_0 rfl) rfl (by show 2 * 0 + _ ≤ _; exact Nat.le_of_eq rfl) (hb hby d2_15) (fun _ _ => ⟨rfl, e0, (by decide : 0 + 0 ≤ _), (by decide : 0 + 0 ≤ _)⟩)
  dsimp only [Pt.U, Pt.locs, Pt.cells, Pt.slots] at X41 l41 y41 z41 st41 hQ41
  rw [l41, y41, z41] at X41
  obtain ⟨rfl, M41, q41_0⟩ := hQ41
  have N41 := Fr.app N0 M41
  refine own_go st41 ?_
  refine own_go (B := T41.setTop (mkF m 23 #[.val (.ref a1), .val (.int p2), .val (.int p3), .val (.int 3)] [(.int ((cs (si + 3)) * (own_pw ((p3 - (1 : Int32)) - (3 : Int32)))))])) (fun tg kt => ?_) ?_
  ·refine XS.imul X41.here hx rfl (hb hby d2_18) rfl ?_
   refine XS.goto X41.here hx rfl (pc0 := 19) (pc' := 23) rfl (hb hby d2_19) (by decide) (by decide) ?_
   exact kt
  obtain ⟨fs, hr, hrun, hended, hW, hsame⟩ := X41.leave (v := some (.int ((cs (si + 3)) * (own_pw ((p3 - (1 : Int32)) - (3 : Int32)))))) (fun h => by rw [Bd.returns] at h; cases h)
  refine ⟨_, _, ?_, hrun, hended, _, _, rfl, ?_, ⟨_, rfl⟩, hW, hsame.mono (by decide) (by decide)⟩
  ·exact retI X41 hx Bd.returns (hb hby d2_23) hr
  ·show Q2_3 Z a1 p2 p3 k1 cs si ni h0 n0 _ T41.heap _
   rw [q41_0]
   exact ⟨(by rw [own_term, if_pos hc39]; rfl), N41, rfl⟩
 ·refine own_go (B := s₁.setTop (mkF m 23 #[.val (.ref a1), .val (.int p2), .val (.int p3), .val (.int 3)] [(.int 0)])) (fun tg kt => ?_) ?_
  ·refine XS.icmpYes X0.here hx rfl (pc0 := 2) (pc' := 22) rfl (hb hby d2_2) rfl (flt hc39).2.1 (by decide) (by decide) ?_
   refine XS.iconst X0.here hx rfl (hb hby d2_22) ?_
   exact kt
  obtain ⟨fs, hr, hrun, hended, hW, hsame⟩ := X0.leave (v := some (.int 0)) (fun h => by rw [Bd.returns] at h; cases h)
  refine ⟨_, _, ?_, hrun, hended, _, _, rfl, ?_, ⟨_, rfl⟩, hW, hsame.mono (by decide) (by decide)⟩
  ·exact retI X0 hx Bd.returns (hb hby d2_23) hr
  ·show Q2_3 Z a1 p2 p3 k1 cs si ni h0 n0 _ s₁.heap _
   rw [e0]
   exact ⟨(by rw [own_term, if_neg hc39]), N0, rfl⟩
theorem ef_2_4 (m : MethodId) (a1 : Addr) (p2 : Int32) (p3 : Int32) : entryFrame m #[(.ref a1), (.int p2), (.int p3), (.int 4)] 4 = mkF m 0 #[.val (.ref a1), .val (.int p2), .val (.int p3), .val (.int 4)] [] := by first | (simp [entryFrame, mkF, argsToLocals, Value.category]; done) | rfl
def Q2_4 (Z : State) (a1 : Addr) (p2 : Int32) (p3 : Int32) (k1 : ClassId) (cs : Nat → Int32) (si : Nat) (ni : Nat) (h0 : Heap) (n0 : Nat) (v : Option Value) (h : Heap) (L : List Loc) : Prop := v = some (.int (own_term cs si p3 4)) ∧ Fr n0 L ∧ h = h0
set_option maxRecDepth 65536 in
set_option maxHeartbeats 40000000 in
theorem rm2_4 (l : Launch) (Z : State) (a0 : Array Value) (hw : ∀ d ∈ tables_1, d.before a0 Z = true) (ws : List Jvm.Cond) (a1 : Addr) (p2 : Int32) (p3 : Int32) (k1 : ClassId) (cs : Nat → Int32) (si : Nat) (ni : Nat) (h0 : Heap) (n0 : Nat) (Z0 : n0 ≤ h0.size) (V_a1 : Arv Z h0 a1 k1 .char (7 : Int32) (own_tab 7 cs) (.int 0)) (hs : p2.toInt = si ∧ p3.toInt = ni ∧ si + ni ≤ 7) :
  MetFree l (⟨"com/example/restate/restate/WordsHashPinLaw", "term", "([CIII)I"⟩ : MethodName) (head1 (Jvm.Cond.code (⟨"com/example/restate/restate/WordsHashPinLaw", "term", "([CIII)I"⟩ : MethodName) method_4_code 4 (some .int) :: ws) ({ frames := 1, cells := 0, slots := 0, locals := 13 } : Room)) (fun a U => a = #[(.ref a1), (.int p2), (.int p3), (.int 4)] ∧ Z.Warmed39 U.vm ∧ U.heap = h0) (fun _ _ _ _ _ => True) (fun _ U o U' => ∃ v L, o = .returned v ∧ Q2_4 Z a1 p2 p3 k1 cs si ni h0 n0 v U'.heap L ∧ FrameEnd U o U' L ({ frames := 1, cells := 0, slots := 0, locals := 13 } : Room).cells ({ frames := 1, cells := 0, slots := 0, locals := 13 } : Room).slots) := by
 refine MetFree.of_bodySF (plainFor_of_name pn_12) hisR ?_
 intro p e s m args below meth c s₁ Bd hml0 hP hK
 obtain ⟨rfl, hZ, hh⟩ := hP
 have hx := Bd.exec
 have hby := Bd.bytes
 have hml : c.maxLocals = 4 := hml0
 have hown : s.vm.findClass "com/example/restate/restate/WordsHashPinLaw" = some m.cls := findClass_of_methodNamed Bd.named
 have hnm := (name_of_methodNamed Bd.named Bd.method).1
 have X0 : Stand p l e ({ frames := 1, cells := 0, slots := 0, locals := 13 } : Room) s m #[(.ref a1), (.int p2), (.int p3), (.int 4)] below meth c s₁ [] 0 0 := Stand.of_body Bd
 have e0 : s₁.heap = h0 := by rw [← hh, Bd.state]; rfl
 have N0 := Fr.nil n0
 refine own_go (B := s₁.setTop (mkF m 0 #[.val (.ref a1), .val (.int p2), .val (.int p3), .val (.int 4)] [])) (fun t k => castTop (ef_2_4 m a1 p2 p3) k) ?_
 refine own_go (B := s₁.setTop (mkF m 2 #[.val (.ref a1), .val (.int p2), .val (.int p3), .val (.int 4)] [(.int p3), (.int 4)])) (fun tg kt => ?_) ?_
 ·refine XS.iloadN X0.here hx rfl (hb hby d2_0) rfl ?_
  refine XS.iloadN X0.here hx rfl (hb hby d2_1) rfl ?_
  exact kt
 by_cases hc44 : (4 : Int32) < p3
 ·refine own_go (B := s₁.setTop (mkF m 9 #[.val (.ref a1), .val (.int p2), .val (.int p3), .val (.int 4)] [(.int (p2 + (4 : Int32))), (.ref a1)])) (fun tg kt => ?_) ?_
  ·refine XS.icmpNo X0.here hx rfl (hb hby d2_2) rfl (tlt hc44).2.1 ?_
   refine XS.aloadN X0.here hx rfl (hb hby d2_5) rfl rfl ?_
   refine XS.iloadN X0.here hx rfl (hb hby d2_6) rfl ?_
   refine XS.iloadN X0.here hx rfl (hb hby d2_7) rfl ?_
   refine XS.iadd X0.here hx rfl (hb hby d2_8) rfl ?_
   exact kt
  obtain ⟨cl45, Ar45, cq45, cS45, cN45, cH45, cG45⟩ := id V_a1
  have hin45 := inb_of (j := (p2 + (4 : Int32))) cS45 (own_inb (N := 7) (own_tix (i := 4) (by decide) hs hc44).1 (own_tix (i := 4) (by decide) hs hc44).2 (by decide))
  have hat45 : cl45.slots[((p2 + (4 : Int32))).toNatClampNeg]? = some (.int (cs (si + 4))) := Has.at cH45 hin45 (own_at cs _ (own_tix (i := 4) (by decide) hs hc44).1 (own_tix (i := 4) (by decide) hs hc44).2)
  refine own_go (B := s₁.setTop (mkF m 15 #[.val (.ref a1), .val (.int p2), .val (.int p3), .val (.int 4)] [(.int ((p3 - (1 : Int32)) - (4 : Int32))), (.int (cs (si + 4)))])) (fun tg kt => ?_) ?_
  ·refine X0.caload hx (j := (p2 + (4 : Int32))) (v := (.int (cs (si + 4)))) (by rw [e0]; exact Ar45.1) (State.isArrayOf_alike hZ.alike Ar45.2.1) Ar45.2.2 hin45 hat45 (g := (mkF m 9 #[.val (.ref a1), .val (.int p2), .val (.int p3), .val (.int 4)] [(.int (p2 + (4 : Int32))), (.ref a1)])) rfl rfl (hb hby d2_9) _ ?_
   refine XS.iloadN X0.here hx rfl (hb hby d2_10) rfl ?_
   refine XS.iconst X0.here hx rfl (hb hby d2_11) ?_
   refine XS.isub X0.here hx rfl (hb hby d2_12) rfl ?_
   refine XS.iloadN X0.here hx rfl (hb hby d2_13) rfl ?_
   refine XS.isub X0.here hx rfl (hb hby d2_14) rfl ?_
   exact kt
  obtain ⟨_, _, ⟨T46, L46, k46, n46⟩, -, X46, ⟨Lc46, hQ46, l46, y46, z46⟩, st46⟩ := Jvm.LawKit.callS X0 hx (y := (⟨"com/example/restate/restate/WordsHashPinLaw", "pow31", "(I)I"⟩ : MethodName)) hown (mvT hZ (hw _ (List.mem_of_getElem? (i := 10) rfl))) (mvT hZ (hw _ (List.mem_of_getElem? (i := 11) rfl))) (mvT hZ (hw _ (List.mem_of_getElem? (i := 3) rfl))) (mvT hZ (hw _ (List.mem_of_getElem? (i := 12) rfl))) (by decide) (backOf (W := 1) (rm3 l Z a0 hw [] ((p3 - (1 : Int32)) - (4 : Int32)) h0 n0 Z0 ) hZ (hw _ (List.mem_of_getElem? (i := 12) rfl)) (hw _ (List.mem_of_getElem? (i := 3) rfl)) (by decide) (by decide)) (g := (mkF m 15 #[.val (.ref a1), .val (.int p2), .val (.int p3), .val (.int 4)] [(.int ((p3 - (1 : Int32)) - (4 : Int32))), (.int (cs (si + 4)))])) rfl (by rw [hml]; rfl) (argsL := [(.int ((p3 - (1 : Int32)) - (4 : Int32)))]) (rest := [(.int (cs (si + 4)))]) (lenOf pd_0 rfl) rfl (by show 2 * 0 + _ ≤ _; exact Nat.le_of_eq rfl) (hb hby d2_15) (fun _ _ => ⟨rfl, e0, (by decide : 0 + 0 ≤ _), (by decide : 0 + 0 ≤ _)⟩)
  dsimp only [Pt.U, Pt.locs, Pt.cells, Pt.slots] at X46 l46 y46 z46 st46 hQ46
  rw [l46, y46, z46] at X46
  obtain ⟨rfl, M46, q46_0⟩ := hQ46
  have N46 := Fr.app N0 M46
  refine own_go st46 ?_
  refine own_go (B := T46.setTop (mkF m 23 #[.val (.ref a1), .val (.int p2), .val (.int p3), .val (.int 4)] [(.int ((cs (si + 4)) * (own_pw ((p3 - (1 : Int32)) - (4 : Int32)))))])) (fun tg kt => ?_) ?_
  ·refine XS.imul X46.here hx rfl (hb hby d2_18) rfl ?_
   refine XS.goto X46.here hx rfl (pc0 := 19) (pc' := 23) rfl (hb hby d2_19) (by decide) (by decide) ?_
   exact kt
  obtain ⟨fs, hr, hrun, hended, hW, hsame⟩ := X46.leave (v := some (.int ((cs (si + 4)) * (own_pw ((p3 - (1 : Int32)) - (4 : Int32)))))) (fun h => by rw [Bd.returns] at h; cases h)
  refine ⟨_, _, ?_, hrun, hended, _, _, rfl, ?_, ⟨_, rfl⟩, hW, hsame.mono (by decide) (by decide)⟩
  ·exact retI X46 hx Bd.returns (hb hby d2_23) hr
  ·show Q2_4 Z a1 p2 p3 k1 cs si ni h0 n0 _ T46.heap _
   rw [q46_0]
   exact ⟨(by rw [own_term, if_pos hc44]; rfl), N46, rfl⟩
 ·refine own_go (B := s₁.setTop (mkF m 23 #[.val (.ref a1), .val (.int p2), .val (.int p3), .val (.int 4)] [(.int 0)])) (fun tg kt => ?_) ?_
  ·refine XS.icmpYes X0.here hx rfl (pc0 := 2) (pc' := 22) rfl (hb hby d2_2) rfl (flt hc44).2.1 (by decide) (by decide) ?_
   refine XS.iconst X0.here hx rfl (hb hby d2_22) ?_
   exact kt
  obtain ⟨fs, hr, hrun, hended, hW, hsame⟩ := X0.leave (v := some (.int 0)) (fun h => by rw [Bd.returns] at h; cases h)
  refine ⟨_, _, ?_, hrun, hended, _, _, rfl, ?_, ⟨_, rfl⟩, hW, hsame.mono (by decide) (by decide)⟩
  ·exact retI X0 hx Bd.returns (hb hby d2_23) hr
  ·show Q2_4 Z a1 p2 p3 k1 cs si ni h0 n0 _ s₁.heap _
   rw [e0]
   exact ⟨(by rw [own_term, if_neg hc44]), N0, rfl⟩
theorem ef_2_5 (m : MethodId) (a1 : Addr) (p2 : Int32) (p3 : Int32) : entryFrame m #[(.ref a1), (.int p2), (.int p3), (.int 5)] 4 = mkF m 0 #[.val (.ref a1), .val (.int p2), .val (.int p3), .val (.int 5)] [] := by first | (simp [entryFrame, mkF, argsToLocals, Value.category]; done) | rfl
def Q2_5 (Z : State) (a1 : Addr) (p2 : Int32) (p3 : Int32) (k1 : ClassId) (cs : Nat → Int32) (si : Nat) (ni : Nat) (h0 : Heap) (n0 : Nat) (v : Option Value) (h : Heap) (L : List Loc) : Prop := v = some (.int (own_term cs si p3 5)) ∧ Fr n0 L ∧ h = h0
set_option maxRecDepth 65536 in
set_option maxHeartbeats 40000000 in
theorem rm2_5 (l : Launch) (Z : State) (a0 : Array Value) (hw : ∀ d ∈ tables_1, d.before a0 Z = true) (ws : List Jvm.Cond) (a1 : Addr) (p2 : Int32) (p3 : Int32) (k1 : ClassId) (cs : Nat → Int32) (si : Nat) (ni : Nat) (h0 : Heap) (n0 : Nat) (Z0 : n0 ≤ h0.size) (V_a1 : Arv Z h0 a1 k1 .char (7 : Int32) (own_tab 7 cs) (.int 0)) (hs : p2.toInt = si ∧ p3.toInt = ni ∧ si + ni ≤ 7) :
  MetFree l (⟨"com/example/restate/restate/WordsHashPinLaw", "term", "([CIII)I"⟩ : MethodName) (head1 (Jvm.Cond.code (⟨"com/example/restate/restate/WordsHashPinLaw", "term", "([CIII)I"⟩ : MethodName) method_4_code 4 (some .int) :: ws) ({ frames := 1, cells := 0, slots := 0, locals := 13 } : Room)) (fun a U => a = #[(.ref a1), (.int p2), (.int p3), (.int 5)] ∧ Z.Warmed39 U.vm ∧ U.heap = h0) (fun _ _ _ _ _ => True) (fun _ U o U' => ∃ v L, o = .returned v ∧ Q2_5 Z a1 p2 p3 k1 cs si ni h0 n0 v U'.heap L ∧ FrameEnd U o U' L ({ frames := 1, cells := 0, slots := 0, locals := 13 } : Room).cells ({ frames := 1, cells := 0, slots := 0, locals := 13 } : Room).slots) := by
 refine MetFree.of_bodySF (plainFor_of_name pn_12) hisR ?_
 intro p e s m args below meth c s₁ Bd hml0 hP hK
 obtain ⟨rfl, hZ, hh⟩ := hP
 have hx := Bd.exec
 have hby := Bd.bytes
 have hml : c.maxLocals = 4 := hml0
 have hown : s.vm.findClass "com/example/restate/restate/WordsHashPinLaw" = some m.cls := findClass_of_methodNamed Bd.named
 have hnm := (name_of_methodNamed Bd.named Bd.method).1
 have X0 : Stand p l e ({ frames := 1, cells := 0, slots := 0, locals := 13 } : Room) s m #[(.ref a1), (.int p2), (.int p3), (.int 5)] below meth c s₁ [] 0 0 := Stand.of_body Bd
 have e0 : s₁.heap = h0 := by rw [← hh, Bd.state]; rfl
 have N0 := Fr.nil n0
 refine own_go (B := s₁.setTop (mkF m 0 #[.val (.ref a1), .val (.int p2), .val (.int p3), .val (.int 5)] [])) (fun t k => castTop (ef_2_5 m a1 p2 p3) k) ?_
 refine own_go (B := s₁.setTop (mkF m 2 #[.val (.ref a1), .val (.int p2), .val (.int p3), .val (.int 5)] [(.int p3), (.int 5)])) (fun tg kt => ?_) ?_
 ·refine XS.iloadN X0.here hx rfl (hb hby d2_0) rfl ?_
  refine XS.iloadN X0.here hx rfl (hb hby d2_1) rfl ?_
  exact kt
 by_cases hc49 : (5 : Int32) < p3
 ·refine own_go (B := s₁.setTop (mkF m 9 #[.val (.ref a1), .val (.int p2), .val (.int p3), .val (.int 5)] [(.int (p2 + (5 : Int32))), (.ref a1)])) (fun tg kt => ?_) ?_
  ·refine XS.icmpNo X0.here hx rfl (hb hby d2_2) rfl (tlt hc49).2.1 ?_
   refine XS.aloadN X0.here hx rfl (hb hby d2_5) rfl rfl ?_
   refine XS.iloadN X0.here hx rfl (hb hby d2_6) rfl ?_
   refine XS.iloadN X0.here hx rfl (hb hby d2_7) rfl ?_
   refine XS.iadd X0.here hx rfl (hb hby d2_8) rfl ?_
   exact kt
  obtain ⟨cl50, Ar50, cq50, cS50, cN50, cH50, cG50⟩ := id V_a1
  have hin50 := inb_of (j := (p2 + (5 : Int32))) cS50 (own_inb (N := 7) (own_tix (i := 5) (by decide) hs hc49).1 (own_tix (i := 5) (by decide) hs hc49).2 (by decide))
  have hat50 : cl50.slots[((p2 + (5 : Int32))).toNatClampNeg]? = some (.int (cs (si + 5))) := Has.at cH50 hin50 (own_at cs _ (own_tix (i := 5) (by decide) hs hc49).1 (own_tix (i := 5) (by decide) hs hc49).2)
  refine own_go (B := s₁.setTop (mkF m 15 #[.val (.ref a1), .val (.int p2), .val (.int p3), .val (.int 5)] [(.int ((p3 - (1 : Int32)) - (5 : Int32))), (.int (cs (si + 5)))])) (fun tg kt => ?_) ?_
  ·refine X0.caload hx (j := (p2 + (5 : Int32))) (v := (.int (cs (si + 5)))) (by rw [e0]; exact Ar50.1) (State.isArrayOf_alike hZ.alike Ar50.2.1) Ar50.2.2 hin50 hat50 (g := (mkF m 9 #[.val (.ref a1), .val (.int p2), .val (.int p3), .val (.int 5)] [(.int (p2 + (5 : Int32))), (.ref a1)])) rfl rfl (hb hby d2_9) _ ?_
   refine XS.iloadN X0.here hx rfl (hb hby d2_10) rfl ?_
   refine XS.iconst X0.here hx rfl (hb hby d2_11) ?_
   refine XS.isub X0.here hx rfl (hb hby d2_12) rfl ?_
   refine XS.iloadN X0.here hx rfl (hb hby d2_13) rfl ?_
   refine XS.isub X0.here hx rfl (hb hby d2_14) rfl ?_
   exact kt
  obtain ⟨_, _, ⟨T51, L51, k51, n51⟩, -, X51, ⟨Lc51, hQ51, l51, y51, z51⟩, st51⟩ := Jvm.LawKit.callS X0 hx (y := (⟨"com/example/restate/restate/WordsHashPinLaw", "pow31", "(I)I"⟩ : MethodName)) hown (mvT hZ (hw _ (List.mem_of_getElem? (i := 10) rfl))) (mvT hZ (hw _ (List.mem_of_getElem? (i := 11) rfl))) (mvT hZ (hw _ (List.mem_of_getElem? (i := 3) rfl))) (mvT hZ (hw _ (List.mem_of_getElem? (i := 12) rfl))) (by decide) (backOf (W := 1) (rm3 l Z a0 hw [] ((p3 - (1 : Int32)) - (5 : Int32)) h0 n0 Z0 ) hZ (hw _ (List.mem_of_getElem? (i := 12) rfl)) (hw _ (List.mem_of_getElem? (i := 3) rfl)) (by decide) (by decide)) (g := (mkF m 15 #[.val (.ref a1), .val (.int p2), .val (.int p3), .val (.int 5)] [(.int ((p3 - (1 : Int32)) - (5 : Int32))), (.int (cs (si + 5)))])) rfl (by rw [hml]; rfl) (argsL := [(.int ((p3 - (1 : Int32)) - (5 : Int32)))]) (rest := [(.int (cs (si + 5)))]) (lenOf pd_0 rfl) rfl (by show 2 * 0 + _ ≤ _; exact Nat.le_of_eq rfl) (hb hby d2_15) (fun _ _ => ⟨rfl, e0, (by decide : 0 + 0 ≤ _), (by decide : 0 + 0 ≤ _)⟩)
  dsimp only [Pt.U, Pt.locs, Pt.cells, Pt.slots] at X51 l51 y51 z51 st51 hQ51
  rw [l51, y51, z51] at X51
  obtain ⟨rfl, M51, q51_0⟩ := hQ51
  have N51 := Fr.app N0 M51
  refine own_go st51 ?_
  refine own_go (B := T51.setTop (mkF m 23 #[.val (.ref a1), .val (.int p2), .val (.int p3), .val (.int 5)] [(.int ((cs (si + 5)) * (own_pw ((p3 - (1 : Int32)) - (5 : Int32)))))])) (fun tg kt => ?_) ?_
  ·refine XS.imul X51.here hx rfl (hb hby d2_18) rfl ?_
   refine XS.goto X51.here hx rfl (pc0 := 19) (pc' := 23) rfl (hb hby d2_19) (by decide) (by decide) ?_
   exact kt
  obtain ⟨fs, hr, hrun, hended, hW, hsame⟩ := X51.leave (v := some (.int ((cs (si + 5)) * (own_pw ((p3 - (1 : Int32)) - (5 : Int32)))))) (fun h => by rw [Bd.returns] at h; cases h)
  refine ⟨_, _, ?_, hrun, hended, _, _, rfl, ?_, ⟨_, rfl⟩, hW, hsame.mono (by decide) (by decide)⟩
  ·exact retI X51 hx Bd.returns (hb hby d2_23) hr
  ·show Q2_5 Z a1 p2 p3 k1 cs si ni h0 n0 _ T51.heap _
   rw [q51_0]
   exact ⟨(by rw [own_term, if_pos hc49]; rfl), N51, rfl⟩
 ·refine own_go (B := s₁.setTop (mkF m 23 #[.val (.ref a1), .val (.int p2), .val (.int p3), .val (.int 5)] [(.int 0)])) (fun tg kt => ?_) ?_
  ·refine XS.icmpYes X0.here hx rfl (pc0 := 2) (pc' := 22) rfl (hb hby d2_2) rfl (flt hc49).2.1 (by decide) (by decide) ?_
   refine XS.iconst X0.here hx rfl (hb hby d2_22) ?_
   exact kt
  obtain ⟨fs, hr, hrun, hended, hW, hsame⟩ := X0.leave (v := some (.int 0)) (fun h => by rw [Bd.returns] at h; cases h)
  refine ⟨_, _, ?_, hrun, hended, _, _, rfl, ?_, ⟨_, rfl⟩, hW, hsame.mono (by decide) (by decide)⟩
  ·exact retI X0 hx Bd.returns (hb hby d2_23) hr
  ·show Q2_5 Z a1 p2 p3 k1 cs si ni h0 n0 _ s₁.heap _
   rw [e0]
   exact ⟨(by rw [own_term, if_neg hc49]), N0, rfl⟩
theorem ef_2_6 (m : MethodId) (a1 : Addr) (p2 : Int32) (p3 : Int32) : entryFrame m #[(.ref a1), (.int p2), (.int p3), (.int 6)] 4 = mkF m 0 #[.val (.ref a1), .val (.int p2), .val (.int p3), .val (.int 6)] [] := by first | (simp [entryFrame, mkF, argsToLocals, Value.category]; done) | rfl
def Q2_6 (Z : State) (a1 : Addr) (p2 : Int32) (p3 : Int32) (k1 : ClassId) (cs : Nat → Int32) (si : Nat) (ni : Nat) (h0 : Heap) (n0 : Nat) (v : Option Value) (h : Heap) (L : List Loc) : Prop := v = some (.int (own_term cs si p3 6)) ∧ Fr n0 L ∧ h = h0
set_option maxRecDepth 65536 in
set_option maxHeartbeats 40000000 in
theorem rm2_6 (l : Launch) (Z : State) (a0 : Array Value) (hw : ∀ d ∈ tables_1, d.before a0 Z = true) (ws : List Jvm.Cond) (a1 : Addr) (p2 : Int32) (p3 : Int32) (k1 : ClassId) (cs : Nat → Int32) (si : Nat) (ni : Nat) (h0 : Heap) (n0 : Nat) (Z0 : n0 ≤ h0.size) (V_a1 : Arv Z h0 a1 k1 .char (7 : Int32) (own_tab 7 cs) (.int 0)) (hs : p2.toInt = si ∧ p3.toInt = ni ∧ si + ni ≤ 7) :
  MetFree l (⟨"com/example/restate/restate/WordsHashPinLaw", "term", "([CIII)I"⟩ : MethodName) (head1 (Jvm.Cond.code (⟨"com/example/restate/restate/WordsHashPinLaw", "term", "([CIII)I"⟩ : MethodName) method_4_code 4 (some .int) :: ws) ({ frames := 1, cells := 0, slots := 0, locals := 13 } : Room)) (fun a U => a = #[(.ref a1), (.int p2), (.int p3), (.int 6)] ∧ Z.Warmed39 U.vm ∧ U.heap = h0) (fun _ _ _ _ _ => True) (fun _ U o U' => ∃ v L, o = .returned v ∧ Q2_6 Z a1 p2 p3 k1 cs si ni h0 n0 v U'.heap L ∧ FrameEnd U o U' L ({ frames := 1, cells := 0, slots := 0, locals := 13 } : Room).cells ({ frames := 1, cells := 0, slots := 0, locals := 13 } : Room).slots) := by
 refine MetFree.of_bodySF (plainFor_of_name pn_12) hisR ?_
 intro p e s m args below meth c s₁ Bd hml0 hP hK
 obtain ⟨rfl, hZ, hh⟩ := hP
 have hx := Bd.exec
 have hby := Bd.bytes
 have hml : c.maxLocals = 4 := hml0
 have hown : s.vm.findClass "com/example/restate/restate/WordsHashPinLaw" = some m.cls := findClass_of_methodNamed Bd.named
 have hnm := (name_of_methodNamed Bd.named Bd.method).1
 have X0 : Stand p l e ({ frames := 1, cells := 0, slots := 0, locals := 13 } : Room) s m #[(.ref a1), (.int p2), (.int p3), (.int 6)] below meth c s₁ [] 0 0 := Stand.of_body Bd
 have e0 : s₁.heap = h0 := by rw [← hh, Bd.state]; rfl
 have N0 := Fr.nil n0
 refine own_go (B := s₁.setTop (mkF m 0 #[.val (.ref a1), .val (.int p2), .val (.int p3), .val (.int 6)] [])) (fun t k => castTop (ef_2_6 m a1 p2 p3) k) ?_
 refine own_go (B := s₁.setTop (mkF m 2 #[.val (.ref a1), .val (.int p2), .val (.int p3), .val (.int 6)] [(.int p3), (.int 6)])) (fun tg kt => ?_) ?_
 ·refine XS.iloadN X0.here hx rfl (hb hby d2_0) rfl ?_
  refine XS.iloadN X0.here hx rfl (hb hby d2_1) rfl ?_
  exact kt
 by_cases hc54 : (6 : Int32) < p3
 ·refine own_go (B := s₁.setTop (mkF m 9 #[.val (.ref a1), .val (.int p2), .val (.int p3), .val (.int 6)] [(.int (p2 + (6 : Int32))), (.ref a1)])) (fun tg kt => ?_) ?_
  ·refine XS.icmpNo X0.here hx rfl (hb hby d2_2) rfl (tlt hc54).2.1 ?_
   refine XS.aloadN X0.here hx rfl (hb hby d2_5) rfl rfl ?_
   refine XS.iloadN X0.here hx rfl (hb hby d2_6) rfl ?_
   refine XS.iloadN X0.here hx rfl (hb hby d2_7) rfl ?_
   refine XS.iadd X0.here hx rfl (hb hby d2_8) rfl ?_
   exact kt
  obtain ⟨cl55, Ar55, cq55, cS55, cN55, cH55, cG55⟩ := id V_a1
  have hin55 := inb_of (j := (p2 + (6 : Int32))) cS55 (own_inb (N := 7) (own_tix (i := 6) (by decide) hs hc54).1 (own_tix (i := 6) (by decide) hs hc54).2 (by decide))
  have hat55 : cl55.slots[((p2 + (6 : Int32))).toNatClampNeg]? = some (.int (cs (si + 6))) := Has.at cH55 hin55 (own_at cs _ (own_tix (i := 6) (by decide) hs hc54).1 (own_tix (i := 6) (by decide) hs hc54).2)
  refine own_go (B := s₁.setTop (mkF m 15 #[.val (.ref a1), .val (.int p2), .val (.int p3), .val (.int 6)] [(.int ((p3 - (1 : Int32)) - (6 : Int32))), (.int (cs (si + 6)))])) (fun tg kt => ?_) ?_
  ·refine X0.caload hx (j := (p2 + (6 : Int32))) (v := (.int (cs (si + 6)))) (by rw [e0]; exact Ar55.1) (State.isArrayOf_alike hZ.alike Ar55.2.1) Ar55.2.2 hin55 hat55 (g := (mkF m 9 #[.val (.ref a1), .val (.int p2), .val (.int p3), .val (.int 6)] [(.int (p2 + (6 : Int32))), (.ref a1)])) rfl rfl (hb hby d2_9) _ ?_
   refine XS.iloadN X0.here hx rfl (hb hby d2_10) rfl ?_
   refine XS.iconst X0.here hx rfl (hb hby d2_11) ?_
   refine XS.isub X0.here hx rfl (hb hby d2_12) rfl ?_
   refine XS.iloadN X0.here hx rfl (hb hby d2_13) rfl ?_
   refine XS.isub X0.here hx rfl (hb hby d2_14) rfl ?_
   exact kt
  obtain ⟨_, _, ⟨T56, L56, k56, n56⟩, -, X56, ⟨Lc56, hQ56, l56, y56, z56⟩, st56⟩ := Jvm.LawKit.callS X0 hx (y := (⟨"com/example/restate/restate/WordsHashPinLaw", "pow31", "(I)I"⟩ : MethodName)) hown (mvT hZ (hw _ (List.mem_of_getElem? (i := 10) rfl))) (mvT hZ (hw _ (List.mem_of_getElem? (i := 11) rfl))) (mvT hZ (hw _ (List.mem_of_getElem? (i := 3) rfl))) (mvT hZ (hw _ (List.mem_of_getElem? (i := 12) rfl))) (by decide) (backOf (W := 1) (rm3 l Z a0 hw [] ((p3 - (1 : Int32)) - (6 : Int32)) h0 n0 Z0 ) hZ (hw _ (List.mem_of_getElem? (i := 12) rfl)) (hw _ (List.mem_of_getElem? (i := 3) rfl)) (by decide) (by decide)) (g := (mkF m 15 #[.val (.ref a1), .val (.int p2), .val (.int p3), .val (.int 6)] [(.int ((p3 - (1 : Int32)) - (6 : Int32))), (.int (cs (si + 6)))])) rfl (by rw [hml]; rfl) (argsL := [(.int ((p3 - (1 : Int32)) - (6 : Int32)))]) (rest := [(.int (cs (si + 6)))]) (lenOf pd_0 rfl) rfl (by show 2 * 0 + _ ≤ _; exact Nat.le_of_eq rfl) (hb hby d2_15) (fun _ _ => ⟨rfl, e0, (by decide : 0 + 0 ≤ _), (by decide : 0 + 0 ≤ _)⟩)
  dsimp only [Pt.U, Pt.locs, Pt.cells, Pt.slots] at X56 l56 y56 z56 st56 hQ56
  rw [l56, y56, z56] at X56
  obtain ⟨rfl, M56, q56_0⟩ := hQ56
  have N56 := Fr.app N0 M56
  refine own_go st56 ?_
  refine own_go (B := T56.setTop (mkF m 23 #[.val (.ref a1), .val (.int p2), .val (.int p3), .val (.int 6)] [(.int ((cs (si + 6)) * (own_pw ((p3 - (1 : Int32)) - (6 : Int32)))))])) (fun tg kt => ?_) ?_
  ·refine XS.imul X56.here hx rfl (hb hby d2_18) rfl ?_
   refine XS.goto X56.here hx rfl (pc0 := 19) (pc' := 23) rfl (hb hby d2_19) (by decide) (by decide) ?_
   exact kt
  obtain ⟨fs, hr, hrun, hended, hW, hsame⟩ := X56.leave (v := some (.int ((cs (si + 6)) * (own_pw ((p3 - (1 : Int32)) - (6 : Int32)))))) (fun h => by rw [Bd.returns] at h; cases h)
  refine ⟨_, _, ?_, hrun, hended, _, _, rfl, ?_, ⟨_, rfl⟩, hW, hsame.mono (by decide) (by decide)⟩
  ·exact retI X56 hx Bd.returns (hb hby d2_23) hr
  ·show Q2_6 Z a1 p2 p3 k1 cs si ni h0 n0 _ T56.heap _
   rw [q56_0]
   exact ⟨(by rw [own_term, if_pos hc54]; rfl), N56, rfl⟩
 ·refine own_go (B := s₁.setTop (mkF m 23 #[.val (.ref a1), .val (.int p2), .val (.int p3), .val (.int 6)] [(.int 0)])) (fun tg kt => ?_) ?_
  ·refine XS.icmpYes X0.here hx rfl (pc0 := 2) (pc' := 22) rfl (hb hby d2_2) rfl (flt hc54).2.1 (by decide) (by decide) ?_
   refine XS.iconst X0.here hx rfl (hb hby d2_22) ?_
   exact kt
  obtain ⟨fs, hr, hrun, hended, hW, hsame⟩ := X0.leave (v := some (.int 0)) (fun h => by rw [Bd.returns] at h; cases h)
  refine ⟨_, _, ?_, hrun, hended, _, _, rfl, ?_, ⟨_, rfl⟩, hW, hsame.mono (by decide) (by decide)⟩
  ·exact retI X0 hx Bd.returns (hb hby d2_23) hr
  ·show Q2_6 Z a1 p2 p3 k1 cs si ni h0 n0 _ s₁.heap _
   rw [e0]
   exact ⟨(by rw [own_term, if_neg hc54]), N0, rfl⟩
theorem d33_0 : decode jdk_52_method_4_code 0 = .ok (.getstatic 44, 3) := by decide +kernel
theorem d33_3 : decode jdk_52_method_4_code 3 = .ok (.ifCond .ne 25, 3) := by decide +kernel
theorem d33_28 : decode jdk_52_method_4_code 28 = .ok (.iload_n 1, 1) := by decide +kernel
theorem d33_29 : decode jdk_52_method_4_code 29 = .ok (.iconst 1, 1) := by decide +kernel
theorem d33_30 : decode jdk_52_method_4_code 30 = .ok (.ishl, 1) := by decide +kernel
theorem d33_31 : decode jdk_52_method_4_code 31 = .ok (.istore_n 1, 1) := by decide +kernel
theorem d33_32 : decode jdk_52_method_4_code 32 = .ok (.aload_n 0, 1) := by decide +kernel
theorem d33_33 : decode jdk_52_method_4_code 33 = .ok (.iload_n 1, 1) := by decide +kernel
theorem d33_34 : decode jdk_52_method_4_code 34 = .ok (.iinc 1 1, 3) := by decide +kernel
theorem d33_37 : decode jdk_52_method_4_code 37 = .ok (.iload_n 2, 1) := by decide +kernel
theorem d33_38 : decode jdk_52_method_4_code 38 = .ok (.getstatic 59, 3) := by decide +kernel
theorem d33_41 : decode jdk_52_method_4_code 41 = .ok (.ishr, 1) := by decide +kernel
theorem d33_42 : decode jdk_52_method_4_code 42 = .ok (.i2b, 1) := by decide +kernel
theorem d33_43 : decode jdk_52_method_4_code 43 = .ok (.bastore, 1) := by decide +kernel
theorem d33_44 : decode jdk_52_method_4_code 44 = .ok (.aload_n 0, 1) := by decide +kernel
theorem d33_45 : decode jdk_52_method_4_code 45 = .ok (.iload_n 1, 1) := by decide +kernel
theorem d33_46 : decode jdk_52_method_4_code 46 = .ok (.iload_n 2, 1) := by decide +kernel
theorem d33_47 : decode jdk_52_method_4_code 47 = .ok (.getstatic 63, 3) := by decide +kernel
theorem d33_50 : decode jdk_52_method_4_code 50 = .ok (.ishr, 1) := by decide +kernel
theorem d33_51 : decode jdk_52_method_4_code 51 = .ok (.i2b, 1) := by decide +kernel
theorem d33_52 : decode jdk_52_method_4_code 52 = .ok (.bastore, 1) := by decide +kernel
theorem d33_53 : decode jdk_52_method_4_code 53 = .ok (.return_, 1) := by decide +kernel
theorem ef_33 (m : MethodId) (a1 : Addr) (p2 : Int32) : entryFrame m #[(.ref a1), (.int (Int32.ofNat t)), (.int p2)] 3 = mkF m 0 #[.val (.ref a1), .val (.int (Int32.ofNat t)), .val (.int p2)] [] := by first | (simp [entryFrame, mkF, argsToLocals, Value.category]; done) | rfl
def Q33 (Z : State) (a1 : Addr) (p2 : Int32) (k1 : ClassId) (t : Nat) (g : Nat → Int32) (h0 : Heap) (n0 : Nat) (v : Option Value) (h : Heap) (L : List Loc) : Prop := v = none ∧ Fr n0 L ∧ Keep h0 h [a1] ∧ Arv Z h a1 k1 .byte (14 : Int32) (own_tab 14 (fun j => if j = 2 * t + 1 then ((p2 >>> ((8 : Int32) &&& 31)).toInt8.toInt32) else (fun j => if j = 2 * t then ((p2 >>> ((0 : Int32) &&& 31)).toInt8.toInt32) else g j) j)) (.int 0)
set_option maxRecDepth 65536 in
set_option maxHeartbeats 40000000 in
theorem rm33 (l : Launch) (Z : State) (a0 : Array Value) (hw : ∀ d ∈ tables_1, d.before a0 Z = true) (ws : List Jvm.Cond) (a1 : Addr) (p2 : Int32) (k1 : ClassId) (t : Nat) (g : Nat → Int32) (h0 : Heap) (n0 : Nat) (Z0 : n0 ≤ h0.size) (S__assertionsDisabled : Sta Z h0 "java/lang/StringUTF16" "$assertionsDisabled" "Z" (.int 1)) (S_HI_BYTE_SHIFT : Sta Z h0 "java/lang/StringUTF16" "HI_BYTE_SHIFT" "I" (.int 0)) (S_LO_BYTE_SHIFT : Sta Z h0 "java/lang/StringUTF16" "LO_BYTE_SHIFT" "I" (.int 8)) (V_a1 : Arv Z h0 a1 k1 .byte (14 : Int32) (own_tab 14 g) (.int 0)) (ht : t < 7) (g_a1 : n0 ≤ a1) :
  MetFree l (⟨"java/lang/StringUTF16", "putChar", "([BII)V"⟩ : MethodName) (head1 (Jvm.Cond.code (⟨"java/lang/StringUTF16", "putChar", "([BII)V"⟩ : MethodName) jdk_52_method_4_code 3 none :: ws) ({ frames := 0, cells := 0, slots := 0, locals := 0 } : Room)) (fun a U => a = #[(.ref a1), (.int (Int32.ofNat t)), (.int p2)] ∧ Z.Warmed39 U.vm ∧ U.heap = h0) (fun _ _ _ _ _ => True) (fun _ U o U' => ∃ v L, o = .returned v ∧ Q33 Z a1 p2 k1 t g h0 n0 v U'.heap L ∧ FrameEnd U o U' L ({ frames := 0, cells := 0, slots := 0, locals := 0 } : Room).cells ({ frames := 0, cells := 0, slots := 0, locals := 0 } : Room).slots) := by
 refine MetFree.of_bodySF (plainFor_of_name pn_69) hisR ?_
 intro p e s m args below meth c s₁ Bd hml0 hP hK
 obtain ⟨rfl, hZ, hh⟩ := hP
 have hx := Bd.exec
 have hby := Bd.bytes
 have hml : c.maxLocals = 3 := hml0
 have hown : s.vm.findClass "java/lang/StringUTF16" = some m.cls := findClass_of_methodNamed Bd.named
 have hnm := (name_of_methodNamed Bd.named Bd.method).1
 have X0 : Stand p l e ({ frames := 0, cells := 0, slots := 0, locals := 0 } : Room) s m #[(.ref a1), (.int (Int32.ofNat t)), (.int p2)] below meth c s₁ [] 0 0 := Stand.of_body Bd
 have e0 : s₁.heap = h0 := by rw [← hh, Bd.state]; rfl
 have N0 := Fr.nil n0
 refine own_go (B := s₁.setTop (mkF m 0 #[.val (.ref a1), .val (.int (Int32.ofNat t)), .val (.int p2)] [])) (fun t k => castTop (ef_33 m a1 p2) k) ?_
 obtain ⟨T59, X59, e59, st59⟩ := getS2 X0 hx hZ hown (host := "") (Or.inl (hw _ (List.mem_of_getElem? (i := 158) rfl))) Via.refl e0 S__assertionsDisabled (g := (mkF m 0 #[.val (.ref a1), .val (.int (Int32.ofNat t)), .val (.int p2)] [])) rfl (hb hby d33_0)
 refine own_go st59 ?_
 refine own_go (B := T59.setTop (mkF m 31 #[.val (.ref a1), .val (.int (Int32.ofNat t)), .val (.int p2)] [(.int ((Int32.ofNat t) <<< ((1 : Int32) &&& 31)))])) (fun tg kt => ?_) ?_
 ·refine XS.ifYes X59.here hx rfl (pc0 := 3) (pc' := 28) rfl (hb hby d33_3) rfl ((if0 _ _).trans (feq (by decide : ¬ ((1 : Int32) = (0 : Int32)))).2) (by decide) (by decide) ?_
  refine XS.iloadN X59.here hx rfl (hb hby d33_28) rfl ?_
  refine XS.iconst X59.here hx rfl (hb hby d33_29) ?_
  refine XS.ishl X59.here hx rfl (hb hby d33_30) rfl ?_
  exact kt
 rw [show ((Int32.ofNat t) <<< ((1 : Int32) &&& 31)) = (Int32.ofNat (2 * t)) from own_dbl ht]
 refine own_go (B := T59.setTop (mkF m 37 #[.val (.ref a1), .val (.int ((Int32.ofNat (2 * t)) + (1 : Int32))), .val (.int p2)] [(.int (Int32.ofNat (2 * t))), (.ref a1)])) (fun tg kt => ?_) ?_
 ·refine XS.istoreN X59.here hx rfl (hb hby d33_31) rfl (l' := #[.val (.ref a1), .val (.int (Int32.ofNat (2 * t))), .val (.int p2)]) rfl ?_
  refine XS.aloadN X59.here hx rfl (hb hby d33_32) rfl rfl ?_
  refine XS.iloadN X59.here hx rfl (hb hby d33_33) rfl ?_
  refine XS.iinc X59.here hx rfl (hb hby d33_34) rfl (l' := #[.val (.ref a1), .val (.int ((Int32.ofNat (2 * t)) + (1 : Int32))), .val (.int p2)]) rfl ?_
  exact kt
 rw [show ((Int32.ofNat (2 * t)) + (1 : Int32)) = (Int32.ofNat (2 * t + 1)) from own_isucc _]
 refine own_go (B := T59.setTop (mkF m 38 #[.val (.ref a1), .val (.int (Int32.ofNat (2 * t + 1))), .val (.int p2)] [(.int p2), (.int (Int32.ofNat (2 * t))), (.ref a1)])) (fun tg kt => ?_) ?_
 ·refine XS.iloadN X59.here hx rfl (hb hby d33_37) rfl ?_
  exact kt
 obtain ⟨T60, X60, e60, st60⟩ := getS2 X59 hx hZ hown (host := "") (Or.inl (hw _ (List.mem_of_getElem? (i := 159) rfl))) Via.refl e59 S_HI_BYTE_SHIFT (g := (mkF m 38 #[.val (.ref a1), .val (.int (Int32.ofNat (2 * t + 1))), .val (.int p2)] [(.int p2), (.int (Int32.ofNat (2 * t))), (.ref a1)])) rfl (hb hby d33_38)
 refine own_go st60 ?_
 refine own_go (B := T60.setTop (mkF m 43 #[.val (.ref a1), .val (.int (Int32.ofNat (2 * t + 1))), .val (.int p2)] [(.int ((p2 >>> ((0 : Int32) &&& 31)).toInt8.toInt32)), (.int (Int32.ofNat (2 * t))), (.ref a1)])) (fun tg kt => ?_) ?_
 ·refine XS.ishr X60.here hx rfl (hb hby d33_41) rfl ?_
  refine XS.i2b X60.here hx rfl (hb hby d33_42) rfl ?_
  exact kt
 obtain ⟨cl61, Ar61, cq61, cS61, cN61, cH61, cG61⟩ := id V_a1
 have hin61 := inb_of (j := (Int32.ofNat (2 * t))) cS61 (own_inb (N := 14) (own_toInt (t := 2 * t) (by omega)) (by omega) (by decide))
 obtain ⟨T61, h61, X61, e61, W61, st61⟩ := stB X60 hx hZ e60 Ar61 (j := (Int32.ofNat (2 * t))) hin61 (g := (mkF m 43 #[.val (.ref a1), .val (.int (Int32.ofNat (2 * t + 1))), .val (.int p2)] [(.int ((p2 >>> ((0 : Int32) &&& 31)).toInt8.toInt32)), (.int (Int32.ofNat (2 * t))), (.ref a1)])) rfl rfl (hb hby d33_43)
 refine own_go st61 ?_
 have V61 : Arv Z h61 a1 k1 .byte (14 : Int32) (own_tab 14 (fun j => if j = 2 * t then ((p2 >>> ((0 : Int32) &&& 31)).toInt8.toInt32) else g j)) (.int 0) := by have q := Arv.set Ar61 cq61 cS61 cN61 cH61 cG61 (fits_nar_byte _) W61 (2 * t) (own_nat (by omega)) (by rw [own_tab_len]; omega); rw [own_tab_set _ _ (by omega), own_narB] at q; exact q
 have K61 : Keep h0 h61 [a1] := Keep.wr (Keep.refl h0 [a1]) W61 (Or.inl (List.mem_of_getElem? (i := 0) rfl))
 have N61 := Fr.snoc X61 N0 g_a1
 refine own_go (B := T61.setTop (mkF m 47 #[.val (.ref a1), .val (.int (Int32.ofNat (2 * t + 1))), .val (.int p2)] [(.int p2), (.int (Int32.ofNat (2 * t + 1))), (.ref a1)])) (fun tg kt => ?_) ?_
 ·refine XS.aloadN X61.here hx rfl (hb hby d33_44) rfl rfl ?_
  refine XS.iloadN X61.here hx rfl (hb hby d33_45) rfl ?_
  refine XS.iloadN X61.here hx rfl (hb hby d33_46) rfl ?_
  exact kt
 have f63 : Sta Z h61 "java/lang/StringUTF16" "LO_BYTE_SHIFT" "I" (.int 8) := (S_LO_BYTE_SHIFT.wr W61)
 obtain ⟨T62, X62, e62, st62⟩ := getS2 X61 hx hZ hown (host := "") (Or.inl (hw _ (List.mem_of_getElem? (i := 160) rfl))) Via.refl e61 f63 (g := (mkF m 47 #[.val (.ref a1), .val (.int (Int32.ofNat (2 * t + 1))), .val (.int p2)] [(.int p2), (.int (Int32.ofNat (2 * t + 1))), (.ref a1)])) rfl (hb hby d33_47)
 refine own_go st62 ?_
 refine own_go (B := T62.setTop (mkF m 52 #[.val (.ref a1), .val (.int (Int32.ofNat (2 * t + 1))), .val (.int p2)] [(.int ((p2 >>> ((8 : Int32) &&& 31)).toInt8.toInt32)), (.int (Int32.ofNat (2 * t + 1))), (.ref a1)])) (fun tg kt => ?_) ?_
 ·refine XS.ishr X62.here hx rfl (hb hby d33_50) rfl ?_
  refine XS.i2b X62.here hx rfl (hb hby d33_51) rfl ?_
  exact kt
 obtain ⟨cl64, Ar64, cq64, cS64, cN64, cH64, cG64⟩ := id V61
 have hin64 := inb_of (j := (Int32.ofNat (2 * t + 1))) cS64 (own_inb (N := 14) (own_toInt (t := 2 * t + 1) (by omega)) (by omega) (by decide))
 obtain ⟨T64, h64, X64, e64, W64, st64⟩ := stB X62 hx hZ e62 Ar64 (j := (Int32.ofNat (2 * t + 1))) hin64 (g := (mkF m 52 #[.val (.ref a1), .val (.int (Int32.ofNat (2 * t + 1))), .val (.int p2)] [(.int ((p2 >>> ((8 : Int32) &&& 31)).toInt8.toInt32)), (.int (Int32.ofNat (2 * t + 1))), (.ref a1)])) rfl rfl (hb hby d33_52)
 refine own_go st64 ?_
 have V64 : Arv Z h64 a1 k1 .byte (14 : Int32) (own_tab 14 (fun j => if j = 2 * t + 1 then ((p2 >>> ((8 : Int32) &&& 31)).toInt8.toInt32) else (fun j => if j = 2 * t then ((p2 >>> ((0 : Int32) &&& 31)).toInt8.toInt32) else g j) j)) (.int 0) := by have q := Arv.set Ar64 cq64 cS64 cN64 cH64 cG64 (fits_nar_byte _) W64 (2 * t + 1) (own_nat (by omega)) (by rw [own_tab_len]; omega); rw [own_tab_set _ _ (by omega), own_narB] at q; exact q
 have K64 : Keep h0 h64 [a1] := Keep.wr K61 W64 (Or.inl (List.mem_of_getElem? (i := 0) rfl))
 have N64 := Fr.snoc X64 N61 g_a1
 obtain ⟨fs, hr, hrun, hended, hW, hsame⟩ := X64.leave (v := none) (fun _ => rfl)
 refine ⟨_, _, ?_, hrun, hended, _, _, rfl, ?_, ⟨_, rfl⟩, hW, hsame.mono (by decide) (by decide)⟩
 ·exact X64.returnOut hx Bd.returns (hb hby d33_53) hr
 ·show Q33 Z a1 p2 k1 t g h0 n0 _ T64.heap _
  rw [e64]
  exact ⟨rfl, N64, K64, V64⟩
theorem d34_0 : decode jdk_52_method_5_code 0 = .ok (.getstatic 44, 3) := by decide +kernel
theorem d34_3 : decode jdk_52_method_5_code 3 = .ok (.ifCond .ne 25, 3) := by decide +kernel
theorem d34_28 : decode jdk_52_method_5_code 28 = .ok (.iload_n 1, 1) := by decide +kernel
theorem d34_29 : decode jdk_52_method_5_code 29 = .ok (.iconst 1, 1) := by decide +kernel
theorem d34_30 : decode jdk_52_method_5_code 30 = .ok (.ishl, 1) := by decide +kernel
theorem d34_31 : decode jdk_52_method_5_code 31 = .ok (.istore_n 1, 1) := by decide +kernel
theorem d34_32 : decode jdk_52_method_5_code 32 = .ok (.aload_n 0, 1) := by decide +kernel
theorem d34_33 : decode jdk_52_method_5_code 33 = .ok (.iload_n 1, 1) := by decide +kernel
theorem d34_34 : decode jdk_52_method_5_code 34 = .ok (.iinc 1 1, 3) := by decide +kernel
theorem d34_37 : decode jdk_52_method_5_code 37 = .ok (.baload, 1) := by decide +kernel
theorem d34_38 : decode jdk_52_method_5_code 38 = .ok (.sipush 255, 3) := by decide +kernel
theorem d34_41 : decode jdk_52_method_5_code 41 = .ok (.iand, 1) := by decide +kernel
theorem d34_42 : decode jdk_52_method_5_code 42 = .ok (.getstatic 59, 3) := by decide +kernel
theorem d34_45 : decode jdk_52_method_5_code 45 = .ok (.ishl, 1) := by decide +kernel
theorem d34_46 : decode jdk_52_method_5_code 46 = .ok (.aload_n 0, 1) := by decide +kernel
theorem d34_47 : decode jdk_52_method_5_code 47 = .ok (.iload_n 1, 1) := by decide +kernel
theorem d34_48 : decode jdk_52_method_5_code 48 = .ok (.baload, 1) := by decide +kernel
theorem d34_49 : decode jdk_52_method_5_code 49 = .ok (.sipush 255, 3) := by decide +kernel
theorem d34_52 : decode jdk_52_method_5_code 52 = .ok (.iand, 1) := by decide +kernel
theorem d34_53 : decode jdk_52_method_5_code 53 = .ok (.getstatic 63, 3) := by decide +kernel
theorem d34_56 : decode jdk_52_method_5_code 56 = .ok (.ishl, 1) := by decide +kernel
theorem d34_57 : decode jdk_52_method_5_code 57 = .ok (.ior, 1) := by decide +kernel
theorem d34_58 : decode jdk_52_method_5_code 58 = .ok (.i2c, 1) := by decide +kernel
theorem d34_59 : decode jdk_52_method_5_code 59 = .ok (.ireturn, 1) := by decide +kernel
theorem ef_34 (m : MethodId) (a1 : Addr) : entryFrame m #[(.ref a1), (.int (Int32.ofNat t))] 2 = mkF m 0 #[.val (.ref a1), .val (.int (Int32.ofNat t))] [] := by first | (simp [entryFrame, mkF, argsToLocals, Value.category]; done) | rfl
def Q34 (Z : State) (a1 : Addr) (k1 : ClassId) (t : Nat) (cs : Nat → Int32) (h0 : Heap) (n0 : Nat) (v : Option Value) (h : Heap) (L : List Loc) : Prop := v = some (.int (cs t)) ∧ Fr n0 L ∧ h = h0
set_option maxRecDepth 65536 in
set_option maxHeartbeats 40000000 in
theorem rm34 (l : Launch) (Z : State) (a0 : Array Value) (hw : ∀ d ∈ tables_1, d.before a0 Z = true) (ws : List Jvm.Cond) (a1 : Addr) (k1 : ClassId) (t : Nat) (cs : Nat → Int32) (h0 : Heap) (n0 : Nat) (Z0 : n0 ≤ h0.size) (S__assertionsDisabled : Sta Z h0 "java/lang/StringUTF16" "$assertionsDisabled" "Z" (.int 1)) (S_HI_BYTE_SHIFT : Sta Z h0 "java/lang/StringUTF16" "HI_BYTE_SHIFT" "I" (.int 0)) (S_LO_BYTE_SHIFT : Sta Z h0 "java/lang/StringUTF16" "LO_BYTE_SHIFT" "I" (.int 8)) (V_a1 : Arv Z h0 a1 k1 .byte (14 : Int32) (own_tab 14 (own_u cs)) (.int 0)) (ht : t < 7) (hC : ∀ i, i < 7 → 0 ≤ (cs i).toInt ∧ (cs i).toInt ≤ 65535) :
  MetFree l (⟨"java/lang/StringUTF16", "getChar", "([BI)C"⟩ : MethodName) (head1 (Jvm.Cond.code (⟨"java/lang/StringUTF16", "getChar", "([BI)C"⟩ : MethodName) jdk_52_method_5_code 2 (some .char) :: ws) ({ frames := 0, cells := 0, slots := 0, locals := 0 } : Room)) (fun a U => a = #[(.ref a1), (.int (Int32.ofNat t))] ∧ Z.Warmed39 U.vm ∧ U.heap = h0) (fun _ _ _ _ _ => True) (fun _ U o U' => ∃ v L, o = .returned v ∧ Q34 Z a1 k1 t cs h0 n0 v U'.heap L ∧ FrameEnd U o U' L ({ frames := 0, cells := 0, slots := 0, locals := 0 } : Room).cells ({ frames := 0, cells := 0, slots := 0, locals := 0 } : Room).slots) := by
 refine MetFree.of_bodySF (plainFor_of_name pn_69) hisR ?_
 intro p e s m args below meth c s₁ Bd hml0 hP hK
 obtain ⟨rfl, hZ, hh⟩ := hP
 have hx := Bd.exec
 have hby := Bd.bytes
 have hml : c.maxLocals = 2 := hml0
 have hown : s.vm.findClass "java/lang/StringUTF16" = some m.cls := findClass_of_methodNamed Bd.named
 have hnm := (name_of_methodNamed Bd.named Bd.method).1
 have X0 : Stand p l e ({ frames := 0, cells := 0, slots := 0, locals := 0 } : Room) s m #[(.ref a1), (.int (Int32.ofNat t))] below meth c s₁ [] 0 0 := Stand.of_body Bd
 have e0 : s₁.heap = h0 := by rw [← hh, Bd.state]; rfl
 have N0 := Fr.nil n0
 refine own_go (B := s₁.setTop (mkF m 0 #[.val (.ref a1), .val (.int (Int32.ofNat t))] [])) (fun t k => castTop (ef_34 m a1) k) ?_
 obtain ⟨T66, X66, e66, st66⟩ := getS2 X0 hx hZ hown (host := "") (Or.inl (hw _ (List.mem_of_getElem? (i := 158) rfl))) Via.refl e0 S__assertionsDisabled (g := (mkF m 0 #[.val (.ref a1), .val (.int (Int32.ofNat t))] [])) rfl (hb hby d34_0)
 refine own_go st66 ?_
 refine own_go (B := T66.setTop (mkF m 31 #[.val (.ref a1), .val (.int (Int32.ofNat t))] [(.int ((Int32.ofNat t) <<< ((1 : Int32) &&& 31)))])) (fun tg kt => ?_) ?_
 ·refine XS.ifYes X66.here hx rfl (pc0 := 3) (pc' := 28) rfl (hb hby d34_3) rfl ((if0 _ _).trans (feq (by decide : ¬ ((1 : Int32) = (0 : Int32)))).2) (by decide) (by decide) ?_
  refine XS.iloadN X66.here hx rfl (hb hby d34_28) rfl ?_
  refine XS.iconst X66.here hx rfl (hb hby d34_29) ?_
  refine XS.ishl X66.here hx rfl (hb hby d34_30) rfl ?_
  exact kt
 rw [show ((Int32.ofNat t) <<< ((1 : Int32) &&& 31)) = (Int32.ofNat (2 * t)) from own_dbl ht]
 refine own_go (B := T66.setTop (mkF m 37 #[.val (.ref a1), .val (.int ((Int32.ofNat (2 * t)) + (1 : Int32)))] [(.int (Int32.ofNat (2 * t))), (.ref a1)])) (fun tg kt => ?_) ?_
 ·refine XS.istoreN X66.here hx rfl (hb hby d34_31) rfl (l' := #[.val (.ref a1), .val (.int (Int32.ofNat (2 * t)))]) rfl ?_
  refine XS.aloadN X66.here hx rfl (hb hby d34_32) rfl rfl ?_
  refine XS.iloadN X66.here hx rfl (hb hby d34_33) rfl ?_
  refine XS.iinc X66.here hx rfl (hb hby d34_34) rfl (l' := #[.val (.ref a1), .val (.int ((Int32.ofNat (2 * t)) + (1 : Int32)))]) rfl ?_
  exact kt
 rw [show ((Int32.ofNat (2 * t)) + (1 : Int32)) = (Int32.ofNat (2 * t + 1)) from own_isucc _]
 obtain ⟨cl67, Ar67, cq67, cS67, cN67, cH67, cG67⟩ := id V_a1
 have hin67 := inb_of (j := (Int32.ofNat (2 * t))) cS67 (own_inb (N := 14) (own_toInt (t := 2 * t) (by omega)) (by omega) (by decide))
 have hat67 : cl67.slots[((Int32.ofNat (2 * t))).toNatClampNeg]? = some (.int (own_u0 (cs t))) := Has.at cH67 hin67 ((own_at (own_u cs) _ (own_toInt (by omega)) (by omega)).trans (own_ue cs t))
 refine own_go (B := T66.setTop (mkF m 42 #[.val (.ref a1), .val (.int (Int32.ofNat (2 * t + 1)))] [(.int ((own_u0 (cs t)) &&& (255 : Int32)))])) (fun tg kt => ?_) ?_
 ·refine X66.baloadBytes hx (j := (Int32.ofNat (2 * t))) (v := (.int (own_u0 (cs t)))) (by rw [e66]; exact Ar67.1) (State.isArrayOf_alike hZ.alike Ar67.2.1) Ar67.2.2 hin67 hat67 (g := (mkF m 37 #[.val (.ref a1), .val (.int (Int32.ofNat (2 * t + 1)))] [(.int (Int32.ofNat (2 * t))), (.ref a1)])) rfl rfl (hb hby d34_37) _ ?_
  refine XS.sipush X66.here hx rfl (hb hby d34_38) ?_
  refine XS.iand X66.here hx rfl (hb hby d34_41) rfl ?_
  exact kt
 obtain ⟨T68, X68, e68, st68⟩ := getS2 X66 hx hZ hown (host := "") (Or.inl (hw _ (List.mem_of_getElem? (i := 159) rfl))) Via.refl e66 S_HI_BYTE_SHIFT (g := (mkF m 42 #[.val (.ref a1), .val (.int (Int32.ofNat (2 * t + 1)))] [(.int ((own_u0 (cs t)) &&& (255 : Int32)))])) rfl (hb hby d34_42)
 refine own_go st68 ?_
 refine own_go (B := T68.setTop (mkF m 48 #[.val (.ref a1), .val (.int (Int32.ofNat (2 * t + 1)))] [(.int (Int32.ofNat (2 * t + 1))), (.ref a1), (.int (((own_u0 (cs t)) &&& (255 : Int32)) <<< ((0 : Int32) &&& 31)))])) (fun tg kt => ?_) ?_
 ·refine XS.ishl X68.here hx rfl (hb hby d34_45) rfl ?_
  refine XS.aloadN X68.here hx rfl (hb hby d34_46) rfl rfl ?_
  refine XS.iloadN X68.here hx rfl (hb hby d34_47) rfl ?_
  exact kt
 obtain ⟨cl69, Ar69, cq69, cS69, cN69, cH69, cG69⟩ := id V_a1
 have hin69 := inb_of (j := (Int32.ofNat (2 * t + 1))) cS69 (own_inb (N := 14) (own_toInt (t := 2 * t + 1) (by omega)) (by omega) (by decide))
 have hat69 : cl69.slots[((Int32.ofNat (2 * t + 1))).toNatClampNeg]? = some (.int (own_u1 (cs t))) := Has.at cH69 hin69 ((own_at (own_u cs) _ (own_toInt (by omega)) (by omega)).trans (own_uo1 cs t))
 refine own_go (B := T68.setTop (mkF m 53 #[.val (.ref a1), .val (.int (Int32.ofNat (2 * t + 1)))] [(.int ((own_u1 (cs t)) &&& (255 : Int32))), (.int (((own_u0 (cs t)) &&& (255 : Int32)) <<< ((0 : Int32) &&& 31)))])) (fun tg kt => ?_) ?_
 ·refine X68.baloadBytes hx (j := (Int32.ofNat (2 * t + 1))) (v := (.int (own_u1 (cs t)))) (by rw [e68]; exact Ar69.1) (State.isArrayOf_alike hZ.alike Ar69.2.1) Ar69.2.2 hin69 hat69 (g := (mkF m 48 #[.val (.ref a1), .val (.int (Int32.ofNat (2 * t + 1)))] [(.int (Int32.ofNat (2 * t + 1))), (.ref a1), (.int (((own_u0 (cs t)) &&& (255 : Int32)) <<< ((0 : Int32) &&& 31)))])) rfl rfl (hb hby d34_48) _ ?_
  refine XS.sipush X68.here hx rfl (hb hby d34_49) ?_
  refine XS.iand X68.here hx rfl (hb hby d34_52) rfl ?_
  exact kt
 obtain ⟨T70, X70, e70, st70⟩ := getS2 X68 hx hZ hown (host := "") (Or.inl (hw _ (List.mem_of_getElem? (i := 160) rfl))) Via.refl e68 S_LO_BYTE_SHIFT (g := (mkF m 53 #[.val (.ref a1), .val (.int (Int32.ofNat (2 * t + 1)))] [(.int ((own_u1 (cs t)) &&& (255 : Int32))), (.int (((own_u0 (cs t)) &&& (255 : Int32)) <<< ((0 : Int32) &&& 31)))])) rfl (hb hby d34_53)
 refine own_go st70 ?_
 refine own_go (B := T70.setTop (mkF m 59 #[.val (.ref a1), .val (.int (Int32.ofNat (2 * t + 1)))] [(.int (((((own_u0 (cs t)) &&& (255 : Int32)) <<< ((0 : Int32) &&& 31)) ||| (((own_u1 (cs t)) &&& (255 : Int32)) <<< ((8 : Int32) &&& 31))).toUInt32.toUInt16.toUInt32.toInt32))])) (fun tg kt => ?_) ?_
 ·refine XS.ishl X70.here hx rfl (hb hby d34_56) rfl ?_
  refine XS.ior X70.here hx rfl (hb hby d34_57) rfl ?_
  refine XS.i2c X70.here hx rfl (hb hby d34_58) rfl ?_
  exact kt
 obtain ⟨fs, hr, hrun, hended, hW, hsame⟩ := X70.leave (v := some (.int (nar .char (((((own_u0 (cs t)) &&& (255 : Int32)) <<< ((0 : Int32) &&& 31)) ||| (((own_u1 (cs t)) &&& (255 : Int32)) <<< ((8 : Int32) &&& 31))).toUInt32.toUInt16.toUInt32.toInt32)))) (fun h => by rw [Bd.returns] at h; cases h)
 refine ⟨_, _, ?_, hrun, hended, _, _, rfl, ?_, ⟨_, rfl⟩, hW, hsame.mono (by decide) (by decide)⟩
 ·exact retN X70 hx (t := .char) Bd.returns (by simp) (hb hby d34_59) hr
 ·show Q34 Z a1 k1 t cs h0 n0 _ T70.heap _
  rw [e70]
  exact ⟨(own_gc (hC t ht)), N0, rfl⟩
theorem d32_0 : decode jdk_52_method_3_code 0 = .ok (.iload_n 0, 1) := by decide +kernel
theorem d32_1 : decode jdk_52_method_3_code 1 = .ok (.ifCond .ge 11, 3) := by decide +kernel
theorem d32_12 : decode jdk_52_method_3_code 12 = .ok (.iload_n 0, 1) := by decide +kernel
theorem d32_13 : decode jdk_52_method_3_code 13 = .ok (.ldc 20, 2) := by decide +kernel
theorem d32_15 : decode jdk_52_method_3_code 15 = .ok (.if_icmp .lt 40, 3) := by decide +kernel
theorem d32_55 : decode jdk_52_method_3_code 55 = .ok (.iload_n 0, 1) := by decide +kernel
theorem d32_56 : decode jdk_52_method_3_code 56 = .ok (.iconst 1, 1) := by decide +kernel
theorem d32_57 : decode jdk_52_method_3_code 57 = .ok (.ishl, 1) := by decide +kernel
theorem d32_58 : decode jdk_52_method_3_code 58 = .ok (.ireturn, 1) := by decide +kernel
theorem ef_32 (m : MethodId)  : entryFrame m #[(.int 7)] 1 = mkF m 0 #[.val (.int 7)] [] := by first | (simp [entryFrame, mkF, argsToLocals, Value.category]; done) | rfl
def Q32 (Z : State)  (h0 : Heap) (n0 : Nat) (v : Option Value) (h : Heap) (L : List Loc) : Prop := v = some (.int 14) ∧ Fr n0 L ∧ h = h0
set_option maxRecDepth 65536 in
set_option maxHeartbeats 40000000 in
theorem rm32 (l : Launch) (Z : State) (a0 : Array Value) (hw : ∀ d ∈ tables_1, d.before a0 Z = true) (ws : List Jvm.Cond)  (h0 : Heap) (n0 : Nat) (Z0 : n0 ≤ h0.size) :
  MetFree l (⟨"java/lang/StringUTF16", "newBytesLength", "(I)I"⟩ : MethodName) (head1 (Jvm.Cond.code (⟨"java/lang/StringUTF16", "newBytesLength", "(I)I"⟩ : MethodName) jdk_52_method_3_code 1 (some .int) :: ws) ({ frames := 0, cells := 0, slots := 0, locals := 0 } : Room)) (fun a U => a = #[(.int 7)] ∧ Z.Warmed39 U.vm ∧ U.heap = h0) (fun _ _ _ _ _ => True) (fun _ U o U' => ∃ v L, o = .returned v ∧ Q32 Z  h0 n0 v U'.heap L ∧ FrameEnd U o U' L ({ frames := 0, cells := 0, slots := 0, locals := 0 } : Room).cells ({ frames := 0, cells := 0, slots := 0, locals := 0 } : Room).slots) := by
 refine MetFree.of_bodySF (plainFor_of_name pn_69) hisR ?_
 intro p e s m args below meth c s₁ Bd hml0 hP hK
 obtain ⟨rfl, hZ, hh⟩ := hP
 have hx := Bd.exec
 have hby := Bd.bytes
 have hml : c.maxLocals = 1 := hml0
 have hown : s.vm.findClass "java/lang/StringUTF16" = some m.cls := findClass_of_methodNamed Bd.named
 have hnm := (name_of_methodNamed Bd.named Bd.method).1
 have X0 : Stand p l e ({ frames := 0, cells := 0, slots := 0, locals := 0 } : Room) s m #[(.int 7)] below meth c s₁ [] 0 0 := Stand.of_body Bd
 have e0 : s₁.heap = h0 := by rw [← hh, Bd.state]; rfl
 have N0 := Fr.nil n0
 refine own_go (B := s₁.setTop (mkF m 0 #[.val (.int 7)] [])) (fun t k => castTop (ef_32 m ) k) ?_
 refine own_go (B := s₁.setTop (mkF m 58 #[.val (.int 7)] [(.int 14)])) (fun tg kt => ?_) ?_
 ·refine XS.iloadN X0.here hx rfl (hb hby d32_0) rfl ?_
  refine XS.ifYes X0.here hx rfl (pc0 := 1) (pc' := 12) rfl (hb hby d32_1) rfl ((if0 _ _).trans (flt (by decide : ¬ ((7 : Int32) < (0 : Int32)))).2.1) (by decide) (by decide) ?_
  refine XS.iloadN X0.here hx rfl (hb hby d32_12) rfl ?_
  refine X0.ldcInt hx hown (mvT hZ (hw _ (List.mem_of_getElem? (i := 154) rfl))) (g := (mkF m 13 #[.val (.int 7)] [(.int 7)])) rfl (hb hby d32_13) _ ?_
  refine XS.icmpYes X0.here hx rfl (pc0 := 15) (pc' := 55) rfl (hb hby d32_15) rfl (tlt (by decide : (7 : Int32) < (1073741823 : Int32))).1 (by decide) (by decide) ?_
  refine XS.iloadN X0.here hx rfl (hb hby d32_55) rfl ?_
  refine XS.iconst X0.here hx rfl (hb hby d32_56) ?_
  refine XS.ishl X0.here hx rfl (hb hby d32_57) rfl ?_
  exact kt
 obtain ⟨fs, hr, hrun, hended, hW, hsame⟩ := X0.leave (v := some (.int 14)) (fun h => by rw [Bd.returns] at h; cases h)
 refine ⟨_, _, ?_, hrun, hended, _, _, rfl, ?_, ⟨_, rfl⟩, hW, hsame.mono (by decide) (by decide)⟩
 ·exact retI X0 hx Bd.returns (hb hby d32_58) hr
 ·show Q32 Z  h0 n0 _ s₁.heap _
  rw [e0]
  exact ⟨rfl, N0, rfl⟩
theorem d31_0 : decode jdk_52_method_2_code 0 = .ok (.iload_n 0, 1) := by decide +kernel
theorem d31_1 : decode jdk_52_method_2_code 1 = .ok (.invokestatic 11, 3) := by decide +kernel
theorem d31_4 : decode jdk_52_method_2_code 4 = .ok (.newarray .byte, 2) := by decide +kernel
theorem d31_6 : decode jdk_52_method_2_code 6 = .ok (.areturn, 1) := by decide +kernel
theorem ef_31 (m : MethodId)  : entryFrame m #[(.int 7)] 1 = mkF m 0 #[.val (.int 7)] [] := by first | (simp [entryFrame, mkF, argsToLocals, Value.category]; done) | rfl
def Q31 (Z : State)  (h0 : Heap) (n0 : Nat) (v : Option Value) (h : Heap) (L : List Loc) : Prop := ∃ (bn : Addr) (kn : ClassId), v = some (.ref bn) ∧ Fr n0 L ∧ Keep h0 h [] ∧ h0.size ≤ bn ∧ Arv Z h bn kn .byte (14 : Int32) (own_tab 14 (fun _ => 0)) (.int 0)
set_option maxRecDepth 65536 in
set_option maxHeartbeats 40000000 in
theorem rm31 (l : Launch) (Z : State) (a0 : Array Value) (hw : ∀ d ∈ tables_1, d.before a0 Z = true) (ws : List Jvm.Cond)  (h0 : Heap) (n0 : Nat) (Z0 : n0 ≤ h0.size) :
  MetFree l (⟨"java/lang/StringUTF16", "newBytesFor", "(I)[B"⟩ : MethodName) (head1 (Jvm.Cond.code (⟨"java/lang/StringUTF16", "newBytesFor", "(I)[B"⟩ : MethodName) jdk_52_method_2_code 1 (some (.array .byte)) :: ws) ({ frames := 1, cells := 1, slots := 14, locals := 12 } : Room)) (fun a U => a = #[(.int 7)] ∧ Z.Warmed39 U.vm ∧ U.heap = h0) (fun _ _ _ _ _ => True) (fun _ U o U' => ∃ v L, o = .returned v ∧ Q31 Z  h0 n0 v U'.heap L ∧ FrameEnd U o U' L ({ frames := 1, cells := 1, slots := 14, locals := 12 } : Room).cells ({ frames := 1, cells := 1, slots := 14, locals := 12 } : Room).slots) := by
 refine MetFree.of_bodySF (plainFor_of_name pn_69) hisR ?_
 intro p e s m args below meth c s₁ Bd hml0 hP hK
 obtain ⟨rfl, hZ, hh⟩ := hP
 have hx := Bd.exec
 have hby := Bd.bytes
 have hml : c.maxLocals = 1 := hml0
 have hown : s.vm.findClass "java/lang/StringUTF16" = some m.cls := findClass_of_methodNamed Bd.named
 have hnm := (name_of_methodNamed Bd.named Bd.method).1
 have X0 : Stand p l e ({ frames := 1, cells := 1, slots := 14, locals := 12 } : Room) s m #[(.int 7)] below meth c s₁ [] 0 0 := Stand.of_body Bd
 have e0 : s₁.heap = h0 := by rw [← hh, Bd.state]; rfl
 have N0 := Fr.nil n0
 refine own_go (B := s₁.setTop (mkF m 0 #[.val (.int 7)] [])) (fun t k => castTop (ef_31 m ) k) ?_
 refine own_go (B := s₁.setTop (mkF m 1 #[.val (.int 7)] [(.int 7)])) (fun tg kt => ?_) ?_
 ·refine XS.iloadN X0.here hx rfl (hb hby d31_0) rfl ?_
  exact kt
 obtain ⟨_, _, ⟨T73, L73, k73, n73⟩, -, X73, ⟨Lc73, hQ73, l73, y73, z73⟩, st73⟩ := Jvm.LawKit.callS X0 hx (y := (⟨"java/lang/StringUTF16", "newBytesLength", "(I)I"⟩ : MethodName)) hown (mvT hZ (hw _ (List.mem_of_getElem? (i := 151) rfl))) (mvT hZ (hw _ (List.mem_of_getElem? (i := 152) rfl))) (mvT hZ (hw _ (List.mem_of_getElem? (i := 35) rfl))) (mvT hZ (hw _ (List.mem_of_getElem? (i := 153) rfl))) (by decide) (backOf (W := 0) (rm32 l Z a0 hw []  h0 n0 Z0 ) hZ (hw _ (List.mem_of_getElem? (i := 153) rfl)) (hw _ (List.mem_of_getElem? (i := 35) rfl)) (by decide) (by decide)) (g := (mkF m 1 #[.val (.int 7)] [(.int 7)])) rfl (by rw [hml]; rfl) (argsL := [(.int 7)]) (rest := []) (lenOf pd_0 rfl) rfl (by show 2 * 0 + _ ≤ _; exact Nat.le_of_eq rfl) (hb hby d31_1) (fun _ _ => ⟨rfl, e0, (by decide : 0 + 0 ≤ _), (by decide : 0 + 0 ≤ _)⟩)
 dsimp only [Pt.U, Pt.locs, Pt.cells, Pt.slots] at X73 l73 y73 z73 st73 hQ73
 rw [l73, y73, z73] at X73
 obtain ⟨rfl, M73, q73_0⟩ := hQ73
 have N73 := Fr.app N0 M73
 refine own_go st73 ?_
 obtain ⟨T74, h74, k74, X74, e74, E74, A74, st74⟩ := newP X73 hx hZ (hw _ (List.mem_of_getElem? (i := 37) rfl)) q73_0 (g := (mkF m 4 #[.val (.int 7)] [(.int 14)])) rfl (hb hby d31_4) rfl (by decide) (cap := 14) (by decide) (by decide) (by decide) (by decide)
 obtain ⟨b74, g74⟩ : ∃ z, z = h0.size := ⟨_, rfl⟩
 rw [← g74] at A74 st74
 refine own_go st74 ?_
 have K74 : Keep h0 h74 [] := Keep.ext (Keep.refl h0 []) E74
 have V74 : Arv Z h74 b74 k74 .byte (14 : Int32) (own_tab 14 (fun _ => 0)) (.int 0) := (Arv.new A74 (by decide)).pad (own_tab0 14)
 obtain ⟨fs, hr, hrun, hended, hW, hsame⟩ := X74.leave (v := some (.ref b74)) (fun h => by rw [Bd.returns] at h; cases h)
 refine ⟨_, _, ?_, hrun, hended, _, _, rfl, ?_, ⟨_, rfl⟩, hW, hsame.mono (by decide) (by decide)⟩
 ·exact own_retR X74 hx Bd.returns rfl rfl (hb hby d31_6) hr
 ·show Q31 Z  h0 n0 _ T74.heap _
  rw [e74]
  exact ⟨b74, k74, rfl, N73, K74, (Nat.le_of_eq g74.symm), V74⟩
theorem pd_1 : parseMethodDescriptor "(I)[B" = some ⟨[.int], some (.array .byte)⟩ := by decide +kernel
theorem pd_2 : parseMethodDescriptor "([BII)V" = some ⟨[(.array .byte), .int, .int], none⟩ := by decide +kernel
theorem d30_0 : decode jdk_52_method_14_code 0 = .ok (.iload_n 2, 1) := by decide +kernel
theorem d30_1 : decode jdk_52_method_14_code 1 = .ok (.invokestatic 107, 3) := by decide +kernel
theorem d30_4 : decode jdk_52_method_14_code 4 = .ok (.astore_n 3, 1) := by decide +kernel
theorem d30_5 : decode jdk_52_method_14_code 5 = .ok (.iconst 0, 1) := by decide +kernel
theorem d30_6 : decode jdk_52_method_14_code 6 = .ok (.istore 4, 2) := by decide +kernel
theorem d30_8 : decode jdk_52_method_14_code 8 = .ok (.iload 4, 2) := by decide +kernel
theorem d30_10 : decode jdk_52_method_14_code 10 = .ok (.iload_n 2, 1) := by decide +kernel
theorem d30_11 : decode jdk_52_method_14_code 11 = .ok (.if_icmp .ge 21, 3) := by decide +kernel
theorem d30_14 : decode jdk_52_method_14_code 14 = .ok (.aload_n 3, 1) := by decide +kernel
theorem d30_15 : decode jdk_52_method_14_code 15 = .ok (.iload 4, 2) := by decide +kernel
theorem d30_17 : decode jdk_52_method_14_code 17 = .ok (.aload_n 0, 1) := by decide +kernel
theorem d30_18 : decode jdk_52_method_14_code 18 = .ok (.iload_n 1, 1) := by decide +kernel
theorem d30_19 : decode jdk_52_method_14_code 19 = .ok (.caload, 1) := by decide +kernel
theorem d30_20 : decode jdk_52_method_14_code 20 = .ok (.invokestatic 111, 3) := by decide +kernel
theorem d30_23 : decode jdk_52_method_14_code 23 = .ok (.iinc 1 1, 3) := by decide +kernel
theorem d30_26 : decode jdk_52_method_14_code 26 = .ok (.iinc 4 1, 3) := by decide +kernel
theorem d30_29 : decode jdk_52_method_14_code 29 = .ok (.goto (-21), 3) := by decide +kernel
theorem d30_32 : decode jdk_52_method_14_code 32 = .ok (.aload_n 3, 1) := by decide +kernel
theorem d30_33 : decode jdk_52_method_14_code 33 = .ok (.areturn, 1) := by decide +kernel
theorem ef_30 (m : MethodId) (a1 : Addr) : entryFrame m #[(.ref a1), (.int 0), (.int 7)] 5 = mkF m 0 #[.val (.ref a1), .val (.int 0), .val (.int 7), .unset, .unset] [] := by first | (simp [entryFrame, mkF, argsToLocals, Value.category]; done) | rfl
def Q30 (Z : State) (a1 : Addr) (k1 : ClassId) (cs : Nat → Int32) (h0 : Heap) (n0 : Nat) (v : Option Value) (h : Heap) (L : List Loc) : Prop := ∃ (bn : Addr) (kn : ClassId), v = some (.ref bn) ∧ Fr n0 L ∧ Keep h0 h [] ∧ h0.size ≤ bn ∧ Arv Z h bn kn .byte (14 : Int32) (own_tab 14 (own_u cs)) (.int 0)
set_option maxRecDepth 65536 in
set_option maxHeartbeats 40000000 in
theorem rm30 (l : Launch) (Z : State) (a0 : Array Value) (hw : ∀ d ∈ tables_1, d.before a0 Z = true) (ws : List Jvm.Cond) (a1 : Addr) (k1 : ClassId) (cs : Nat → Int32) (h0 : Heap) (n0 : Nat) (Z0 : n0 ≤ h0.size) (S__assertionsDisabled : Sta Z h0 "java/lang/StringUTF16" "$assertionsDisabled" "Z" (.int 1)) (S_HI_BYTE_SHIFT : Sta Z h0 "java/lang/StringUTF16" "HI_BYTE_SHIFT" "I" (.int 0)) (S_LO_BYTE_SHIFT : Sta Z h0 "java/lang/StringUTF16" "LO_BYTE_SHIFT" "I" (.int 8)) (V_a1 : Arv Z h0 a1 k1 .char (7 : Int32) (own_tab 7 cs) (.int 0)) :
  MetFree l (⟨"java/lang/StringUTF16", "toBytes", "([CII)[B"⟩ : MethodName) (head1 (Jvm.Cond.code (⟨"java/lang/StringUTF16", "toBytes", "([CII)[B"⟩ : MethodName) jdk_52_method_14_code 5 (some (.array .byte)) :: ws) ({ frames := 2, cells := 1, slots := 14, locals := 24 } : Room)) (fun a U => a = #[(.ref a1), (.int 0), (.int 7)] ∧ Z.Warmed39 U.vm ∧ U.heap = h0) (fun _ _ _ _ _ => True) (fun _ U o U' => ∃ v L, o = .returned v ∧ Q30 Z a1 k1 cs h0 n0 v U'.heap L ∧ FrameEnd U o U' L ({ frames := 2, cells := 1, slots := 14, locals := 24 } : Room).cells ({ frames := 2, cells := 1, slots := 14, locals := 24 } : Room).slots) := by
 refine MetFree.of_bodySF (plainFor_of_name pn_69) hisR ?_
 intro p e s m args below meth c s₁ Bd hml0 hP hK
 obtain ⟨rfl, hZ, hh⟩ := hP
 have hx := Bd.exec
 have hby := Bd.bytes
 have hml : c.maxLocals = 5 := hml0
 have hown : s.vm.findClass "java/lang/StringUTF16" = some m.cls := findClass_of_methodNamed Bd.named
 have hnm := (name_of_methodNamed Bd.named Bd.method).1
 have X0 : Stand p l e ({ frames := 2, cells := 1, slots := 14, locals := 24 } : Room) s m #[(.ref a1), (.int 0), (.int 7)] below meth c s₁ [] 0 0 := Stand.of_body Bd
 have e0 : s₁.heap = h0 := by rw [← hh, Bd.state]; rfl
 have N0 := Fr.nil n0
 refine own_go (B := s₁.setTop (mkF m 0 #[.val (.ref a1), .val (.int 0), .val (.int 7), .unset, .unset] [])) (fun t k => castTop (ef_30 m a1) k) ?_
 refine own_go (B := s₁.setTop (mkF m 1 #[.val (.ref a1), .val (.int 0), .val (.int 7), .unset, .unset] [(.int 7)])) (fun tg kt => ?_) ?_
 ·refine XS.iloadN X0.here hx rfl (hb hby d30_0) rfl ?_
  exact kt
 obtain ⟨_, _, ⟨T76, L76, k76, n76⟩, -, X76, ⟨Lc76, hQ76, l76, y76, z76⟩, st76⟩ := Jvm.LawKit.callS X0 hx (y := (⟨"java/lang/StringUTF16", "newBytesFor", "(I)[B"⟩ : MethodName)) hown (mvT hZ (hw _ (List.mem_of_getElem? (i := 148) rfl))) (mvT hZ (hw _ (List.mem_of_getElem? (i := 149) rfl))) (mvT hZ (hw _ (List.mem_of_getElem? (i := 35) rfl))) (mvT hZ (hw _ (List.mem_of_getElem? (i := 150) rfl))) (by decide) (backOf (W := 0) (rm31 l Z a0 hw []  h0 n0 Z0 ) hZ (hw _ (List.mem_of_getElem? (i := 150) rfl)) (hw _ (List.mem_of_getElem? (i := 35) rfl)) (by decide) (by decide)) (g := (mkF m 1 #[.val (.ref a1), .val (.int 0), .val (.int 7), .unset, .unset] [(.int 7)])) rfl (by rw [hml]; rfl) (argsL := [(.int 7)]) (rest := []) (lenOf pd_1 rfl) rfl (by show 2 * 0 + _ ≤ _; exact Nat.le_of_eq rfl) (hb hby d30_1) (fun _ _ => ⟨rfl, e0, (by decide : 0 + 1 ≤ _), (by decide : 0 + 14 ≤ _)⟩)
 dsimp only [Pt.U, Pt.locs, Pt.cells, Pt.slots] at X76 l76 y76 z76 st76 hQ76
 rw [l76, y76, z76] at X76
 obtain ⟨bn_76, kn_76, rfl, M76, q76_0, q76_1, q76_2⟩ := hQ76
 have N76 := Fr.app N0 M76
 have K76 : Keep h0 T76.heap [] := Keep.trans (Keep.refl h0 []) q76_0 all0
 refine own_go st76 ?_
 refine own_go (B := T76.setTop (mkF m 8 #[.val (.ref a1), .val (.int 0), .val (.int 7), .val (.ref bn_76), .val (.int 0)] [])) (fun tg kt => ?_) ?_
 ·refine XS.astoreN X76.here hx rfl (hb hby d30_4) rfl rfl (l' := #[.val (.ref a1), .val (.int 0), .val (.int 7), .val (.ref bn_76), .unset]) rfl ?_
  refine XS.iconst X76.here hx rfl (hb hby d30_5) ?_
  refine XS.istore X76.here hx rfl (hb hby d30_6) rfl (l' := #[.val (.ref a1), .val (.int 0), .val (.int 7), .val (.ref bn_76), .val (.int 0)]) rfl ?_
  exact kt
 have low77_bn_76 : h0.size ≤ bn_76 := q76_1
 have loop77 : ∀ (k t : Nat) (T_77 : State) (h_77 : Heap) (lo_77 : List Loc), k + t = 7 → Stand p l e ({ frames := 2, cells := 1, slots := 14, locals := 24 } : Room) s m #[(.ref a1), (.int 0), (.int 7)] below meth c T_77 lo_77 1 14 → T_77.heap = h_77 → Fr n0 lo_77 → Keep h0 h_77 [] → Arv Z h_77 bn_76 kn_76 .byte (14 : Int32) (own_tab 14 (own_uo cs t)) (.int 0) → ∃ s₂ o, Steps p.tables e below (T_77.setTop (mkF m 8 #[.val (.ref a1), .val (.int (Int32.ofNat t)), .val (.int 7), .val (.ref bn_76), .val (.int (Int32.ofNat t))] [])) s₂ ∧ s₂.status = .running ∧ Ended s₂ below o ∧ ∃ v L, o = .returned v ∧ Q30 Z a1 k1 cs h0 n0 v s₂.heap L ∧ FrameEnd s o s₂ L ({ frames := 2, cells := 1, slots := 14, locals := 24 } : Room).cells ({ frames := 2, cells := 1, slots := 14, locals := 24 } : Room).slots := by
  intro k
  induction k with
  | zero =>
   intro t T_77 h_77 lo_77 hkt77 X_77 e_77 N_77 K_77 fl77_0
   obtain rfl : t = 7 := by omega
   refine own_go (B := T_77.setTop (mkF m 33 #[.val (.ref a1), .val (.int (Int32.ofNat 7)), .val (.int 7), .val (.ref bn_76), .val (.int (Int32.ofNat 7))] [(.ref bn_76)])) (fun tg kt => ?_) ?_
   ·refine XS.iload X_77.here hx rfl (hb hby d30_8) rfl ?_
    refine XS.iloadN X_77.here hx rfl (hb hby d30_10) rfl ?_
    refine XS.icmpYes X_77.here hx rfl (pc0 := 11) (pc' := 32) rfl (hb hby d30_11) rfl (flt (show ¬ ((Int32.ofNat 7) < (7 : Int32)) from (by decide))).2.1 (by decide) (by decide) ?_
    refine XS.aloadN X_77.here hx rfl (hb hby d30_32) rfl rfl ?_
    exact kt
   obtain ⟨fs, hr, hrun, hended, hW, hsame⟩ := X_77.leave (v := some (.ref bn_76)) (fun h => by rw [Bd.returns] at h; cases h)
   refine ⟨_, _, ?_, hrun, hended, _, _, rfl, ?_, ⟨_, rfl⟩, hW, hsame.mono (by decide) (by decide)⟩
   ·exact own_retR X_77 hx Bd.returns rfl rfl (hb hby d30_33) hr
   ·show Q30 Z a1 k1 cs h0 n0 _ T_77.heap _
    rw [e_77]
    exact ⟨bn_76, kn_76, rfl, N_77, K_77, low77_bn_76, (by rw [← own_uo14]; exact fl77_0)⟩
  | succ k ih77 =>
   intro t T_77 h_77 lo_77 hkt77 X_77 e_77 N_77 K_77 fl77_0
   have ht77 : t < 7 := by omega
   refine own_go (B := T_77.setTop (mkF m 19 #[.val (.ref a1), .val (.int (Int32.ofNat t)), .val (.int 7), .val (.ref bn_76), .val (.int (Int32.ofNat t))] [(.int (Int32.ofNat t)), (.ref a1), (.int (Int32.ofNat t)), (.ref bn_76)])) (fun tg kt => ?_) ?_
   ·refine XS.iload X_77.here hx rfl (hb hby d30_8) rfl ?_
    refine XS.iloadN X_77.here hx rfl (hb hby d30_10) rfl ?_
    refine XS.icmpNo X_77.here hx rfl (hb hby d30_11) rfl (tlt (show (Int32.ofNat t) < (7 : Int32) from (own_ltc ht77 (by decide) _ (by decide)).2)).2.1 ?_
    refine XS.aloadN X_77.here hx rfl (hb hby d30_14) rfl rfl ?_
    refine XS.iload X_77.here hx rfl (hb hby d30_15) rfl ?_
    refine XS.aloadN X_77.here hx rfl (hb hby d30_17) rfl rfl ?_
    refine XS.iloadN X_77.here hx rfl (hb hby d30_18) rfl ?_
    exact kt
   have f79 : Arv Z h_77 a1 k1 .char (7 : Int32) (own_tab 7 cs) (.int 0) := (V_a1.keep K_77 nin0)
   obtain ⟨cl80, Ar80, cq80, cS80, cN80, cH80, cG80⟩ := id f79
   have hin80 := inb_of (j := (Int32.ofNat t)) cS80 (own_ltc ht77 (by decide) _ (by decide))
   have hat80 : cl80.slots[((Int32.ofNat t)).toNatClampNeg]? = some (.int (cs t)) := Has.at cH80 hin80 (own_at cs _ (own_toInt (by omega)) (by omega))
   refine own_go (B := T_77.setTop (mkF m 20 #[.val (.ref a1), .val (.int (Int32.ofNat t)), .val (.int 7), .val (.ref bn_76), .val (.int (Int32.ofNat t))] [(.int (cs t)), (.int (Int32.ofNat t)), (.ref bn_76)])) (fun tg kt => ?_) ?_
   ·refine X_77.caload hx (j := (Int32.ofNat t)) (v := (.int (cs t))) (by rw [e_77]; exact Ar80.1) (State.isArrayOf_alike hZ.alike Ar80.2.1) Ar80.2.2 hin80 hat80 (g := (mkF m 19 #[.val (.ref a1), .val (.int (Int32.ofNat t)), .val (.int 7), .val (.ref bn_76), .val (.int (Int32.ofNat t))] [(.int (Int32.ofNat t)), (.ref a1), (.int (Int32.ofNat t)), (.ref bn_76)])) rfl rfl (hb hby d30_19) _ ?_
    exact kt
   have f82 : Sta Z h_77 "java/lang/StringUTF16" "$assertionsDisabled" "Z" (.int 1) := (own_staKeep S__assertionsDisabled K_77 (fun x hx_ => nomatch hx_))
   have f83 : Sta Z h_77 "java/lang/StringUTF16" "HI_BYTE_SHIFT" "I" (.int 0) := (own_staKeep S_HI_BYTE_SHIFT K_77 (fun x hx_ => nomatch hx_))
   have f84 : Sta Z h_77 "java/lang/StringUTF16" "LO_BYTE_SHIFT" "I" (.int 8) := (own_staKeep S_LO_BYTE_SHIFT K_77 (fun x hx_ => nomatch hx_))
   obtain ⟨_, _, ⟨T81, L81, k81, n81⟩, -, X81, ⟨Lc81, hQ81, l81, y81, z81⟩, st81⟩ := Jvm.LawKit.callS X_77 hx (y := (⟨"java/lang/StringUTF16", "putChar", "([BII)V"⟩ : MethodName)) hown (mvT hZ (hw _ (List.mem_of_getElem? (i := 155) rfl))) (mvT hZ (hw _ (List.mem_of_getElem? (i := 156) rfl))) (mvT hZ (hw _ (List.mem_of_getElem? (i := 35) rfl))) (mvT hZ (hw _ (List.mem_of_getElem? (i := 157) rfl))) (by decide) (backOf (W := 0) (rm33 l Z a0 hw [] bn_76 (cs t) kn_76 t (own_uo cs t) h_77 n0 (Nat.le_trans Z0 K_77.1) f82 f83 f84 fl77_0 (ht77) (Nat.le_trans Z0 low77_bn_76)) hZ (hw _ (List.mem_of_getElem? (i := 157) rfl)) (hw _ (List.mem_of_getElem? (i := 35) rfl)) (by decide) (by decide)) (g := (mkF m 20 #[.val (.ref a1), .val (.int (Int32.ofNat t)), .val (.int 7), .val (.ref bn_76), .val (.int (Int32.ofNat t))] [(.int (cs t)), (.int (Int32.ofNat t)), (.ref bn_76)])) rfl (by rw [hml]; rfl) (argsL := [(.ref bn_76), (.int (Int32.ofNat t)), (.int (cs t))]) (rest := []) (lenOf pd_2 rfl) rfl (by show 2 * 0 + _ ≤ _; exact Nat.le_of_eq rfl) (hb hby d30_20) (fun _ _ => ⟨rfl, e_77, (by decide : 1 + 0 ≤ _), (by decide : 14 + 0 ≤ _)⟩)
   dsimp only [Pt.U, Pt.locs, Pt.cells, Pt.slots] at X81 l81 y81 z81 st81 hQ81
   rw [l81, y81, z81] at X81
   obtain ⟨rfl, M81, q81_0, q81_1⟩ := hQ81
   have N81 := Fr.app N_77 M81
   have K81 : Keep h0 T81.heap [] := Keep.trans K_77 q81_0 (allS (Or.inr low77_bn_76) all0)
   refine own_go st81 ?_
   refine own_go (B := T81.setTop (mkF m 8 #[.val (.ref a1), .val (.int ((Int32.ofNat t) + (1 : Int32))), .val (.int 7), .val (.ref bn_76), .val (.int ((Int32.ofNat t) + (1 : Int32)))] [])) (fun tg kt => ?_) ?_
   ·refine XS.iinc X81.here hx rfl (hb hby d30_23) rfl (l' := #[.val (.ref a1), .val (.int ((Int32.ofNat t) + (1 : Int32))), .val (.int 7), .val (.ref bn_76), .val (.int (Int32.ofNat t))]) rfl ?_
    refine XS.iinc X81.here hx rfl (hb hby d30_26) rfl (l' := #[.val (.ref a1), .val (.int ((Int32.ofNat t) + (1 : Int32))), .val (.int 7), .val (.ref bn_76), .val (.int ((Int32.ofNat t) + (1 : Int32)))]) rfl ?_
    refine XS.goto X81.here hx rfl (pc0 := 29) (pc' := 8) rfl (hb hby d30_29) (by decide) (by decide) ?_
    exact kt
   rw [show ((Int32.ofNat t) + (1 : Int32)) = (Int32.ofNat (t + 1)) from own_isucc _]
   exact ih77 (t + 1) T81 T81.heap _ (by omega) X81 rfl N81 K81 q81_1
 exact loop77 7 0 T76 T76.heap _ rfl X76 rfl N76 K76 q76_2
theorem d9_0 : decode jdk_52_method_15_code 0 = .ok (.iload_n 1, 1) := by decide +kernel
theorem d9_1 : decode jdk_52_method_15_code 1 = .ok (.aload_n 0, 1) := by decide +kernel
theorem d9_2 : decode jdk_52_method_15_code 2 = .ok (.arraylength, 1) := by decide +kernel
theorem d9_3 : decode jdk_52_method_15_code 3 = .ok (.isub, 1) := by decide +kernel
theorem d9_4 : decode jdk_52_method_15_code 4 = .ok (.bipush 31, 2) := by decide +kernel
theorem d9_6 : decode jdk_52_method_15_code 6 = .ok (.iushr, 1) := by decide +kernel
theorem d9_7 : decode jdk_52_method_15_code 7 = .ok (.i2b, 1) := by decide +kernel
theorem d9_8 : decode jdk_52_method_15_code 8 = .ok (.ireturn, 1) := by decide +kernel
theorem ef_9 (m : MethodId) (a1 : Addr) : entryFrame m #[(.ref a1), (.int 7)] 2 = mkF m 0 #[.val (.ref a1), .val (.int 7)] [] := by first | (simp [entryFrame, mkF, argsToLocals, Value.category]; done) | rfl
def Q9 (Z : State) (a1 : Addr) (k1 : ClassId) (n : Int32) (vs : List Value) (h0 : Heap) (n0 : Nat) (v : Option Value) (h : Heap) (L : List Loc) : Prop := v = some (.int (own_cf n)) ∧ Fr n0 L ∧ h = h0
set_option maxRecDepth 65536 in
set_option maxHeartbeats 40000000 in
theorem rm9 (l : Launch) (Z : State) (a0 : Array Value) (hw : ∀ d ∈ tables_1, d.before a0 Z = true) (ws : List Jvm.Cond) (a1 : Addr) (k1 : ClassId) (n : Int32) (vs : List Value) (h0 : Heap) (n0 : Nat) (Z0 : n0 ≤ h0.size) (V_a1 : Arv Z h0 a1 k1 .byte n vs (.int 0)) :
  MetFree l (⟨"java/lang/StringUTF16", "coderFromArrayLen", "([BI)B"⟩ : MethodName) (head1 (Jvm.Cond.code (⟨"java/lang/StringUTF16", "coderFromArrayLen", "([BI)B"⟩ : MethodName) jdk_52_method_15_code 2 (some .byte) :: ws) ({ frames := 0, cells := 0, slots := 0, locals := 0 } : Room)) (fun a U => a = #[(.ref a1), (.int 7)] ∧ Z.Warmed39 U.vm ∧ U.heap = h0) (fun _ _ _ _ _ => True) (fun _ U o U' => ∃ v L, o = .returned v ∧ Q9 Z a1 k1 n vs h0 n0 v U'.heap L ∧ FrameEnd U o U' L ({ frames := 0, cells := 0, slots := 0, locals := 0 } : Room).cells ({ frames := 0, cells := 0, slots := 0, locals := 0 } : Room).slots) := by
 refine MetFree.of_bodySF (plainFor_of_name pn_69) hisR ?_
 intro p e s m args below meth c s₁ Bd hml0 hP hK
 obtain ⟨rfl, hZ, hh⟩ := hP
 have hx := Bd.exec
 have hby := Bd.bytes
 have hml : c.maxLocals = 2 := hml0
 have hown : s.vm.findClass "java/lang/StringUTF16" = some m.cls := findClass_of_methodNamed Bd.named
 have hnm := (name_of_methodNamed Bd.named Bd.method).1
 have X0 : Stand p l e ({ frames := 0, cells := 0, slots := 0, locals := 0 } : Room) s m #[(.ref a1), (.int 7)] below meth c s₁ [] 0 0 := Stand.of_body Bd
 have e0 : s₁.heap = h0 := by rw [← hh, Bd.state]; rfl
 have N0 := Fr.nil n0
 refine own_go (B := s₁.setTop (mkF m 0 #[.val (.ref a1), .val (.int 7)] [])) (fun t k => castTop (ef_9 m a1) k) ?_
 refine own_go (B := s₁.setTop (mkF m 2 #[.val (.ref a1), .val (.int 7)] [(.ref a1), (.int 7)])) (fun tg kt => ?_) ?_
 ·refine XS.iloadN X0.here hx rfl (hb hby d9_0) rfl ?_
  refine XS.aloadN X0.here hx rfl (hb hby d9_1) rfl rfl ?_
  exact kt
 obtain ⟨cl85, Ar85, cq85, cS85, cN85, cH85, cG85⟩ := id V_a1
 refine own_go (B := s₁.setTop (mkF m 8 #[.val (.ref a1), .val (.int 7)] [(.int (((((7 : Int32) - n).toUInt32 >>> ((31 : Int32) &&& 31).toUInt32).toInt32).toInt8.toInt32))])) (fun tg kt => ?_) ?_
 ·refine X0.arraylength hx (by rw [e0]; exact Ar85.1) (State.isArrayOf_alike hZ.alike Ar85.2.1) (g := (mkF m 2 #[.val (.ref a1), .val (.int 7)] [(.ref a1), (.int 7)])) rfl rfl (hb hby d9_2) _ ?_
  rw [len_of cS85 cN85]
  refine XS.isub X0.here hx rfl (hb hby d9_3) rfl ?_
  refine XS.bipush X0.here hx rfl (hb hby d9_4) ?_
  refine XS.iushr X0.here hx rfl (hb hby d9_6) rfl ?_
  refine XS.i2b X0.here hx rfl (hb hby d9_7) rfl ?_
  exact kt
 obtain ⟨fs, hr, hrun, hended, hW, hsame⟩ := X0.leave (v := some (.int (nar .byte (((((7 : Int32) - n).toUInt32 >>> ((31 : Int32) &&& 31).toUInt32).toInt32).toInt8.toInt32)))) (fun h => by rw [Bd.returns] at h; cases h)
 refine ⟨_, _, ?_, hrun, hended, _, _, rfl, ?_, ⟨_, rfl⟩, hW, hsame.mono (by decide) (by decide)⟩
 ·exact retN X0 hx (t := .byte) Bd.returns (by simp) (hb hby d9_8) hr
 ·show Q9 Z a1 k1 n vs h0 n0 _ s₁.heap _
  rw [e0]
  exact ⟨(congrArg (fun z => some (Value.int z)) (own_narB _)), N0, rfl⟩
theorem pd_3 : parseMethodDescriptor "([CI[BII)I" = some ⟨[(.array .char), .int, (.array .byte), .int, .int], some .int⟩ := by decide +kernel
theorem pd_4 : parseMethodDescriptor "([CII)[B" = some ⟨[(.array .char), .int, .int], some (.array .byte)⟩ := by decide +kernel
theorem pd_5 : parseMethodDescriptor "([BI)C" = some ⟨[(.array .byte), .int], some .char⟩ := by decide +kernel
theorem d7_0 : decode jdk_52_method_16_code 0 = .ok (.iload_n 2, 1) := by decide +kernel
theorem d7_1 : decode jdk_52_method_16_code 1 = .ok (.newarray .byte, 2) := by decide +kernel
theorem d7_3 : decode jdk_52_method_16_code 3 = .ok (.astore_n 3, 1) := by decide +kernel
theorem d7_4 : decode jdk_52_method_16_code 4 = .ok (.aload_n 0, 1) := by decide +kernel
theorem d7_5 : decode jdk_52_method_16_code 5 = .ok (.iload_n 1, 1) := by decide +kernel
theorem d7_6 : decode jdk_52_method_16_code 6 = .ok (.aload_n 3, 1) := by decide +kernel
theorem d7_7 : decode jdk_52_method_16_code 7 = .ok (.iconst 0, 1) := by decide +kernel
theorem d7_8 : decode jdk_52_method_16_code 8 = .ok (.iload_n 2, 1) := by decide +kernel
theorem d7_9 : decode jdk_52_method_16_code 9 = .ok (.invokestatic 115, 3) := by decide +kernel
theorem d7_12 : decode jdk_52_method_16_code 12 = .ok (.istore 4, 2) := by decide +kernel
theorem d7_14 : decode jdk_52_method_16_code 14 = .ok (.iload 4, 2) := by decide +kernel
theorem d7_16 : decode jdk_52_method_16_code 16 = .ok (.iload_n 2, 1) := by decide +kernel
theorem d7_17 : decode jdk_52_method_16_code 17 = .ok (.if_icmp .eq 40, 3) := by decide +kernel
theorem d7_20 : decode jdk_52_method_16_code 20 = .ok (.aload_n 0, 1) := by decide +kernel
theorem d7_21 : decode jdk_52_method_16_code 21 = .ok (.iload_n 1, 1) := by decide +kernel
theorem d7_22 : decode jdk_52_method_16_code 22 = .ok (.iload_n 2, 1) := by decide +kernel
theorem d7_23 : decode jdk_52_method_16_code 23 = .ok (.invokestatic 119, 3) := by decide +kernel
theorem d7_26 : decode jdk_52_method_16_code 26 = .ok (.astore 5, 2) := by decide +kernel
theorem d7_28 : decode jdk_52_method_16_code 28 = .ok (.aload 5, 2) := by decide +kernel
theorem d7_30 : decode jdk_52_method_16_code 30 = .ok (.iload 4, 2) := by decide +kernel
theorem d7_32 : decode jdk_52_method_16_code 32 = .ok (.invokestatic 71, 3) := by decide +kernel
theorem d7_35 : decode jdk_52_method_16_code 35 = .ok (.sipush 255, 3) := by decide +kernel
theorem d7_38 : decode jdk_52_method_16_code 38 = .ok (.if_icmp .gt 16, 3) := by decide +kernel
theorem d7_54 : decode jdk_52_method_16_code 54 = .ok (.aload 5, 2) := by decide +kernel
theorem d7_56 : decode jdk_52_method_16_code 56 = .ok (.areturn, 1) := by decide +kernel
theorem d7_57 : decode jdk_52_method_16_code 57 = .ok (.aload_n 3, 1) := by decide +kernel
theorem d7_58 : decode jdk_52_method_16_code 58 = .ok (.areturn, 1) := by decide +kernel
theorem ef_7 (m : MethodId) (a1 : Addr) : entryFrame m #[(.ref a1), (.int 0), (.int 7)] 6 = mkF m 0 #[.val (.ref a1), .val (.int 0), .val (.int 7), .unset, .unset, .unset] [] := by first | (simp [entryFrame, mkF, argsToLocals, Value.category]; done) | rfl
def Q7 (Z : State) (a1 : Addr) (k1 : ClassId) (cs : Nat → Int32) (h0 : Heap) (n0 : Nat) (v : Option Value) (h : Heap) (L : List Loc) : Prop := ∃ (bn : Addr) (kn : ClassId) (nb : Int32) (vb : List Value), v = some (.ref bn) ∧ Fr n0 L ∧ Keep h0 h [] ∧ h0.size ≤ bn ∧ Arv Z h bn kn .byte nb vb (.int 0) ∧ own_sp cs (own_cf nb) nb vb
set_option maxRecDepth 65536 in
set_option maxHeartbeats 40000000 in
theorem rm7 (l : Launch) (Z : State) (a0 : Array Value) (hw : ∀ d ∈ tables_1, d.before a0 Z = true) (ws : List Jvm.Cond) (a1 : Addr) (k1 : ClassId) (cs : Nat → Int32) (h0 : Heap) (n0 : Nat) (Z0 : n0 ≤ h0.size) (S__assertionsDisabled : Sta Z h0 "java/lang/StringUTF16" "$assertionsDisabled" "Z" (.int 1)) (S_HI_BYTE_SHIFT : Sta Z h0 "java/lang/StringUTF16" "HI_BYTE_SHIFT" "I" (.int 0)) (S_LO_BYTE_SHIFT : Sta Z h0 "java/lang/StringUTF16" "LO_BYTE_SHIFT" "I" (.int 8)) (V_a1 : Arv Z h0 a1 k1 .char (7 : Int32) (own_tab 7 cs) (.int 0)) (hC : ∀ i, i < 7 → 0 ≤ (cs i).toInt ∧ (cs i).toInt ≤ 65535) :
  MetFree l (⟨"java/lang/StringUTF16", "compress", "([CII)[B"⟩ : MethodName) (head1 (Jvm.Cond.code (⟨"java/lang/StringUTF16", "compress", "([CII)[B"⟩ : MethodName) jdk_52_method_16_code 6 (some (.array .byte)) :: ws) ({ frames := 3, cells := 2, slots := 21, locals := 40 } : Room)) (fun a U => a = #[(.ref a1), (.int 0), (.int 7)] ∧ Z.Warmed39 U.vm ∧ U.heap = h0) (fun _ _ _ _ _ => True) (fun _ U o U' => ∃ v L, o = .returned v ∧ Q7 Z a1 k1 cs h0 n0 v U'.heap L ∧ FrameEnd U o U' L ({ frames := 3, cells := 2, slots := 21, locals := 40 } : Room).cells ({ frames := 3, cells := 2, slots := 21, locals := 40 } : Room).slots) := by
 refine MetFree.of_bodySF (plainFor_of_name pn_69) hisR ?_
 intro p e s m args below meth c s₁ Bd hml0 hP hK
 obtain ⟨rfl, hZ, hh⟩ := hP
 have hx := Bd.exec
 have hby := Bd.bytes
 have hml : c.maxLocals = 6 := hml0
 have hown : s.vm.findClass "java/lang/StringUTF16" = some m.cls := findClass_of_methodNamed Bd.named
 have hnm := (name_of_methodNamed Bd.named Bd.method).1
 have X0 : Stand p l e ({ frames := 3, cells := 2, slots := 21, locals := 40 } : Room) s m #[(.ref a1), (.int 0), (.int 7)] below meth c s₁ [] 0 0 := Stand.of_body Bd
 have e0 : s₁.heap = h0 := by rw [← hh, Bd.state]; rfl
 have N0 := Fr.nil n0
 refine own_go (B := s₁.setTop (mkF m 0 #[.val (.ref a1), .val (.int 0), .val (.int 7), .unset, .unset, .unset] [])) (fun t k => castTop (ef_7 m a1) k) ?_
 refine own_go (B := s₁.setTop (mkF m 1 #[.val (.ref a1), .val (.int 0), .val (.int 7), .unset, .unset, .unset] [(.int 7)])) (fun tg kt => ?_) ?_
 ·refine XS.iloadN X0.here hx rfl (hb hby d7_0) rfl ?_
  exact kt
 obtain ⟨T87, h87, k87, X87, e87, E87, A87, st87⟩ := newP X0 hx hZ (hw _ (List.mem_of_getElem? (i := 37) rfl)) e0 (g := (mkF m 1 #[.val (.ref a1), .val (.int 0), .val (.int 7), .unset, .unset, .unset] [(.int 7)])) rfl (hb hby d7_1) rfl (by decide) (cap := 7) (by decide) (by decide) (by decide) (by decide)
 obtain ⟨b87, g87⟩ : ∃ z, z = h0.size := ⟨_, rfl⟩
 rw [← g87] at A87 st87
 refine own_go st87 ?_
 have K87 : Keep h0 h87 [] := Keep.ext (Keep.refl h0 []) E87
 have V87 : Arv Z h87 b87 k87 .byte (7 : Int32) (own_tab 7 (fun _ => 0)) (.int 0) := (Arv.new A87 (by decide)).pad (own_tab0 7)
 refine own_go (B := T87.setTop (mkF m 9 #[.val (.ref a1), .val (.int 0), .val (.int 7), .val (.ref b87), .unset, .unset] [(.int 7), (.int 0), (.ref b87), (.int 0), (.ref a1)])) (fun tg kt => ?_) ?_
 ·refine XS.astoreN X87.here hx rfl (hb hby d7_3) rfl rfl (l' := #[.val (.ref a1), .val (.int 0), .val (.int 7), .val (.ref b87), .unset, .unset]) rfl ?_
  refine XS.aloadN X87.here hx rfl (hb hby d7_4) rfl rfl ?_
  refine XS.iloadN X87.here hx rfl (hb hby d7_5) rfl ?_
  refine XS.aloadN X87.here hx rfl (hb hby d7_6) rfl rfl ?_
  refine XS.iconst X87.here hx rfl (hb hby d7_7) ?_
  refine XS.iloadN X87.here hx rfl (hb hby d7_8) rfl ?_
  exact kt
 have ne89 : a1 ≠ b87 := (Nat.ne_of_lt (Nat.lt_of_lt_of_le V_a1.lt (Nat.le_of_eq g87.symm)))
 have f90 : Arv Z h87 a1 k1 .char (7 : Int32) (own_tab 7 cs) (.int 0) := (V_a1.ext E87)
 obtain ⟨_, _, ⟨T88, L88, k88, n88⟩, -, X88, ⟨Lc88, hQ88, l88, y88, z88⟩, st88⟩ := Jvm.LawKit.callS X87 hx (y := (⟨"java/lang/StringUTF16", "compress", "([CI[BII)I"⟩ : MethodName)) hown (mvT hZ (hw _ (List.mem_of_getElem? (i := 38) rfl))) (mvT hZ (hw _ (List.mem_of_getElem? (i := 39) rfl))) (mvT hZ (hw _ (List.mem_of_getElem? (i := 35) rfl))) (mvT hZ (hw _ (List.mem_of_getElem? (i := 40) rfl))) (by decide) (backOf (W := 0) (rm8 l Z a0 hw [] a1 b87 k1 k87 cs h87 n0 (Nat.le_trans Z0 E87.1) f90 V87 (Nat.le_trans Z0 (Nat.le_of_eq g87.symm)) (ne89)) hZ (hw _ (List.mem_of_getElem? (i := 40) rfl)) (hw _ (List.mem_of_getElem? (i := 35) rfl)) (by decide) (by decide)) (g := (mkF m 9 #[.val (.ref a1), .val (.int 0), .val (.int 7), .val (.ref b87), .unset, .unset] [(.int 7), (.int 0), (.ref b87), (.int 0), (.ref a1)])) rfl (by rw [hml]; rfl) (argsL := [(.ref a1), (.int 0), (.ref b87), (.int 0), (.int 7)]) (rest := []) (lenOf pd_3 rfl) rfl (by show 2 * 0 + _ ≤ _; exact Nat.le_of_eq rfl) (hb hby d7_9) (fun _ _ => ⟨rfl, e87, (by decide : 1 + 0 ≤ _), (by decide : 7 + 0 ≤ _)⟩)
 dsimp only [Pt.U, Pt.locs, Pt.cells, Pt.slots] at X88 l88 y88 z88 st88 hQ88
 rw [l88, y88, z88] at X88
 obtain ⟨r_88, g_88, rfl, M88, q88_0, q88_1, q88_2⟩ := hQ88
 have N88 := Fr.app N0 M88
 have K88 : Keep h0 T88.heap [] := Keep.trans K87 q88_0 (allS (Or.inr (Nat.le_of_eq g87.symm)) all0)
 refine own_go st88 ?_
 refine own_go (B := T88.setTop (mkF m 14 #[.val (.ref a1), .val (.int 0), .val (.int 7), .val (.ref b87), .val (.int (Int32.ofNat r_88)), .unset] [])) (fun tg kt => ?_) ?_
 ·refine XS.istore X88.here hx rfl (hb hby d7_12) rfl (l' := #[.val (.ref a1), .val (.int 0), .val (.int 7), .val (.ref b87), .val (.int (Int32.ofNat r_88)), .unset]) rfl ?_
  exact kt
 rcases q88_2 with ⟨er, hle, hg⟩ | ⟨hr, hgt⟩
 ·subst er
  refine own_go (B := T88.setTop (mkF m 58 #[.val (.ref a1), .val (.int 0), .val (.int 7), .val (.ref b87), .val (.int (Int32.ofNat 7)), .unset] [(.ref b87)])) (fun tg kt => ?_) ?_
  ·refine XS.iload X88.here hx rfl (hb hby d7_14) rfl ?_
   refine XS.iloadN X88.here hx rfl (hb hby d7_16) rfl ?_
   refine XS.icmpYes X88.here hx rfl (pc0 := 17) (pc' := 57) rfl (hb hby d7_17) rfl (teq (show (Int32.ofNat 7) = (7 : Int32) from (by decide))).1 (by decide) (by decide) ?_
   refine XS.aloadN X88.here hx rfl (hb hby d7_57) rfl rfl ?_
   exact kt
  obtain ⟨fs, hr, hrun, hended, hW, hsame⟩ := X88.leave (v := some (.ref b87)) (fun h => by rw [Bd.returns] at h; cases h)
  refine ⟨_, _, ?_, hrun, hended, _, _, rfl, ?_, ⟨_, rfl⟩, hW, hsame.mono (by decide) (by decide)⟩
  ·exact own_retR X88 hx Bd.returns rfl rfl (hb hby d7_58) hr
  ·show Q7 Z a1 k1 cs h0 n0 _ T88.heap _
   exact ⟨b87, k87, (7 : Int32), (own_tab 7 g_88), rfl, N88, K88, (Nat.le_of_eq g87.symm), q88_1, (Or.inl ⟨by decide, rfl, hg, hle⟩)⟩
 ·refine own_go (B := T88.setTop (mkF m 23 #[.val (.ref a1), .val (.int 0), .val (.int 7), .val (.ref b87), .val (.int (Int32.ofNat r_88)), .unset] [(.int 7), (.int 0), (.ref a1)])) (fun tg kt => ?_) ?_
  ·refine XS.iload X88.here hx rfl (hb hby d7_14) rfl ?_
   refine XS.iloadN X88.here hx rfl (hb hby d7_16) rfl ?_
   refine XS.icmpNo X88.here hx rfl (hb hby d7_17) rfl (feq (show ¬ ((Int32.ofNat r_88) = (7 : Int32)) from (own_of7 hr))).1 ?_
   refine XS.aloadN X88.here hx rfl (hb hby d7_20) rfl rfl ?_
   refine XS.iloadN X88.here hx rfl (hb hby d7_21) rfl ?_
   refine XS.iloadN X88.here hx rfl (hb hby d7_22) rfl ?_
   exact kt
  have f93 : Sta Z T88.heap "java/lang/StringUTF16" "$assertionsDisabled" "Z" (.int 1) := (own_staKeep (S__assertionsDisabled.ext E87) q88_0 (own_nsS (own_nsV V87) own_ns0))
  have f94 : Sta Z T88.heap "java/lang/StringUTF16" "HI_BYTE_SHIFT" "I" (.int 0) := (own_staKeep (S_HI_BYTE_SHIFT.ext E87) q88_0 (own_nsS (own_nsV V87) own_ns0))
  have f95 : Sta Z T88.heap "java/lang/StringUTF16" "LO_BYTE_SHIFT" "I" (.int 8) := (own_staKeep (S_LO_BYTE_SHIFT.ext E87) q88_0 (own_nsS (own_nsV V87) own_ns0))
  have f96 : Arv Z T88.heap a1 k1 .char (7 : Int32) (own_tab 7 cs) (.int 0) := (f90.keep q88_0 (ninS ne89 nin0))
  have le97 : h0.size ≤ T88.heap.size := (Nat.le_trans E87.1 q88_0.1)
  obtain ⟨_, _, ⟨T92, L92, k92, n92⟩, -, X92, ⟨Lc92, hQ92, l92, y92, z92⟩, st92⟩ := Jvm.LawKit.callS X88 hx (y := (⟨"java/lang/StringUTF16", "toBytes", "([CII)[B"⟩ : MethodName)) hown (mvT hZ (hw _ (List.mem_of_getElem? (i := 145) rfl))) (mvT hZ (hw _ (List.mem_of_getElem? (i := 146) rfl))) (mvT hZ (hw _ (List.mem_of_getElem? (i := 35) rfl))) (mvT hZ (hw _ (List.mem_of_getElem? (i := 147) rfl))) (by decide) (backOf (W := 0) (rm30 l Z a0 hw [] a1 k1 cs T88.heap n0 (Nat.le_trans Z0 le97) f93 f94 f95 f96) hZ (hw _ (List.mem_of_getElem? (i := 147) rfl)) (hw _ (List.mem_of_getElem? (i := 35) rfl)) (by decide) (by decide)) (g := (mkF m 23 #[.val (.ref a1), .val (.int 0), .val (.int 7), .val (.ref b87), .val (.int (Int32.ofNat r_88)), .unset] [(.int 7), (.int 0), (.ref a1)])) rfl (by rw [hml]; rfl) (argsL := [(.ref a1), (.int 0), (.int 7)]) (rest := []) (lenOf pd_4 rfl) rfl (by show 2 * 0 + _ ≤ _; exact Nat.le_of_eq rfl) (hb hby d7_23) (fun _ _ => ⟨rfl, rfl, (by decide : 1 + 1 ≤ _), (by decide : 7 + 14 ≤ _)⟩)
  dsimp only [Pt.U, Pt.locs, Pt.cells, Pt.slots] at X92 l92 y92 z92 st92 hQ92
  rw [l92, y92, z92] at X92
  obtain ⟨bn_92, kn_92, rfl, M92, q92_0, q92_1, q92_2⟩ := hQ92
  have N92 := Fr.app N88 M92
  have K92 : Keep h0 T92.heap [] := Keep.trans K88 q92_0 all0
  refine own_go st92 ?_
  refine own_go (B := T92.setTop (mkF m 32 #[.val (.ref a1), .val (.int 0), .val (.int 7), .val (.ref b87), .val (.int (Int32.ofNat r_88)), .val (.ref bn_92)] [(.int (Int32.ofNat r_88)), (.ref bn_92)])) (fun tg kt => ?_) ?_
  ·refine XS.astore X92.here hx rfl (hb hby d7_26) rfl rfl (l' := #[.val (.ref a1), .val (.int 0), .val (.int 7), .val (.ref b87), .val (.int (Int32.ofNat r_88)), .val (.ref bn_92)]) rfl ?_
   refine XS.aload X92.here hx rfl (hb hby d7_28) rfl rfl ?_
   refine XS.iload X92.here hx rfl (hb hby d7_30) rfl ?_
   exact kt
  have f99 : Sta Z T92.heap "java/lang/StringUTF16" "$assertionsDisabled" "Z" (.int 1) := (own_staKeep f93 q92_0 (fun x hx_ => nomatch hx_))
  have f100 : Sta Z T92.heap "java/lang/StringUTF16" "HI_BYTE_SHIFT" "I" (.int 0) := (own_staKeep f94 q92_0 (fun x hx_ => nomatch hx_))
  have f101 : Sta Z T92.heap "java/lang/StringUTF16" "LO_BYTE_SHIFT" "I" (.int 8) := (own_staKeep f95 q92_0 (fun x hx_ => nomatch hx_))
  have le102 : h0.size ≤ T92.heap.size := (Nat.le_trans (Nat.le_trans E87.1 q88_0.1) q92_0.1)
  obtain ⟨_, _, ⟨T98, L98, k98, n98⟩, -, X98, ⟨Lc98, hQ98, l98, y98, z98⟩, st98⟩ := Jvm.LawKit.callS X92 hx (y := (⟨"java/lang/StringUTF16", "getChar", "([BI)C"⟩ : MethodName)) hown (mvT hZ (hw _ (List.mem_of_getElem? (i := 161) rfl))) (mvT hZ (hw _ (List.mem_of_getElem? (i := 162) rfl))) (mvT hZ (hw _ (List.mem_of_getElem? (i := 35) rfl))) (mvT hZ (hw _ (List.mem_of_getElem? (i := 163) rfl))) (by decide) (backOf (W := 0) (rm34 l Z a0 hw [] bn_92 kn_92 r_88 cs T92.heap n0 (Nat.le_trans Z0 le102) f99 f100 f101 q92_2 (hr) (hC)) hZ (hw _ (List.mem_of_getElem? (i := 163) rfl)) (hw _ (List.mem_of_getElem? (i := 35) rfl)) (by decide) (by decide)) (g := (mkF m 32 #[.val (.ref a1), .val (.int 0), .val (.int 7), .val (.ref b87), .val (.int (Int32.ofNat r_88)), .val (.ref bn_92)] [(.int (Int32.ofNat r_88)), (.ref bn_92)])) rfl (by rw [hml]; rfl) (argsL := [(.ref bn_92), (.int (Int32.ofNat r_88))]) (rest := []) (lenOf pd_5 rfl) rfl (by show 2 * 0 + _ ≤ _; exact Nat.le_of_eq rfl) (hb hby d7_32) (fun _ _ => ⟨rfl, rfl, (by decide : 2 + 0 ≤ _), (by decide : 21 + 0 ≤ _)⟩)
  dsimp only [Pt.U, Pt.locs, Pt.cells, Pt.slots] at X98 l98 y98 z98 st98 hQ98
  rw [l98, y98, z98] at X98
  obtain ⟨rfl, M98, q98_0⟩ := hQ98
  have N98 := Fr.app N92 M98
  refine own_go st98 ?_
  refine own_go (B := T98.setTop (mkF m 56 #[.val (.ref a1), .val (.int 0), .val (.int 7), .val (.ref b87), .val (.int (Int32.ofNat r_88)), .val (.ref bn_92)] [(.ref bn_92)])) (fun tg kt => ?_) ?_
  ·refine XS.sipush X98.here hx rfl (hb hby d7_35) ?_
   refine XS.icmpYes X98.here hx rfl (pc0 := 38) (pc' := 54) rfl (hb hby d7_38) rfl (tlt (show (255 : Int32) < (cs r_88) from hgt)).2.2.1 (by decide) (by decide) ?_
   refine XS.aload X98.here hx rfl (hb hby d7_54) rfl rfl ?_
   exact kt
  obtain ⟨fs, hr, hrun, hended, hW, hsame⟩ := X98.leave (v := some (.ref bn_92)) (fun h => by rw [Bd.returns] at h; cases h)
  refine ⟨_, _, ?_, hrun, hended, _, _, rfl, ?_, ⟨_, rfl⟩, hW, hsame.mono (by decide) (by decide)⟩
  ·exact own_retR X98 hx Bd.returns rfl rfl (hb hby d7_56) hr
  ·show Q7 Z a1 k1 cs h0 n0 _ T98.heap _
   rw [q98_0]
   exact ⟨bn_92, kn_92, (14 : Int32), (own_tab 14 (own_u cs)), rfl, N98, K92, (Nat.le_trans le97 q92_1), q92_2, (Or.inr ⟨by decide, rfl, rfl⟩)⟩
theorem pd_6 : parseMethodDescriptor "([BI)B" = some ⟨[(.array .byte), .int], some .byte⟩ := by decide +kernel
theorem pn_221 : plainName "java/lang/String" = true := by first | (simp [plainName, overriddenIn]; done) | decide +kernel
theorem d5_0 : decode jdk_42_method_149_code 0 = .ok (.aload_n 0, 1) := by decide +kernel
theorem d5_1 : decode jdk_42_method_149_code 1 = .ok (.invokespecial 1, 3) := by decide +kernel
theorem d5_4 : decode jdk_42_method_149_code 4 = .ok (.iload_n 3, 1) := by decide +kernel
theorem d5_5 : decode jdk_42_method_149_code 5 = .ok (.ifCond .ne 22, 3) := by decide +kernel
theorem d5_27 : decode jdk_42_method_149_code 27 = .ok (.getstatic 38, 3) := by decide +kernel
theorem d5_30 : decode jdk_42_method_149_code 30 = .ok (.ifCond .eq 28, 3) := by decide +kernel
theorem d5_33 : decode jdk_42_method_149_code 33 = .ok (.aload_n 1, 1) := by decide +kernel
theorem d5_34 : decode jdk_42_method_149_code 34 = .ok (.iload_n 2, 1) := by decide +kernel
theorem d5_35 : decode jdk_42_method_149_code 35 = .ok (.iload_n 3, 1) := by decide +kernel
theorem d5_36 : decode jdk_42_method_149_code 36 = .ok (.invokestatic 177, 3) := by decide +kernel
theorem d5_39 : decode jdk_42_method_149_code 39 = .ok (.astore 5, 2) := by decide +kernel
theorem d5_41 : decode jdk_42_method_149_code 41 = .ok (.aload_n 0, 1) := by decide +kernel
theorem d5_42 : decode jdk_42_method_149_code 42 = .ok (.aload 5, 2) := by decide +kernel
theorem d5_44 : decode jdk_42_method_149_code 44 = .ok (.iload_n 3, 1) := by decide +kernel
theorem d5_45 : decode jdk_42_method_149_code 45 = .ok (.invokestatic 47, 3) := by decide +kernel
theorem d5_48 : decode jdk_42_method_149_code 48 = .ok (.putfield 15, 3) := by decide +kernel
theorem d5_51 : decode jdk_42_method_149_code 51 = .ok (.aload_n 0, 1) := by decide +kernel
theorem d5_52 : decode jdk_42_method_149_code 52 = .ok (.aload 5, 2) := by decide +kernel
theorem d5_54 : decode jdk_42_method_149_code 54 = .ok (.putfield 9, 3) := by decide +kernel
theorem d5_57 : decode jdk_42_method_149_code 57 = .ok (.return_, 1) := by decide +kernel
theorem ef_5 (m : MethodId) (a1 : Addr) (ar : Addr) : entryFrame m #[(.ref a1), (.ref ar), (.int 0), (.int 7), .null] 6 = mkF m 0 #[.val (.ref a1), .val (.ref ar), .val (.int 0), .val (.int 7), .val .null, .unset] [] := by first | (simp [entryFrame, mkF, argsToLocals, Value.category]; done) | rfl
def Q5 (Z : State) (a1 : Addr) (ar : Addr) (w_COMPACT_STRINGS : Int32) (kar : ClassId) (cs : Nat → Int32) (h0 : Heap) (n0 : Nat) (v : Option Value) (h : Heap) (L : List Loc) : Prop := ∃ (bn : Addr) (kn : ClassId) (nb : Int32) (vb : List Value), v = none ∧ Fr n0 L ∧ Keep h0 h [a1] ∧ h0.size ≤ bn ∧ Exa Z h a1 "java/lang/String" ∧ Fld Z h a1 "java/lang/String" "coder" "B" (.int (own_cf nb)) ∧ Fld Z h a1 "java/lang/String" "value" "[B" (.ref bn) ∧ Arv Z h bn kn .byte nb vb (.int 0) ∧ own_sp cs (own_cf nb) nb vb
set_option maxRecDepth 65536 in
set_option maxHeartbeats 40000000 in
theorem rm5 (l : Launch) (Z : State) (a0 : Array Value) (hw : ∀ d ∈ tables_1, d.before a0 Z = true) (ws : List Jvm.Cond) (a1 : Addr) (ar : Addr) (w_COMPACT_STRINGS : Int32) (kar : ClassId) (cs : Nat → Int32) (h0 : Heap) (n0 : Nat) (Z0 : n0 ≤ h0.size) (E_a1 : Exa Z h0 a1 "java/lang/String") (F_value_a1 : Fld Z h0 a1 "java/lang/String" "value" "[B" .null) (F_coder_a1 : Fld Z h0 a1 "java/lang/String" "coder" "B" (.int 0)) (g_a1 : n0 ≤ a1) (S_COMPACT_STRINGS : Sta Z h0 "java/lang/String" "COMPACT_STRINGS" "Z" (.int w_COMPACT_STRINGS)) (N_COMPACT_STRINGS : ¬ w_COMPACT_STRINGS = (0 : Int32)) (S__assertionsDisabled : Sta Z h0 "java/lang/StringUTF16" "$assertionsDisabled" "Z" (.int 1)) (S_HI_BYTE_SHIFT : Sta Z h0 "java/lang/StringUTF16" "HI_BYTE_SHIFT" "I" (.int 0)) (S_LO_BYTE_SHIFT : Sta Z h0 "java/lang/StringUTF16" "LO_BYTE_SHIFT" "I" (.int 8)) (V_ar : Arv Z h0 ar kar .char (7 : Int32) (own_tab 7 cs) (.int 0)) (hC : ∀ i, i < 7 → 0 ≤ (cs i).toInt ∧ (cs i).toInt ≤ 65535) :
  MetFree l (⟨"java/lang/String", "<init>", "([CIILjava/lang/Void;)V"⟩ : MethodName) (head1 (Jvm.Cond.code (⟨"java/lang/String", "<init>", "([CIILjava/lang/Void;)V"⟩ : MethodName) jdk_42_method_149_code 6 none :: ws) ({ frames := 4, cells := 2, slots := 21, locals := 57 } : Room)) (fun a U => a = #[(.ref a1), (.ref ar), (.int 0), (.int 7), .null] ∧ Z.Warmed39 U.vm ∧ U.heap = h0) (fun _ _ _ _ _ => True) (fun _ U o U' => ∃ v L, o = .returned v ∧ Q5 Z a1 ar w_COMPACT_STRINGS kar cs h0 n0 v U'.heap L ∧ FrameEnd U o U' L ({ frames := 4, cells := 2, slots := 21, locals := 57 } : Room).cells ({ frames := 4, cells := 2, slots := 21, locals := 57 } : Room).slots) := by
 refine MetFree.of_bodySF (plainFor_of_name pn_221) hisR ?_
 intro p e s m args below meth c s₁ Bd hml0 hP hK
 obtain ⟨rfl, hZ, hh⟩ := hP
 have hx := Bd.exec
 have hby := Bd.bytes
 have hml : c.maxLocals = 6 := hml0
 have hown : s.vm.findClass "java/lang/String" = some m.cls := findClass_of_methodNamed Bd.named
 have hnm := (name_of_methodNamed Bd.named Bd.method).1
 have X0 : Stand p l e ({ frames := 4, cells := 2, slots := 21, locals := 57 } : Room) s m #[(.ref a1), (.ref ar), (.int 0), (.int 7), .null] below meth c s₁ [] 0 0 := Stand.of_body Bd
 have e0 : s₁.heap = h0 := by rw [← hh, Bd.state]; rfl
 have N0 := Fr.nil n0
 refine own_go (B := s₁.setTop (mkF m 0 #[.val (.ref a1), .val (.ref ar), .val (.int 0), .val (.int 7), .val .null, .unset] [])) (fun t k => castTop (ef_5 m a1 ar) k) ?_
 refine own_go (B := s₁.setTop (mkF m 1 #[.val (.ref a1), .val (.ref ar), .val (.int 0), .val (.int 7), .val .null, .unset] [(.ref a1)])) (fun tg kt => ?_) ?_
 ·refine XS.aloadN X0.here hx rfl (hb hby d5_0) rfl rfl ?_
  exact kt
 obtain ⟨T104, X104, e104, st104⟩ := initO X0 hx hZ hown (hw _ (List.mem_of_getElem? (i := 29) rfl)) (hw _ (List.mem_of_getElem? (i := 30) rfl)) (hw _ (List.mem_of_getElem? (i := 31) rfl)) e0 (g := (mkF m 1 #[.val (.ref a1), .val (.ref ar), .val (.int 0), .val (.int 7), .val .null, .unset] [(.ref a1)])) rfl (by rw [hml]; rfl) rfl (hb hby d5_1) (by decide) (W := 0) (by show 2 * 0 + _ ≤ _; exact Nat.le_of_eq rfl) (by decide)
 refine own_go st104 ?_
 refine own_go (B := T104.setTop (mkF m 27 #[.val (.ref a1), .val (.ref ar), .val (.int 0), .val (.int 7), .val .null, .unset] [])) (fun tg kt => ?_) ?_
 ·refine XS.iloadN X104.here hx rfl (hb hby d5_4) rfl ?_
  refine XS.ifYes X104.here hx rfl (pc0 := 5) (pc' := 27) rfl (hb hby d5_5) rfl ((if0 _ _).trans (feq (by decide : ¬ ((7 : Int32) = (0 : Int32)))).2) (by decide) (by decide) ?_
  exact kt
 obtain ⟨T105, X105, e105, st105⟩ := getS2 X104 hx hZ hown (host := "") (Or.inl (hw _ (List.mem_of_getElem? (i := 32) rfl))) Via.refl e104 S_COMPACT_STRINGS (g := (mkF m 27 #[.val (.ref a1), .val (.ref ar), .val (.int 0), .val (.int 7), .val .null, .unset] [])) rfl (hb hby d5_27)
 refine own_go st105 ?_
 refine own_go (B := T105.setTop (mkF m 36 #[.val (.ref a1), .val (.ref ar), .val (.int 0), .val (.int 7), .val .null, .unset] [(.int 7), (.int 0), (.ref ar)])) (fun tg kt => ?_) ?_
 ·refine XS.ifNo X105.here hx rfl (hb hby d5_30) rfl ((if0 _ _).trans (feq (show ¬ (w_COMPACT_STRINGS = (0 : Int32)) from N_COMPACT_STRINGS)).1) ?_
  refine XS.aloadN X105.here hx rfl (hb hby d5_33) rfl rfl ?_
  refine XS.iloadN X105.here hx rfl (hb hby d5_34) rfl ?_
  refine XS.iloadN X105.here hx rfl (hb hby d5_35) rfl ?_
  exact kt
 obtain ⟨_, _, ⟨T106, L106, k106, n106⟩, -, X106, ⟨Lc106, hQ106, l106, y106, z106⟩, st106⟩ := Jvm.LawKit.callS X105 hx (y := (⟨"java/lang/StringUTF16", "compress", "([CII)[B"⟩ : MethodName)) hown (mvT hZ (hw _ (List.mem_of_getElem? (i := 33) rfl))) (mvT hZ (hw _ (List.mem_of_getElem? (i := 34) rfl))) (mvT hZ (hw _ (List.mem_of_getElem? (i := 35) rfl))) (mvT hZ (hw _ (List.mem_of_getElem? (i := 36) rfl))) (by decide) (backOf (W := 0) (rm7 l Z a0 hw [] ar kar cs h0 n0 Z0 S__assertionsDisabled S_HI_BYTE_SHIFT S_LO_BYTE_SHIFT V_ar (hC)) hZ (hw _ (List.mem_of_getElem? (i := 36) rfl)) (hw _ (List.mem_of_getElem? (i := 35) rfl)) (by decide) (by decide)) (g := (mkF m 36 #[.val (.ref a1), .val (.ref ar), .val (.int 0), .val (.int 7), .val .null, .unset] [(.int 7), (.int 0), (.ref ar)])) rfl (by rw [hml]; rfl) (argsL := [(.ref ar), (.int 0), (.int 7)]) (rest := []) (lenOf pd_4 rfl) rfl (by show 2 * 0 + _ ≤ _; exact Nat.le_of_eq rfl) (hb hby d5_36) (fun _ _ => ⟨rfl, e105, (by decide : 0 + 2 ≤ _), (by decide : 0 + 21 ≤ _)⟩)
 dsimp only [Pt.U, Pt.locs, Pt.cells, Pt.slots] at X106 l106 y106 z106 st106 hQ106
 rw [l106, y106, z106] at X106
 obtain ⟨bn_106, kn_106, nb_106, vb_106, rfl, M106, q106_0, q106_1, q106_2, q106_3⟩ := hQ106
 have N106 := Fr.app N0 M106
 have K106 : Keep h0 T106.heap [a1] := Keep.trans (Keep.refl h0 [a1]) q106_0 all0
 refine own_go st106 ?_
 refine own_go (B := T106.setTop (mkF m 45 #[.val (.ref a1), .val (.ref ar), .val (.int 0), .val (.int 7), .val .null, .val (.ref bn_106)] [(.int 7), (.ref bn_106), (.ref a1)])) (fun tg kt => ?_) ?_
 ·refine XS.astore X106.here hx rfl (hb hby d5_39) rfl rfl (l' := #[.val (.ref a1), .val (.ref ar), .val (.int 0), .val (.int 7), .val .null, .val (.ref bn_106)]) rfl ?_
  refine XS.aloadN X106.here hx rfl (hb hby d5_41) rfl rfl ?_
  refine XS.aload X106.here hx rfl (hb hby d5_42) rfl rfl ?_
  refine XS.iloadN X106.here hx rfl (hb hby d5_44) rfl ?_
  exact kt
 obtain ⟨_, _, ⟨T107, L107, k107, n107⟩, -, X107, ⟨Lc107, hQ107, l107, y107, z107⟩, st107⟩ := Jvm.LawKit.callS X106 hx (y := (⟨"java/lang/StringUTF16", "coderFromArrayLen", "([BI)B"⟩ : MethodName)) hown (mvT hZ (hw _ (List.mem_of_getElem? (i := 41) rfl))) (mvT hZ (hw _ (List.mem_of_getElem? (i := 42) rfl))) (mvT hZ (hw _ (List.mem_of_getElem? (i := 35) rfl))) (mvT hZ (hw _ (List.mem_of_getElem? (i := 43) rfl))) (by decide) (backOf (W := 1) (rm9 l Z a0 hw [] bn_106 kn_106 nb_106 vb_106 T106.heap n0 (Nat.le_trans Z0 q106_0.1) q106_2) hZ (hw _ (List.mem_of_getElem? (i := 43) rfl)) (hw _ (List.mem_of_getElem? (i := 35) rfl)) (by decide) (by decide)) (g := (mkF m 45 #[.val (.ref a1), .val (.ref ar), .val (.int 0), .val (.int 7), .val .null, .val (.ref bn_106)] [(.int 7), (.ref bn_106), (.ref a1)])) rfl (by rw [hml]; rfl) (argsL := [(.ref bn_106), (.int 7)]) (rest := [(.ref a1)]) (lenOf pd_6 rfl) rfl (by show 2 * 0 + _ ≤ _; exact Nat.le_of_eq rfl) (hb hby d5_45) (fun _ _ => ⟨rfl, rfl, (by decide : 2 + 0 ≤ _), (by decide : 21 + 0 ≤ _)⟩)
 dsimp only [Pt.U, Pt.locs, Pt.cells, Pt.slots] at X107 l107 y107 z107 st107 hQ107
 rw [l107, y107, z107] at X107
 obtain ⟨rfl, M107, q107_0⟩ := hQ107
 have N107 := Fr.app N106 M107
 refine own_go st107 ?_
 have f109 : Exa Z T106.heap a1 "java/lang/String" := (E_a1.keep q106_0)
 have f110 : Fld Z T106.heap a1 "java/lang/String" "coder" "B" (.int 0) := (F_coder_a1.keep q106_0 nin0)
 obtain ⟨T108, h108, X108, e108, W108, st108⟩ := putFN X107 hx hZ hown (hw _ (List.mem_of_getElem? (i := 44) rfl)) Via.refl q107_0 f110 f109 (Or.inr ⟨(hw _ (List.mem_of_getElem? (i := 45) rfl)), rfl, hnm⟩) (hw _ (List.mem_of_getElem? (i := 20) rfl)) (ty := .byte) (v' := (.int (nar .byte (own_cf nb_106)))) (by decide) rfl (fits_nar_byte _) (g := (mkF m 48 #[.val (.ref a1), .val (.ref ar), .val (.int 0), .val (.int 7), .val .null, .val (.ref bn_106)] [(.int (own_cf nb_106)), (.ref a1)])) rfl rfl (hb hby d5_48)
 refine own_go st108 ?_
 have F108 : Fld Z h108 a1 "java/lang/String" "coder" "B" (.int (nar .byte (own_cf nb_106))) := f110.same W108
 have K108 : Keep h0 h108 [a1] := Keep.wr K106 W108 (Or.inl (List.mem_of_getElem? (i := 0) rfl))
 have N108 := Fr.snoc X108 N107 g_a1
 refine own_go (B := T108.setTop (mkF m 54 #[.val (.ref a1), .val (.ref ar), .val (.int 0), .val (.int 7), .val .null, .val (.ref bn_106)] [(.ref bn_106), (.ref a1)])) (fun tg kt => ?_) ?_
 ·refine XS.aloadN X108.here hx rfl (hb hby d5_51) rfl rfl ?_
  refine XS.aload X108.here hx rfl (hb hby d5_52) rfl rfl ?_
  exact kt
 have f112 : Exa Z h108 a1 "java/lang/String" := (f109.wr W108)
 have f113 : Fld Z h108 a1 "java/lang/String" "value" "[B" .null := ((F_value_a1.keep q106_0 nin0).other W108 (Or.inr (slot_ne (Or.inr (hw _ (List.mem_of_getElem? (i := 47) rfl))) (Or.inr (hw _ (List.mem_of_getElem? (i := 45) rfl))) (by decide) (t := (.array .byte)) (t' := .byte) (by decide) (by decide))))
 obtain ⟨T111, h111, X111, e111, W111, st111⟩ := putF X108 hx hZ hown (host := "") (Or.inl (hw _ (List.mem_of_getElem? (i := 46) rfl))) Via.refl e108 f113 f112 (Or.inr ⟨(hw _ (List.mem_of_getElem? (i := 47) rfl)), rfl, hnm⟩) (hw _ (List.mem_of_getElem? (i := 20) rfl)) (ty := (.array .byte)) (by decide) rfl rfl (g := (mkF m 54 #[.val (.ref a1), .val (.ref ar), .val (.int 0), .val (.int 7), .val .null, .val (.ref bn_106)] [(.ref bn_106), (.ref a1)])) rfl rfl (hb hby d5_54)
 refine own_go st111 ?_
 have F111 : Fld Z h111 a1 "java/lang/String" "value" "[B" (.ref bn_106) := f113.same W111
 have K111 : Keep h0 h111 [a1] := Keep.wr K108 W111 (Or.inl (List.mem_of_getElem? (i := 0) rfl))
 have N111 := Fr.snoc X111 N108 g_a1
 obtain ⟨fs, hr, hrun, hended, hW, hsame⟩ := X111.leave (v := none) (fun _ => rfl)
 refine ⟨_, _, ?_, hrun, hended, _, _, rfl, ?_, ⟨_, rfl⟩, hW, hsame.mono (by decide) (by decide)⟩
 ·exact X111.returnOut hx Bd.returns (hb hby d5_57) hr
 ·show Q5 Z a1 ar w_COMPACT_STRINGS kar cs h0 n0 _ T111.heap _
  rw [e111]
  have f115 : Exa Z h111 a1 "java/lang/String" := (f112.wr W111)
  have f116 : Fld Z h111 a1 "java/lang/String" "coder" "B" (.int (nar .byte (own_cf nb_106))) := (F108.other W111 (Or.inr (slot_ne (Or.inr (hw _ (List.mem_of_getElem? (i := 45) rfl))) (Or.inr (hw _ (List.mem_of_getElem? (i := 47) rfl))) (by decide) (t := .byte) (t' := (.array .byte)) (by decide) (by decide))))
  have ne117 : a1 ≠ bn_106 := (Nat.ne_of_lt (Nat.lt_of_lt_of_le E_a1.lt q106_1))
  have f118 : Arv Z h111 bn_106 kn_106 .byte nb_106 vb_106 (.int 0) := ((q106_2.other W108 (Ne.symm ne117)).other W111 (Ne.symm ne117))
  exact ⟨bn_106, kn_106, nb_106, vb_106, rfl, N111, K111, q106_1, f115, (own_fnar f116), F111, f118, q106_3⟩
theorem pd_7 : parseMethodDescriptor "([CIILjava/lang/Void;)V" = some ⟨[(.array .char), .int, .int, (.object "java/lang/Void")], none⟩ := by decide +kernel
theorem d4_0 : decode jdk_42_method_3_code 0 = .ok (.aload_n 0, 1) := by decide +kernel
theorem d4_1 : decode jdk_42_method_3_code 1 = .ok (.aload_n 1, 1) := by decide +kernel
theorem d4_2 : decode jdk_42_method_3_code 2 = .ok (.iconst 0, 1) := by decide +kernel
theorem d4_3 : decode jdk_42_method_3_code 3 = .ok (.aload_n 1, 1) := by decide +kernel
theorem d4_4 : decode jdk_42_method_3_code 4 = .ok (.arraylength, 1) := by decide +kernel
theorem d4_5 : decode jdk_42_method_3_code 5 = .ok (.aconst_null, 1) := by decide +kernel
theorem d4_6 : decode jdk_42_method_3_code 6 = .ok (.invokespecial 27, 3) := by decide +kernel
theorem d4_9 : decode jdk_42_method_3_code 9 = .ok (.return_, 1) := by decide +kernel
theorem ef_4 (m : MethodId) (a1 : Addr) (ar : Addr) : entryFrame m #[(.ref a1), (.ref ar)] 2 = mkF m 0 #[.val (.ref a1), .val (.ref ar)] [] := by first | (simp [entryFrame, mkF, argsToLocals, Value.category]; done) | rfl
def Q4 (Z : State) (a1 : Addr) (ar : Addr) (w_COMPACT_STRINGS : Int32) (kar : ClassId) (cs : Nat → Int32) (h0 : Heap) (n0 : Nat) (v : Option Value) (h : Heap) (L : List Loc) : Prop := ∃ (bn : Addr) (kn : ClassId) (nb : Int32) (vb : List Value), v = none ∧ Fr n0 L ∧ Keep h0 h [a1] ∧ h0.size ≤ bn ∧ Exa Z h a1 "java/lang/String" ∧ Fld Z h a1 "java/lang/String" "coder" "B" (.int (own_cf nb)) ∧ Fld Z h a1 "java/lang/String" "value" "[B" (.ref bn) ∧ Arv Z h bn kn .byte nb vb (.int 0) ∧ own_sp cs (own_cf nb) nb vb
set_option maxRecDepth 65536 in
set_option maxHeartbeats 40000000 in
theorem rm4 (l : Launch) (Z : State) (a0 : Array Value) (hw : ∀ d ∈ tables_1, d.before a0 Z = true) (ws : List Jvm.Cond) (a1 : Addr) (ar : Addr) (w_COMPACT_STRINGS : Int32) (kar : ClassId) (cs : Nat → Int32) (h0 : Heap) (n0 : Nat) (Z0 : n0 ≤ h0.size) (E_a1 : Exa Z h0 a1 "java/lang/String") (F_value_a1 : Fld Z h0 a1 "java/lang/String" "value" "[B" .null) (F_coder_a1 : Fld Z h0 a1 "java/lang/String" "coder" "B" (.int 0)) (g_a1 : n0 ≤ a1) (S_COMPACT_STRINGS : Sta Z h0 "java/lang/String" "COMPACT_STRINGS" "Z" (.int w_COMPACT_STRINGS)) (N_COMPACT_STRINGS : ¬ w_COMPACT_STRINGS = (0 : Int32)) (S__assertionsDisabled : Sta Z h0 "java/lang/StringUTF16" "$assertionsDisabled" "Z" (.int 1)) (S_HI_BYTE_SHIFT : Sta Z h0 "java/lang/StringUTF16" "HI_BYTE_SHIFT" "I" (.int 0)) (S_LO_BYTE_SHIFT : Sta Z h0 "java/lang/StringUTF16" "LO_BYTE_SHIFT" "I" (.int 8)) (V_ar : Arv Z h0 ar kar .char (7 : Int32) (own_tab 7 cs) (.int 0)) (hC : ∀ i, i < 7 → 0 ≤ (cs i).toInt ∧ (cs i).toInt ≤ 65535) :
  MetFree l (⟨"java/lang/String", "<init>", "([C)V"⟩ : MethodName) (head1 (Jvm.Cond.code (⟨"java/lang/String", "<init>", "([C)V"⟩ : MethodName) jdk_42_method_3_code 2 none :: ws) ({ frames := 5, cells := 2, slots := 21, locals := 74 } : Room)) (fun a U => a = #[(.ref a1), (.ref ar)] ∧ Z.Warmed39 U.vm ∧ U.heap = h0) (fun _ _ _ _ _ => True) (fun _ U o U' => ∃ v L, o = .returned v ∧ Q4 Z a1 ar w_COMPACT_STRINGS kar cs h0 n0 v U'.heap L ∧ FrameEnd U o U' L ({ frames := 5, cells := 2, slots := 21, locals := 74 } : Room).cells ({ frames := 5, cells := 2, slots := 21, locals := 74 } : Room).slots) := by
 refine MetFree.of_bodySF (plainFor_of_name pn_221) hisR ?_
 intro p e s m args below meth c s₁ Bd hml0 hP hK
 obtain ⟨rfl, hZ, hh⟩ := hP
 have hx := Bd.exec
 have hby := Bd.bytes
 have hml : c.maxLocals = 2 := hml0
 have hown : s.vm.findClass "java/lang/String" = some m.cls := findClass_of_methodNamed Bd.named
 have hnm := (name_of_methodNamed Bd.named Bd.method).1
 have X0 : Stand p l e ({ frames := 5, cells := 2, slots := 21, locals := 74 } : Room) s m #[(.ref a1), (.ref ar)] below meth c s₁ [] 0 0 := Stand.of_body Bd
 have e0 : s₁.heap = h0 := by rw [← hh, Bd.state]; rfl
 have N0 := Fr.nil n0
 refine own_go (B := s₁.setTop (mkF m 0 #[.val (.ref a1), .val (.ref ar)] [])) (fun t k => castTop (ef_4 m a1 ar) k) ?_
 refine own_go (B := s₁.setTop (mkF m 4 #[.val (.ref a1), .val (.ref ar)] [(.ref ar), (.int 0), (.ref ar), (.ref a1)])) (fun tg kt => ?_) ?_
 ·refine XS.aloadN X0.here hx rfl (hb hby d4_0) rfl rfl ?_
  refine XS.aloadN X0.here hx rfl (hb hby d4_1) rfl rfl ?_
  refine XS.iconst X0.here hx rfl (hb hby d4_2) ?_
  refine XS.aloadN X0.here hx rfl (hb hby d4_3) rfl rfl ?_
  exact kt
 obtain ⟨cl119, Ar119, cq119, cS119, cN119, cH119, cG119⟩ := id V_ar
 refine own_go (B := s₁.setTop (mkF m 6 #[.val (.ref a1), .val (.ref ar)] [.null, (.int 7), (.int 0), (.ref ar), (.ref a1)])) (fun tg kt => ?_) ?_
 ·refine X0.arraylength hx (by rw [e0]; exact Ar119.1) (State.isArrayOf_alike hZ.alike Ar119.2.1) (g := (mkF m 4 #[.val (.ref a1), .val (.ref ar)] [(.ref ar), (.int 0), (.ref ar), (.ref a1)])) rfl rfl (hb hby d4_4) _ ?_
  rw [len_of cS119 cN119]
  refine XS.aconstNull X0.here hx rfl (hb hby d4_5) ?_
  exact kt
 obtain ⟨_, _, ⟨T120, L120, k120, n120⟩, -, X120, ⟨Lc120, hQ120, l120, y120, z120⟩, st120⟩ := X0.specialBack hx (y := (⟨"java/lang/String", "<init>", "([CIILjava/lang/Void;)V"⟩ : MethodName)) rfl hown (mvT hZ (hw _ (List.mem_of_getElem? (i := 25) rfl))) (mvT hZ (hw _ (List.mem_of_getElem? (i := 26) rfl))) (mvT hZ (hw _ (List.mem_of_getElem? (i := 28) rfl))) (by decide) (backOf (W := 0) (rm5 l Z a0 hw [] a1 ar w_COMPACT_STRINGS kar cs h0 n0 Z0 E_a1 F_value_a1 F_coder_a1 g_a1 S_COMPACT_STRINGS (N_COMPACT_STRINGS) S__assertionsDisabled S_HI_BYTE_SHIFT S_LO_BYTE_SHIFT V_ar (hC)) hZ (hw _ (List.mem_of_getElem? (i := 28) rfl)) (hw _ (List.mem_of_getElem? (i := 21) rfl)) (by decide) (by decide)) (g := (mkF m 6 #[.val (.ref a1), .val (.ref ar)] [.null, (.int 7), (.int 0), (.ref ar), (.ref a1)])) rfl (by rw [hml]; rfl) (Steps.refl _) (a := a1) (argsL := [(.ref ar), (.int 0), (.int 7), .null]) (rest := []) (lenOf pd_7 rfl) rfl (by show 2 * 0 + _ ≤ _; exact Nat.le_of_eq rfl) (hb hby d4_6) (fun _ _ => ⟨rfl, e0, (by decide : 0 + 2 ≤ _), (by decide : 0 + 21 ≤ _)⟩)
 dsimp only [Pt.U, Pt.locs, Pt.cells, Pt.slots] at X120 l120 y120 z120 st120 hQ120
 rw [l120, y120, z120] at X120
 obtain ⟨bn_120, kn_120, nb_120, vb_120, rfl, M120, q120_0, q120_1, q120_2, q120_3, q120_4, q120_5, q120_6⟩ := hQ120
 have N120 := Fr.app N0 M120
 have K120 : Keep h0 T120.heap [a1] := Keep.trans (Keep.refl h0 [a1]) q120_0 (allS (Or.inl (List.mem_of_getElem? (i := 0) rfl)) all0)
 refine own_go (fun t k => st120.trans k) ?_
 obtain ⟨fs, hr, hrun, hended, hW, hsame⟩ := X120.leave (v := none) (fun _ => rfl)
 refine ⟨_, _, ?_, hrun, hended, _, _, rfl, ?_, ⟨_, rfl⟩, hW, hsame.mono (by decide) (by decide)⟩
 ·exact X120.returnOut hx Bd.returns (hb hby d4_9) hr
 ·show Q4 Z a1 ar w_COMPACT_STRINGS kar cs h0 n0 _ T120.heap _
  exact ⟨bn_120, kn_120, nb_120, vb_120, rfl, N120, K120, q120_1, q120_2, q120_3, q120_4, q120_5, q120_6⟩
theorem d15_0 : decode jdk_42_method_154_code 0 = .ok (.getstatic 38, 3) := by decide +kernel
theorem d15_3 : decode jdk_42_method_154_code 3 = .ok (.ifCond .eq 14, 3) := by decide +kernel
theorem d15_6 : decode jdk_42_method_154_code 6 = .ok (.aload_n 0, 1) := by decide +kernel
theorem d15_7 : decode jdk_42_method_154_code 7 = .ok (.getfield 15, 3) := by decide +kernel
theorem d15_10 : decode jdk_42_method_154_code 10 = .ok (.ifCond .ne 7, 3) := by decide +kernel
theorem d15_13 : decode jdk_42_method_154_code 13 = .ok (.iconst 1, 1) := by decide +kernel
theorem d15_14 : decode jdk_42_method_154_code 14 = .ok (.goto 4, 3) := by decide +kernel
theorem d15_17 : decode jdk_42_method_154_code 17 = .ok (.iconst 0, 1) := by decide +kernel
theorem d15_18 : decode jdk_42_method_154_code 18 = .ok (.ireturn, 1) := by decide +kernel
theorem ef_15 (m : MethodId) (a1 : Addr) : entryFrame m #[(.ref a1)] 1 = mkF m 0 #[.val (.ref a1)] [] := by first | (simp [entryFrame, mkF, argsToLocals, Value.category]; done) | rfl
def Q15 (Z : State) (a1 : Addr) (w_COMPACT_STRINGS : Int32) (bn : Addr) (kn : ClassId) (kd : Int32) (nb : Int32) (vb : List Value) (cs : Nat → Int32) (h0 : Heap) (n0 : Nat) (v : Option Value) (h : Heap) (L : List Loc) : Prop := v = some (.int (if kd = (0 : Int32) then (1 : Int32) else 0)) ∧ Fr n0 L ∧ h = h0
set_option maxRecDepth 65536 in
set_option maxHeartbeats 40000000 in
theorem rm15 (l : Launch) (Z : State) (a0 : Array Value) (hw : ∀ d ∈ tables_1, d.before a0 Z = true) (ws : List Jvm.Cond) (a1 : Addr) (w_COMPACT_STRINGS : Int32) (bn : Addr) (kn : ClassId) (kd : Int32) (nb : Int32) (vb : List Value) (cs : Nat → Int32) (h0 : Heap) (n0 : Nat) (Z0 : n0 ≤ h0.size) (S_COMPACT_STRINGS : Sta Z h0 "java/lang/String" "COMPACT_STRINGS" "Z" (.int w_COMPACT_STRINGS)) (N_COMPACT_STRINGS : ¬ w_COMPACT_STRINGS = (0 : Int32)) (E_a1 : Exa Z h0 a1 "java/lang/String") (Fv_a1 : Fld Z h0 a1 "java/lang/String" "value" "[B" (.ref bn)) (Fc_a1 : Fld Z h0 a1 "java/lang/String" "coder" "B" (.int kd)) (V_bn : Arv Z h0 bn kn .byte nb vb (.int 0)) (hsp : own_sp cs kd nb vb) :
  MetFree l (⟨"java/lang/String", "isLatin1", "()Z"⟩ : MethodName) (head1 (Jvm.Cond.code (⟨"java/lang/String", "isLatin1", "()Z"⟩ : MethodName) jdk_42_method_154_code 1 (some .boolean) :: ws) ({ frames := 0, cells := 0, slots := 0, locals := 0 } : Room)) (fun a U => a = #[(.ref a1)] ∧ Z.Warmed39 U.vm ∧ U.heap = h0) (fun _ _ _ _ _ => True) (fun _ U o U' => ∃ v L, o = .returned v ∧ Q15 Z a1 w_COMPACT_STRINGS bn kn kd nb vb cs h0 n0 v U'.heap L ∧ FrameEnd U o U' L ({ frames := 0, cells := 0, slots := 0, locals := 0 } : Room).cells ({ frames := 0, cells := 0, slots := 0, locals := 0 } : Room).slots) := by
 refine MetFree.of_bodySF (plainFor_of_name pn_221) hisR ?_
 intro p e s m args below meth c s₁ Bd hml0 hP hK
 obtain ⟨rfl, hZ, hh⟩ := hP
 have hx := Bd.exec
 have hby := Bd.bytes
 have hml : c.maxLocals = 1 := hml0
 have hown : s.vm.findClass "java/lang/String" = some m.cls := findClass_of_methodNamed Bd.named
 have hnm := (name_of_methodNamed Bd.named Bd.method).1
 have X0 : Stand p l e ({ frames := 0, cells := 0, slots := 0, locals := 0 } : Room) s m #[(.ref a1)] below meth c s₁ [] 0 0 := Stand.of_body Bd
 have e0 : s₁.heap = h0 := by rw [← hh, Bd.state]; rfl
 have N0 := Fr.nil n0
 refine own_go (B := s₁.setTop (mkF m 0 #[.val (.ref a1)] [])) (fun t k => castTop (ef_15 m a1) k) ?_
 obtain ⟨T122, X122, e122, st122⟩ := getS2 X0 hx hZ hown (host := "") (Or.inl (hw _ (List.mem_of_getElem? (i := 32) rfl))) Via.refl e0 S_COMPACT_STRINGS (g := (mkF m 0 #[.val (.ref a1)] [])) rfl (hb hby d15_0)
 refine own_go st122 ?_
 refine own_go (B := T122.setTop (mkF m 7 #[.val (.ref a1)] [(.ref a1)])) (fun tg kt => ?_) ?_
 ·refine XS.ifNo X122.here hx rfl (hb hby d15_3) rfl ((if0 _ _).trans (feq (show ¬ (w_COMPACT_STRINGS = (0 : Int32)) from N_COMPACT_STRINGS)).1) ?_
  refine XS.aloadN X122.here hx rfl (hb hby d15_6) rfl rfl ?_
  exact kt
 obtain ⟨T123, X123, e123, st123⟩ := getF X122 hx hZ hown (host := "") (Or.inl (hw _ (List.mem_of_getElem? (i := 44) rfl))) Via.refl e122 Fc_a1 (g := (mkF m 7 #[.val (.ref a1)] [(.ref a1)])) rfl rfl (hb hby d15_7)
 refine own_go st123 ?_
 by_cases hc124 : kd = (0 : Int32)
 ·refine own_go (B := T123.setTop (mkF m 18 #[.val (.ref a1)] [(.int 1)])) (fun tg kt => ?_) ?_
  ·refine XS.ifNo X123.here hx rfl (hb hby d15_10) rfl ((if0 _ _).trans (teq hc124).2) ?_
   refine XS.iconst X123.here hx rfl (hb hby d15_13) ?_
   refine XS.goto X123.here hx rfl (pc0 := 14) (pc' := 18) rfl (hb hby d15_14) (by decide) (by decide) ?_
   exact kt
  obtain ⟨fs, hr, hrun, hended, hW, hsame⟩ := X123.leave (v := some (.int 1)) (fun h => by rw [Bd.returns] at h; cases h)
  refine ⟨_, _, ?_, hrun, hended, _, _, rfl, ?_, ⟨_, rfl⟩, hW, hsame.mono (by decide) (by decide)⟩
  ·exact retN X123 hx (t := .boolean) Bd.returns (by simp) (hb hby d15_18) hr
  ·show Q15 Z a1 w_COMPACT_STRINGS bn kn kd nb vb cs h0 n0 _ T123.heap _
   rw [e123]
   exact ⟨(by rw [if_pos hc124]), N0, rfl⟩
 ·refine own_go (B := T123.setTop (mkF m 18 #[.val (.ref a1)] [(.int 0)])) (fun tg kt => ?_) ?_
  ·refine XS.ifYes X123.here hx rfl (pc0 := 10) (pc' := 17) rfl (hb hby d15_10) rfl ((if0 _ _).trans (feq hc124).2) (by decide) (by decide) ?_
   refine XS.iconst X123.here hx rfl (hb hby d15_17) ?_
   exact kt
  obtain ⟨fs, hr, hrun, hended, hW, hsame⟩ := X123.leave (v := some (.int 0)) (fun h => by rw [Bd.returns] at h; cases h)
  refine ⟨_, _, ?_, hrun, hended, _, _, rfl, ?_, ⟨_, rfl⟩, hW, hsame.mono (by decide) (by decide)⟩
  ·exact retN X123 hx (t := .boolean) Bd.returns (by simp) (hb hby d15_18) hr
  ·show Q15 Z a1 w_COMPACT_STRINGS bn kn kd nb vb cs h0 n0 _ T123.heap _
   rw [e123]
   exact ⟨(by rw [if_neg hc124]), N0, rfl⟩
theorem d17_0 : decode jdk_42_method_152_code 0 = .ok (.getstatic 38, 3) := by decide +kernel
theorem d17_3 : decode jdk_42_method_152_code 3 = .ok (.ifCond .eq 10, 3) := by decide +kernel
theorem d17_6 : decode jdk_42_method_152_code 6 = .ok (.aload_n 0, 1) := by decide +kernel
theorem d17_7 : decode jdk_42_method_152_code 7 = .ok (.getfield 15, 3) := by decide +kernel
theorem d17_10 : decode jdk_42_method_152_code 10 = .ok (.goto 4, 3) := by decide +kernel
theorem d17_14 : decode jdk_42_method_152_code 14 = .ok (.ireturn, 1) := by decide +kernel
theorem ef_17 (m : MethodId) (a1 : Addr) : entryFrame m #[(.ref a1)] 1 = mkF m 0 #[.val (.ref a1)] [] := by first | (simp [entryFrame, mkF, argsToLocals, Value.category]; done) | rfl
def Q17 (Z : State) (a1 : Addr) (w_COMPACT_STRINGS : Int32) (bn : Addr) (kn : ClassId) (kd : Int32) (nb : Int32) (vb : List Value) (cs : Nat → Int32) (h0 : Heap) (n0 : Nat) (v : Option Value) (h : Heap) (L : List Loc) : Prop := v = some (.int kd) ∧ Fr n0 L ∧ h = h0
set_option maxRecDepth 65536 in
set_option maxHeartbeats 40000000 in
theorem rm17 (l : Launch) (Z : State) (a0 : Array Value) (hw : ∀ d ∈ tables_1, d.before a0 Z = true) (ws : List Jvm.Cond) (a1 : Addr) (w_COMPACT_STRINGS : Int32) (bn : Addr) (kn : ClassId) (kd : Int32) (nb : Int32) (vb : List Value) (cs : Nat → Int32) (h0 : Heap) (n0 : Nat) (Z0 : n0 ≤ h0.size) (S_COMPACT_STRINGS : Sta Z h0 "java/lang/String" "COMPACT_STRINGS" "Z" (.int w_COMPACT_STRINGS)) (N_COMPACT_STRINGS : ¬ w_COMPACT_STRINGS = (0 : Int32)) (E_a1 : Exa Z h0 a1 "java/lang/String") (Fv_a1 : Fld Z h0 a1 "java/lang/String" "value" "[B" (.ref bn)) (Fc_a1 : Fld Z h0 a1 "java/lang/String" "coder" "B" (.int kd)) (V_bn : Arv Z h0 bn kn .byte nb vb (.int 0)) (hsp : own_sp cs kd nb vb) :
  MetFree l (⟨"java/lang/String", "coder", "()B"⟩ : MethodName) (head1 (Jvm.Cond.code (⟨"java/lang/String", "coder", "()B"⟩ : MethodName) jdk_42_method_152_code 1 (some .byte) :: ws) ({ frames := 0, cells := 0, slots := 0, locals := 0 } : Room)) (fun a U => a = #[(.ref a1)] ∧ Z.Warmed39 U.vm ∧ U.heap = h0) (fun _ _ _ _ _ => True) (fun _ U o U' => ∃ v L, o = .returned v ∧ Q17 Z a1 w_COMPACT_STRINGS bn kn kd nb vb cs h0 n0 v U'.heap L ∧ FrameEnd U o U' L ({ frames := 0, cells := 0, slots := 0, locals := 0 } : Room).cells ({ frames := 0, cells := 0, slots := 0, locals := 0 } : Room).slots) := by
 refine MetFree.of_bodySF (plainFor_of_name pn_221) hisR ?_
 intro p e s m args below meth c s₁ Bd hml0 hP hK
 obtain ⟨rfl, hZ, hh⟩ := hP
 have hx := Bd.exec
 have hby := Bd.bytes
 have hml : c.maxLocals = 1 := hml0
 have hown : s.vm.findClass "java/lang/String" = some m.cls := findClass_of_methodNamed Bd.named
 have hnm := (name_of_methodNamed Bd.named Bd.method).1
 have X0 : Stand p l e ({ frames := 0, cells := 0, slots := 0, locals := 0 } : Room) s m #[(.ref a1)] below meth c s₁ [] 0 0 := Stand.of_body Bd
 have e0 : s₁.heap = h0 := by rw [← hh, Bd.state]; rfl
 have N0 := Fr.nil n0
 refine own_go (B := s₁.setTop (mkF m 0 #[.val (.ref a1)] [])) (fun t k => castTop (ef_17 m a1) k) ?_
 obtain ⟨T127, X127, e127, st127⟩ := getS2 X0 hx hZ hown (host := "") (Or.inl (hw _ (List.mem_of_getElem? (i := 32) rfl))) Via.refl e0 S_COMPACT_STRINGS (g := (mkF m 0 #[.val (.ref a1)] [])) rfl (hb hby d17_0)
 refine own_go st127 ?_
 refine own_go (B := T127.setTop (mkF m 7 #[.val (.ref a1)] [(.ref a1)])) (fun tg kt => ?_) ?_
 ·refine XS.ifNo X127.here hx rfl (hb hby d17_3) rfl ((if0 _ _).trans (feq (show ¬ (w_COMPACT_STRINGS = (0 : Int32)) from N_COMPACT_STRINGS)).1) ?_
  refine XS.aloadN X127.here hx rfl (hb hby d17_6) rfl rfl ?_
  exact kt
 obtain ⟨T128, X128, e128, st128⟩ := getF X127 hx hZ hown (host := "") (Or.inl (hw _ (List.mem_of_getElem? (i := 44) rfl))) Via.refl e127 Fc_a1 (g := (mkF m 7 #[.val (.ref a1)] [(.ref a1)])) rfl rfl (hb hby d17_7)
 refine own_go st128 ?_
 refine own_go (B := T128.setTop (mkF m 14 #[.val (.ref a1)] [(.int kd)])) (fun tg kt => ?_) ?_
 ·refine XS.goto X128.here hx rfl (pc0 := 10) (pc' := 14) rfl (hb hby d17_10) (by decide) (by decide) ?_
  exact kt
 obtain ⟨fs, hr, hrun, hended, hW, hsame⟩ := X128.leave (v := some (.int (nar .byte kd))) (fun h => by rw [Bd.returns] at h; cases h)
 refine ⟨_, _, ?_, hrun, hended, _, _, rfl, ?_, ⟨_, rfl⟩, hW, hsame.mono (by decide) (by decide)⟩
 ·exact retN X128 hx (t := .byte) Bd.returns (by simp) (hb hby d17_14) hr
 ·show Q17 Z a1 w_COMPACT_STRINGS bn kn kd nb vb cs h0 n0 _ T128.heap _
  rw [e128]
  exact ⟨(own_kd hsp), N0, rfl⟩
theorem pd_8 : parseMethodDescriptor "()B" = some ⟨[], some .byte⟩ := by decide +kernel
theorem d16_0 : decode jdk_42_method_54_code 0 = .ok (.aload_n 0, 1) := by decide +kernel
theorem d16_1 : decode jdk_42_method_54_code 1 = .ok (.getfield 9, 3) := by decide +kernel
theorem d16_4 : decode jdk_42_method_54_code 4 = .ok (.arraylength, 1) := by decide +kernel
theorem d16_5 : decode jdk_42_method_54_code 5 = .ok (.aload_n 0, 1) := by decide +kernel
theorem d16_6 : decode jdk_42_method_54_code 6 = .ok (.invokevirtual 335, 3) := by decide +kernel
theorem d16_9 : decode jdk_42_method_54_code 9 = .ok (.ishr, 1) := by decide +kernel
theorem d16_10 : decode jdk_42_method_54_code 10 = .ok (.ireturn, 1) := by decide +kernel
theorem ef_16 (m : MethodId) (a1 : Addr) : entryFrame m #[(.ref a1)] 1 = mkF m 0 #[.val (.ref a1)] [] := by first | (simp [entryFrame, mkF, argsToLocals, Value.category]; done) | rfl
def Q16 (Z : State) (a1 : Addr) (w_COMPACT_STRINGS : Int32) (bn : Addr) (kn : ClassId) (kd : Int32) (nb : Int32) (vb : List Value) (cs : Nat → Int32) (h0 : Heap) (n0 : Nat) (v : Option Value) (h : Heap) (L : List Loc) : Prop := v = some (.int 7) ∧ Fr n0 L ∧ h = h0
set_option maxRecDepth 65536 in
set_option maxHeartbeats 40000000 in
theorem rm16 (l : Launch) (Z : State) (a0 : Array Value) (hw : ∀ d ∈ tables_1, d.before a0 Z = true) (ws : List Jvm.Cond) (a1 : Addr) (w_COMPACT_STRINGS : Int32) (bn : Addr) (kn : ClassId) (kd : Int32) (nb : Int32) (vb : List Value) (cs : Nat → Int32) (h0 : Heap) (n0 : Nat) (Z0 : n0 ≤ h0.size) (S_COMPACT_STRINGS : Sta Z h0 "java/lang/String" "COMPACT_STRINGS" "Z" (.int w_COMPACT_STRINGS)) (N_COMPACT_STRINGS : ¬ w_COMPACT_STRINGS = (0 : Int32)) (E_a1 : Exa Z h0 a1 "java/lang/String") (Fv_a1 : Fld Z h0 a1 "java/lang/String" "value" "[B" (.ref bn)) (Fc_a1 : Fld Z h0 a1 "java/lang/String" "coder" "B" (.int kd)) (V_bn : Arv Z h0 bn kn .byte nb vb (.int 0)) (hsp : own_sp cs kd nb vb) :
  MetFree l (⟨"java/lang/String", "length", "()I"⟩ : MethodName) (head1 (Jvm.Cond.code (⟨"java/lang/String", "length", "()I"⟩ : MethodName) jdk_42_method_54_code 1 (some .int) :: ws) ({ frames := 1, cells := 0, slots := 0, locals := 13 } : Room)) (fun a U => a = #[(.ref a1)] ∧ Z.Warmed39 U.vm ∧ U.heap = h0) (fun _ _ _ _ _ => True) (fun _ U o U' => ∃ v L, o = .returned v ∧ Q16 Z a1 w_COMPACT_STRINGS bn kn kd nb vb cs h0 n0 v U'.heap L ∧ FrameEnd U o U' L ({ frames := 1, cells := 0, slots := 0, locals := 13 } : Room).cells ({ frames := 1, cells := 0, slots := 0, locals := 13 } : Room).slots) := by
 refine MetFree.of_bodySF (plainFor_of_name pn_221) hisR ?_
 intro p e s m args below meth c s₁ Bd hml0 hP hK
 obtain ⟨rfl, hZ, hh⟩ := hP
 have hx := Bd.exec
 have hby := Bd.bytes
 have hml : c.maxLocals = 1 := hml0
 have hown : s.vm.findClass "java/lang/String" = some m.cls := findClass_of_methodNamed Bd.named
 have hnm := (name_of_methodNamed Bd.named Bd.method).1
 have X0 : Stand p l e ({ frames := 1, cells := 0, slots := 0, locals := 13 } : Room) s m #[(.ref a1)] below meth c s₁ [] 0 0 := Stand.of_body Bd
 have e0 : s₁.heap = h0 := by rw [← hh, Bd.state]; rfl
 have N0 := Fr.nil n0
 refine own_go (B := s₁.setTop (mkF m 0 #[.val (.ref a1)] [])) (fun t k => castTop (ef_16 m a1) k) ?_
 refine own_go (B := s₁.setTop (mkF m 1 #[.val (.ref a1)] [(.ref a1)])) (fun tg kt => ?_) ?_
 ·refine XS.aloadN X0.here hx rfl (hb hby d16_0) rfl rfl ?_
  exact kt
 obtain ⟨T130, X130, e130, st130⟩ := getF X0 hx hZ hown (host := "") (Or.inl (hw _ (List.mem_of_getElem? (i := 46) rfl))) Via.refl e0 Fv_a1 (g := (mkF m 1 #[.val (.ref a1)] [(.ref a1)])) rfl rfl (hb hby d16_1)
 refine own_go st130 ?_
 obtain ⟨cl131, Ar131, cq131, cS131, cN131, cH131, cG131⟩ := id V_bn
 refine own_go (B := T130.setTop (mkF m 6 #[.val (.ref a1)] [(.ref a1), (.int nb)])) (fun tg kt => ?_) ?_
 ·refine X130.arraylength hx (by rw [e130]; exact Ar131.1) (State.isArrayOf_alike hZ.alike Ar131.2.1) (g := (mkF m 4 #[.val (.ref a1)] [(.ref bn)])) rfl rfl (hb hby d16_4) _ ?_
  rw [len_of cS131 cN131]
  refine XS.aloadN X130.here hx rfl (hb hby d16_5) rfl rfl ?_
  exact kt
 obtain ⟨cq132, kq132, q132a, q132b, q132c⟩ := isOf hZ e130 E_a1
 obtain ⟨_, _, ⟨T132, L132, k132, n132⟩, -, X132, ⟨Lc132, hQ132, l132, y132, z132⟩, st132⟩ := X130.virtualBack hx (y := (⟨"java/lang/String", "coder", "()B"⟩ : MethodName)) (z := (⟨"java/lang/String", "coder", "()B"⟩ : MethodName)) hown (mvT hZ (hw _ (List.mem_of_getElem? (i := 84) rfl))) (mvT hZ (hw _ (List.mem_of_getElem? (i := 85) rfl))) (notFace_of_selects (args := #[]) (mvT hZ (hw _ (List.mem_of_getElem? (i := 87) rfl)))) (mvT hZ (hw _ (List.mem_of_getElem? (i := 87) rfl))) (mvT hZ (hw _ (List.mem_of_getElem? (i := 86) rfl))) (by decide) (backOf (W := 1) (rm17 l Z a0 hw [] a1 w_COMPACT_STRINGS bn kn kd nb vb cs h0 n0 Z0 S_COMPACT_STRINGS (by first | assumption | decide) E_a1 Fv_a1 Fc_a1 V_bn (by first | assumption | decide)) hZ (hw _ (List.mem_of_getElem? (i := 88) rfl)) (hw _ (List.mem_of_getElem? (i := 21) rfl)) (by decide) (by decide)) q132a q132c (g := (mkF m 6 #[.val (.ref a1)] [(.ref a1), (.int nb)])) rfl (by rw [hml]; rfl) (Steps.refl _) (argsL := []) (rest := [(.int nb)]) (lenOf pd_8 rfl) rfl (by show 2 * 0 + _ ≤ _; exact Nat.le_of_eq rfl) (hb hby d16_6) (fun _ _ => ⟨rfl, e130, (by decide : 0 + 0 ≤ _), (by decide : 0 + 0 ≤ _)⟩)
 dsimp only [Pt.U, Pt.locs, Pt.cells, Pt.slots] at X132 l132 y132 z132 st132 hQ132
 rw [l132, y132, z132] at X132
 obtain ⟨rfl, M132, q132_0⟩ := hQ132
 have N132 := Fr.app N0 M132
 refine own_go (fun t k => st132.trans k) ?_
 refine own_go (B := T132.setTop (mkF m 10 #[.val (.ref a1)] [(.int (nb >>> (kd &&& 31)))])) (fun tg kt => ?_) ?_
 ·refine XS.ishr X132.here hx rfl (hb hby d16_9) rfl ?_
  exact kt
 obtain ⟨fs, hr, hrun, hended, hW, hsame⟩ := X132.leave (v := some (.int (nb >>> (kd &&& 31)))) (fun h => by rw [Bd.returns] at h; cases h)
 refine ⟨_, _, ?_, hrun, hended, _, _, rfl, ?_, ⟨_, rfl⟩, hW, hsame.mono (by decide) (by decide)⟩
 ·exact retI X132 hx Bd.returns (hb hby d16_10) hr
 ·show Q16 Z a1 w_COMPACT_STRINGS bn kn kd nb vb cs h0 n0 _ T132.heap _
  rw [q132_0]
  exact ⟨(congrArg (fun z => some (Value.int z)) (own_len7 hsp)), N132, rfl⟩
theorem d11_0 : decode jdk_42_method_55_code 0 = .ok (.aload_n 0, 1) := by decide +kernel
theorem d11_1 : decode jdk_42_method_55_code 1 = .ok (.getfield 9, 3) := by decide +kernel
theorem d11_4 : decode jdk_42_method_55_code 4 = .ok (.arraylength, 1) := by decide +kernel
theorem d11_5 : decode jdk_42_method_55_code 5 = .ok (.ifCond .ne 7, 3) := by decide +kernel
theorem d11_12 : decode jdk_42_method_55_code 12 = .ok (.iconst 0, 1) := by decide +kernel
theorem d11_13 : decode jdk_42_method_55_code 13 = .ok (.ireturn, 1) := by decide +kernel
theorem ef_11 (m : MethodId) (a1 : Addr) : entryFrame m #[(.ref a1)] 1 = mkF m 0 #[.val (.ref a1)] [] := by first | (simp [entryFrame, mkF, argsToLocals, Value.category]; done) | rfl
def Q11 (Z : State) (a1 : Addr) (bn : Addr) (kn : ClassId) (kd : Int32) (nb : Int32) (vb : List Value) (cs : Nat → Int32) (h0 : Heap) (n0 : Nat) (v : Option Value) (h : Heap) (L : List Loc) : Prop := v = some (.int 0) ∧ Fr n0 L ∧ h = h0
set_option maxRecDepth 65536 in
set_option maxHeartbeats 40000000 in
theorem rm11 (l : Launch) (Z : State) (a0 : Array Value) (hw : ∀ d ∈ tables_1, d.before a0 Z = true) (ws : List Jvm.Cond) (a1 : Addr) (bn : Addr) (kn : ClassId) (kd : Int32) (nb : Int32) (vb : List Value) (cs : Nat → Int32) (h0 : Heap) (n0 : Nat) (Z0 : n0 ≤ h0.size) (E_a1 : Exa Z h0 a1 "java/lang/String") (Fv_a1 : Fld Z h0 a1 "java/lang/String" "value" "[B" (.ref bn)) (Fc_a1 : Fld Z h0 a1 "java/lang/String" "coder" "B" (.int kd)) (V_bn : Arv Z h0 bn kn .byte nb vb (.int 0)) (hsp : own_sp cs kd nb vb) :
  MetFree l (⟨"java/lang/String", "isEmpty", "()Z"⟩ : MethodName) (head1 (Jvm.Cond.code (⟨"java/lang/String", "isEmpty", "()Z"⟩ : MethodName) jdk_42_method_55_code 1 (some .boolean) :: ws) ({ frames := 0, cells := 0, slots := 0, locals := 0 } : Room)) (fun a U => a = #[(.ref a1)] ∧ Z.Warmed39 U.vm ∧ U.heap = h0) (fun _ _ _ _ _ => True) (fun _ U o U' => ∃ v L, o = .returned v ∧ Q11 Z a1 bn kn kd nb vb cs h0 n0 v U'.heap L ∧ FrameEnd U o U' L ({ frames := 0, cells := 0, slots := 0, locals := 0 } : Room).cells ({ frames := 0, cells := 0, slots := 0, locals := 0 } : Room).slots) := by
 refine MetFree.of_bodySF (plainFor_of_name pn_221) hisR ?_
 intro p e s m args below meth c s₁ Bd hml0 hP hK
 obtain ⟨rfl, hZ, hh⟩ := hP
 have hx := Bd.exec
 have hby := Bd.bytes
 have hml : c.maxLocals = 1 := hml0
 have hown : s.vm.findClass "java/lang/String" = some m.cls := findClass_of_methodNamed Bd.named
 have hnm := (name_of_methodNamed Bd.named Bd.method).1
 have X0 : Stand p l e ({ frames := 0, cells := 0, slots := 0, locals := 0 } : Room) s m #[(.ref a1)] below meth c s₁ [] 0 0 := Stand.of_body Bd
 have e0 : s₁.heap = h0 := by rw [← hh, Bd.state]; rfl
 have N0 := Fr.nil n0
 refine own_go (B := s₁.setTop (mkF m 0 #[.val (.ref a1)] [])) (fun t k => castTop (ef_11 m a1) k) ?_
 refine own_go (B := s₁.setTop (mkF m 1 #[.val (.ref a1)] [(.ref a1)])) (fun tg kt => ?_) ?_
 ·refine XS.aloadN X0.here hx rfl (hb hby d11_0) rfl rfl ?_
  exact kt
 obtain ⟨T134, X134, e134, st134⟩ := getF X0 hx hZ hown (host := "") (Or.inl (hw _ (List.mem_of_getElem? (i := 46) rfl))) Via.refl e0 Fv_a1 (g := (mkF m 1 #[.val (.ref a1)] [(.ref a1)])) rfl rfl (hb hby d11_1)
 refine own_go st134 ?_
 obtain ⟨cl135, Ar135, cq135, cS135, cN135, cH135, cG135⟩ := id V_bn
 refine own_go (B := T134.setTop (mkF m 13 #[.val (.ref a1)] [(.int 0)])) (fun tg kt => ?_) ?_
 ·refine X134.arraylength hx (by rw [e134]; exact Ar135.1) (State.isArrayOf_alike hZ.alike Ar135.2.1) (g := (mkF m 4 #[.val (.ref a1)] [(.ref bn)])) rfl rfl (hb hby d11_4) _ ?_
  rw [len_of cS135 cN135]
  refine XS.ifYes X134.here hx rfl (pc0 := 5) (pc' := 12) rfl (hb hby d11_5) rfl ((if0 _ _).trans (feq (show ¬ (nb = (0 : Int32)) from (own_nb0 hsp))).2) (by decide) (by decide) ?_
  refine XS.iconst X134.here hx rfl (hb hby d11_12) ?_
  exact kt
 obtain ⟨fs, hr, hrun, hended, hW, hsame⟩ := X134.leave (v := some (.int 0)) (fun h => by rw [Bd.returns] at h; cases h)
 refine ⟨_, _, ?_, hrun, hended, _, _, rfl, ?_, ⟨_, rfl⟩, hW, hsame.mono (by decide) (by decide)⟩
 ·exact retN X134 hx (t := .boolean) Bd.returns (by simp) (hb hby d11_13) hr
 ·show Q11 Z a1 bn kn kd nb vb cs h0 n0 _ T134.heap _
  rw [e134]
  exact ⟨rfl, N0, rfl⟩
theorem d20_0 : decode jdk_29_method_65_code 0 = .ok (.iload_n 0, 1) := by decide +kernel
theorem d20_1 : decode jdk_29_method_65_code 1 = .ok (.iload_n 1, 1) := by decide +kernel
theorem d20_2 : decode jdk_29_method_65_code 2 = .ok (.if_icmp .lt 7, 3) := by decide +kernel
theorem d20_5 : decode jdk_29_method_65_code 5 = .ok (.iload_n 0, 1) := by decide +kernel
theorem d20_6 : decode jdk_29_method_65_code 6 = .ok (.goto 4, 3) := by decide +kernel
theorem d20_10 : decode jdk_29_method_65_code 10 = .ok (.ireturn, 1) := by decide +kernel
theorem ef_20 (m : MethodId) (p1 : Int32) : entryFrame m #[(.int p1), (.int 0)] 2 = mkF m 0 #[.val (.int p1), .val (.int 0)] [] := by first | (simp [entryFrame, mkF, argsToLocals, Value.category]; done) | rfl
def Q20 (Z : State) (p1 : Int32) (h0 : Heap) (n0 : Nat) (v : Option Value) (h : Heap) (L : List Loc) : Prop := v = some (.int p1) ∧ Fr n0 L ∧ h = h0
set_option maxRecDepth 65536 in
set_option maxHeartbeats 40000000 in
theorem rm20 (l : Launch) (Z : State) (a0 : Array Value) (hw : ∀ d ∈ tables_1, d.before a0 Z = true) (ws : List Jvm.Cond) (p1 : Int32) (h0 : Heap) (n0 : Nat) (Z0 : n0 ≤ h0.size) (hp : ¬ (p1 < (0 : Int32))) :
  MetFree l (⟨"java/lang/Math", "max", "(II)I"⟩ : MethodName) (head1 (Jvm.Cond.code (⟨"java/lang/Math", "max", "(II)I"⟩ : MethodName) jdk_29_method_65_code 2 (some .int) :: ws) ({ frames := 0, cells := 0, slots := 0, locals := 0 } : Room)) (fun a U => a = #[(.int p1), (.int 0)] ∧ Z.Warmed39 U.vm ∧ U.heap = h0) (fun _ _ _ _ _ => True) (fun _ U o U' => ∃ v L, o = .returned v ∧ Q20 Z p1 h0 n0 v U'.heap L ∧ FrameEnd U o U' L ({ frames := 0, cells := 0, slots := 0, locals := 0 } : Room).cells ({ frames := 0, cells := 0, slots := 0, locals := 0 } : Room).slots) := by
 refine MetFree.of_bodySF (Jvm.Free.JP.mathPlain rfl (by decide +kernel)) hisR ?_
 intro p e s m args below meth c s₁ Bd hml0 hP hK
 obtain ⟨rfl, hZ, hh⟩ := hP
 have hx := Bd.exec
 have hby := Bd.bytes
 have hml : c.maxLocals = 2 := hml0
 have hown : s.vm.findClass "java/lang/Math" = some m.cls := findClass_of_methodNamed Bd.named
 have hnm := (name_of_methodNamed Bd.named Bd.method).1
 have X0 : Stand p l e ({ frames := 0, cells := 0, slots := 0, locals := 0 } : Room) s m #[(.int p1), (.int 0)] below meth c s₁ [] 0 0 := Stand.of_body Bd
 have e0 : s₁.heap = h0 := by rw [← hh, Bd.state]; rfl
 have N0 := Fr.nil n0
 refine own_go (B := s₁.setTop (mkF m 0 #[.val (.int p1), .val (.int 0)] [])) (fun t k => castTop (ef_20 m p1) k) ?_
 refine own_go (B := s₁.setTop (mkF m 10 #[.val (.int p1), .val (.int 0)] [(.int p1)])) (fun tg kt => ?_) ?_
 ·refine XS.iloadN X0.here hx rfl (hb hby d20_0) rfl ?_
  refine XS.iloadN X0.here hx rfl (hb hby d20_1) rfl ?_
  refine XS.icmpNo X0.here hx rfl (hb hby d20_2) rfl (flt (show ¬ (p1 < (0 : Int32)) from hp)).1 ?_
  refine XS.iloadN X0.here hx rfl (hb hby d20_5) rfl ?_
  refine XS.goto X0.here hx rfl (pc0 := 6) (pc' := 10) rfl (hb hby d20_6) (by decide) (by decide) ?_
  exact kt
 obtain ⟨fs, hr, hrun, hended, hW, hsame⟩ := X0.leave (v := some (.int p1)) (fun h => by rw [Bd.returns] at h; cases h)
 refine ⟨_, _, ?_, hrun, hended, _, _, rfl, ?_, ⟨_, rfl⟩, hW, hsame.mono (by decide) (by decide)⟩
 ·exact retI X0 hx Bd.returns (hb hby d20_10) hr
 ·show Q20 Z p1 h0 n0 _ s₁.heap _
  rw [e0]
  exact ⟨rfl, N0, rfl⟩
theorem d21_0 : decode jdk_29_method_69_code 0 = .ok (.iload_n 0, 1) := by decide +kernel
theorem d21_1 : decode jdk_29_method_69_code 1 = .ok (.iload_n 1, 1) := by decide +kernel
theorem d21_2 : decode jdk_29_method_69_code 2 = .ok (.if_icmp .gt 7, 3) := by decide +kernel
theorem d21_5 : decode jdk_29_method_69_code 5 = .ok (.iload_n 0, 1) := by decide +kernel
theorem d21_6 : decode jdk_29_method_69_code 6 = .ok (.goto 4, 3) := by decide +kernel
theorem d21_10 : decode jdk_29_method_69_code 10 = .ok (.ireturn, 1) := by decide +kernel
theorem ef_21_7 (m : MethodId)  : entryFrame m #[(.int 7), (.int 7)] 2 = mkF m 0 #[.val (.int 7), .val (.int 7)] [] := by first | (simp [entryFrame, mkF, argsToLocals, Value.category]; done) | rfl
def Q21_7 (Z : State)  (h0 : Heap) (n0 : Nat) (v : Option Value) (h : Heap) (L : List Loc) : Prop := v = some (.int 7) ∧ Fr n0 L ∧ h = h0
set_option maxRecDepth 65536 in
set_option maxHeartbeats 40000000 in
theorem rm21_7 (l : Launch) (Z : State) (a0 : Array Value) (hw : ∀ d ∈ tables_1, d.before a0 Z = true) (ws : List Jvm.Cond)  (h0 : Heap) (n0 : Nat) (Z0 : n0 ≤ h0.size) :
  MetFree l (⟨"java/lang/Math", "min", "(II)I"⟩ : MethodName) (head1 (Jvm.Cond.code (⟨"java/lang/Math", "min", "(II)I"⟩ : MethodName) jdk_29_method_69_code 2 (some .int) :: ws) ({ frames := 0, cells := 0, slots := 0, locals := 0 } : Room)) (fun a U => a = #[(.int 7), (.int 7)] ∧ Z.Warmed39 U.vm ∧ U.heap = h0) (fun _ _ _ _ _ => True) (fun _ U o U' => ∃ v L, o = .returned v ∧ Q21_7 Z  h0 n0 v U'.heap L ∧ FrameEnd U o U' L ({ frames := 0, cells := 0, slots := 0, locals := 0 } : Room).cells ({ frames := 0, cells := 0, slots := 0, locals := 0 } : Room).slots) := by
 refine MetFree.of_bodySF (Jvm.Free.JP.mathPlain rfl (by decide +kernel)) hisR ?_
 intro p e s m args below meth c s₁ Bd hml0 hP hK
 obtain ⟨rfl, hZ, hh⟩ := hP
 have hx := Bd.exec
 have hby := Bd.bytes
 have hml : c.maxLocals = 2 := hml0
 have hown : s.vm.findClass "java/lang/Math" = some m.cls := findClass_of_methodNamed Bd.named
 have hnm := (name_of_methodNamed Bd.named Bd.method).1
 have X0 : Stand p l e ({ frames := 0, cells := 0, slots := 0, locals := 0 } : Room) s m #[(.int 7), (.int 7)] below meth c s₁ [] 0 0 := Stand.of_body Bd
 have e0 : s₁.heap = h0 := by rw [← hh, Bd.state]; rfl
 have N0 := Fr.nil n0
 refine own_go (B := s₁.setTop (mkF m 0 #[.val (.int 7), .val (.int 7)] [])) (fun t k => castTop (ef_21_7 m ) k) ?_
 refine own_go (B := s₁.setTop (mkF m 10 #[.val (.int 7), .val (.int 7)] [(.int 7)])) (fun tg kt => ?_) ?_
 ·refine XS.iloadN X0.here hx rfl (hb hby d21_0) rfl ?_
  refine XS.iloadN X0.here hx rfl (hb hby d21_1) rfl ?_
  refine XS.icmpNo X0.here hx rfl (hb hby d21_2) rfl (flt (by decide : ¬ ((7 : Int32) < (7 : Int32)))).2.2.1 ?_
  refine XS.iloadN X0.here hx rfl (hb hby d21_5) rfl ?_
  refine XS.goto X0.here hx rfl (pc0 := 6) (pc' := 10) rfl (hb hby d21_6) (by decide) (by decide) ?_
  exact kt
 obtain ⟨fs, hr, hrun, hended, hW, hsame⟩ := X0.leave (v := some (.int 7)) (fun h => by rw [Bd.returns] at h; cases h)
 refine ⟨_, _, ?_, hrun, hended, _, _, rfl, ?_, ⟨_, rfl⟩, hW, hsame.mono (by decide) (by decide)⟩
 ·exact retI X0 hx Bd.returns (hb hby d21_10) hr
 ·show Q21_7 Z  h0 n0 _ s₁.heap _
  rw [e0]
  exact ⟨rfl, N0, rfl⟩
theorem d21_9 : decode jdk_29_method_69_code 9 = .ok (.iload_n 1, 1) := by decide +kernel
theorem ef_21_2 (m : MethodId)  : entryFrame m #[(.int 16), (.int 2)] 2 = mkF m 0 #[.val (.int 16), .val (.int 2)] [] := by first | (simp [entryFrame, mkF, argsToLocals, Value.category]; done) | rfl
def Q21_2 (Z : State)  (h0 : Heap) (n0 : Nat) (v : Option Value) (h : Heap) (L : List Loc) : Prop := v = some (.int 2) ∧ Fr n0 L ∧ h = h0
set_option maxRecDepth 65536 in
set_option maxHeartbeats 40000000 in
theorem rm21_2 (l : Launch) (Z : State) (a0 : Array Value) (hw : ∀ d ∈ tables_1, d.before a0 Z = true) (ws : List Jvm.Cond)  (h0 : Heap) (n0 : Nat) (Z0 : n0 ≤ h0.size) :
  MetFree l (⟨"java/lang/Math", "min", "(II)I"⟩ : MethodName) (head1 (Jvm.Cond.code (⟨"java/lang/Math", "min", "(II)I"⟩ : MethodName) jdk_29_method_69_code 2 (some .int) :: ws) ({ frames := 0, cells := 0, slots := 0, locals := 0 } : Room)) (fun a U => a = #[(.int 16), (.int 2)] ∧ Z.Warmed39 U.vm ∧ U.heap = h0) (fun _ _ _ _ _ => True) (fun _ U o U' => ∃ v L, o = .returned v ∧ Q21_2 Z  h0 n0 v U'.heap L ∧ FrameEnd U o U' L ({ frames := 0, cells := 0, slots := 0, locals := 0 } : Room).cells ({ frames := 0, cells := 0, slots := 0, locals := 0 } : Room).slots) := by
 refine MetFree.of_bodySF (Jvm.Free.JP.mathPlain rfl (by decide +kernel)) hisR ?_
 intro p e s m args below meth c s₁ Bd hml0 hP hK
 obtain ⟨rfl, hZ, hh⟩ := hP
 have hx := Bd.exec
 have hby := Bd.bytes
 have hml : c.maxLocals = 2 := hml0
 have hown : s.vm.findClass "java/lang/Math" = some m.cls := findClass_of_methodNamed Bd.named
 have hnm := (name_of_methodNamed Bd.named Bd.method).1
 have X0 : Stand p l e ({ frames := 0, cells := 0, slots := 0, locals := 0 } : Room) s m #[(.int 16), (.int 2)] below meth c s₁ [] 0 0 := Stand.of_body Bd
 have e0 : s₁.heap = h0 := by rw [← hh, Bd.state]; rfl
 have N0 := Fr.nil n0
 refine own_go (B := s₁.setTop (mkF m 0 #[.val (.int 16), .val (.int 2)] [])) (fun t k => castTop (ef_21_2 m ) k) ?_
 refine own_go (B := s₁.setTop (mkF m 10 #[.val (.int 16), .val (.int 2)] [(.int 2)])) (fun tg kt => ?_) ?_
 ·refine XS.iloadN X0.here hx rfl (hb hby d21_0) rfl ?_
  refine XS.iloadN X0.here hx rfl (hb hby d21_1) rfl ?_
  refine XS.icmpYes X0.here hx rfl (pc0 := 2) (pc' := 9) rfl (hb hby d21_2) rfl (tlt (by decide : (2 : Int32) < (16 : Int32))).2.2.1 (by decide) (by decide) ?_
  refine XS.iloadN X0.here hx rfl (hb hby d21_9) rfl ?_
  exact kt
 obtain ⟨fs, hr, hrun, hended, hW, hsame⟩ := X0.leave (v := some (.int 2)) (fun h => by rw [Bd.returns] at h; cases h)
 refine ⟨_, _, ?_, hrun, hended, _, _, rfl, ?_, ⟨_, rfl⟩, hW, hsame.mono (by decide) (by decide)⟩
 ·exact retI X0 hx Bd.returns (hb hby d21_10) hr
 ·show Q21_2 Z  h0 n0 _ s₁.heap _
  rw [e0]
  exact ⟨rfl, N0, rfl⟩
theorem ef_21_3 (m : MethodId)  : entryFrame m #[(.int 16), (.int 3)] 2 = mkF m 0 #[.val (.int 16), .val (.int 3)] [] := by first | (simp [entryFrame, mkF, argsToLocals, Value.category]; done) | rfl
def Q21_3 (Z : State)  (h0 : Heap) (n0 : Nat) (v : Option Value) (h : Heap) (L : List Loc) : Prop := v = some (.int 3) ∧ Fr n0 L ∧ h = h0
set_option maxRecDepth 65536 in
set_option maxHeartbeats 40000000 in
theorem rm21_3 (l : Launch) (Z : State) (a0 : Array Value) (hw : ∀ d ∈ tables_1, d.before a0 Z = true) (ws : List Jvm.Cond)  (h0 : Heap) (n0 : Nat) (Z0 : n0 ≤ h0.size) :
  MetFree l (⟨"java/lang/Math", "min", "(II)I"⟩ : MethodName) (head1 (Jvm.Cond.code (⟨"java/lang/Math", "min", "(II)I"⟩ : MethodName) jdk_29_method_69_code 2 (some .int) :: ws) ({ frames := 0, cells := 0, slots := 0, locals := 0 } : Room)) (fun a U => a = #[(.int 16), (.int 3)] ∧ Z.Warmed39 U.vm ∧ U.heap = h0) (fun _ _ _ _ _ => True) (fun _ U o U' => ∃ v L, o = .returned v ∧ Q21_3 Z  h0 n0 v U'.heap L ∧ FrameEnd U o U' L ({ frames := 0, cells := 0, slots := 0, locals := 0 } : Room).cells ({ frames := 0, cells := 0, slots := 0, locals := 0 } : Room).slots) := by
 refine MetFree.of_bodySF (Jvm.Free.JP.mathPlain rfl (by decide +kernel)) hisR ?_
 intro p e s m args below meth c s₁ Bd hml0 hP hK
 obtain ⟨rfl, hZ, hh⟩ := hP
 have hx := Bd.exec
 have hby := Bd.bytes
 have hml : c.maxLocals = 2 := hml0
 have hown : s.vm.findClass "java/lang/Math" = some m.cls := findClass_of_methodNamed Bd.named
 have hnm := (name_of_methodNamed Bd.named Bd.method).1
 have X0 : Stand p l e ({ frames := 0, cells := 0, slots := 0, locals := 0 } : Room) s m #[(.int 16), (.int 3)] below meth c s₁ [] 0 0 := Stand.of_body Bd
 have e0 : s₁.heap = h0 := by rw [← hh, Bd.state]; rfl
 have N0 := Fr.nil n0
 refine own_go (B := s₁.setTop (mkF m 0 #[.val (.int 16), .val (.int 3)] [])) (fun t k => castTop (ef_21_3 m ) k) ?_
 refine own_go (B := s₁.setTop (mkF m 10 #[.val (.int 16), .val (.int 3)] [(.int 3)])) (fun tg kt => ?_) ?_
 ·refine XS.iloadN X0.here hx rfl (hb hby d21_0) rfl ?_
  refine XS.iloadN X0.here hx rfl (hb hby d21_1) rfl ?_
  refine XS.icmpYes X0.here hx rfl (pc0 := 2) (pc' := 9) rfl (hb hby d21_2) rfl (tlt (by decide : (3 : Int32) < (16 : Int32))).2.2.1 (by decide) (by decide) ?_
  refine XS.iloadN X0.here hx rfl (hb hby d21_9) rfl ?_
  exact kt
 obtain ⟨fs, hr, hrun, hended, hW, hsame⟩ := X0.leave (v := some (.int 3)) (fun h => by rw [Bd.returns] at h; cases h)
 refine ⟨_, _, ?_, hrun, hended, _, _, rfl, ?_, ⟨_, rfl⟩, hW, hsame.mono (by decide) (by decide)⟩
 ·exact retI X0 hx Bd.returns (hb hby d21_10) hr
 ·show Q21_3 Z  h0 n0 _ s₁.heap _
  rw [e0]
  exact ⟨rfl, N0, rfl⟩
theorem ef_21_4 (m : MethodId)  : entryFrame m #[(.int 16), (.int 4)] 2 = mkF m 0 #[.val (.int 16), .val (.int 4)] [] := by first | (simp [entryFrame, mkF, argsToLocals, Value.category]; done) | rfl
def Q21_4 (Z : State)  (h0 : Heap) (n0 : Nat) (v : Option Value) (h : Heap) (L : List Loc) : Prop := v = some (.int 4) ∧ Fr n0 L ∧ h = h0
set_option maxRecDepth 65536 in
set_option maxHeartbeats 40000000 in
theorem rm21_4 (l : Launch) (Z : State) (a0 : Array Value) (hw : ∀ d ∈ tables_1, d.before a0 Z = true) (ws : List Jvm.Cond)  (h0 : Heap) (n0 : Nat) (Z0 : n0 ≤ h0.size) :
  MetFree l (⟨"java/lang/Math", "min", "(II)I"⟩ : MethodName) (head1 (Jvm.Cond.code (⟨"java/lang/Math", "min", "(II)I"⟩ : MethodName) jdk_29_method_69_code 2 (some .int) :: ws) ({ frames := 0, cells := 0, slots := 0, locals := 0 } : Room)) (fun a U => a = #[(.int 16), (.int 4)] ∧ Z.Warmed39 U.vm ∧ U.heap = h0) (fun _ _ _ _ _ => True) (fun _ U o U' => ∃ v L, o = .returned v ∧ Q21_4 Z  h0 n0 v U'.heap L ∧ FrameEnd U o U' L ({ frames := 0, cells := 0, slots := 0, locals := 0 } : Room).cells ({ frames := 0, cells := 0, slots := 0, locals := 0 } : Room).slots) := by
 refine MetFree.of_bodySF (Jvm.Free.JP.mathPlain rfl (by decide +kernel)) hisR ?_
 intro p e s m args below meth c s₁ Bd hml0 hP hK
 obtain ⟨rfl, hZ, hh⟩ := hP
 have hx := Bd.exec
 have hby := Bd.bytes
 have hml : c.maxLocals = 2 := hml0
 have hown : s.vm.findClass "java/lang/Math" = some m.cls := findClass_of_methodNamed Bd.named
 have hnm := (name_of_methodNamed Bd.named Bd.method).1
 have X0 : Stand p l e ({ frames := 0, cells := 0, slots := 0, locals := 0 } : Room) s m #[(.int 16), (.int 4)] below meth c s₁ [] 0 0 := Stand.of_body Bd
 have e0 : s₁.heap = h0 := by rw [← hh, Bd.state]; rfl
 have N0 := Fr.nil n0
 refine own_go (B := s₁.setTop (mkF m 0 #[.val (.int 16), .val (.int 4)] [])) (fun t k => castTop (ef_21_4 m ) k) ?_
 refine own_go (B := s₁.setTop (mkF m 10 #[.val (.int 16), .val (.int 4)] [(.int 4)])) (fun tg kt => ?_) ?_
 ·refine XS.iloadN X0.here hx rfl (hb hby d21_0) rfl ?_
  refine XS.iloadN X0.here hx rfl (hb hby d21_1) rfl ?_
  refine XS.icmpYes X0.here hx rfl (pc0 := 2) (pc' := 9) rfl (hb hby d21_2) rfl (tlt (by decide : (4 : Int32) < (16 : Int32))).2.2.1 (by decide) (by decide) ?_
  refine XS.iloadN X0.here hx rfl (hb hby d21_9) rfl ?_
  exact kt
 obtain ⟨fs, hr, hrun, hended, hW, hsame⟩ := X0.leave (v := some (.int 4)) (fun h => by rw [Bd.returns] at h; cases h)
 refine ⟨_, _, ?_, hrun, hended, _, _, rfl, ?_, ⟨_, rfl⟩, hW, hsame.mono (by decide) (by decide)⟩
 ·exact retI X0 hx Bd.returns (hb hby d21_10) hr
 ·show Q21_4 Z  h0 n0 _ s₁.heap _
  rw [e0]
  exact ⟨rfl, N0, rfl⟩
theorem pn_279 : plainName "java/lang/StringLatin1" = true := by first | (simp [plainName, overriddenIn]; done) | decide +kernel
theorem d19_0 : decode jdk_43_method_4_code 0 = .ok (.iload_n 0, 1) := by decide +kernel
theorem d19_1 : decode jdk_43_method_4_code 1 = .ok (.ifCond .lt 14, 3) := by decide +kernel
theorem d19_4 : decode jdk_43_method_4_code 4 = .ok (.iload_n 0, 1) := by decide +kernel
theorem d19_5 : decode jdk_43_method_4_code 5 = .ok (.sipush 255, 3) := by decide +kernel
theorem d19_8 : decode jdk_43_method_4_code 8 = .ok (.if_icmp .gt 7, 3) := by decide +kernel
theorem d19_11 : decode jdk_43_method_4_code 11 = .ok (.iconst 1, 1) := by decide +kernel
theorem d19_12 : decode jdk_43_method_4_code 12 = .ok (.goto 4, 3) := by decide +kernel
theorem d19_16 : decode jdk_43_method_4_code 16 = .ok (.ireturn, 1) := by decide +kernel
theorem ef_19 (m : MethodId)  : entryFrame m #[(.int 32)] 1 = mkF m 0 #[.val (.int 32)] [] := by first | (simp [entryFrame, mkF, argsToLocals, Value.category]; done) | rfl
def Q19 (Z : State)  (h0 : Heap) (n0 : Nat) (v : Option Value) (h : Heap) (L : List Loc) : Prop := v = some (.int 1) ∧ Fr n0 L ∧ h = h0
set_option maxRecDepth 65536 in
set_option maxHeartbeats 40000000 in
theorem rm19 (l : Launch) (Z : State) (a0 : Array Value) (hw : ∀ d ∈ tables_1, d.before a0 Z = true) (ws : List Jvm.Cond)  (h0 : Heap) (n0 : Nat) (Z0 : n0 ≤ h0.size) :
  MetFree l (⟨"java/lang/StringLatin1", "canEncode", "(I)Z"⟩ : MethodName) (head1 (Jvm.Cond.code (⟨"java/lang/StringLatin1", "canEncode", "(I)Z"⟩ : MethodName) jdk_43_method_4_code 1 (some .boolean) :: ws) ({ frames := 0, cells := 0, slots := 0, locals := 0 } : Room)) (fun a U => a = #[(.int 32)] ∧ Z.Warmed39 U.vm ∧ U.heap = h0) (fun _ _ _ _ _ => True) (fun _ U o U' => ∃ v L, o = .returned v ∧ Q19 Z  h0 n0 v U'.heap L ∧ FrameEnd U o U' L ({ frames := 0, cells := 0, slots := 0, locals := 0 } : Room).cells ({ frames := 0, cells := 0, slots := 0, locals := 0 } : Room).slots) := by
 refine MetFree.of_bodySF (plainFor_of_name pn_279) hisR ?_
 intro p e s m args below meth c s₁ Bd hml0 hP hK
 obtain ⟨rfl, hZ, hh⟩ := hP
 have hx := Bd.exec
 have hby := Bd.bytes
 have hml : c.maxLocals = 1 := hml0
 have hown : s.vm.findClass "java/lang/StringLatin1" = some m.cls := findClass_of_methodNamed Bd.named
 have hnm := (name_of_methodNamed Bd.named Bd.method).1
 have X0 : Stand p l e ({ frames := 0, cells := 0, slots := 0, locals := 0 } : Room) s m #[(.int 32)] below meth c s₁ [] 0 0 := Stand.of_body Bd
 have e0 : s₁.heap = h0 := by rw [← hh, Bd.state]; rfl
 have N0 := Fr.nil n0
 refine own_go (B := s₁.setTop (mkF m 0 #[.val (.int 32)] [])) (fun t k => castTop (ef_19 m ) k) ?_
 refine own_go (B := s₁.setTop (mkF m 16 #[.val (.int 32)] [(.int 1)])) (fun tg kt => ?_) ?_
 ·refine XS.iloadN X0.here hx rfl (hb hby d19_0) rfl ?_
  refine XS.ifNo X0.here hx rfl (hb hby d19_1) rfl ((if0 _ _).trans (flt (by decide : ¬ ((32 : Int32) < (0 : Int32)))).1) ?_
  refine XS.iloadN X0.here hx rfl (hb hby d19_4) rfl ?_
  refine XS.sipush X0.here hx rfl (hb hby d19_5) ?_
  refine XS.icmpNo X0.here hx rfl (hb hby d19_8) rfl (flt (by decide : ¬ ((255 : Int32) < (32 : Int32)))).2.2.1 ?_
  refine XS.iconst X0.here hx rfl (hb hby d19_11) ?_
  refine XS.goto X0.here hx rfl (pc0 := 12) (pc' := 16) rfl (hb hby d19_12) (by decide) (by decide) ?_
  exact kt
 obtain ⟨fs, hr, hrun, hended, hW, hsame⟩ := X0.leave (v := some (.int 1)) (fun h => by rw [Bd.returns] at h; cases h)
 refine ⟨_, _, ?_, hrun, hended, _, _, rfl, ?_, ⟨_, rfl⟩, hW, hsame.mono (by decide) (by decide)⟩
 ·exact retN X0 hx (t := .boolean) Bd.returns (by simp) (hb hby d19_16) hr
 ·show Q19 Z  h0 n0 _ s₁.heap _
  rw [e0]
  exact ⟨rfl, N0, rfl⟩
theorem d22_0 : decode jdk_43_method_23_code 0 = .ok (.iload_n 1, 1) := by decide +kernel
theorem d22_1 : decode jdk_43_method_23_code 1 = .ok (.i2b, 1) := by decide +kernel
theorem d22_2 : decode jdk_43_method_23_code 2 = .ok (.istore 4, 2) := by decide +kernel
theorem d22_4 : decode jdk_43_method_23_code 4 = .ok (.iload_n 2, 1) := by decide +kernel
theorem d22_5 : decode jdk_43_method_23_code 5 = .ok (.istore 5, 2) := by decide +kernel
theorem d22_7 : decode jdk_43_method_23_code 7 = .ok (.iload 5, 2) := by decide +kernel
theorem d22_9 : decode jdk_43_method_23_code 9 = .ok (.iload_n 3, 1) := by decide +kernel
theorem d22_10 : decode jdk_43_method_23_code 10 = .ok (.if_icmp .ge 21, 3) := by decide +kernel
theorem d22_13 : decode jdk_43_method_23_code 13 = .ok (.aload_n 0, 1) := by decide +kernel
theorem d22_14 : decode jdk_43_method_23_code 14 = .ok (.iload 5, 2) := by decide +kernel
theorem d22_16 : decode jdk_43_method_23_code 16 = .ok (.baload, 1) := by decide +kernel
theorem d22_17 : decode jdk_43_method_23_code 17 = .ok (.iload 4, 2) := by decide +kernel
theorem d22_19 : decode jdk_43_method_23_code 19 = .ok (.if_icmp .ne 6, 3) := by decide +kernel
theorem d22_22 : decode jdk_43_method_23_code 22 = .ok (.iload 5, 2) := by decide +kernel
theorem d22_24 : decode jdk_43_method_23_code 24 = .ok (.ireturn, 1) := by decide +kernel
theorem d22_25 : decode jdk_43_method_23_code 25 = .ok (.iinc 5 1, 3) := by decide +kernel
theorem d22_28 : decode jdk_43_method_23_code 28 = .ok (.goto (-21), 3) := by decide +kernel
theorem d22_31 : decode jdk_43_method_23_code 31 = .ok (.iconst (-1), 1) := by decide +kernel
theorem d22_32 : decode jdk_43_method_23_code 32 = .ok (.ireturn, 1) := by decide +kernel
theorem ef_22 (m : MethodId) (a1 : Addr) : entryFrame m #[(.ref a1), (.int 32), (.int (Int32.ofNat f)), (.int 7)] 6 = mkF m 0 #[.val (.ref a1), .val (.int 32), .val (.int (Int32.ofNat f)), .val (.int 7), .unset, .unset] [] := by first | (simp [entryFrame, mkF, argsToLocals, Value.category]; done) | rfl
def Q22 (Z : State) (a1 : Addr) (k1 : ClassId) (f : Nat) (cs : Nat → Int32) (h0 : Heap) (n0 : Nat) (v : Option Value) (h : Heap) (L : List Loc) : Prop := v = some (.int (own_sk cs (7 - f) f)) ∧ Fr n0 L ∧ h = h0
set_option maxRecDepth 65536 in
set_option maxHeartbeats 40000000 in
theorem rm22 (l : Launch) (Z : State) (a0 : Array Value) (hw : ∀ d ∈ tables_1, d.before a0 Z = true) (ws : List Jvm.Cond) (a1 : Addr) (k1 : ClassId) (f : Nat) (cs : Nat → Int32) (h0 : Heap) (n0 : Nat) (Z0 : n0 ≤ h0.size) (V_a1 : Arv Z h0 a1 k1 .byte (7 : Int32) (own_tab 7 (own_l cs)) (.int 0)) (hf : f < 7) (hle : ∀ i, i < 7 → ¬ (255 : Int32) < cs i) (hC : ∀ i, i < 7 → 0 ≤ (cs i).toInt ∧ (cs i).toInt ≤ 65535) :
  MetFree l (⟨"java/lang/StringLatin1", "indexOfChar", "([BIII)I"⟩ : MethodName) (head1 (Jvm.Cond.code (⟨"java/lang/StringLatin1", "indexOfChar", "([BIII)I"⟩ : MethodName) jdk_43_method_23_code 6 (some .int) :: ws) ({ frames := 0, cells := 0, slots := 0, locals := 0 } : Room)) (fun a U => a = #[(.ref a1), (.int 32), (.int (Int32.ofNat f)), (.int 7)] ∧ Z.Warmed39 U.vm ∧ U.heap = h0) (fun _ _ _ _ _ => True) (fun _ U o U' => ∃ v L, o = .returned v ∧ Q22 Z a1 k1 f cs h0 n0 v U'.heap L ∧ FrameEnd U o U' L ({ frames := 0, cells := 0, slots := 0, locals := 0 } : Room).cells ({ frames := 0, cells := 0, slots := 0, locals := 0 } : Room).slots) := by
 refine MetFree.of_bodySF (plainFor_of_name pn_279) hisR ?_
 intro p e s m args below meth c s₁ Bd hml0 hP hK
 obtain ⟨rfl, hZ, hh⟩ := hP
 have hx := Bd.exec
 have hby := Bd.bytes
 have hml : c.maxLocals = 6 := hml0
 have hown : s.vm.findClass "java/lang/StringLatin1" = some m.cls := findClass_of_methodNamed Bd.named
 have hnm := (name_of_methodNamed Bd.named Bd.method).1
 have X0 : Stand p l e ({ frames := 0, cells := 0, slots := 0, locals := 0 } : Room) s m #[(.ref a1), (.int 32), (.int (Int32.ofNat f)), (.int 7)] below meth c s₁ [] 0 0 := Stand.of_body Bd
 have e0 : s₁.heap = h0 := by rw [← hh, Bd.state]; rfl
 have N0 := Fr.nil n0
 refine own_go (B := s₁.setTop (mkF m 0 #[.val (.ref a1), .val (.int 32), .val (.int (Int32.ofNat f)), .val (.int 7), .unset, .unset] [])) (fun t k => castTop (ef_22 m a1) k) ?_
 refine own_go (B := s₁.setTop (mkF m 7 #[.val (.ref a1), .val (.int 32), .val (.int (Int32.ofNat f)), .val (.int 7), .val (.int 32), .val (.int (Int32.ofNat f))] [])) (fun tg kt => ?_) ?_
 ·refine XS.iloadN X0.here hx rfl (hb hby d22_0) rfl ?_
  refine XS.i2b X0.here hx rfl (hb hby d22_1) rfl ?_
  refine XS.istore X0.here hx rfl (hb hby d22_2) rfl (l' := #[.val (.ref a1), .val (.int 32), .val (.int (Int32.ofNat f)), .val (.int 7), .val (.int 32), .unset]) rfl ?_
  refine XS.iloadN X0.here hx rfl (hb hby d22_4) rfl ?_
  refine XS.istore X0.here hx rfl (hb hby d22_5) rfl (l' := #[.val (.ref a1), .val (.int 32), .val (.int (Int32.ofNat f)), .val (.int 7), .val (.int 32), .val (.int (Int32.ofNat f))]) rfl ?_
  exact kt
 have loop143 : ∀ (k t : Nat) (T_143 : State) (lo_143 : List Loc), k + t = 7 → Stand p l e ({ frames := 0, cells := 0, slots := 0, locals := 0 } : Room) s m #[(.ref a1), (.int 32), (.int (Int32.ofNat f)), (.int 7)] below meth c T_143 lo_143 0 0 → T_143.heap = h0 → Fr n0 lo_143 → (own_sk cs (7 - f) f = own_sk cs (7 - t) t) → ∃ s₂ o, Steps p.tables e below (T_143.setTop (mkF m 7 #[.val (.ref a1), .val (.int 32), .val (.int (Int32.ofNat f)), .val (.int 7), .val (.int 32), .val (.int (Int32.ofNat t))] [])) s₂ ∧ s₂.status = .running ∧ Ended s₂ below o ∧ ∃ v L, o = .returned v ∧ Q22 Z a1 k1 f cs h0 n0 v s₂.heap L ∧ FrameEnd s o s₂ L ({ frames := 0, cells := 0, slots := 0, locals := 0 } : Room).cells ({ frames := 0, cells := 0, slots := 0, locals := 0 } : Room).slots := by
  intro k
  induction k with
  | zero =>
   intro t T_143 lo_143 hkt143 X_143 e_143 N_143 hix_143
   obtain rfl : t = 7 := by omega
   refine own_go (B := T_143.setTop (mkF m 32 #[.val (.ref a1), .val (.int 32), .val (.int (Int32.ofNat f)), .val (.int 7), .val (.int 32), .val (.int (Int32.ofNat 7))] [(.int (-1))])) (fun tg kt => ?_) ?_
   ·refine XS.iload X_143.here hx rfl (hb hby d22_7) rfl ?_
    refine XS.iloadN X_143.here hx rfl (hb hby d22_9) rfl ?_
    refine XS.icmpYes X_143.here hx rfl (pc0 := 10) (pc' := 31) rfl (hb hby d22_10) rfl (flt (show ¬ ((Int32.ofNat 7) < (7 : Int32)) from (by decide))).2.1 (by decide) (by decide) ?_
    refine XS.iconst X_143.here hx rfl (hb hby d22_31) ?_
    exact kt
   obtain ⟨fs, hr, hrun, hended, hW, hsame⟩ := X_143.leave (v := some (.int (-1))) (fun h => by rw [Bd.returns] at h; cases h)
   refine ⟨_, _, ?_, hrun, hended, _, _, rfl, ?_, ⟨_, rfl⟩, hW, hsame.mono (by decide) (by decide)⟩
   ·exact retI X_143 hx Bd.returns (hb hby d22_32) hr
   ·show Q22 Z a1 k1 f cs h0 n0 _ T_143.heap _
    rw [e_143]
    exact ⟨(congrArg (fun z => some (Value.int z)) hix_143.symm), N_143, rfl⟩
  | succ k ih143 =>
   intro t T_143 lo_143 hkt143 X_143 e_143 N_143 hix_143
   have ht143 : t < 7 := by omega
   refine own_go (B := T_143.setTop (mkF m 16 #[.val (.ref a1), .val (.int 32), .val (.int (Int32.ofNat f)), .val (.int 7), .val (.int 32), .val (.int (Int32.ofNat t))] [(.int (Int32.ofNat t)), (.ref a1)])) (fun tg kt => ?_) ?_
   ·refine XS.iload X_143.here hx rfl (hb hby d22_7) rfl ?_
    refine XS.iloadN X_143.here hx rfl (hb hby d22_9) rfl ?_
    refine XS.icmpNo X_143.here hx rfl (hb hby d22_10) rfl (tlt (show (Int32.ofNat t) < (7 : Int32) from (own_ltc ht143 (by decide) _ (by decide)).2)).2.1 ?_
    refine XS.aloadN X_143.here hx rfl (hb hby d22_13) rfl rfl ?_
    refine XS.iload X_143.here hx rfl (hb hby d22_14) rfl ?_
    exact kt
   obtain ⟨cl145, Ar145, cq145, cS145, cN145, cH145, cG145⟩ := id V_a1
   have hin145 := inb_of (j := (Int32.ofNat t)) cS145 (own_ltc ht143 (by decide) _ (by decide))
   have hat145 : cl145.slots[((Int32.ofNat t)).toNatClampNeg]? = some (.int (own_l cs t)) := Has.at cH145 hin145 (own_at (own_l cs) _ (own_toInt (by omega)) (by omega))
   refine own_go (B := T_143.setTop (mkF m 19 #[.val (.ref a1), .val (.int 32), .val (.int (Int32.ofNat f)), .val (.int 7), .val (.int 32), .val (.int (Int32.ofNat t))] [(.int 32), (.int (own_l cs t))])) (fun tg kt => ?_) ?_
   ·refine X_143.baloadBytes hx (j := (Int32.ofNat t)) (v := (.int (own_l cs t))) (by rw [e_143]; exact Ar145.1) (State.isArrayOf_alike hZ.alike Ar145.2.1) Ar145.2.2 hin145 hat145 (g := (mkF m 16 #[.val (.ref a1), .val (.int 32), .val (.int (Int32.ofNat f)), .val (.int 7), .val (.int 32), .val (.int (Int32.ofNat t))] [(.int (Int32.ofNat t)), (.ref a1)])) rfl rfl (hb hby d22_16) _ ?_
    refine XS.iload X_143.here hx rfl (hb hby d22_17) rfl ?_
    exact kt
   by_cases hc146 : (own_l cs t) = (32 : Int32)
   ·refine own_go (B := T_143.setTop (mkF m 24 #[.val (.ref a1), .val (.int 32), .val (.int (Int32.ofNat f)), .val (.int 7), .val (.int 32), .val (.int (Int32.ofNat t))] [(.int (Int32.ofNat t))])) (fun tg kt => ?_) ?_
    ·refine XS.icmpNo X_143.here hx rfl (hb hby d22_19) rfl (teq hc146).2 ?_
     refine XS.iload X_143.here hx rfl (hb hby d22_22) rfl ?_
     exact kt
    obtain ⟨fs, hr, hrun, hended, hW, hsame⟩ := X_143.leave (v := some (.int (Int32.ofNat t))) (fun h => by rw [Bd.returns] at h; cases h)
    refine ⟨_, _, ?_, hrun, hended, _, _, rfl, ?_, ⟨_, rfl⟩, hW, hsame.mono (by decide) (by decide)⟩
    ·exact retI X_143 hx Bd.returns (hb hby d22_24) hr
    ·show Q22 Z a1 k1 f cs h0 n0 _ T_143.heap _
     rw [e_143]
     exact ⟨(congrArg (fun z => some (Value.int z)) (hix_143.trans (own_skF ht143 ((own_lc (hle t ht143) (hC t ht143)).mp hc146))).symm), N_143, rfl⟩
   ·refine own_go (B := T_143.setTop (mkF m 7 #[.val (.ref a1), .val (.int 32), .val (.int (Int32.ofNat f)), .val (.int 7), .val (.int 32), .val (.int ((Int32.ofNat t) + (1 : Int32)))] [])) (fun tg kt => ?_) ?_
    ·refine XS.icmpYes X_143.here hx rfl (pc0 := 19) (pc' := 25) rfl (hb hby d22_19) rfl (feq hc146).2 (by decide) (by decide) ?_
     refine XS.iinc X_143.here hx rfl (hb hby d22_25) rfl (l' := #[.val (.ref a1), .val (.int 32), .val (.int (Int32.ofNat f)), .val (.int 7), .val (.int 32), .val (.int ((Int32.ofNat t) + (1 : Int32)))]) rfl ?_
     refine XS.goto X_143.here hx rfl (pc0 := 28) (pc' := 7) rfl (hb hby d22_28) (by decide) (by decide) ?_
     exact kt
    rw [show ((Int32.ofNat t) + (1 : Int32)) = (Int32.ofNat (t + 1)) from own_isucc _]
    exact ih143 (t + 1) T_143 _ (by omega) X_143 e_143 N_143 (hix_143.trans (own_skS ht143 (fun q => hc146 ((own_lc (hle t ht143) (hC t ht143)).mpr q))))
 exact loop143 (7 - f) f s₁ _ (by omega) X0 e0 N0 rfl
theorem d41_0 : decode jdk_52_method_48_code 0 = .ok (.iload_n 2, 1) := by decide +kernel
theorem d41_1 : decode jdk_52_method_48_code 1 = .ok (.istore 4, 2) := by decide +kernel
theorem d41_3 : decode jdk_52_method_48_code 3 = .ok (.iload 4, 2) := by decide +kernel
theorem d41_5 : decode jdk_52_method_48_code 5 = .ok (.iload_n 3, 1) := by decide +kernel
theorem d41_6 : decode jdk_52_method_48_code 6 = .ok (.if_icmp .ge 22, 3) := by decide +kernel
theorem d41_9 : decode jdk_52_method_48_code 9 = .ok (.aload_n 0, 1) := by decide +kernel
theorem d41_10 : decode jdk_52_method_48_code 10 = .ok (.iload 4, 2) := by decide +kernel
theorem d41_12 : decode jdk_52_method_48_code 12 = .ok (.invokestatic 71, 3) := by decide +kernel
theorem d41_15 : decode jdk_52_method_48_code 15 = .ok (.iload_n 1, 1) := by decide +kernel
theorem d41_16 : decode jdk_52_method_48_code 16 = .ok (.if_icmp .ne 6, 3) := by decide +kernel
theorem d41_19 : decode jdk_52_method_48_code 19 = .ok (.iload 4, 2) := by decide +kernel
theorem d41_21 : decode jdk_52_method_48_code 21 = .ok (.ireturn, 1) := by decide +kernel
theorem d41_22 : decode jdk_52_method_48_code 22 = .ok (.iinc 4 1, 3) := by decide +kernel
theorem d41_25 : decode jdk_52_method_48_code 25 = .ok (.goto (-22), 3) := by decide +kernel
theorem d41_28 : decode jdk_52_method_48_code 28 = .ok (.iconst (-1), 1) := by decide +kernel
theorem d41_29 : decode jdk_52_method_48_code 29 = .ok (.ireturn, 1) := by decide +kernel
theorem ef_41 (m : MethodId) (a1 : Addr) : entryFrame m #[(.ref a1), (.int 32), (.int (Int32.ofNat f)), (.int 7)] 5 = mkF m 0 #[.val (.ref a1), .val (.int 32), .val (.int (Int32.ofNat f)), .val (.int 7), .unset] [] := by first | (simp [entryFrame, mkF, argsToLocals, Value.category]; done) | rfl
def Q41 (Z : State) (a1 : Addr) (k1 : ClassId) (f : Nat) (cs : Nat → Int32) (h0 : Heap) (n0 : Nat) (v : Option Value) (h : Heap) (L : List Loc) : Prop := v = some (.int (own_sk cs (7 - f) f)) ∧ Fr n0 L ∧ h = h0
set_option maxRecDepth 65536 in
set_option maxHeartbeats 40000000 in
theorem rm41 (l : Launch) (Z : State) (a0 : Array Value) (hw : ∀ d ∈ tables_1, d.before a0 Z = true) (ws : List Jvm.Cond) (a1 : Addr) (k1 : ClassId) (f : Nat) (cs : Nat → Int32) (h0 : Heap) (n0 : Nat) (Z0 : n0 ≤ h0.size) (S__assertionsDisabled : Sta Z h0 "java/lang/StringUTF16" "$assertionsDisabled" "Z" (.int 1)) (S_HI_BYTE_SHIFT : Sta Z h0 "java/lang/StringUTF16" "HI_BYTE_SHIFT" "I" (.int 0)) (S_LO_BYTE_SHIFT : Sta Z h0 "java/lang/StringUTF16" "LO_BYTE_SHIFT" "I" (.int 8)) (V_a1 : Arv Z h0 a1 k1 .byte (14 : Int32) (own_tab 14 (own_u cs)) (.int 0)) (hf : f < 7) (hC : ∀ i, i < 7 → 0 ≤ (cs i).toInt ∧ (cs i).toInt ≤ 65535) :
  MetFree l (⟨"java/lang/StringUTF16", "indexOfCharUnsafe", "([BIII)I"⟩ : MethodName) (head1 (Jvm.Cond.code (⟨"java/lang/StringUTF16", "indexOfCharUnsafe", "([BIII)I"⟩ : MethodName) jdk_52_method_48_code 5 (some .int) :: ws) ({ frames := 1, cells := 0, slots := 0, locals := 13 } : Room)) (fun a U => a = #[(.ref a1), (.int 32), (.int (Int32.ofNat f)), (.int 7)] ∧ Z.Warmed39 U.vm ∧ U.heap = h0) (fun _ _ _ _ _ => True) (fun _ U o U' => ∃ v L, o = .returned v ∧ Q41 Z a1 k1 f cs h0 n0 v U'.heap L ∧ FrameEnd U o U' L ({ frames := 1, cells := 0, slots := 0, locals := 13 } : Room).cells ({ frames := 1, cells := 0, slots := 0, locals := 13 } : Room).slots) := by
 refine MetFree.of_bodySF (plainFor_of_name pn_69) hisR ?_
 intro p e s m args below meth c s₁ Bd hml0 hP hK
 obtain ⟨rfl, hZ, hh⟩ := hP
 have hx := Bd.exec
 have hby := Bd.bytes
 have hml : c.maxLocals = 5 := hml0
 have hown : s.vm.findClass "java/lang/StringUTF16" = some m.cls := findClass_of_methodNamed Bd.named
 have hnm := (name_of_methodNamed Bd.named Bd.method).1
 have X0 : Stand p l e ({ frames := 1, cells := 0, slots := 0, locals := 13 } : Room) s m #[(.ref a1), (.int 32), (.int (Int32.ofNat f)), (.int 7)] below meth c s₁ [] 0 0 := Stand.of_body Bd
 have e0 : s₁.heap = h0 := by rw [← hh, Bd.state]; rfl
 have N0 := Fr.nil n0
 refine own_go (B := s₁.setTop (mkF m 0 #[.val (.ref a1), .val (.int 32), .val (.int (Int32.ofNat f)), .val (.int 7), .unset] [])) (fun t k => castTop (ef_41 m a1) k) ?_
 refine own_go (B := s₁.setTop (mkF m 3 #[.val (.ref a1), .val (.int 32), .val (.int (Int32.ofNat f)), .val (.int 7), .val (.int (Int32.ofNat f))] [])) (fun tg kt => ?_) ?_
 ·refine XS.iloadN X0.here hx rfl (hb hby d41_0) rfl ?_
  refine XS.istore X0.here hx rfl (hb hby d41_1) rfl (l' := #[.val (.ref a1), .val (.int 32), .val (.int (Int32.ofNat f)), .val (.int 7), .val (.int (Int32.ofNat f))]) rfl ?_
  exact kt
 have loop148 : ∀ (k t : Nat) (T_148 : State) (lo_148 : List Loc), k + t = 7 → Stand p l e ({ frames := 1, cells := 0, slots := 0, locals := 13 } : Room) s m #[(.ref a1), (.int 32), (.int (Int32.ofNat f)), (.int 7)] below meth c T_148 lo_148 0 0 → T_148.heap = h0 → Fr n0 lo_148 → (own_sk cs (7 - f) f = own_sk cs (7 - t) t) → ∃ s₂ o, Steps p.tables e below (T_148.setTop (mkF m 3 #[.val (.ref a1), .val (.int 32), .val (.int (Int32.ofNat f)), .val (.int 7), .val (.int (Int32.ofNat t))] [])) s₂ ∧ s₂.status = .running ∧ Ended s₂ below o ∧ ∃ v L, o = .returned v ∧ Q41 Z a1 k1 f cs h0 n0 v s₂.heap L ∧ FrameEnd s o s₂ L ({ frames := 1, cells := 0, slots := 0, locals := 13 } : Room).cells ({ frames := 1, cells := 0, slots := 0, locals := 13 } : Room).slots := by
  intro k
  induction k with
  | zero =>
   intro t T_148 lo_148 hkt148 X_148 e_148 N_148 hix_148
   obtain rfl : t = 7 := by omega
   refine own_go (B := T_148.setTop (mkF m 29 #[.val (.ref a1), .val (.int 32), .val (.int (Int32.ofNat f)), .val (.int 7), .val (.int (Int32.ofNat 7))] [(.int (-1))])) (fun tg kt => ?_) ?_
   ·refine XS.iload X_148.here hx rfl (hb hby d41_3) rfl ?_
    refine XS.iloadN X_148.here hx rfl (hb hby d41_5) rfl ?_
    refine XS.icmpYes X_148.here hx rfl (pc0 := 6) (pc' := 28) rfl (hb hby d41_6) rfl (flt (show ¬ ((Int32.ofNat 7) < (7 : Int32)) from (by decide))).2.1 (by decide) (by decide) ?_
    refine XS.iconst X_148.here hx rfl (hb hby d41_28) ?_
    exact kt
   obtain ⟨fs, hr, hrun, hended, hW, hsame⟩ := X_148.leave (v := some (.int (-1))) (fun h => by rw [Bd.returns] at h; cases h)
   refine ⟨_, _, ?_, hrun, hended, _, _, rfl, ?_, ⟨_, rfl⟩, hW, hsame.mono (by decide) (by decide)⟩
   ·exact retI X_148 hx Bd.returns (hb hby d41_29) hr
   ·show Q41 Z a1 k1 f cs h0 n0 _ T_148.heap _
    rw [e_148]
    exact ⟨(congrArg (fun z => some (Value.int z)) hix_148.symm), N_148, rfl⟩
  | succ k ih148 =>
   intro t T_148 lo_148 hkt148 X_148 e_148 N_148 hix_148
   have ht148 : t < 7 := by omega
   refine own_go (B := T_148.setTop (mkF m 12 #[.val (.ref a1), .val (.int 32), .val (.int (Int32.ofNat f)), .val (.int 7), .val (.int (Int32.ofNat t))] [(.int (Int32.ofNat t)), (.ref a1)])) (fun tg kt => ?_) ?_
   ·refine XS.iload X_148.here hx rfl (hb hby d41_3) rfl ?_
    refine XS.iloadN X_148.here hx rfl (hb hby d41_5) rfl ?_
    refine XS.icmpNo X_148.here hx rfl (hb hby d41_6) rfl (tlt (show (Int32.ofNat t) < (7 : Int32) from (own_ltc ht148 (by decide) _ (by decide)).2)).2.1 ?_
    refine XS.aloadN X_148.here hx rfl (hb hby d41_9) rfl rfl ?_
    refine XS.iload X_148.here hx rfl (hb hby d41_10) rfl ?_
    exact kt
   obtain ⟨_, _, ⟨T150, L150, k150, n150⟩, -, X150, ⟨Lc150, hQ150, l150, y150, z150⟩, st150⟩ := Jvm.LawKit.callS X_148 hx (y := (⟨"java/lang/StringUTF16", "getChar", "([BI)C"⟩ : MethodName)) hown (mvT hZ (hw _ (List.mem_of_getElem? (i := 161) rfl))) (mvT hZ (hw _ (List.mem_of_getElem? (i := 162) rfl))) (mvT hZ (hw _ (List.mem_of_getElem? (i := 35) rfl))) (mvT hZ (hw _ (List.mem_of_getElem? (i := 163) rfl))) (by decide) (backOf (W := 0) (rm34 l Z a0 hw [] a1 k1 t cs h0 n0 Z0 S__assertionsDisabled S_HI_BYTE_SHIFT S_LO_BYTE_SHIFT V_a1 (ht148) (hC)) hZ (hw _ (List.mem_of_getElem? (i := 163) rfl)) (hw _ (List.mem_of_getElem? (i := 35) rfl)) (by decide) (by decide)) (g := (mkF m 12 #[.val (.ref a1), .val (.int 32), .val (.int (Int32.ofNat f)), .val (.int 7), .val (.int (Int32.ofNat t))] [(.int (Int32.ofNat t)), (.ref a1)])) rfl (by rw [hml]; rfl) (argsL := [(.ref a1), (.int (Int32.ofNat t))]) (rest := []) (lenOf pd_5 rfl) rfl (by show 2 * 0 + _ ≤ _; exact Nat.le_of_eq rfl) (hb hby d41_12) (fun _ _ => ⟨rfl, e_148, (by decide : 0 + 0 ≤ _), (by decide : 0 + 0 ≤ _)⟩)
   dsimp only [Pt.U, Pt.locs, Pt.cells, Pt.slots] at X150 l150 y150 z150 st150 hQ150
   rw [l150, y150, z150] at X150
   obtain ⟨rfl, M150, q150_0⟩ := hQ150
   have N150 := Fr.app N_148 M150
   refine own_go st150 ?_
   refine own_go (B := T150.setTop (mkF m 16 #[.val (.ref a1), .val (.int 32), .val (.int (Int32.ofNat f)), .val (.int 7), .val (.int (Int32.ofNat t))] [(.int 32), (.int (cs t))])) (fun tg kt => ?_) ?_
   ·refine XS.iloadN X150.here hx rfl (hb hby d41_15) rfl ?_
    exact kt
   by_cases hc151 : (cs t) = (32 : Int32)
   ·refine own_go (B := T150.setTop (mkF m 21 #[.val (.ref a1), .val (.int 32), .val (.int (Int32.ofNat f)), .val (.int 7), .val (.int (Int32.ofNat t))] [(.int (Int32.ofNat t))])) (fun tg kt => ?_) ?_
    ·refine XS.icmpNo X150.here hx rfl (hb hby d41_16) rfl (teq hc151).2 ?_
     refine XS.iload X150.here hx rfl (hb hby d41_19) rfl ?_
     exact kt
    obtain ⟨fs, hr, hrun, hended, hW, hsame⟩ := X150.leave (v := some (.int (Int32.ofNat t))) (fun h => by rw [Bd.returns] at h; cases h)
    refine ⟨_, _, ?_, hrun, hended, _, _, rfl, ?_, ⟨_, rfl⟩, hW, hsame.mono (by decide) (by decide)⟩
    ·exact retI X150 hx Bd.returns (hb hby d41_21) hr
    ·show Q41 Z a1 k1 f cs h0 n0 _ T150.heap _
     rw [q150_0]
     exact ⟨(congrArg (fun z => some (Value.int z)) (hix_148.trans (own_skF ht148 hc151)).symm), N150, rfl⟩
   ·refine own_go (B := T150.setTop (mkF m 3 #[.val (.ref a1), .val (.int 32), .val (.int (Int32.ofNat f)), .val (.int 7), .val (.int ((Int32.ofNat t) + (1 : Int32)))] [])) (fun tg kt => ?_) ?_
    ·refine XS.icmpYes X150.here hx rfl (pc0 := 16) (pc' := 22) rfl (hb hby d41_16) rfl (feq hc151).2 (by decide) (by decide) ?_
     refine XS.iinc X150.here hx rfl (hb hby d41_22) rfl (l' := #[.val (.ref a1), .val (.int 32), .val (.int (Int32.ofNat f)), .val (.int 7), .val (.int ((Int32.ofNat t) + (1 : Int32)))]) rfl ?_
     refine XS.goto X150.here hx rfl (pc0 := 25) (pc' := 3) rfl (hb hby d41_25) (by decide) (by decide) ?_
     exact kt
    rw [show ((Int32.ofNat t) + (1 : Int32)) = (Int32.ofNat (t + 1)) from own_isucc _]
    exact ih148 (t + 1) T150 _ (by omega) X150 q150_0 N150 (hix_148.trans (own_skS ht148 hc151))
 exact loop148 (7 - f) f s₁ _ (by omega) X0 e0 N0 rfl
theorem pn_322 : plainName "jdk/internal/util/Preconditions" = true := by first | (simp [plainName, overriddenIn]; done) | decide +kernel
theorem d29_0 : decode jdk_41_method_11_code 0 = .ok (.iload_n 0, 1) := by decide +kernel
theorem d29_1 : decode jdk_41_method_11_code 1 = .ok (.ifCond .lt 8, 3) := by decide +kernel
theorem d29_4 : decode jdk_41_method_11_code 4 = .ok (.iload_n 0, 1) := by decide +kernel
theorem d29_5 : decode jdk_41_method_11_code 5 = .ok (.iload_n 1, 1) := by decide +kernel
theorem d29_6 : decode jdk_41_method_11_code 6 = .ok (.if_icmp .lt 10, 3) := by decide +kernel
theorem d29_16 : decode jdk_41_method_11_code 16 = .ok (.iload_n 0, 1) := by decide +kernel
theorem d29_17 : decode jdk_41_method_11_code 17 = .ok (.ireturn, 1) := by decide +kernel
theorem ef_29 (m : MethodId) (x : Option Addr) : entryFrame m #[(.int (Int32.ofNat t)), (.int 7), (own_rv x)] 3 = mkF m 0 #[.val (.int (Int32.ofNat t)), .val (.int 7), .val (own_rv x)] [] := by cases x <;> first | (simp [entryFrame, mkF, argsToLocals, Value.category, own_rv]; done) | rfl
def Q29 (Z : State) (x : Option Addr) (t : Nat) (h0 : Heap) (n0 : Nat) (v : Option Value) (h : Heap) (L : List Loc) : Prop := v = some (.int (Int32.ofNat t)) ∧ Fr n0 L ∧ h = h0
set_option maxRecDepth 65536 in
set_option maxHeartbeats 40000000 in
theorem rm29 (l : Launch) (Z : State) (a0 : Array Value) (hw : ∀ d ∈ tables_1, d.before a0 Z = true) (ws : List Jvm.Cond) (x : Option Addr) (t : Nat) (h0 : Heap) (n0 : Nat) (Z0 : n0 ≤ h0.size) (ht : t < 7) :
  MetFree l (⟨"jdk/internal/util/Preconditions", "checkIndex", "(IILjava/util/function/BiFunction;)I"⟩ : MethodName) (head1 (Jvm.Cond.code (⟨"jdk/internal/util/Preconditions", "checkIndex", "(IILjava/util/function/BiFunction;)I"⟩ : MethodName) jdk_41_method_11_code 3 (some .int) :: ws) ({ frames := 0, cells := 0, slots := 0, locals := 0 } : Room)) (fun a U => a = #[(.int (Int32.ofNat t)), (.int 7), (own_rv x)] ∧ Z.Warmed39 U.vm ∧ U.heap = h0) (fun _ _ _ _ _ => True) (fun _ U o U' => ∃ v L, o = .returned v ∧ Q29 Z x t h0 n0 v U'.heap L ∧ FrameEnd U o U' L ({ frames := 0, cells := 0, slots := 0, locals := 0 } : Room).cells ({ frames := 0, cells := 0, slots := 0, locals := 0 } : Room).slots) := by
 refine MetFree.of_bodySF (plainFor_of_name pn_322) hisR ?_
 intro p e s m args below meth c s₁ Bd hml0 hP hK
 obtain ⟨rfl, hZ, hh⟩ := hP
 have hx := Bd.exec
 have hby := Bd.bytes
 have hml : c.maxLocals = 3 := hml0
 have hown : s.vm.findClass "jdk/internal/util/Preconditions" = some m.cls := findClass_of_methodNamed Bd.named
 have hnm := (name_of_methodNamed Bd.named Bd.method).1
 have X0 : Stand p l e ({ frames := 0, cells := 0, slots := 0, locals := 0 } : Room) s m #[(.int (Int32.ofNat t)), (.int 7), (own_rv x)] below meth c s₁ [] 0 0 := Stand.of_body Bd
 have e0 : s₁.heap = h0 := by rw [← hh, Bd.state]; rfl
 have N0 := Fr.nil n0
 refine own_go (B := s₁.setTop (mkF m 0 #[.val (.int (Int32.ofNat t)), .val (.int 7), .val (own_rv x)] [])) (fun t k => castTop (ef_29 m x) k) ?_
 refine own_go (B := s₁.setTop (mkF m 17 #[.val (.int (Int32.ofNat t)), .val (.int 7), .val (own_rv x)] [(.int (Int32.ofNat t))])) (fun tg kt => ?_) ?_
 ·refine XS.iloadN X0.here hx rfl (hb hby d29_0) rfl ?_
  refine XS.ifNo X0.here hx rfl (hb hby d29_1) rfl ((if0 _ _).trans (flt (show ¬ ((Int32.ofNat t) < (0 : Int32)) from (own_ltc ht (by decide) (7 : Int32) (by decide)).1)).1) ?_
  refine XS.iloadN X0.here hx rfl (hb hby d29_4) rfl ?_
  refine XS.iloadN X0.here hx rfl (hb hby d29_5) rfl ?_
  refine XS.icmpYes X0.here hx rfl (pc0 := 6) (pc' := 16) rfl (hb hby d29_6) rfl (tlt (show (Int32.ofNat t) < (7 : Int32) from (own_ltc ht (by decide) (7 : Int32) (by decide)).2)).1 (by decide) (by decide) ?_
  refine XS.iloadN X0.here hx rfl (hb hby d29_16) rfl ?_
  exact kt
 obtain ⟨fs, hr, hrun, hended, hW, hsame⟩ := X0.leave (v := some (.int (Int32.ofNat t))) (fun h => by rw [Bd.returns] at h; cases h)
 refine ⟨_, _, ?_, hrun, hended, _, _, rfl, ?_, ⟨_, rfl⟩, hW, hsame.mono (by decide) (by decide)⟩
 ·exact retI X0 hx Bd.returns (hb hby d29_17) hr
 ·show Q29 Z x t h0 n0 _ s₁.heap _
  rw [e0]
  exact ⟨rfl, N0, rfl⟩
theorem pd_9 : parseMethodDescriptor "(IILjava/util/function/BiFunction;)I" = some ⟨[.int, .int, (.object "java/util/function/BiFunction")], some .int⟩ := by decide +kernel
theorem d28_0 : decode jdk_42_method_155_code 0 = .ok (.iload_n 0, 1) := by decide +kernel
theorem d28_1 : decode jdk_42_method_155_code 1 = .ok (.iload_n 1, 1) := by decide +kernel
theorem d28_2 : decode jdk_42_method_155_code 2 = .ok (.getstatic 1053, 3) := by decide +kernel
theorem d28_5 : decode jdk_42_method_155_code 5 = .ok (.invokestatic 1059, 3) := by decide +kernel
theorem d28_8 : decode jdk_42_method_155_code 8 = .ok (.pop, 1) := by decide +kernel
theorem d28_9 : decode jdk_42_method_155_code 9 = .ok (.return_, 1) := by decide +kernel
theorem ef_28 (m : MethodId)  : entryFrame m #[(.int (Int32.ofNat t)), (.int 7)] 2 = mkF m 0 #[.val (.int (Int32.ofNat t)), .val (.int 7)] [] := by first | (simp [entryFrame, mkF, argsToLocals, Value.category]; done) | rfl
def Q28 (Z : State) (w_SIOOBE_FORMATTER : Option Addr) (t : Nat) (h0 : Heap) (n0 : Nat) (v : Option Value) (h : Heap) (L : List Loc) : Prop := v = none ∧ Fr n0 L ∧ h = h0
set_option maxRecDepth 65536 in
set_option maxHeartbeats 40000000 in
theorem rm28 (l : Launch) (Z : State) (a0 : Array Value) (hw : ∀ d ∈ tables_1, d.before a0 Z = true) (ws : List Jvm.Cond) (w_SIOOBE_FORMATTER : Option Addr) (t : Nat) (h0 : Heap) (n0 : Nat) (Z0 : n0 ≤ h0.size) (S_SIOOBE_FORMATTER : Sta Z h0 "jdk/internal/util/Preconditions" "SIOOBE_FORMATTER" "Ljava/util/function/BiFunction;" (own_rv w_SIOOBE_FORMATTER)) (ht : t < 7) :
  MetFree l (⟨"java/lang/String", "checkIndex", "(II)V"⟩ : MethodName) (head1 (Jvm.Cond.code (⟨"java/lang/String", "checkIndex", "(II)V"⟩ : MethodName) jdk_42_method_155_code 2 none :: ws) ({ frames := 1, cells := 0, slots := 0, locals := 14 } : Room)) (fun a U => a = #[(.int (Int32.ofNat t)), (.int 7)] ∧ Z.Warmed39 U.vm ∧ U.heap = h0) (fun _ _ _ _ _ => True) (fun _ U o U' => ∃ v L, o = .returned v ∧ Q28 Z w_SIOOBE_FORMATTER t h0 n0 v U'.heap L ∧ FrameEnd U o U' L ({ frames := 1, cells := 0, slots := 0, locals := 14 } : Room).cells ({ frames := 1, cells := 0, slots := 0, locals := 14 } : Room).slots) := by
 refine MetFree.of_bodySF (plainFor_of_name pn_221) hisR ?_
 intro p e s m args below meth c s₁ Bd hml0 hP hK
 obtain ⟨rfl, hZ, hh⟩ := hP
 have hx := Bd.exec
 have hby := Bd.bytes
 have hml : c.maxLocals = 2 := hml0
 have hown : s.vm.findClass "java/lang/String" = some m.cls := findClass_of_methodNamed Bd.named
 have hnm := (name_of_methodNamed Bd.named Bd.method).1
 have X0 : Stand p l e ({ frames := 1, cells := 0, slots := 0, locals := 14 } : Room) s m #[(.int (Int32.ofNat t)), (.int 7)] below meth c s₁ [] 0 0 := Stand.of_body Bd
 have e0 : s₁.heap = h0 := by rw [← hh, Bd.state]; rfl
 have N0 := Fr.nil n0
 refine own_go (B := s₁.setTop (mkF m 0 #[.val (.int (Int32.ofNat t)), .val (.int 7)] [])) (fun t k => castTop (ef_28 m ) k) ?_
 refine own_go (B := s₁.setTop (mkF m 2 #[.val (.int (Int32.ofNat t)), .val (.int 7)] [(.int 7), (.int (Int32.ofNat t))])) (fun tg kt => ?_) ?_
 ·refine XS.iloadN X0.here hx rfl (hb hby d28_0) rfl ?_
  refine XS.iloadN X0.here hx rfl (hb hby d28_1) rfl ?_
  exact kt
 obtain ⟨T154, X154, e154, st154⟩ := getS2 X0 hx hZ hown (host := "") (Or.inl (hw _ (List.mem_of_getElem? (i := 139) rfl))) Via.refl e0 S_SIOOBE_FORMATTER (g := (mkF m 2 #[.val (.int (Int32.ofNat t)), .val (.int 7)] [(.int 7), (.int (Int32.ofNat t))])) rfl (hb hby d28_2)
 refine own_go st154 ?_
 obtain ⟨_, _, ⟨T155, L155, k155, n155⟩, -, X155, ⟨Lc155, hQ155, l155, y155, z155⟩, st155⟩ := Jvm.LawKit.callS X154 hx (y := (⟨"jdk/internal/util/Preconditions", "checkIndex", "(IILjava/util/function/BiFunction;)I"⟩ : MethodName)) hown (mvT hZ (hw _ (List.mem_of_getElem? (i := 141) rfl))) (mvT hZ (hw _ (List.mem_of_getElem? (i := 142) rfl))) (mvT hZ (hw _ (List.mem_of_getElem? (i := 140) rfl))) (mvT hZ (hw _ (List.mem_of_getElem? (i := 143) rfl))) (by decide) (backOf (W := 0) (rm29 l Z a0 hw [] w_SIOOBE_FORMATTER t h0 n0 Z0 (by first | assumption | decide)) hZ (hw _ (List.mem_of_getElem? (i := 143) rfl)) (hw _ (List.mem_of_getElem? (i := 140) rfl)) (by decide) (by decide)) (g := (mkF m 5 #[.val (.int (Int32.ofNat t)), .val (.int 7)] [(own_rv w_SIOOBE_FORMATTER), (.int 7), (.int (Int32.ofNat t))])) rfl (by rw [hml]; rfl) (argsL := [(.int (Int32.ofNat t)), (.int 7), (own_rv w_SIOOBE_FORMATTER)]) (rest := []) (lenOf pd_9 rfl) rfl (by show 2 * 0 + _ ≤ _; exact Nat.le_of_eq rfl) (hb hby d28_5) (fun _ _ => ⟨rfl, e154, (by decide : 0 + 0 ≤ _), (by decide : 0 + 0 ≤ _)⟩)
 dsimp only [Pt.U, Pt.locs, Pt.cells, Pt.slots] at X155 l155 y155 z155 st155 hQ155
 rw [l155, y155, z155] at X155
 obtain ⟨rfl, M155, q155_0⟩ := hQ155
 have N155 := Fr.app N0 M155
 refine own_go st155 ?_
 refine own_go (B := T155.setTop (mkF m 9 #[.val (.int (Int32.ofNat t)), .val (.int 7)] [])) (fun tg kt => ?_) ?_
 ·refine XS.pop X155.here hx rfl (hb hby d28_8) rfl rfl ?_
  exact kt
 obtain ⟨fs, hr, hrun, hended, hW, hsame⟩ := X155.leave (v := none) (fun _ => rfl)
 refine ⟨_, _, ?_, hrun, hended, _, _, rfl, ?_, ⟨_, rfl⟩, hW, hsame.mono (by decide) (by decide)⟩
 ·exact X155.returnOut hx Bd.returns (hb hby d28_9) hr
 ·show Q28 Z w_SIOOBE_FORMATTER t h0 n0 _ T155.heap _
  rw [q155_0]
  exact ⟨rfl, N155, rfl⟩
theorem d38_0 : decode jdk_52_method_6_code 0 = .ok (.aload_n 0, 1) := by decide +kernel
theorem d38_1 : decode jdk_52_method_6_code 1 = .ok (.arraylength, 1) := by decide +kernel
theorem d38_2 : decode jdk_52_method_6_code 2 = .ok (.iconst 1, 1) := by decide +kernel
theorem d38_3 : decode jdk_52_method_6_code 3 = .ok (.ishr, 1) := by decide +kernel
theorem d38_4 : decode jdk_52_method_6_code 4 = .ok (.ireturn, 1) := by decide +kernel
theorem ef_38 (m : MethodId) (a1 : Addr) : entryFrame m #[(.ref a1)] 1 = mkF m 0 #[.val (.ref a1)] [] := by first | (simp [entryFrame, mkF, argsToLocals, Value.category]; done) | rfl
def Q38 (Z : State) (a1 : Addr) (k1 : ClassId) (cs : Nat → Int32) (h0 : Heap) (n0 : Nat) (v : Option Value) (h : Heap) (L : List Loc) : Prop := v = some (.int 7) ∧ Fr n0 L ∧ h = h0
set_option maxRecDepth 65536 in
set_option maxHeartbeats 40000000 in
theorem rm38 (l : Launch) (Z : State) (a0 : Array Value) (hw : ∀ d ∈ tables_1, d.before a0 Z = true) (ws : List Jvm.Cond) (a1 : Addr) (k1 : ClassId) (cs : Nat → Int32) (h0 : Heap) (n0 : Nat) (Z0 : n0 ≤ h0.size) (V_a1 : Arv Z h0 a1 k1 .byte (14 : Int32) (own_tab 14 (own_u cs)) (.int 0)) :
  MetFree l (⟨"java/lang/StringUTF16", "length", "([B)I"⟩ : MethodName) (head1 (Jvm.Cond.code (⟨"java/lang/StringUTF16", "length", "([B)I"⟩ : MethodName) jdk_52_method_6_code 1 (some .int) :: ws) ({ frames := 0, cells := 0, slots := 0, locals := 0 } : Room)) (fun a U => a = #[(.ref a1)] ∧ Z.Warmed39 U.vm ∧ U.heap = h0) (fun _ _ _ _ _ => True) (fun _ U o U' => ∃ v L, o = .returned v ∧ Q38 Z a1 k1 cs h0 n0 v U'.heap L ∧ FrameEnd U o U' L ({ frames := 0, cells := 0, slots := 0, locals := 0 } : Room).cells ({ frames := 0, cells := 0, slots := 0, locals := 0 } : Room).slots) := by
 refine MetFree.of_bodySF (plainFor_of_name pn_69) hisR ?_
 intro p e s m args below meth c s₁ Bd hml0 hP hK
 obtain ⟨rfl, hZ, hh⟩ := hP
 have hx := Bd.exec
 have hby := Bd.bytes
 have hml : c.maxLocals = 1 := hml0
 have hown : s.vm.findClass "java/lang/StringUTF16" = some m.cls := findClass_of_methodNamed Bd.named
 have hnm := (name_of_methodNamed Bd.named Bd.method).1
 have X0 : Stand p l e ({ frames := 0, cells := 0, slots := 0, locals := 0 } : Room) s m #[(.ref a1)] below meth c s₁ [] 0 0 := Stand.of_body Bd
 have e0 : s₁.heap = h0 := by rw [← hh, Bd.state]; rfl
 have N0 := Fr.nil n0
 refine own_go (B := s₁.setTop (mkF m 0 #[.val (.ref a1)] [])) (fun t k => castTop (ef_38 m a1) k) ?_
 refine own_go (B := s₁.setTop (mkF m 1 #[.val (.ref a1)] [(.ref a1)])) (fun tg kt => ?_) ?_
 ·refine XS.aloadN X0.here hx rfl (hb hby d38_0) rfl rfl ?_
  exact kt
 obtain ⟨cl157, Ar157, cq157, cS157, cN157, cH157, cG157⟩ := id V_a1
 refine own_go (B := s₁.setTop (mkF m 4 #[.val (.ref a1)] [(.int 7)])) (fun tg kt => ?_) ?_
 ·refine X0.arraylength hx (by rw [e0]; exact Ar157.1) (State.isArrayOf_alike hZ.alike Ar157.2.1) (g := (mkF m 1 #[.val (.ref a1)] [(.ref a1)])) rfl rfl (hb hby d38_1) _ ?_
  rw [len_of cS157 cN157]
  refine XS.iconst X0.here hx rfl (hb hby d38_2) ?_
  refine XS.ishr X0.here hx rfl (hb hby d38_3) rfl ?_
  exact kt
 obtain ⟨fs, hr, hrun, hended, hW, hsame⟩ := X0.leave (v := some (.int 7)) (fun h => by rw [Bd.returns] at h; cases h)
 refine ⟨_, _, ?_, hrun, hended, _, _, rfl, ?_, ⟨_, rfl⟩, hW, hsame.mono (by decide) (by decide)⟩
 ·exact retI X0 hx Bd.returns (hb hby d38_4) hr
 ·show Q38 Z a1 k1 cs h0 n0 _ s₁.heap _
  rw [e0]
  exact ⟨rfl, N0, rfl⟩
theorem pd_10 : parseMethodDescriptor "([B)I" = some ⟨[(.array .byte)], some .int⟩ := by decide +kernel
theorem pd_11 : parseMethodDescriptor "(II)V" = some ⟨[.int, .int], none⟩ := by decide +kernel
theorem d43_0 : decode jdk_52_method_91_code 0 = .ok (.iload_n 0, 1) := by decide +kernel
theorem d43_1 : decode jdk_52_method_91_code 1 = .ok (.aload_n 1, 1) := by decide +kernel
theorem d43_2 : decode jdk_52_method_91_code 2 = .ok (.invokestatic 48, 3) := by decide +kernel
theorem d43_5 : decode jdk_52_method_91_code 5 = .ok (.invokestatic 414, 3) := by decide +kernel
theorem d43_8 : decode jdk_52_method_91_code 8 = .ok (.return_, 1) := by decide +kernel
theorem ef_43 (m : MethodId) (a1 : Addr) : entryFrame m #[(.int (Int32.ofNat t)), (.ref a1)] 2 = mkF m 0 #[.val (.int (Int32.ofNat t)), .val (.ref a1)] [] := by first | (simp [entryFrame, mkF, argsToLocals, Value.category]; done) | rfl
def Q43 (Z : State) (a1 : Addr) (w_SIOOBE_FORMATTER : Option Addr) (k1 : ClassId) (t : Nat) (cs : Nat → Int32) (h0 : Heap) (n0 : Nat) (v : Option Value) (h : Heap) (L : List Loc) : Prop := v = none ∧ Fr n0 L ∧ h = h0
set_option maxRecDepth 65536 in
set_option maxHeartbeats 40000000 in
theorem rm43 (l : Launch) (Z : State) (a0 : Array Value) (hw : ∀ d ∈ tables_1, d.before a0 Z = true) (ws : List Jvm.Cond) (a1 : Addr) (w_SIOOBE_FORMATTER : Option Addr) (k1 : ClassId) (t : Nat) (cs : Nat → Int32) (h0 : Heap) (n0 : Nat) (Z0 : n0 ≤ h0.size) (S_SIOOBE_FORMATTER : Sta Z h0 "jdk/internal/util/Preconditions" "SIOOBE_FORMATTER" "Ljava/util/function/BiFunction;" (own_rv w_SIOOBE_FORMATTER)) (V_a1 : Arv Z h0 a1 k1 .byte (14 : Int32) (own_tab 14 (own_u cs)) (.int 0)) (ht : t < 7) :
  MetFree l (⟨"java/lang/StringUTF16", "checkIndex", "(I[B)V"⟩ : MethodName) (head1 (Jvm.Cond.code (⟨"java/lang/StringUTF16", "checkIndex", "(I[B)V"⟩ : MethodName) jdk_52_method_91_code 2 none :: ws) ({ frames := 2, cells := 0, slots := 0, locals := 27 } : Room)) (fun a U => a = #[(.int (Int32.ofNat t)), (.ref a1)] ∧ Z.Warmed39 U.vm ∧ U.heap = h0) (fun _ _ _ _ _ => True) (fun _ U o U' => ∃ v L, o = .returned v ∧ Q43 Z a1 w_SIOOBE_FORMATTER k1 t cs h0 n0 v U'.heap L ∧ FrameEnd U o U' L ({ frames := 2, cells := 0, slots := 0, locals := 27 } : Room).cells ({ frames := 2, cells := 0, slots := 0, locals := 27 } : Room).slots) := by
 refine MetFree.of_bodySF (plainFor_of_name pn_69) hisR ?_
 intro p e s m args below meth c s₁ Bd hml0 hP hK
 obtain ⟨rfl, hZ, hh⟩ := hP
 have hx := Bd.exec
 have hby := Bd.bytes
 have hml : c.maxLocals = 2 := hml0
 have hown : s.vm.findClass "java/lang/StringUTF16" = some m.cls := findClass_of_methodNamed Bd.named
 have hnm := (name_of_methodNamed Bd.named Bd.method).1
 have X0 : Stand p l e ({ frames := 2, cells := 0, slots := 0, locals := 27 } : Room) s m #[(.int (Int32.ofNat t)), (.ref a1)] below meth c s₁ [] 0 0 := Stand.of_body Bd
 have e0 : s₁.heap = h0 := by rw [← hh, Bd.state]; rfl
 have N0 := Fr.nil n0
 refine own_go (B := s₁.setTop (mkF m 0 #[.val (.int (Int32.ofNat t)), .val (.ref a1)] [])) (fun t k => castTop (ef_43 m a1) k) ?_
 refine own_go (B := s₁.setTop (mkF m 2 #[.val (.int (Int32.ofNat t)), .val (.ref a1)] [(.ref a1), (.int (Int32.ofNat t))])) (fun tg kt => ?_) ?_
 ·refine XS.iloadN X0.here hx rfl (hb hby d43_0) rfl ?_
  refine XS.aloadN X0.here hx rfl (hb hby d43_1) rfl rfl ?_
  exact kt
 obtain ⟨_, _, ⟨T159, L159, k159, n159⟩, -, X159, ⟨Lc159, hQ159, l159, y159, z159⟩, st159⟩ := Jvm.LawKit.callS X0 hx (y := (⟨"java/lang/StringUTF16", "length", "([B)I"⟩ : MethodName)) hown (mvT hZ (hw _ (List.mem_of_getElem? (i := 176) rfl))) (mvT hZ (hw _ (List.mem_of_getElem? (i := 177) rfl))) (mvT hZ (hw _ (List.mem_of_getElem? (i := 35) rfl))) (mvT hZ (hw _ (List.mem_of_getElem? (i := 178) rfl))) (by decide) (backOf (W := 1) (rm38 l Z a0 hw [] a1 k1 cs h0 n0 Z0 V_a1) hZ (hw _ (List.mem_of_getElem? (i := 178) rfl)) (hw _ (List.mem_of_getElem? (i := 35) rfl)) (by decide) (by decide)) (g := (mkF m 2 #[.val (.int (Int32.ofNat t)), .val (.ref a1)] [(.ref a1), (.int (Int32.ofNat t))])) rfl (by rw [hml]; rfl) (argsL := [(.ref a1)]) (rest := [(.int (Int32.ofNat t))]) (lenOf pd_10 rfl) rfl (by show 2 * 0 + _ ≤ _; exact Nat.le_of_eq rfl) (hb hby d43_2) (fun _ _ => ⟨rfl, e0, (by decide : 0 + 0 ≤ _), (by decide : 0 + 0 ≤ _)⟩)
 dsimp only [Pt.U, Pt.locs, Pt.cells, Pt.slots] at X159 l159 y159 z159 st159 hQ159
 rw [l159, y159, z159] at X159
 obtain ⟨rfl, M159, q159_0⟩ := hQ159
 have N159 := Fr.app N0 M159
 refine own_go st159 ?_
 obtain ⟨_, _, ⟨T160, L160, k160, n160⟩, -, X160, ⟨Lc160, hQ160, l160, y160, z160⟩, st160⟩ := Jvm.LawKit.callS X159 hx (y := (⟨"java/lang/String", "checkIndex", "(II)V"⟩ : MethodName)) hown (mvT hZ (hw _ (List.mem_of_getElem? (i := 194) rfl))) (mvT hZ (hw _ (List.mem_of_getElem? (i := 137) rfl))) (mvT hZ (hw _ (List.mem_of_getElem? (i := 21) rfl))) (mvT hZ (hw _ (List.mem_of_getElem? (i := 138) rfl))) (by decide) (backOf (W := 0) (rm28 l Z a0 hw [] w_SIOOBE_FORMATTER t h0 n0 Z0 S_SIOOBE_FORMATTER (by first | assumption | decide)) hZ (hw _ (List.mem_of_getElem? (i := 138) rfl)) (hw _ (List.mem_of_getElem? (i := 21) rfl)) (by decide) (by decide)) (g := (mkF m 5 #[.val (.int (Int32.ofNat t)), .val (.ref a1)] [(.int 7), (.int (Int32.ofNat t))])) rfl (by rw [hml]; rfl) (argsL := [(.int (Int32.ofNat t)), (.int 7)]) (rest := []) (lenOf pd_11 rfl) rfl (by show 2 * 0 + _ ≤ _; exact Nat.le_of_eq rfl) (hb hby d43_5) (fun _ _ => ⟨rfl, q159_0, (by decide : 0 + 0 ≤ _), (by decide : 0 + 0 ≤ _)⟩)
 dsimp only [Pt.U, Pt.locs, Pt.cells, Pt.slots] at X160 l160 y160 z160 st160 hQ160
 rw [l160, y160, z160] at X160
 obtain ⟨rfl, M160, q160_0⟩ := hQ160
 have N160 := Fr.app N159 M160
 refine own_go st160 ?_
 obtain ⟨fs, hr, hrun, hended, hW, hsame⟩ := X160.leave (v := none) (fun _ => rfl)
 refine ⟨_, _, ?_, hrun, hended, _, _, rfl, ?_, ⟨_, rfl⟩, hW, hsame.mono (by decide) (by decide)⟩
 ·exact X160.returnOut hx Bd.returns (hb hby d43_8) hr
 ·show Q43 Z a1 w_SIOOBE_FORMATTER k1 t cs h0 n0 _ T160.heap _
  rw [q160_0]
  exact ⟨rfl, N160, rfl⟩
theorem d40_0 : decode jdk_41_method_12_code 0 = .ok (.iload_n 0, 1) := by decide +kernel
theorem d40_1 : decode jdk_41_method_12_code 1 = .ok (.ifCond .lt 13, 3) := by decide +kernel
theorem d40_4 : decode jdk_41_method_12_code 4 = .ok (.iload_n 0, 1) := by decide +kernel
theorem d40_5 : decode jdk_41_method_12_code 5 = .ok (.iload_n 1, 1) := by decide +kernel
theorem d40_6 : decode jdk_41_method_12_code 6 = .ok (.if_icmp .gt 8, 3) := by decide +kernel
theorem d40_9 : decode jdk_41_method_12_code 9 = .ok (.iload_n 1, 1) := by decide +kernel
theorem d40_10 : decode jdk_41_method_12_code 10 = .ok (.iload_n 2, 1) := by decide +kernel
theorem d40_11 : decode jdk_41_method_12_code 11 = .ok (.if_icmp .le 11, 3) := by decide +kernel
theorem d40_22 : decode jdk_41_method_12_code 22 = .ok (.iload_n 0, 1) := by decide +kernel
theorem d40_23 : decode jdk_41_method_12_code 23 = .ok (.ireturn, 1) := by decide +kernel
theorem ef_40 (m : MethodId) (x : Option Addr) : entryFrame m #[(.int (Int32.ofNat f)), (.int 7), (.int 7), (own_rv x)] 4 = mkF m 0 #[.val (.int (Int32.ofNat f)), .val (.int 7), .val (.int 7), .val (own_rv x)] [] := by cases x <;> first | (simp [entryFrame, mkF, argsToLocals, Value.category, own_rv]; done) | rfl
def Q40 (Z : State) (x : Option Addr) (f : Nat) (h0 : Heap) (n0 : Nat) (v : Option Value) (h : Heap) (L : List Loc) : Prop := v = some (.int (Int32.ofNat f)) ∧ Fr n0 L ∧ h = h0
set_option maxRecDepth 65536 in
set_option maxHeartbeats 40000000 in
theorem rm40 (l : Launch) (Z : State) (a0 : Array Value) (hw : ∀ d ∈ tables_1, d.before a0 Z = true) (ws : List Jvm.Cond) (x : Option Addr) (f : Nat) (h0 : Heap) (n0 : Nat) (Z0 : n0 ≤ h0.size) (hf : f < 7) :
  MetFree l (⟨"jdk/internal/util/Preconditions", "checkFromToIndex", "(IIILjava/util/function/BiFunction;)I"⟩ : MethodName) (head1 (Jvm.Cond.code (⟨"jdk/internal/util/Preconditions", "checkFromToIndex", "(IIILjava/util/function/BiFunction;)I"⟩ : MethodName) jdk_41_method_12_code 4 (some .int) :: ws) ({ frames := 0, cells := 0, slots := 0, locals := 0 } : Room)) (fun a U => a = #[(.int (Int32.ofNat f)), (.int 7), (.int 7), (own_rv x)] ∧ Z.Warmed39 U.vm ∧ U.heap = h0) (fun _ _ _ _ _ => True) (fun _ U o U' => ∃ v L, o = .returned v ∧ Q40 Z x f h0 n0 v U'.heap L ∧ FrameEnd U o U' L ({ frames := 0, cells := 0, slots := 0, locals := 0 } : Room).cells ({ frames := 0, cells := 0, slots := 0, locals := 0 } : Room).slots) := by
 refine MetFree.of_bodySF (plainFor_of_name pn_322) hisR ?_
 intro p e s m args below meth c s₁ Bd hml0 hP hK
 obtain ⟨rfl, hZ, hh⟩ := hP
 have hx := Bd.exec
 have hby := Bd.bytes
 have hml : c.maxLocals = 4 := hml0
 have hown : s.vm.findClass "jdk/internal/util/Preconditions" = some m.cls := findClass_of_methodNamed Bd.named
 have hnm := (name_of_methodNamed Bd.named Bd.method).1
 have X0 : Stand p l e ({ frames := 0, cells := 0, slots := 0, locals := 0 } : Room) s m #[(.int (Int32.ofNat f)), (.int 7), (.int 7), (own_rv x)] below meth c s₁ [] 0 0 := Stand.of_body Bd
 have e0 : s₁.heap = h0 := by rw [← hh, Bd.state]; rfl
 have N0 := Fr.nil n0
 refine own_go (B := s₁.setTop (mkF m 0 #[.val (.int (Int32.ofNat f)), .val (.int 7), .val (.int 7), .val (own_rv x)] [])) (fun t k => castTop (ef_40 m x) k) ?_
 refine own_go (B := s₁.setTop (mkF m 23 #[.val (.int (Int32.ofNat f)), .val (.int 7), .val (.int 7), .val (own_rv x)] [(.int (Int32.ofNat f))])) (fun tg kt => ?_) ?_
 ·refine XS.iloadN X0.here hx rfl (hb hby d40_0) rfl ?_
  refine XS.ifNo X0.here hx rfl (hb hby d40_1) rfl ((if0 _ _).trans (flt (show ¬ ((Int32.ofNat f) < (0 : Int32)) from (own_ltc hf (by decide) (7 : Int32) (by decide)).1)).1) ?_
  refine XS.iloadN X0.here hx rfl (hb hby d40_4) rfl ?_
  refine XS.iloadN X0.here hx rfl (hb hby d40_5) rfl ?_
  refine XS.icmpNo X0.here hx rfl (hb hby d40_6) rfl (flt (show ¬ ((7 : Int32) < (Int32.ofNat f)) from (own_ngt hf))).2.2.1 ?_
  refine XS.iloadN X0.here hx rfl (hb hby d40_9) rfl ?_
  refine XS.iloadN X0.here hx rfl (hb hby d40_10) rfl ?_
  refine XS.icmpYes X0.here hx rfl (pc0 := 11) (pc' := 22) rfl (hb hby d40_11) rfl (flt (by decide : ¬ ((7 : Int32) < (7 : Int32)))).2.2.2 (by decide) (by decide) ?_
  refine XS.iloadN X0.here hx rfl (hb hby d40_22) rfl ?_
  exact kt
 obtain ⟨fs, hr, hrun, hended, hW, hsame⟩ := X0.leave (v := some (.int (Int32.ofNat f))) (fun h => by rw [Bd.returns] at h; cases h)
 refine ⟨_, _, ?_, hrun, hended, _, _, rfl, ?_, ⟨_, rfl⟩, hW, hsame.mono (by decide) (by decide)⟩
 ·exact retI X0 hx Bd.returns (hb hby d40_23) hr
 ·show Q40 Z x f h0 n0 _ s₁.heap _
  rw [e0]
  exact ⟨rfl, N0, rfl⟩
theorem pd_12 : parseMethodDescriptor "(IIILjava/util/function/BiFunction;)I" = some ⟨[.int, .int, .int, (.object "java/util/function/BiFunction")], some .int⟩ := by decide +kernel
theorem d39_0 : decode jdk_42_method_158_code 0 = .ok (.iload_n 0, 1) := by decide +kernel
theorem d39_1 : decode jdk_42_method_158_code 1 = .ok (.iload_n 1, 1) := by decide +kernel
theorem d39_2 : decode jdk_42_method_158_code 2 = .ok (.iload_n 2, 1) := by decide +kernel
theorem d39_3 : decode jdk_42_method_158_code 3 = .ok (.getstatic 1053, 3) := by decide +kernel
theorem d39_6 : decode jdk_42_method_158_code 6 = .ok (.invokestatic 1062, 3) := by decide +kernel
theorem d39_9 : decode jdk_42_method_158_code 9 = .ok (.pop, 1) := by decide +kernel
theorem d39_10 : decode jdk_42_method_158_code 10 = .ok (.return_, 1) := by decide +kernel
theorem ef_39 (m : MethodId)  : entryFrame m #[(.int (Int32.ofNat f)), (.int 7), (.int 7)] 3 = mkF m 0 #[.val (.int (Int32.ofNat f)), .val (.int 7), .val (.int 7)] [] := by first | (simp [entryFrame, mkF, argsToLocals, Value.category]; done) | rfl
def Q39 (Z : State) (w_SIOOBE_FORMATTER : Option Addr) (f : Nat) (h0 : Heap) (n0 : Nat) (v : Option Value) (h : Heap) (L : List Loc) : Prop := v = none ∧ Fr n0 L ∧ h = h0
set_option maxRecDepth 65536 in
set_option maxHeartbeats 40000000 in
theorem rm39 (l : Launch) (Z : State) (a0 : Array Value) (hw : ∀ d ∈ tables_1, d.before a0 Z = true) (ws : List Jvm.Cond) (w_SIOOBE_FORMATTER : Option Addr) (f : Nat) (h0 : Heap) (n0 : Nat) (Z0 : n0 ≤ h0.size) (S_SIOOBE_FORMATTER : Sta Z h0 "jdk/internal/util/Preconditions" "SIOOBE_FORMATTER" "Ljava/util/function/BiFunction;" (own_rv w_SIOOBE_FORMATTER)) (hf : f < 7) :
  MetFree l (⟨"java/lang/String", "checkBoundsBeginEnd", "(III)V"⟩ : MethodName) (head1 (Jvm.Cond.code (⟨"java/lang/String", "checkBoundsBeginEnd", "(III)V"⟩ : MethodName) jdk_42_method_158_code 3 none :: ws) ({ frames := 1, cells := 0, slots := 0, locals := 15 } : Room)) (fun a U => a = #[(.int (Int32.ofNat f)), (.int 7), (.int 7)] ∧ Z.Warmed39 U.vm ∧ U.heap = h0) (fun _ _ _ _ _ => True) (fun _ U o U' => ∃ v L, o = .returned v ∧ Q39 Z w_SIOOBE_FORMATTER f h0 n0 v U'.heap L ∧ FrameEnd U o U' L ({ frames := 1, cells := 0, slots := 0, locals := 15 } : Room).cells ({ frames := 1, cells := 0, slots := 0, locals := 15 } : Room).slots) := by
 refine MetFree.of_bodySF (plainFor_of_name pn_221) hisR ?_
 intro p e s m args below meth c s₁ Bd hml0 hP hK
 obtain ⟨rfl, hZ, hh⟩ := hP
 have hx := Bd.exec
 have hby := Bd.bytes
 have hml : c.maxLocals = 3 := hml0
 have hown : s.vm.findClass "java/lang/String" = some m.cls := findClass_of_methodNamed Bd.named
 have hnm := (name_of_methodNamed Bd.named Bd.method).1
 have X0 : Stand p l e ({ frames := 1, cells := 0, slots := 0, locals := 15 } : Room) s m #[(.int (Int32.ofNat f)), (.int 7), (.int 7)] below meth c s₁ [] 0 0 := Stand.of_body Bd
 have e0 : s₁.heap = h0 := by rw [← hh, Bd.state]; rfl
 have N0 := Fr.nil n0
 refine own_go (B := s₁.setTop (mkF m 0 #[.val (.int (Int32.ofNat f)), .val (.int 7), .val (.int 7)] [])) (fun t k => castTop (ef_39 m ) k) ?_
 refine own_go (B := s₁.setTop (mkF m 3 #[.val (.int (Int32.ofNat f)), .val (.int 7), .val (.int 7)] [(.int 7), (.int 7), (.int (Int32.ofNat f))])) (fun tg kt => ?_) ?_
 ·refine XS.iloadN X0.here hx rfl (hb hby d39_0) rfl ?_
  refine XS.iloadN X0.here hx rfl (hb hby d39_1) rfl ?_
  refine XS.iloadN X0.here hx rfl (hb hby d39_2) rfl ?_
  exact kt
 obtain ⟨T163, X163, e163, st163⟩ := getS2 X0 hx hZ hown (host := "") (Or.inl (hw _ (List.mem_of_getElem? (i := 139) rfl))) Via.refl e0 S_SIOOBE_FORMATTER (g := (mkF m 3 #[.val (.int (Int32.ofNat f)), .val (.int 7), .val (.int 7)] [(.int 7), (.int 7), (.int (Int32.ofNat f))])) rfl (hb hby d39_3)
 refine own_go st163 ?_
 obtain ⟨_, _, ⟨T164, L164, k164, n164⟩, -, X164, ⟨Lc164, hQ164, l164, y164, z164⟩, st164⟩ := Jvm.LawKit.callS X163 hx (y := (⟨"jdk/internal/util/Preconditions", "checkFromToIndex", "(IIILjava/util/function/BiFunction;)I"⟩ : MethodName)) hown (mvT hZ (hw _ (List.mem_of_getElem? (i := 182) rfl))) (mvT hZ (hw _ (List.mem_of_getElem? (i := 183) rfl))) (mvT hZ (hw _ (List.mem_of_getElem? (i := 140) rfl))) (mvT hZ (hw _ (List.mem_of_getElem? (i := 184) rfl))) (by decide) (backOf (W := 0) (rm40 l Z a0 hw [] w_SIOOBE_FORMATTER f h0 n0 Z0 (by first | assumption | decide)) hZ (hw _ (List.mem_of_getElem? (i := 184) rfl)) (hw _ (List.mem_of_getElem? (i := 140) rfl)) (by decide) (by decide)) (g := (mkF m 6 #[.val (.int (Int32.ofNat f)), .val (.int 7), .val (.int 7)] [(own_rv w_SIOOBE_FORMATTER), (.int 7), (.int 7), (.int (Int32.ofNat f))])) rfl (by rw [hml]; rfl) (argsL := [(.int (Int32.ofNat f)), (.int 7), (.int 7), (own_rv w_SIOOBE_FORMATTER)]) (rest := []) (lenOf pd_12 rfl) rfl (by show 2 * 0 + _ ≤ _; exact Nat.le_of_eq rfl) (hb hby d39_6) (fun _ _ => ⟨rfl, e163, (by decide : 0 + 0 ≤ _), (by decide : 0 + 0 ≤ _)⟩)
 dsimp only [Pt.U, Pt.locs, Pt.cells, Pt.slots] at X164 l164 y164 z164 st164 hQ164
 rw [l164, y164, z164] at X164
 obtain ⟨rfl, M164, q164_0⟩ := hQ164
 have N164 := Fr.app N0 M164
 refine own_go st164 ?_
 refine own_go (B := T164.setTop (mkF m 10 #[.val (.int (Int32.ofNat f)), .val (.int 7), .val (.int 7)] [])) (fun tg kt => ?_) ?_
 ·refine XS.pop X164.here hx rfl (hb hby d39_9) rfl rfl ?_
  exact kt
 obtain ⟨fs, hr, hrun, hended, hW, hsame⟩ := X164.leave (v := none) (fun _ => rfl)
 refine ⟨_, _, ?_, hrun, hended, _, _, rfl, ?_, ⟨_, rfl⟩, hW, hsame.mono (by decide) (by decide)⟩
 ·exact X164.returnOut hx Bd.returns (hb hby d39_10) hr
 ·show Q39 Z w_SIOOBE_FORMATTER f h0 n0 _ T164.heap _
  rw [q164_0]
  exact ⟨rfl, N164, rfl⟩
theorem pd_13 : parseMethodDescriptor "(III)V" = some ⟨[.int, .int, .int], none⟩ := by decide +kernel
theorem d37_0 : decode jdk_52_method_93_code 0 = .ok (.iload_n 0, 1) := by decide +kernel
theorem d37_1 : decode jdk_52_method_93_code 1 = .ok (.iload_n 1, 1) := by decide +kernel
theorem d37_2 : decode jdk_52_method_93_code 2 = .ok (.aload_n 2, 1) := by decide +kernel
theorem d37_3 : decode jdk_52_method_93_code 3 = .ok (.invokestatic 48, 3) := by decide +kernel
theorem d37_6 : decode jdk_52_method_93_code 6 = .ok (.invokestatic 241, 3) := by decide +kernel
theorem d37_9 : decode jdk_52_method_93_code 9 = .ok (.return_, 1) := by decide +kernel
theorem ef_37 (m : MethodId) (a1 : Addr) : entryFrame m #[(.int (Int32.ofNat f)), (.int 7), (.ref a1)] 3 = mkF m 0 #[.val (.int (Int32.ofNat f)), .val (.int 7), .val (.ref a1)] [] := by first | (simp [entryFrame, mkF, argsToLocals, Value.category]; done) | rfl
def Q37 (Z : State) (a1 : Addr) (w_SIOOBE_FORMATTER : Option Addr) (k1 : ClassId) (f : Nat) (cs : Nat → Int32) (h0 : Heap) (n0 : Nat) (v : Option Value) (h : Heap) (L : List Loc) : Prop := v = none ∧ Fr n0 L ∧ h = h0
set_option maxRecDepth 65536 in
set_option maxHeartbeats 40000000 in
theorem rm37 (l : Launch) (Z : State) (a0 : Array Value) (hw : ∀ d ∈ tables_1, d.before a0 Z = true) (ws : List Jvm.Cond) (a1 : Addr) (w_SIOOBE_FORMATTER : Option Addr) (k1 : ClassId) (f : Nat) (cs : Nat → Int32) (h0 : Heap) (n0 : Nat) (Z0 : n0 ≤ h0.size) (S_SIOOBE_FORMATTER : Sta Z h0 "jdk/internal/util/Preconditions" "SIOOBE_FORMATTER" "Ljava/util/function/BiFunction;" (own_rv w_SIOOBE_FORMATTER)) (V_a1 : Arv Z h0 a1 k1 .byte (14 : Int32) (own_tab 14 (own_u cs)) (.int 0)) (hf : f < 7) :
  MetFree l (⟨"java/lang/StringUTF16", "checkBoundsBeginEnd", "(II[B)V"⟩ : MethodName) (head1 (Jvm.Cond.code (⟨"java/lang/StringUTF16", "checkBoundsBeginEnd", "(II[B)V"⟩ : MethodName) jdk_52_method_93_code 3 none :: ws) ({ frames := 2, cells := 0, slots := 0, locals := 29 } : Room)) (fun a U => a = #[(.int (Int32.ofNat f)), (.int 7), (.ref a1)] ∧ Z.Warmed39 U.vm ∧ U.heap = h0) (fun _ _ _ _ _ => True) (fun _ U o U' => ∃ v L, o = .returned v ∧ Q37 Z a1 w_SIOOBE_FORMATTER k1 f cs h0 n0 v U'.heap L ∧ FrameEnd U o U' L ({ frames := 2, cells := 0, slots := 0, locals := 29 } : Room).cells ({ frames := 2, cells := 0, slots := 0, locals := 29 } : Room).slots) := by
 refine MetFree.of_bodySF (plainFor_of_name pn_69) hisR ?_
 intro p e s m args below meth c s₁ Bd hml0 hP hK
 obtain ⟨rfl, hZ, hh⟩ := hP
 have hx := Bd.exec
 have hby := Bd.bytes
 have hml : c.maxLocals = 3 := hml0
 have hown : s.vm.findClass "java/lang/StringUTF16" = some m.cls := findClass_of_methodNamed Bd.named
 have hnm := (name_of_methodNamed Bd.named Bd.method).1
 have X0 : Stand p l e ({ frames := 2, cells := 0, slots := 0, locals := 29 } : Room) s m #[(.int (Int32.ofNat f)), (.int 7), (.ref a1)] below meth c s₁ [] 0 0 := Stand.of_body Bd
 have e0 : s₁.heap = h0 := by rw [← hh, Bd.state]; rfl
 have N0 := Fr.nil n0
 refine own_go (B := s₁.setTop (mkF m 0 #[.val (.int (Int32.ofNat f)), .val (.int 7), .val (.ref a1)] [])) (fun t k => castTop (ef_37 m a1) k) ?_
 refine own_go (B := s₁.setTop (mkF m 3 #[.val (.int (Int32.ofNat f)), .val (.int 7), .val (.ref a1)] [(.ref a1), (.int 7), (.int (Int32.ofNat f))])) (fun tg kt => ?_) ?_
 ·refine XS.iloadN X0.here hx rfl (hb hby d37_0) rfl ?_
  refine XS.iloadN X0.here hx rfl (hb hby d37_1) rfl ?_
  refine XS.aloadN X0.here hx rfl (hb hby d37_2) rfl rfl ?_
  exact kt
 obtain ⟨_, _, ⟨T166, L166, k166, n166⟩, -, X166, ⟨Lc166, hQ166, l166, y166, z166⟩, st166⟩ := Jvm.LawKit.callS X0 hx (y := (⟨"java/lang/StringUTF16", "length", "([B)I"⟩ : MethodName)) hown (mvT hZ (hw _ (List.mem_of_getElem? (i := 176) rfl))) (mvT hZ (hw _ (List.mem_of_getElem? (i := 177) rfl))) (mvT hZ (hw _ (List.mem_of_getElem? (i := 35) rfl))) (mvT hZ (hw _ (List.mem_of_getElem? (i := 178) rfl))) (by decide) (backOf (W := 2) (rm38 l Z a0 hw [] a1 k1 cs h0 n0 Z0 V_a1) hZ (hw _ (List.mem_of_getElem? (i := 178) rfl)) (hw _ (List.mem_of_getElem? (i := 35) rfl)) (by decide) (by decide)) (g := (mkF m 3 #[.val (.int (Int32.ofNat f)), .val (.int 7), .val (.ref a1)] [(.ref a1), (.int 7), (.int (Int32.ofNat f))])) rfl (by rw [hml]; rfl) (argsL := [(.ref a1)]) (rest := [(.int 7), (.int (Int32.ofNat f))]) (lenOf pd_10 rfl) rfl (by show 2 * 0 + _ ≤ _; exact Nat.le_of_eq rfl) (hb hby d37_3) (fun _ _ => ⟨rfl, e0, (by decide : 0 + 0 ≤ _), (by decide : 0 + 0 ≤ _)⟩)
 dsimp only [Pt.U, Pt.locs, Pt.cells, Pt.slots] at X166 l166 y166 z166 st166 hQ166
 rw [l166, y166, z166] at X166
 obtain ⟨rfl, M166, q166_0⟩ := hQ166
 have N166 := Fr.app N0 M166
 refine own_go st166 ?_
 obtain ⟨_, _, ⟨T167, L167, k167, n167⟩, -, X167, ⟨Lc167, hQ167, l167, y167, z167⟩, st167⟩ := Jvm.LawKit.callS X166 hx (y := (⟨"java/lang/String", "checkBoundsBeginEnd", "(III)V"⟩ : MethodName)) hown (mvT hZ (hw _ (List.mem_of_getElem? (i := 179) rfl))) (mvT hZ (hw _ (List.mem_of_getElem? (i := 180) rfl))) (mvT hZ (hw _ (List.mem_of_getElem? (i := 21) rfl))) (mvT hZ (hw _ (List.mem_of_getElem? (i := 181) rfl))) (by decide) (backOf (W := 0) (rm39 l Z a0 hw [] w_SIOOBE_FORMATTER f h0 n0 Z0 S_SIOOBE_FORMATTER (by first | assumption | decide)) hZ (hw _ (List.mem_of_getElem? (i := 181) rfl)) (hw _ (List.mem_of_getElem? (i := 21) rfl)) (by decide) (by decide)) (g := (mkF m 6 #[.val (.int (Int32.ofNat f)), .val (.int 7), .val (.ref a1)] [(.int 7), (.int 7), (.int (Int32.ofNat f))])) rfl (by rw [hml]; rfl) (argsL := [(.int (Int32.ofNat f)), (.int 7), (.int 7)]) (rest := []) (lenOf pd_13 rfl) rfl (by show 2 * 0 + _ ≤ _; exact Nat.le_of_eq rfl) (hb hby d37_6) (fun _ _ => ⟨rfl, q166_0, (by decide : 0 + 0 ≤ _), (by decide : 0 + 0 ≤ _)⟩)
 dsimp only [Pt.U, Pt.locs, Pt.cells, Pt.slots] at X167 l167 y167 z167 st167 hQ167
 rw [l167, y167, z167] at X167
 obtain ⟨rfl, M167, q167_0⟩ := hQ167
 have N167 := Fr.app N166 M167
 refine own_go st167 ?_
 obtain ⟨fs, hr, hrun, hended, hW, hsame⟩ := X167.leave (v := none) (fun _ => rfl)
 refine ⟨_, _, ?_, hrun, hended, _, _, rfl, ?_, ⟨_, rfl⟩, hW, hsame.mono (by decide) (by decide)⟩
 ·exact X167.returnOut hx Bd.returns (hb hby d37_9) hr
 ·show Q37 Z a1 w_SIOOBE_FORMATTER k1 f cs h0 n0 _ T167.heap _
  rw [q167_0]
  exact ⟨rfl, N167, rfl⟩
theorem pd_14 : parseMethodDescriptor "(II[B)V" = some ⟨[.int, .int, (.array .byte)], none⟩ := by decide +kernel
theorem pd_15 : parseMethodDescriptor "([BIII)I" = some ⟨[(.array .byte), .int, .int, .int], some .int⟩ := by decide +kernel
theorem d36_0 : decode jdk_52_method_47_code 0 = .ok (.iload_n 2, 1) := by decide +kernel
theorem d36_1 : decode jdk_52_method_47_code 1 = .ok (.iload_n 3, 1) := by decide +kernel
theorem d36_2 : decode jdk_52_method_47_code 2 = .ok (.aload_n 0, 1) := by decide +kernel
theorem d36_3 : decode jdk_52_method_47_code 3 = .ok (.invokestatic 96, 3) := by decide +kernel
theorem d36_6 : decode jdk_52_method_47_code 6 = .ok (.aload_n 0, 1) := by decide +kernel
theorem d36_7 : decode jdk_52_method_47_code 7 = .ok (.iload_n 1, 1) := by decide +kernel
theorem d36_8 : decode jdk_52_method_47_code 8 = .ok (.iload_n 2, 1) := by decide +kernel
theorem d36_9 : decode jdk_52_method_47_code 9 = .ok (.iload_n 3, 1) := by decide +kernel
theorem d36_10 : decode jdk_52_method_47_code 10 = .ok (.invokestatic 244, 3) := by decide +kernel
theorem d36_13 : decode jdk_52_method_47_code 13 = .ok (.ireturn, 1) := by decide +kernel
theorem ef_36 (m : MethodId) (a1 : Addr) : entryFrame m #[(.ref a1), (.int 32), (.int (Int32.ofNat f)), (.int 7)] 4 = mkF m 0 #[.val (.ref a1), .val (.int 32), .val (.int (Int32.ofNat f)), .val (.int 7)] [] := by first | (simp [entryFrame, mkF, argsToLocals, Value.category]; done) | rfl
def Q36 (Z : State) (a1 : Addr) (w_SIOOBE_FORMATTER : Option Addr) (k1 : ClassId) (f : Nat) (cs : Nat → Int32) (h0 : Heap) (n0 : Nat) (v : Option Value) (h : Heap) (L : List Loc) : Prop := v = some (.int (own_sk cs (7 - f) f)) ∧ Fr n0 L ∧ h = h0
set_option maxRecDepth 65536 in
set_option maxHeartbeats 40000000 in
theorem rm36 (l : Launch) (Z : State) (a0 : Array Value) (hw : ∀ d ∈ tables_1, d.before a0 Z = true) (ws : List Jvm.Cond) (a1 : Addr) (w_SIOOBE_FORMATTER : Option Addr) (k1 : ClassId) (f : Nat) (cs : Nat → Int32) (h0 : Heap) (n0 : Nat) (Z0 : n0 ≤ h0.size) (S__assertionsDisabled : Sta Z h0 "java/lang/StringUTF16" "$assertionsDisabled" "Z" (.int 1)) (S_HI_BYTE_SHIFT : Sta Z h0 "java/lang/StringUTF16" "HI_BYTE_SHIFT" "I" (.int 0)) (S_LO_BYTE_SHIFT : Sta Z h0 "java/lang/StringUTF16" "LO_BYTE_SHIFT" "I" (.int 8)) (S_SIOOBE_FORMATTER : Sta Z h0 "jdk/internal/util/Preconditions" "SIOOBE_FORMATTER" "Ljava/util/function/BiFunction;" (own_rv w_SIOOBE_FORMATTER)) (V_a1 : Arv Z h0 a1 k1 .byte (14 : Int32) (own_tab 14 (own_u cs)) (.int 0)) (hf : f < 7) (hC : ∀ i, i < 7 → 0 ≤ (cs i).toInt ∧ (cs i).toInt ≤ 65535) :
  MetFree l (⟨"java/lang/StringUTF16", "indexOfChar", "([BIII)I"⟩ : MethodName) (head1 (Jvm.Cond.code (⟨"java/lang/StringUTF16", "indexOfChar", "([BIII)I"⟩ : MethodName) jdk_52_method_47_code 4 (some .int) :: ws) ({ frames := 3, cells := 0, slots := 0, locals := 43 } : Room)) (fun a U => a = #[(.ref a1), (.int 32), (.int (Int32.ofNat f)), (.int 7)] ∧ Z.Warmed39 U.vm ∧ U.heap = h0) (fun _ _ _ _ _ => True) (fun _ U o U' => ∃ v L, o = .returned v ∧ Q36 Z a1 w_SIOOBE_FORMATTER k1 f cs h0 n0 v U'.heap L ∧ FrameEnd U o U' L ({ frames := 3, cells := 0, slots := 0, locals := 43 } : Room).cells ({ frames := 3, cells := 0, slots := 0, locals := 43 } : Room).slots) := by
 refine MetFree.of_bodySF (plainFor_of_name pn_69) hisR ?_
 intro p e s m args below meth c s₁ Bd hml0 hP hK
 obtain ⟨rfl, hZ, hh⟩ := hP
 have hx := Bd.exec
 have hby := Bd.bytes
 have hml : c.maxLocals = 4 := hml0
 have hown : s.vm.findClass "java/lang/StringUTF16" = some m.cls := findClass_of_methodNamed Bd.named
 have hnm := (name_of_methodNamed Bd.named Bd.method).1
 have X0 : Stand p l e ({ frames := 3, cells := 0, slots := 0, locals := 43 } : Room) s m #[(.ref a1), (.int 32), (.int (Int32.ofNat f)), (.int 7)] below meth c s₁ [] 0 0 := Stand.of_body Bd
 have e0 : s₁.heap = h0 := by rw [← hh, Bd.state]; rfl
 have N0 := Fr.nil n0
 refine own_go (B := s₁.setTop (mkF m 0 #[.val (.ref a1), .val (.int 32), .val (.int (Int32.ofNat f)), .val (.int 7)] [])) (fun t k => castTop (ef_36 m a1) k) ?_
 refine own_go (B := s₁.setTop (mkF m 3 #[.val (.ref a1), .val (.int 32), .val (.int (Int32.ofNat f)), .val (.int 7)] [(.ref a1), (.int 7), (.int (Int32.ofNat f))])) (fun tg kt => ?_) ?_
 ·refine XS.iloadN X0.here hx rfl (hb hby d36_0) rfl ?_
  refine XS.iloadN X0.here hx rfl (hb hby d36_1) rfl ?_
  refine XS.aloadN X0.here hx rfl (hb hby d36_2) rfl rfl ?_
  exact kt
 obtain ⟨_, _, ⟨T169, L169, k169, n169⟩, -, X169, ⟨Lc169, hQ169, l169, y169, z169⟩, st169⟩ := Jvm.LawKit.callS X0 hx (y := (⟨"java/lang/StringUTF16", "checkBoundsBeginEnd", "(II[B)V"⟩ : MethodName)) hown (mvT hZ (hw _ (List.mem_of_getElem? (i := 173) rfl))) (mvT hZ (hw _ (List.mem_of_getElem? (i := 174) rfl))) (mvT hZ (hw _ (List.mem_of_getElem? (i := 35) rfl))) (mvT hZ (hw _ (List.mem_of_getElem? (i := 175) rfl))) (by decide) (backOf (W := 0) (rm37 l Z a0 hw [] a1 w_SIOOBE_FORMATTER k1 f cs h0 n0 Z0 S_SIOOBE_FORMATTER V_a1 (by first | assumption | decide)) hZ (hw _ (List.mem_of_getElem? (i := 175) rfl)) (hw _ (List.mem_of_getElem? (i := 35) rfl)) (by decide) (by decide)) (g := (mkF m 3 #[.val (.ref a1), .val (.int 32), .val (.int (Int32.ofNat f)), .val (.int 7)] [(.ref a1), (.int 7), (.int (Int32.ofNat f))])) rfl (by rw [hml]; rfl) (argsL := [(.int (Int32.ofNat f)), (.int 7), (.ref a1)]) (rest := []) (lenOf pd_14 rfl) rfl (by show 2 * 0 + _ ≤ _; exact Nat.le_of_eq rfl) (hb hby d36_3) (fun _ _ => ⟨rfl, e0, (by decide : 0 + 0 ≤ _), (by decide : 0 + 0 ≤ _)⟩)
 dsimp only [Pt.U, Pt.locs, Pt.cells, Pt.slots] at X169 l169 y169 z169 st169 hQ169
 rw [l169, y169, z169] at X169
 obtain ⟨rfl, M169, q169_0⟩ := hQ169
 have N169 := Fr.app N0 M169
 refine own_go st169 ?_
 refine own_go (B := T169.setTop (mkF m 10 #[.val (.ref a1), .val (.int 32), .val (.int (Int32.ofNat f)), .val (.int 7)] [(.int 7), (.int (Int32.ofNat f)), (.int 32), (.ref a1)])) (fun tg kt => ?_) ?_
 ·refine XS.aloadN X169.here hx rfl (hb hby d36_6) rfl rfl ?_
  refine XS.iloadN X169.here hx rfl (hb hby d36_7) rfl ?_
  refine XS.iloadN X169.here hx rfl (hb hby d36_8) rfl ?_
  refine XS.iloadN X169.here hx rfl (hb hby d36_9) rfl ?_
  exact kt
 obtain ⟨_, _, ⟨T170, L170, k170, n170⟩, -, X170, ⟨Lc170, hQ170, l170, y170, z170⟩, st170⟩ := Jvm.LawKit.callS X169 hx (y := (⟨"java/lang/StringUTF16", "indexOfCharUnsafe", "([BIII)I"⟩ : MethodName)) hown (mvT hZ (hw _ (List.mem_of_getElem? (i := 185) rfl))) (mvT hZ (hw _ (List.mem_of_getElem? (i := 186) rfl))) (mvT hZ (hw _ (List.mem_of_getElem? (i := 35) rfl))) (mvT hZ (hw _ (List.mem_of_getElem? (i := 187) rfl))) (by decide) (backOf (W := 0) (rm41 l Z a0 hw [] a1 k1 f cs h0 n0 Z0 S__assertionsDisabled S_HI_BYTE_SHIFT S_LO_BYTE_SHIFT V_a1 (by first | assumption | decide) (hC)) hZ (hw _ (List.mem_of_getElem? (i := 187) rfl)) (hw _ (List.mem_of_getElem? (i := 35) rfl)) (by decide) (by decide)) (g := (mkF m 10 #[.val (.ref a1), .val (.int 32), .val (.int (Int32.ofNat f)), .val (.int 7)] [(.int 7), (.int (Int32.ofNat f)), (.int 32), (.ref a1)])) rfl (by rw [hml]; rfl) (argsL := [(.ref a1), (.int 32), (.int (Int32.ofNat f)), (.int 7)]) (rest := []) (lenOf pd_15 rfl) rfl (by show 2 * 0 + _ ≤ _; exact Nat.le_of_eq rfl) (hb hby d36_10) (fun _ _ => ⟨rfl, q169_0, (by decide : 0 + 0 ≤ _), (by decide : 0 + 0 ≤ _)⟩)
 dsimp only [Pt.U, Pt.locs, Pt.cells, Pt.slots] at X170 l170 y170 z170 st170 hQ170
 rw [l170, y170, z170] at X170
 obtain ⟨rfl, M170, q170_0⟩ := hQ170
 have N170 := Fr.app N169 M170
 refine own_go st170 ?_
 obtain ⟨fs, hr, hrun, hended, hW, hsame⟩ := X170.leave (v := some (.int (own_sk cs (7 - f) f))) (fun h => by rw [Bd.returns] at h; cases h)
 refine ⟨_, _, ?_, hrun, hended, _, _, rfl, ?_, ⟨_, rfl⟩, hW, hsame.mono (by decide) (by decide)⟩
 ·exact retI X170 hx Bd.returns (hb hby d36_13) hr
 ·show Q36 Z a1 w_SIOOBE_FORMATTER k1 f cs h0 n0 _ T170.heap _
  rw [q170_0]
  exact ⟨rfl, N170, rfl⟩
theorem pd_16 : parseMethodDescriptor "(I)Z" = some ⟨[.int], some .boolean⟩ := by decide +kernel
theorem pd_17 : parseMethodDescriptor "(II)I" = some ⟨[.int, .int], some .int⟩ := by decide +kernel
theorem d18_0 : decode jdk_43_method_22_code 0 = .ok (.iload_n 1, 1) := by decide +kernel
theorem d18_1 : decode jdk_43_method_22_code 1 = .ok (.invokestatic 88, 3) := by decide +kernel
theorem d18_4 : decode jdk_43_method_22_code 4 = .ok (.ifCond .ne 5, 3) := by decide +kernel
theorem d18_9 : decode jdk_43_method_22_code 9 = .ok (.iload_n 2, 1) := by decide +kernel
theorem d18_10 : decode jdk_43_method_22_code 10 = .ok (.iconst 0, 1) := by decide +kernel
theorem d18_11 : decode jdk_43_method_22_code 11 = .ok (.invokestatic 92, 3) := by decide +kernel
theorem d18_14 : decode jdk_43_method_22_code 14 = .ok (.istore_n 2, 1) := by decide +kernel
theorem d18_15 : decode jdk_43_method_22_code 15 = .ok (.iload_n 3, 1) := by decide +kernel
theorem d18_16 : decode jdk_43_method_22_code 16 = .ok (.aload_n 0, 1) := by decide +kernel
theorem d18_17 : decode jdk_43_method_22_code 17 = .ok (.arraylength, 1) := by decide +kernel
theorem d18_18 : decode jdk_43_method_22_code 18 = .ok (.invokestatic 38, 3) := by decide +kernel
theorem d18_21 : decode jdk_43_method_22_code 21 = .ok (.istore_n 3, 1) := by decide +kernel
theorem d18_22 : decode jdk_43_method_22_code 22 = .ok (.iload_n 2, 1) := by decide +kernel
theorem d18_23 : decode jdk_43_method_22_code 23 = .ok (.iload_n 3, 1) := by decide +kernel
theorem d18_24 : decode jdk_43_method_22_code 24 = .ok (.if_icmp .lt 5, 3) := by decide +kernel
theorem d18_27 : decode jdk_43_method_22_code 27 = .ok (.iconst (-1), 1) := by decide +kernel
theorem d18_28 : decode jdk_43_method_22_code 28 = .ok (.ireturn, 1) := by decide +kernel
theorem d18_29 : decode jdk_43_method_22_code 29 = .ok (.aload_n 0, 1) := by decide +kernel
theorem d18_30 : decode jdk_43_method_22_code 30 = .ok (.iload_n 1, 1) := by decide +kernel
theorem d18_31 : decode jdk_43_method_22_code 31 = .ok (.iload_n 2, 1) := by decide +kernel
theorem d18_32 : decode jdk_43_method_22_code 32 = .ok (.iload_n 3, 1) := by decide +kernel
theorem d18_33 : decode jdk_43_method_22_code 33 = .ok (.invokestatic 95, 3) := by decide +kernel
theorem d18_36 : decode jdk_43_method_22_code 36 = .ok (.ireturn, 1) := by decide +kernel
theorem ef_18 (m : MethodId) (a1 : Addr) : entryFrame m #[(.ref a1), (.int 32), (.int (Int32.ofNat f)), (.int 7)] 4 = mkF m 0 #[.val (.ref a1), .val (.int 32), .val (.int (Int32.ofNat f)), .val (.int 7)] [] := by first | (simp [entryFrame, mkF, argsToLocals, Value.category]; done) | rfl
def Q18 (Z : State) (a1 : Addr) (k1 : ClassId) (f : Nat) (cs : Nat → Int32) (h0 : Heap) (n0 : Nat) (v : Option Value) (h : Heap) (L : List Loc) : Prop := v = some (.int (own_sk cs (7 - f) f)) ∧ Fr n0 L ∧ h = h0
set_option maxRecDepth 65536 in
set_option maxHeartbeats 40000000 in
theorem rm18 (l : Launch) (Z : State) (a0 : Array Value) (hw : ∀ d ∈ tables_1, d.before a0 Z = true) (ws : List Jvm.Cond) (a1 : Addr) (k1 : ClassId) (f : Nat) (cs : Nat → Int32) (h0 : Heap) (n0 : Nat) (Z0 : n0 ≤ h0.size) (V_a1 : Arv Z h0 a1 k1 .byte (7 : Int32) (own_tab 7 (own_l cs)) (.int 0)) (hf : f ≤ 7) (hle : ∀ i, i < 7 → ¬ (255 : Int32) < cs i) (hC : ∀ i, i < 7 → 0 ≤ (cs i).toInt ∧ (cs i).toInt ≤ 65535) :
  MetFree l (⟨"java/lang/StringLatin1", "indexOf", "([BIII)I"⟩ : MethodName) (head1 (Jvm.Cond.code (⟨"java/lang/StringLatin1", "indexOf", "([BIII)I"⟩ : MethodName) jdk_43_method_22_code 4 (some .int) :: ws) ({ frames := 1, cells := 0, slots := 0, locals := 17 } : Room)) (fun a U => a = #[(.ref a1), (.int 32), (.int (Int32.ofNat f)), (.int 7)] ∧ Z.Warmed39 U.vm ∧ U.heap = h0) (fun _ _ _ _ _ => True) (fun _ U o U' => ∃ v L, o = .returned v ∧ Q18 Z a1 k1 f cs h0 n0 v U'.heap L ∧ FrameEnd U o U' L ({ frames := 1, cells := 0, slots := 0, locals := 17 } : Room).cells ({ frames := 1, cells := 0, slots := 0, locals := 17 } : Room).slots) := by
 refine MetFree.of_bodySF (plainFor_of_name pn_279) hisR ?_
 intro p e s m args below meth c s₁ Bd hml0 hP hK
 obtain ⟨rfl, hZ, hh⟩ := hP
 have hx := Bd.exec
 have hby := Bd.bytes
 have hml : c.maxLocals = 4 := hml0
 have hown : s.vm.findClass "java/lang/StringLatin1" = some m.cls := findClass_of_methodNamed Bd.named
 have hnm := (name_of_methodNamed Bd.named Bd.method).1
 have X0 : Stand p l e ({ frames := 1, cells := 0, slots := 0, locals := 17 } : Room) s m #[(.ref a1), (.int 32), (.int (Int32.ofNat f)), (.int 7)] below meth c s₁ [] 0 0 := Stand.of_body Bd
 have e0 : s₁.heap = h0 := by rw [← hh, Bd.state]; rfl
 have N0 := Fr.nil n0
 refine own_go (B := s₁.setTop (mkF m 0 #[.val (.ref a1), .val (.int 32), .val (.int (Int32.ofNat f)), .val (.int 7)] [])) (fun t k => castTop (ef_18 m a1) k) ?_
 refine own_go (B := s₁.setTop (mkF m 1 #[.val (.ref a1), .val (.int 32), .val (.int (Int32.ofNat f)), .val (.int 7)] [(.int 32)])) (fun tg kt => ?_) ?_
 ·refine XS.iloadN X0.here hx rfl (hb hby d18_0) rfl ?_
  exact kt
 obtain ⟨_, _, ⟨T172, L172, k172, n172⟩, -, X172, ⟨Lc172, hQ172, l172, y172, z172⟩, st172⟩ := Jvm.LawKit.callS X0 hx (y := (⟨"java/lang/StringLatin1", "canEncode", "(I)Z"⟩ : MethodName)) hown (mvT hZ (hw _ (List.mem_of_getElem? (i := 93) rfl))) (mvT hZ (hw _ (List.mem_of_getElem? (i := 94) rfl))) (mvT hZ (hw _ (List.mem_of_getElem? (i := 91) rfl))) (mvT hZ (hw _ (List.mem_of_getElem? (i := 95) rfl))) (by decide) (backOf (W := 0) (rm19 l Z a0 hw []  h0 n0 Z0 ) hZ (hw _ (List.mem_of_getElem? (i := 95) rfl)) (hw _ (List.mem_of_getElem? (i := 91) rfl)) (by decide) (by decide)) (g := (mkF m 1 #[.val (.ref a1), .val (.int 32), .val (.int (Int32.ofNat f)), .val (.int 7)] [(.int 32)])) rfl (by rw [hml]; rfl) (argsL := [(.int 32)]) (rest := []) (lenOf pd_16 rfl) rfl (by show 2 * 0 + _ ≤ _; exact Nat.le_of_eq rfl) (hb hby d18_1) (fun _ _ => ⟨rfl, e0, (by decide : 0 + 0 ≤ _), (by decide : 0 + 0 ≤ _)⟩)
 dsimp only [Pt.U, Pt.locs, Pt.cells, Pt.slots] at X172 l172 y172 z172 st172 hQ172
 rw [l172, y172, z172] at X172
 obtain ⟨rfl, M172, q172_0⟩ := hQ172
 have N172 := Fr.app N0 M172
 refine own_go st172 ?_
 refine own_go (B := T172.setTop (mkF m 11 #[.val (.ref a1), .val (.int 32), .val (.int (Int32.ofNat f)), .val (.int 7)] [(.int 0), (.int (Int32.ofNat f))])) (fun tg kt => ?_) ?_
 ·refine XS.ifYes X172.here hx rfl (pc0 := 4) (pc' := 9) rfl (hb hby d18_4) rfl ((if0 _ _).trans (feq (by decide : ¬ ((1 : Int32) = (0 : Int32)))).2) (by decide) (by decide) ?_
  refine XS.iloadN X172.here hx rfl (hb hby d18_9) rfl ?_
  refine XS.iconst X172.here hx rfl (hb hby d18_10) ?_
  exact kt
 obtain ⟨_, _, ⟨T173, L173, k173, n173⟩, -, X173, ⟨Lc173, hQ173, l173, y173, z173⟩, st173⟩ := Jvm.LawKit.callS X172 hx (y := (⟨"java/lang/Math", "max", "(II)I"⟩ : MethodName)) hown (mvT hZ (hw _ (List.mem_of_getElem? (i := 96) rfl))) (mvT hZ (hw _ (List.mem_of_getElem? (i := 97) rfl))) (mvT hZ (hw _ (List.mem_of_getElem? (i := 98) rfl))) (mvT hZ (hw _ (List.mem_of_getElem? (i := 99) rfl))) (by decide) (backOf (W := 0) (rm20 l Z a0 hw [] (Int32.ofNat f) h0 n0 Z0 ((own_ge0 hf))) hZ (hw _ (List.mem_of_getElem? (i := 99) rfl)) (hw _ (List.mem_of_getElem? (i := 98) rfl)) (by decide) (by decide)) (g := (mkF m 11 #[.val (.ref a1), .val (.int 32), .val (.int (Int32.ofNat f)), .val (.int 7)] [(.int 0), (.int (Int32.ofNat f))])) rfl (by rw [hml]; rfl) (argsL := [(.int (Int32.ofNat f)), (.int 0)]) (rest := []) (lenOf pd_17 rfl) rfl (by show 2 * 0 + _ ≤ _; exact Nat.le_of_eq rfl) (hb hby d18_11) (fun _ _ => ⟨rfl, q172_0, (by decide : 0 + 0 ≤ _), (by decide : 0 + 0 ≤ _)⟩)
 dsimp only [Pt.U, Pt.locs, Pt.cells, Pt.slots] at X173 l173 y173 z173 st173 hQ173
 rw [l173, y173, z173] at X173
 obtain ⟨rfl, M173, q173_0⟩ := hQ173
 have N173 := Fr.app N172 M173
 refine own_go st173 ?_
 refine own_go (B := T173.setTop (mkF m 17 #[.val (.ref a1), .val (.int 32), .val (.int (Int32.ofNat f)), .val (.int 7)] [(.ref a1), (.int 7)])) (fun tg kt => ?_) ?_
 ·refine XS.istoreN X173.here hx rfl (hb hby d18_14) rfl (l' := #[.val (.ref a1), .val (.int 32), .val (.int (Int32.ofNat f)), .val (.int 7)]) rfl ?_
  refine XS.iloadN X173.here hx rfl (hb hby d18_15) rfl ?_
  refine XS.aloadN X173.here hx rfl (hb hby d18_16) rfl rfl ?_
  exact kt
 obtain ⟨cl174, Ar174, cq174, cS174, cN174, cH174, cG174⟩ := id V_a1
 refine own_go (B := T173.setTop (mkF m 18 #[.val (.ref a1), .val (.int 32), .val (.int (Int32.ofNat f)), .val (.int 7)] [(.int 7), (.int 7)])) (fun tg kt => ?_) ?_
 ·refine X173.arraylength hx (by rw [q173_0]; exact Ar174.1) (State.isArrayOf_alike hZ.alike Ar174.2.1) (g := (mkF m 17 #[.val (.ref a1), .val (.int 32), .val (.int (Int32.ofNat f)), .val (.int 7)] [(.ref a1), (.int 7)])) rfl rfl (hb hby d18_17) _ ?_
  rw [len_of cS174 cN174]
  exact kt
 obtain ⟨_, _, ⟨T175, L175, k175, n175⟩, -, X175, ⟨Lc175, hQ175, l175, y175, z175⟩, st175⟩ := Jvm.LawKit.callS X173 hx (y := (⟨"java/lang/Math", "min", "(II)I"⟩ : MethodName)) hown (mvT hZ (hw _ (List.mem_of_getElem? (i := 100) rfl))) (mvT hZ (hw _ (List.mem_of_getElem? (i := 101) rfl))) (mvT hZ (hw _ (List.mem_of_getElem? (i := 98) rfl))) (mvT hZ (hw _ (List.mem_of_getElem? (i := 102) rfl))) (by decide) (backOf (W := 0) (rm21_7 l Z a0 hw []  h0 n0 Z0 ) hZ (hw _ (List.mem_of_getElem? (i := 102) rfl)) (hw _ (List.mem_of_getElem? (i := 98) rfl)) (by decide) (by decide)) (g := (mkF m 18 #[.val (.ref a1), .val (.int 32), .val (.int (Int32.ofNat f)), .val (.int 7)] [(.int 7), (.int 7)])) rfl (by rw [hml]; rfl) (argsL := [(.int 7), (.int 7)]) (rest := []) (lenOf pd_17 rfl) rfl (by show 2 * 0 + _ ≤ _; exact Nat.le_of_eq rfl) (hb hby d18_18) (fun _ _ => ⟨rfl, q173_0, (by decide : 0 + 0 ≤ _), (by decide : 0 + 0 ≤ _)⟩)
 dsimp only [Pt.U, Pt.locs, Pt.cells, Pt.slots] at X175 l175 y175 z175 st175 hQ175
 rw [l175, y175, z175] at X175
 obtain ⟨rfl, M175, q175_0⟩ := hQ175
 have N175 := Fr.app N173 M175
 refine own_go st175 ?_
 refine own_go (B := T175.setTop (mkF m 22 #[.val (.ref a1), .val (.int 32), .val (.int (Int32.ofNat f)), .val (.int 7)] [])) (fun tg kt => ?_) ?_
 ·refine XS.istoreN X175.here hx rfl (hb hby d18_21) rfl (l' := #[.val (.ref a1), .val (.int 32), .val (.int (Int32.ofNat f)), .val (.int 7)]) rfl ?_
  exact kt
 by_cases hlt : f < 7
 ·refine own_go (B := T175.setTop (mkF m 33 #[.val (.ref a1), .val (.int 32), .val (.int (Int32.ofNat f)), .val (.int 7)] [(.int 7), (.int (Int32.ofNat f)), (.int 32), (.ref a1)])) (fun tg kt => ?_) ?_
  ·refine XS.iloadN X175.here hx rfl (hb hby d18_22) rfl ?_
   refine XS.iloadN X175.here hx rfl (hb hby d18_23) rfl ?_
   refine XS.icmpYes X175.here hx rfl (pc0 := 24) (pc' := 29) rfl (hb hby d18_24) rfl (tlt (show (Int32.ofNat f) < (7 : Int32) from (own_ltc hlt (by decide) (7 : Int32) (by decide)).2)).1 (by decide) (by decide) ?_
   refine XS.aloadN X175.here hx rfl (hb hby d18_29) rfl rfl ?_
   refine XS.iloadN X175.here hx rfl (hb hby d18_30) rfl ?_
   refine XS.iloadN X175.here hx rfl (hb hby d18_31) rfl ?_
   refine XS.iloadN X175.here hx rfl (hb hby d18_32) rfl ?_
   exact kt
  obtain ⟨_, _, ⟨T176, L176, k176, n176⟩, -, X176, ⟨Lc176, hQ176, l176, y176, z176⟩, st176⟩ := Jvm.LawKit.callS X175 hx (y := (⟨"java/lang/StringLatin1", "indexOfChar", "([BIII)I"⟩ : MethodName)) hown (mvT hZ (hw _ (List.mem_of_getElem? (i := 103) rfl))) (mvT hZ (hw _ (List.mem_of_getElem? (i := 104) rfl))) (mvT hZ (hw _ (List.mem_of_getElem? (i := 91) rfl))) (mvT hZ (hw _ (List.mem_of_getElem? (i := 105) rfl))) (by decide) (backOf (W := 0) (rm22 l Z a0 hw [] a1 k1 f cs h0 n0 Z0 V_a1 (hlt) (hle) (hC)) hZ (hw _ (List.mem_of_getElem? (i := 105) rfl)) (hw _ (List.mem_of_getElem? (i := 91) rfl)) (by decide) (by decide)) (g := (mkF m 33 #[.val (.ref a1), .val (.int 32), .val (.int (Int32.ofNat f)), .val (.int 7)] [(.int 7), (.int (Int32.ofNat f)), (.int 32), (.ref a1)])) rfl (by rw [hml]; rfl) (argsL := [(.ref a1), (.int 32), (.int (Int32.ofNat f)), (.int 7)]) (rest := []) (lenOf pd_15 rfl) rfl (by show 2 * 0 + _ ≤ _; exact Nat.le_of_eq rfl) (hb hby d18_33) (fun _ _ => ⟨rfl, q175_0, (by decide : 0 + 0 ≤ _), (by decide : 0 + 0 ≤ _)⟩)
  dsimp only [Pt.U, Pt.locs, Pt.cells, Pt.slots] at X176 l176 y176 z176 st176 hQ176
  rw [l176, y176, z176] at X176
  obtain ⟨rfl, M176, q176_0⟩ := hQ176
  have N176 := Fr.app N175 M176
  refine own_go st176 ?_
  obtain ⟨fs, hr, hrun, hended, hW, hsame⟩ := X176.leave (v := some (.int (own_sk cs (7 - f) f))) (fun h => by rw [Bd.returns] at h; cases h)
  refine ⟨_, _, ?_, hrun, hended, _, _, rfl, ?_, ⟨_, rfl⟩, hW, hsame.mono (by decide) (by decide)⟩
  ·exact retI X176 hx Bd.returns (hb hby d18_36) hr
  ·show Q18 Z a1 k1 f cs h0 n0 _ T176.heap _
   rw [q176_0]
   exact ⟨rfl, N176, rfl⟩
 ·refine own_go (B := T175.setTop (mkF m 28 #[.val (.ref a1), .val (.int 32), .val (.int (Int32.ofNat f)), .val (.int 7)] [(.int (-1))])) (fun tg kt => ?_) ?_
  ·refine XS.iloadN X175.here hx rfl (hb hby d18_22) rfl ?_
   refine XS.iloadN X175.here hx rfl (hb hby d18_23) rfl ?_
   refine XS.icmpNo X175.here hx rfl (hb hby d18_24) rfl (flt (show ¬ ((Int32.ofNat f) < (7 : Int32)) from (own_nlt hlt hf))).1 ?_
   refine XS.iconst X175.here hx rfl (hb hby d18_27) ?_
   exact kt
  obtain ⟨fs, hr, hrun, hended, hW, hsame⟩ := X175.leave (v := some (.int (-1))) (fun h => by rw [Bd.returns] at h; cases h)
  refine ⟨_, _, ?_, hrun, hended, _, _, rfl, ?_, ⟨_, rfl⟩, hW, hsame.mono (by decide) (by decide)⟩
  ·exact retI X175 hx Bd.returns (hb hby d18_28) hr
  ·show Q18 Z a1 k1 f cs h0 n0 _ T175.heap _
   rw [q175_0]
   exact ⟨(congrArg (fun z => some (Value.int z)) (own_sk7 hlt).symm), N175, rfl⟩
theorem d35_0 : decode jdk_52_method_40_code 0 = .ok (.iload_n 2, 1) := by decide +kernel
theorem d35_1 : decode jdk_52_method_40_code 1 = .ok (.iconst 0, 1) := by decide +kernel
theorem d35_2 : decode jdk_52_method_40_code 2 = .ok (.invokestatic 224, 3) := by decide +kernel
theorem d35_5 : decode jdk_52_method_40_code 5 = .ok (.istore_n 2, 1) := by decide +kernel
theorem d35_6 : decode jdk_52_method_40_code 6 = .ok (.iload_n 3, 1) := by decide +kernel
theorem d35_7 : decode jdk_52_method_40_code 7 = .ok (.aload_n 0, 1) := by decide +kernel
theorem d35_8 : decode jdk_52_method_40_code 8 = .ok (.arraylength, 1) := by decide +kernel
theorem d35_9 : decode jdk_52_method_40_code 9 = .ok (.iconst 1, 1) := by decide +kernel
theorem d35_10 : decode jdk_52_method_40_code 10 = .ok (.ishr, 1) := by decide +kernel
theorem d35_11 : decode jdk_52_method_40_code 11 = .ok (.invokestatic 183, 3) := by decide +kernel
theorem d35_14 : decode jdk_52_method_40_code 14 = .ok (.istore_n 3, 1) := by decide +kernel
theorem d35_15 : decode jdk_52_method_40_code 15 = .ok (.iload_n 2, 1) := by decide +kernel
theorem d35_16 : decode jdk_52_method_40_code 16 = .ok (.iload_n 3, 1) := by decide +kernel
theorem d35_17 : decode jdk_52_method_40_code 17 = .ok (.if_icmp .lt 5, 3) := by decide +kernel
theorem d35_20 : decode jdk_52_method_40_code 20 = .ok (.iconst (-1), 1) := by decide +kernel
theorem d35_21 : decode jdk_52_method_40_code 21 = .ok (.ireturn, 1) := by decide +kernel
theorem d35_22 : decode jdk_52_method_40_code 22 = .ok (.iload_n 1, 1) := by decide +kernel
theorem d35_23 : decode jdk_52_method_40_code 23 = .ok (.ldc 227, 2) := by decide +kernel
theorem d35_25 : decode jdk_52_method_40_code 25 = .ok (.if_icmp .ge 11, 3) := by decide +kernel
theorem d35_28 : decode jdk_52_method_40_code 28 = .ok (.aload_n 0, 1) := by decide +kernel
theorem d35_29 : decode jdk_52_method_40_code 29 = .ok (.iload_n 1, 1) := by decide +kernel
theorem d35_30 : decode jdk_52_method_40_code 30 = .ok (.iload_n 2, 1) := by decide +kernel
theorem d35_31 : decode jdk_52_method_40_code 31 = .ok (.iload_n 3, 1) := by decide +kernel
theorem d35_32 : decode jdk_52_method_40_code 32 = .ok (.invokestatic 228, 3) := by decide +kernel
theorem d35_35 : decode jdk_52_method_40_code 35 = .ok (.ireturn, 1) := by decide +kernel
theorem ef_35 (m : MethodId) (a1 : Addr) : entryFrame m #[(.ref a1), (.int 32), (.int (Int32.ofNat f)), (.int 7)] 4 = mkF m 0 #[.val (.ref a1), .val (.int 32), .val (.int (Int32.ofNat f)), .val (.int 7)] [] := by first | (simp [entryFrame, mkF, argsToLocals, Value.category]; done) | rfl
def Q35 (Z : State) (a1 : Addr) (w_SIOOBE_FORMATTER : Option Addr) (k1 : ClassId) (f : Nat) (cs : Nat → Int32) (h0 : Heap) (n0 : Nat) (v : Option Value) (h : Heap) (L : List Loc) : Prop := v = some (.int (own_sk cs (7 - f) f)) ∧ Fr n0 L ∧ h = h0
set_option maxRecDepth 65536 in
set_option maxHeartbeats 40000000 in
theorem rm35 (l : Launch) (Z : State) (a0 : Array Value) (hw : ∀ d ∈ tables_1, d.before a0 Z = true) (ws : List Jvm.Cond) (a1 : Addr) (w_SIOOBE_FORMATTER : Option Addr) (k1 : ClassId) (f : Nat) (cs : Nat → Int32) (h0 : Heap) (n0 : Nat) (Z0 : n0 ≤ h0.size) (S__assertionsDisabled : Sta Z h0 "java/lang/StringUTF16" "$assertionsDisabled" "Z" (.int 1)) (S_HI_BYTE_SHIFT : Sta Z h0 "java/lang/StringUTF16" "HI_BYTE_SHIFT" "I" (.int 0)) (S_LO_BYTE_SHIFT : Sta Z h0 "java/lang/StringUTF16" "LO_BYTE_SHIFT" "I" (.int 8)) (S_SIOOBE_FORMATTER : Sta Z h0 "jdk/internal/util/Preconditions" "SIOOBE_FORMATTER" "Ljava/util/function/BiFunction;" (own_rv w_SIOOBE_FORMATTER)) (V_a1 : Arv Z h0 a1 k1 .byte (14 : Int32) (own_tab 14 (own_u cs)) (.int 0)) (hf : f ≤ 7) (hC : ∀ i, i < 7 → 0 ≤ (cs i).toInt ∧ (cs i).toInt ≤ 65535) :
  MetFree l (⟨"java/lang/StringUTF16", "indexOf", "([BIII)I"⟩ : MethodName) (head1 (Jvm.Cond.code (⟨"java/lang/StringUTF16", "indexOf", "([BIII)I"⟩ : MethodName) jdk_52_method_40_code 4 (some .int) :: ws) ({ frames := 4, cells := 0, slots := 0, locals := 58 } : Room)) (fun a U => a = #[(.ref a1), (.int 32), (.int (Int32.ofNat f)), (.int 7)] ∧ Z.Warmed39 U.vm ∧ U.heap = h0) (fun _ _ _ _ _ => True) (fun _ U o U' => ∃ v L, o = .returned v ∧ Q35 Z a1 w_SIOOBE_FORMATTER k1 f cs h0 n0 v U'.heap L ∧ FrameEnd U o U' L ({ frames := 4, cells := 0, slots := 0, locals := 58 } : Room).cells ({ frames := 4, cells := 0, slots := 0, locals := 58 } : Room).slots) := by
 refine MetFree.of_bodySF (plainFor_of_name pn_69) hisR ?_
 intro p e s m args below meth c s₁ Bd hml0 hP hK
 obtain ⟨rfl, hZ, hh⟩ := hP
 have hx := Bd.exec
 have hby := Bd.bytes
 have hml : c.maxLocals = 4 := hml0
 have hown : s.vm.findClass "java/lang/StringUTF16" = some m.cls := findClass_of_methodNamed Bd.named
 have hnm := (name_of_methodNamed Bd.named Bd.method).1
 have X0 : Stand p l e ({ frames := 4, cells := 0, slots := 0, locals := 58 } : Room) s m #[(.ref a1), (.int 32), (.int (Int32.ofNat f)), (.int 7)] below meth c s₁ [] 0 0 := Stand.of_body Bd
 have e0 : s₁.heap = h0 := by rw [← hh, Bd.state]; rfl
 have N0 := Fr.nil n0
 refine own_go (B := s₁.setTop (mkF m 0 #[.val (.ref a1), .val (.int 32), .val (.int (Int32.ofNat f)), .val (.int 7)] [])) (fun t k => castTop (ef_35 m a1) k) ?_
 refine own_go (B := s₁.setTop (mkF m 2 #[.val (.ref a1), .val (.int 32), .val (.int (Int32.ofNat f)), .val (.int 7)] [(.int 0), (.int (Int32.ofNat f))])) (fun tg kt => ?_) ?_
 ·refine XS.iloadN X0.here hx rfl (hb hby d35_0) rfl ?_
  refine XS.iconst X0.here hx rfl (hb hby d35_1) ?_
  exact kt
 obtain ⟨_, _, ⟨T179, L179, k179, n179⟩, -, X179, ⟨Lc179, hQ179, l179, y179, z179⟩, st179⟩ := Jvm.LawKit.callS X0 hx (y := (⟨"java/lang/Math", "max", "(II)I"⟩ : MethodName)) hown (mvT hZ (hw _ (List.mem_of_getElem? (i := 167) rfl))) (mvT hZ (hw _ (List.mem_of_getElem? (i := 97) rfl))) (mvT hZ (hw _ (List.mem_of_getElem? (i := 98) rfl))) (mvT hZ (hw _ (List.mem_of_getElem? (i := 99) rfl))) (by decide) (backOf (W := 0) (rm20 l Z a0 hw [] (Int32.ofNat f) h0 n0 Z0 ((own_ge0 hf))) hZ (hw _ (List.mem_of_getElem? (i := 99) rfl)) (hw _ (List.mem_of_getElem? (i := 98) rfl)) (by decide) (by decide)) (g := (mkF m 2 #[.val (.ref a1), .val (.int 32), .val (.int (Int32.ofNat f)), .val (.int 7)] [(.int 0), (.int (Int32.ofNat f))])) rfl (by rw [hml]; rfl) (argsL := [(.int (Int32.ofNat f)), (.int 0)]) (rest := []) (lenOf pd_17 rfl) rfl (by show 2 * 0 + _ ≤ _; exact Nat.le_of_eq rfl) (hb hby d35_2) (fun _ _ => ⟨rfl, e0, (by decide : 0 + 0 ≤ _), (by decide : 0 + 0 ≤ _)⟩)
 dsimp only [Pt.U, Pt.locs, Pt.cells, Pt.slots] at X179 l179 y179 z179 st179 hQ179
 rw [l179, y179, z179] at X179
 obtain ⟨rfl, M179, q179_0⟩ := hQ179
 have N179 := Fr.app N0 M179
 refine own_go st179 ?_
 refine own_go (B := T179.setTop (mkF m 8 #[.val (.ref a1), .val (.int 32), .val (.int (Int32.ofNat f)), .val (.int 7)] [(.ref a1), (.int 7)])) (fun tg kt => ?_) ?_
 ·refine XS.istoreN X179.here hx rfl (hb hby d35_5) rfl (l' := #[.val (.ref a1), .val (.int 32), .val (.int (Int32.ofNat f)), .val (.int 7)]) rfl ?_
  refine XS.iloadN X179.here hx rfl (hb hby d35_6) rfl ?_
  refine XS.aloadN X179.here hx rfl (hb hby d35_7) rfl rfl ?_
  exact kt
 obtain ⟨cl180, Ar180, cq180, cS180, cN180, cH180, cG180⟩ := id V_a1
 refine own_go (B := T179.setTop (mkF m 11 #[.val (.ref a1), .val (.int 32), .val (.int (Int32.ofNat f)), .val (.int 7)] [(.int 7), (.int 7)])) (fun tg kt => ?_) ?_
 ·refine X179.arraylength hx (by rw [q179_0]; exact Ar180.1) (State.isArrayOf_alike hZ.alike Ar180.2.1) (g := (mkF m 8 #[.val (.ref a1), .val (.int 32), .val (.int (Int32.ofNat f)), .val (.int 7)] [(.ref a1), (.int 7)])) rfl rfl (hb hby d35_8) _ ?_
  rw [len_of cS180 cN180]
  refine XS.iconst X179.here hx rfl (hb hby d35_9) ?_
  refine XS.ishr X179.here hx rfl (hb hby d35_10) rfl ?_
  exact kt
 obtain ⟨_, _, ⟨T181, L181, k181, n181⟩, -, X181, ⟨Lc181, hQ181, l181, y181, z181⟩, st181⟩ := Jvm.LawKit.callS X179 hx (y := (⟨"java/lang/Math", "min", "(II)I"⟩ : MethodName)) hown (mvT hZ (hw _ (List.mem_of_getElem? (i := 168) rfl))) (mvT hZ (hw _ (List.mem_of_getElem? (i := 101) rfl))) (mvT hZ (hw _ (List.mem_of_getElem? (i := 98) rfl))) (mvT hZ (hw _ (List.mem_of_getElem? (i := 102) rfl))) (by decide) (backOf (W := 0) (rm21_7 l Z a0 hw []  h0 n0 Z0 ) hZ (hw _ (List.mem_of_getElem? (i := 102) rfl)) (hw _ (List.mem_of_getElem? (i := 98) rfl)) (by decide) (by decide)) (g := (mkF m 11 #[.val (.ref a1), .val (.int 32), .val (.int (Int32.ofNat f)), .val (.int 7)] [(.int 7), (.int 7)])) rfl (by rw [hml]; rfl) (argsL := [(.int 7), (.int 7)]) (rest := []) (lenOf pd_17 rfl) rfl (by show 2 * 0 + _ ≤ _; exact Nat.le_of_eq rfl) (hb hby d35_11) (fun _ _ => ⟨rfl, q179_0, (by decide : 0 + 0 ≤ _), (by decide : 0 + 0 ≤ _)⟩)
 dsimp only [Pt.U, Pt.locs, Pt.cells, Pt.slots] at X181 l181 y181 z181 st181 hQ181
 rw [l181, y181, z181] at X181
 obtain ⟨rfl, M181, q181_0⟩ := hQ181
 have N181 := Fr.app N179 M181
 refine own_go st181 ?_
 refine own_go (B := T181.setTop (mkF m 15 #[.val (.ref a1), .val (.int 32), .val (.int (Int32.ofNat f)), .val (.int 7)] [])) (fun tg kt => ?_) ?_
 ·refine XS.istoreN X181.here hx rfl (hb hby d35_14) rfl (l' := #[.val (.ref a1), .val (.int 32), .val (.int (Int32.ofNat f)), .val (.int 7)]) rfl ?_
  exact kt
 by_cases hlt : f < 7
 ·refine own_go (B := T181.setTop (mkF m 32 #[.val (.ref a1), .val (.int 32), .val (.int (Int32.ofNat f)), .val (.int 7)] [(.int 7), (.int (Int32.ofNat f)), (.int 32), (.ref a1)])) (fun tg kt => ?_) ?_
  ·refine XS.iloadN X181.here hx rfl (hb hby d35_15) rfl ?_
   refine XS.iloadN X181.here hx rfl (hb hby d35_16) rfl ?_
   refine XS.icmpYes X181.here hx rfl (pc0 := 17) (pc' := 22) rfl (hb hby d35_17) rfl (tlt (show (Int32.ofNat f) < (7 : Int32) from (own_ltc hlt (by decide) (7 : Int32) (by decide)).2)).1 (by decide) (by decide) ?_
   refine XS.iloadN X181.here hx rfl (hb hby d35_22) rfl ?_
   refine X181.ldcInt hx hown (mvT hZ (hw _ (List.mem_of_getElem? (i := 169) rfl))) (g := (mkF m 23 #[.val (.ref a1), .val (.int 32), .val (.int (Int32.ofNat f)), .val (.int 7)] [(.int 32)])) rfl (hb hby d35_23) _ ?_
   refine XS.icmpNo X181.here hx rfl (hb hby d35_25) rfl (tlt (by decide : (32 : Int32) < (65536 : Int32))).2.1 ?_
   refine XS.aloadN X181.here hx rfl (hb hby d35_28) rfl rfl ?_
   refine XS.iloadN X181.here hx rfl (hb hby d35_29) rfl ?_
   refine XS.iloadN X181.here hx rfl (hb hby d35_30) rfl ?_
   refine XS.iloadN X181.here hx rfl (hb hby d35_31) rfl ?_
   exact kt
  obtain ⟨_, _, ⟨T182, L182, k182, n182⟩, -, X182, ⟨Lc182, hQ182, l182, y182, z182⟩, st182⟩ := Jvm.LawKit.callS X181 hx (y := (⟨"java/lang/StringUTF16", "indexOfChar", "([BIII)I"⟩ : MethodName)) hown (mvT hZ (hw _ (List.mem_of_getElem? (i := 170) rfl))) (mvT hZ (hw _ (List.mem_of_getElem? (i := 171) rfl))) (mvT hZ (hw _ (List.mem_of_getElem? (i := 35) rfl))) (mvT hZ (hw _ (List.mem_of_getElem? (i := 172) rfl))) (by decide) (backOf (W := 0) (rm36 l Z a0 hw [] a1 w_SIOOBE_FORMATTER k1 f cs h0 n0 Z0 S__assertionsDisabled S_HI_BYTE_SHIFT S_LO_BYTE_SHIFT S_SIOOBE_FORMATTER V_a1 (hlt) (hC)) hZ (hw _ (List.mem_of_getElem? (i := 172) rfl)) (hw _ (List.mem_of_getElem? (i := 35) rfl)) (by decide) (by decide)) (g := (mkF m 32 #[.val (.ref a1), .val (.int 32), .val (.int (Int32.ofNat f)), .val (.int 7)] [(.int 7), (.int (Int32.ofNat f)), (.int 32), (.ref a1)])) rfl (by rw [hml]; rfl) (argsL := [(.ref a1), (.int 32), (.int (Int32.ofNat f)), (.int 7)]) (rest := []) (lenOf pd_15 rfl) rfl (by show 2 * 0 + _ ≤ _; exact Nat.le_of_eq rfl) (hb hby d35_32) (fun _ _ => ⟨rfl, q181_0, (by decide : 0 + 0 ≤ _), (by decide : 0 + 0 ≤ _)⟩)
  dsimp only [Pt.U, Pt.locs, Pt.cells, Pt.slots] at X182 l182 y182 z182 st182 hQ182
  rw [l182, y182, z182] at X182
  obtain ⟨rfl, M182, q182_0⟩ := hQ182
  have N182 := Fr.app N181 M182
  refine own_go st182 ?_
  obtain ⟨fs, hr, hrun, hended, hW, hsame⟩ := X182.leave (v := some (.int (own_sk cs (7 - f) f))) (fun h => by rw [Bd.returns] at h; cases h)
  refine ⟨_, _, ?_, hrun, hended, _, _, rfl, ?_, ⟨_, rfl⟩, hW, hsame.mono (by decide) (by decide)⟩
  ·exact retI X182 hx Bd.returns (hb hby d35_35) hr
  ·show Q35 Z a1 w_SIOOBE_FORMATTER k1 f cs h0 n0 _ T182.heap _
   rw [q182_0]
   exact ⟨rfl, N182, rfl⟩
 ·refine own_go (B := T181.setTop (mkF m 21 #[.val (.ref a1), .val (.int 32), .val (.int (Int32.ofNat f)), .val (.int 7)] [(.int (-1))])) (fun tg kt => ?_) ?_
  ·refine XS.iloadN X181.here hx rfl (hb hby d35_15) rfl ?_
   refine XS.iloadN X181.here hx rfl (hb hby d35_16) rfl ?_
   refine XS.icmpNo X181.here hx rfl (hb hby d35_17) rfl (flt (show ¬ ((Int32.ofNat f) < (7 : Int32)) from (own_nlt hlt hf))).1 ?_
   refine XS.iconst X181.here hx rfl (hb hby d35_20) ?_
   exact kt
  obtain ⟨fs, hr, hrun, hended, hW, hsame⟩ := X181.leave (v := some (.int (-1))) (fun h => by rw [Bd.returns] at h; cases h)
  refine ⟨_, _, ?_, hrun, hended, _, _, rfl, ?_, ⟨_, rfl⟩, hW, hsame.mono (by decide) (by decide)⟩
  ·exact retI X181 hx Bd.returns (hb hby d35_21) hr
  ·show Q35 Z a1 w_SIOOBE_FORMATTER k1 f cs h0 n0 _ T181.heap _
   rw [q181_0]
   exact ⟨(congrArg (fun z => some (Value.int z)) (own_sk7 hlt).symm), N181, rfl⟩
theorem pd_18 : parseMethodDescriptor "()Z" = some ⟨[], some .boolean⟩ := by decide +kernel
theorem pd_19 : parseMethodDescriptor "()I" = some ⟨[], some .int⟩ := by decide +kernel
theorem d14_0 : decode jdk_42_method_80_code 0 = .ok (.aload_n 0, 1) := by decide +kernel
theorem d14_1 : decode jdk_42_method_80_code 1 = .ok (.invokevirtual 492, 3) := by decide +kernel
theorem d14_4 : decode jdk_42_method_80_code 4 = .ok (.ifCond .eq 19, 3) := by decide +kernel
theorem d14_7 : decode jdk_42_method_80_code 7 = .ok (.aload_n 0, 1) := by decide +kernel
theorem d14_8 : decode jdk_42_method_80_code 8 = .ok (.getfield 9, 3) := by decide +kernel
theorem d14_11 : decode jdk_42_method_80_code 11 = .ok (.iload_n 1, 1) := by decide +kernel
theorem d14_12 : decode jdk_42_method_80_code 12 = .ok (.iload_n 2, 1) := by decide +kernel
theorem d14_13 : decode jdk_42_method_80_code 13 = .ok (.aload_n 0, 1) := by decide +kernel
theorem d14_14 : decode jdk_42_method_80_code 14 = .ok (.invokevirtual 505, 3) := by decide +kernel
theorem d14_17 : decode jdk_42_method_80_code 17 = .ok (.invokestatic 637, 3) := by decide +kernel
theorem d14_20 : decode jdk_42_method_80_code 20 = .ok (.goto 16, 3) := by decide +kernel
theorem d14_23 : decode jdk_42_method_80_code 23 = .ok (.aload_n 0, 1) := by decide +kernel
theorem d14_24 : decode jdk_42_method_80_code 24 = .ok (.getfield 9, 3) := by decide +kernel
theorem d14_27 : decode jdk_42_method_80_code 27 = .ok (.iload_n 1, 1) := by decide +kernel
theorem d14_28 : decode jdk_42_method_80_code 28 = .ok (.iload_n 2, 1) := by decide +kernel
theorem d14_29 : decode jdk_42_method_80_code 29 = .ok (.aload_n 0, 1) := by decide +kernel
theorem d14_30 : decode jdk_42_method_80_code 30 = .ok (.invokevirtual 505, 3) := by decide +kernel
theorem d14_33 : decode jdk_42_method_80_code 33 = .ok (.invokestatic 640, 3) := by decide +kernel
theorem d14_36 : decode jdk_42_method_80_code 36 = .ok (.ireturn, 1) := by decide +kernel
theorem ef_14 (m : MethodId) (a1 : Addr) : entryFrame m #[(.ref a1), (.int 32), (.int (Int32.ofNat f))] 3 = mkF m 0 #[.val (.ref a1), .val (.int 32), .val (.int (Int32.ofNat f))] [] := by first | (simp [entryFrame, mkF, argsToLocals, Value.category]; done) | rfl
def Q14 (Z : State) (a1 : Addr) (w_COMPACT_STRINGS : Int32) (w_SIOOBE_FORMATTER : Option Addr) (bn : Addr) (kn : ClassId) (kd : Int32) (nb : Int32) (vb : List Value) (cs : Nat → Int32) (f : Nat) (h0 : Heap) (n0 : Nat) (v : Option Value) (h : Heap) (L : List Loc) : Prop := v = some (.int (own_sk cs (7 - f) f)) ∧ Fr n0 L ∧ h = h0
set_option maxRecDepth 65536 in
set_option maxHeartbeats 40000000 in
theorem rm14 (l : Launch) (Z : State) (a0 : Array Value) (hw : ∀ d ∈ tables_1, d.before a0 Z = true) (ws : List Jvm.Cond) (a1 : Addr) (w_COMPACT_STRINGS : Int32) (w_SIOOBE_FORMATTER : Option Addr) (bn : Addr) (kn : ClassId) (kd : Int32) (nb : Int32) (vb : List Value) (cs : Nat → Int32) (f : Nat) (h0 : Heap) (n0 : Nat) (Z0 : n0 ≤ h0.size) (S_COMPACT_STRINGS : Sta Z h0 "java/lang/String" "COMPACT_STRINGS" "Z" (.int w_COMPACT_STRINGS)) (N_COMPACT_STRINGS : ¬ w_COMPACT_STRINGS = (0 : Int32)) (S__assertionsDisabled : Sta Z h0 "java/lang/StringUTF16" "$assertionsDisabled" "Z" (.int 1)) (S_HI_BYTE_SHIFT : Sta Z h0 "java/lang/StringUTF16" "HI_BYTE_SHIFT" "I" (.int 0)) (S_LO_BYTE_SHIFT : Sta Z h0 "java/lang/StringUTF16" "LO_BYTE_SHIFT" "I" (.int 8)) (S_SIOOBE_FORMATTER : Sta Z h0 "jdk/internal/util/Preconditions" "SIOOBE_FORMATTER" "Ljava/util/function/BiFunction;" (own_rv w_SIOOBE_FORMATTER)) (E_a1 : Exa Z h0 a1 "java/lang/String") (Fv_a1 : Fld Z h0 a1 "java/lang/String" "value" "[B" (.ref bn)) (Fc_a1 : Fld Z h0 a1 "java/lang/String" "coder" "B" (.int kd)) (V_bn : Arv Z h0 bn kn .byte nb vb (.int 0)) (hsp : own_sp cs kd nb vb) (hf : f ≤ 7) (hC : ∀ i, i < 7 → 0 ≤ (cs i).toInt ∧ (cs i).toInt ≤ 65535) :
  MetFree l (⟨"java/lang/String", "indexOf", "(II)I"⟩ : MethodName) (head1 (Jvm.Cond.code (⟨"java/lang/String", "indexOf", "(II)I"⟩ : MethodName) jdk_42_method_80_code 3 (some .int) :: ws) ({ frames := 5, cells := 0, slots := 0, locals := 73 } : Room)) (fun a U => a = #[(.ref a1), (.int 32), (.int (Int32.ofNat f))] ∧ Z.Warmed39 U.vm ∧ U.heap = h0) (fun _ _ _ _ _ => True) (fun _ U o U' => ∃ v L, o = .returned v ∧ Q14 Z a1 w_COMPACT_STRINGS w_SIOOBE_FORMATTER bn kn kd nb vb cs f h0 n0 v U'.heap L ∧ FrameEnd U o U' L ({ frames := 5, cells := 0, slots := 0, locals := 73 } : Room).cells ({ frames := 5, cells := 0, slots := 0, locals := 73 } : Room).slots) := by
 refine MetFree.of_bodySF (plainFor_of_name pn_221) hisR ?_
 intro p e s m args below meth c s₁ Bd hml0 hP hK
 obtain ⟨rfl, hZ, hh⟩ := hP
 have hx := Bd.exec
 have hby := Bd.bytes
 have hml : c.maxLocals = 3 := hml0
 have hown : s.vm.findClass "java/lang/String" = some m.cls := findClass_of_methodNamed Bd.named
 have hnm := (name_of_methodNamed Bd.named Bd.method).1
 have X0 : Stand p l e ({ frames := 5, cells := 0, slots := 0, locals := 73 } : Room) s m #[(.ref a1), (.int 32), (.int (Int32.ofNat f))] below meth c s₁ [] 0 0 := Stand.of_body Bd
 have e0 : s₁.heap = h0 := by rw [← hh, Bd.state]; rfl
 have N0 := Fr.nil n0
 refine own_go (B := s₁.setTop (mkF m 0 #[.val (.ref a1), .val (.int 32), .val (.int (Int32.ofNat f))] [])) (fun t k => castTop (ef_14 m a1) k) ?_
 rcases id hsp with ⟨hk_, hn_, hv_, hle⟩ | ⟨hk_, hn_, hv_⟩
 ·refine own_go (B := s₁.setTop (mkF m 1 #[.val (.ref a1), .val (.int 32), .val (.int (Int32.ofNat f))] [(.ref a1)])) (fun tg kt => ?_) ?_
  ·refine XS.aloadN X0.here hx rfl (hb hby d14_0) rfl rfl ?_
   exact kt
  obtain ⟨cq185, kq185, q185a, q185b, q185c⟩ := isOf hZ e0 E_a1
  obtain ⟨_, _, ⟨T185, L185, k185, n185⟩, -, X185, ⟨Lc185, hQ185, l185, y185, z185⟩, st185⟩ := X0.virtualBack hx (y := (⟨"java/lang/String", "isLatin1", "()Z"⟩ : MethodName)) (z := (⟨"java/lang/String", "isLatin1", "()Z"⟩ : MethodName)) hown (mvT hZ (hw _ (List.mem_of_getElem? (i := 74) rfl))) (mvT hZ (hw _ (List.mem_of_getElem? (i := 75) rfl))) (notFace_of_selects (args := #[]) (mvT hZ (hw _ (List.mem_of_getElem? (i := 77) rfl)))) (mvT hZ (hw _ (List.mem_of_getElem? (i := 77) rfl))) (mvT hZ (hw _ (List.mem_of_getElem? (i := 76) rfl))) (by decide) (backOf (W := 0) (rm15 l Z a0 hw [] a1 w_COMPACT_STRINGS bn kn kd nb vb cs h0 n0 Z0 S_COMPACT_STRINGS (by first | assumption | decide) E_a1 Fv_a1 Fc_a1 V_bn (by first | assumption | decide)) hZ (hw _ (List.mem_of_getElem? (i := 78) rfl)) (hw _ (List.mem_of_getElem? (i := 21) rfl)) (by decide) (by decide)) q185a q185c (g := (mkF m 1 #[.val (.ref a1), .val (.int 32), .val (.int (Int32.ofNat f))] [(.ref a1)])) rfl (by rw [hml]; rfl) (Steps.refl _) (argsL := []) (rest := []) (lenOf pd_18 rfl) rfl (by show 2 * 0 + _ ≤ _; exact Nat.le_of_eq rfl) (hb hby d14_1) (fun _ _ => ⟨rfl, e0, (by decide : 0 + 0 ≤ _), (by decide : 0 + 0 ≤ _)⟩)
  dsimp only [Pt.U, Pt.locs, Pt.cells, Pt.slots] at X185 l185 y185 z185 st185 hQ185
  rw [l185, y185, z185] at X185
  obtain ⟨rfl, M185, q185_0⟩ := hQ185
  have N185 := Fr.app N0 M185
  refine own_go (fun t k => st185.trans k) ?_
  refine own_go (B := T185.setTop (mkF m 8 #[.val (.ref a1), .val (.int 32), .val (.int (Int32.ofNat f))] [(.ref a1)])) (fun tg kt => ?_) ?_
  ·refine XS.ifNo X185.here hx rfl (hb hby d14_4) rfl ((if0 _ _).trans (feq (show ¬ ((if kd = (0 : Int32) then (1 : Int32) else 0) = (0 : Int32)) from (by rw [if_pos (show kd = (0 : Int32) from hk_)] <;> decide))).1) ?_
   refine XS.aloadN X185.here hx rfl (hb hby d14_7) rfl rfl ?_
   exact kt
  obtain ⟨T186, X186, e186, st186⟩ := getF X185 hx hZ hown (host := "") (Or.inl (hw _ (List.mem_of_getElem? (i := 46) rfl))) Via.refl q185_0 Fv_a1 (g := (mkF m 8 #[.val (.ref a1), .val (.int 32), .val (.int (Int32.ofNat f))] [(.ref a1)])) rfl rfl (hb hby d14_8)
  refine own_go st186 ?_
  refine own_go (B := T186.setTop (mkF m 14 #[.val (.ref a1), .val (.int 32), .val (.int (Int32.ofNat f))] [(.ref a1), (.int (Int32.ofNat f)), (.int 32), (.ref bn)])) (fun tg kt => ?_) ?_
  ·refine XS.iloadN X186.here hx rfl (hb hby d14_11) rfl ?_
   refine XS.iloadN X186.here hx rfl (hb hby d14_12) rfl ?_
   refine XS.aloadN X186.here hx rfl (hb hby d14_13) rfl rfl ?_
   exact kt
  obtain ⟨cq187, kq187, q187a, q187b, q187c⟩ := isOf hZ e186 E_a1
  obtain ⟨_, _, ⟨T187, L187, k187, n187⟩, -, X187, ⟨Lc187, hQ187, l187, y187, z187⟩, st187⟩ := X186.virtualBack hx (y := (⟨"java/lang/String", "length", "()I"⟩ : MethodName)) (z := (⟨"java/lang/String", "length", "()I"⟩ : MethodName)) hown (mvT hZ (hw _ (List.mem_of_getElem? (i := 79) rfl))) (mvT hZ (hw _ (List.mem_of_getElem? (i := 80) rfl))) (notFace_of_selects (args := #[]) (mvT hZ (hw _ (List.mem_of_getElem? (i := 82) rfl)))) (mvT hZ (hw _ (List.mem_of_getElem? (i := 82) rfl))) (mvT hZ (hw _ (List.mem_of_getElem? (i := 81) rfl))) (by decide) (backOf (W := 3) (rm16 l Z a0 hw [] a1 w_COMPACT_STRINGS bn kn kd nb vb cs h0 n0 Z0 S_COMPACT_STRINGS (by first | assumption | decide) E_a1 Fv_a1 Fc_a1 V_bn (by first | assumption | decide)) hZ (hw _ (List.mem_of_getElem? (i := 83) rfl)) (hw _ (List.mem_of_getElem? (i := 21) rfl)) (by decide) (by decide)) q187a q187c (g := (mkF m 14 #[.val (.ref a1), .val (.int 32), .val (.int (Int32.ofNat f))] [(.ref a1), (.int (Int32.ofNat f)), (.int 32), (.ref bn)])) rfl (by rw [hml]; rfl) (Steps.refl _) (argsL := []) (rest := [(.int (Int32.ofNat f)), (.int 32), (.ref bn)]) (lenOf pd_19 rfl) rfl (by show 2 * 0 + _ ≤ _; exact Nat.le_of_eq rfl) (hb hby d14_14) (fun _ _ => ⟨rfl, e186, (by decide : 0 + 0 ≤ _), (by decide : 0 + 0 ≤ _)⟩)
  dsimp only [Pt.U, Pt.locs, Pt.cells, Pt.slots] at X187 l187 y187 z187 st187 hQ187
  rw [l187, y187, z187] at X187
  obtain ⟨rfl, M187, q187_0⟩ := hQ187
  have N187 := Fr.app N185 M187
  refine own_go (fun t k => st187.trans k) ?_
  have V188 : Arv Z h0 bn kn .byte (7 : Int32) (own_tab 7 (own_l cs)) (.int 0) := by have q := V_bn; rw [hn_, hv_] at q; exact q
  obtain ⟨_, _, ⟨T189, L189, k189, n189⟩, -, X189, ⟨Lc189, hQ189, l189, y189, z189⟩, st189⟩ := Jvm.LawKit.callS X187 hx (y := (⟨"java/lang/StringLatin1", "indexOf", "([BIII)I"⟩ : MethodName)) hown (mvT hZ (hw _ (List.mem_of_getElem? (i := 89) rfl))) (mvT hZ (hw _ (List.mem_of_getElem? (i := 90) rfl))) (mvT hZ (hw _ (List.mem_of_getElem? (i := 91) rfl))) (mvT hZ (hw _ (List.mem_of_getElem? (i := 92) rfl))) (by decide) (backOf (W := 0) (rm18 l Z a0 hw [] bn kn f cs h0 n0 Z0 V188 (hf) (hle) (hC)) hZ (hw _ (List.mem_of_getElem? (i := 92) rfl)) (hw _ (List.mem_of_getElem? (i := 91) rfl)) (by decide) (by decide)) (g := (mkF m 17 #[.val (.ref a1), .val (.int 32), .val (.int (Int32.ofNat f))] [(.int 7), (.int (Int32.ofNat f)), (.int 32), (.ref bn)])) rfl (by rw [hml]; rfl) (argsL := [(.ref bn), (.int 32), (.int (Int32.ofNat f)), (.int 7)]) (rest := []) (lenOf pd_15 rfl) rfl (by show 2 * 0 + _ ≤ _; exact Nat.le_of_eq rfl) (hb hby d14_17) (fun _ _ => ⟨rfl, q187_0, (by decide : 0 + 0 ≤ _), (by decide : 0 + 0 ≤ _)⟩)
  dsimp only [Pt.U, Pt.locs, Pt.cells, Pt.slots] at X189 l189 y189 z189 st189 hQ189
  rw [l189, y189, z189] at X189
  obtain ⟨rfl, M189, q189_0⟩ := hQ189
  have N189 := Fr.app N187 M189
  refine own_go st189 ?_
  refine own_go (B := T189.setTop (mkF m 36 #[.val (.ref a1), .val (.int 32), .val (.int (Int32.ofNat f))] [(.int (own_sk cs (7 - f) f))])) (fun tg kt => ?_) ?_
  ·refine XS.goto X189.here hx rfl (pc0 := 20) (pc' := 36) rfl (hb hby d14_20) (by decide) (by decide) ?_
   exact kt
  obtain ⟨fs, hr, hrun, hended, hW, hsame⟩ := X189.leave (v := some (.int (own_sk cs (7 - f) f))) (fun h => by rw [Bd.returns] at h; cases h)
  refine ⟨_, _, ?_, hrun, hended, _, _, rfl, ?_, ⟨_, rfl⟩, hW, hsame.mono (by decide) (by decide)⟩
  ·exact retI X189 hx Bd.returns (hb hby d14_36) hr
  ·show Q14 Z a1 w_COMPACT_STRINGS w_SIOOBE_FORMATTER bn kn kd nb vb cs f h0 n0 _ T189.heap _
   rw [q189_0]
   exact ⟨rfl, N189, rfl⟩
 ·refine own_go (B := s₁.setTop (mkF m 1 #[.val (.ref a1), .val (.int 32), .val (.int (Int32.ofNat f))] [(.ref a1)])) (fun tg kt => ?_) ?_
  ·refine XS.aloadN X0.here hx rfl (hb hby d14_0) rfl rfl ?_
   exact kt
  obtain ⟨cq191, kq191, q191a, q191b, q191c⟩ := isOf hZ e0 E_a1
  obtain ⟨_, _, ⟨T191, L191, k191, n191⟩, -, X191, ⟨Lc191, hQ191, l191, y191, z191⟩, st191⟩ := X0.virtualBack hx (y := (⟨"java/lang/String", "isLatin1", "()Z"⟩ : MethodName)) (z := (⟨"java/lang/String", "isLatin1", "()Z"⟩ : MethodName)) hown (mvT hZ (hw _ (List.mem_of_getElem? (i := 74) rfl))) (mvT hZ (hw _ (List.mem_of_getElem? (i := 75) rfl))) (notFace_of_selects (args := #[]) (mvT hZ (hw _ (List.mem_of_getElem? (i := 77) rfl)))) (mvT hZ (hw _ (List.mem_of_getElem? (i := 77) rfl))) (mvT hZ (hw _ (List.mem_of_getElem? (i := 76) rfl))) (by decide) (backOf (W := 0) (rm15 l Z a0 hw [] a1 w_COMPACT_STRINGS bn kn kd nb vb cs h0 n0 Z0 S_COMPACT_STRINGS (by first | assumption | decide) E_a1 Fv_a1 Fc_a1 V_bn (by first | assumption | decide)) hZ (hw _ (List.mem_of_getElem? (i := 78) rfl)) (hw _ (List.mem_of_getElem? (i := 21) rfl)) (by decide) (by decide)) q191a q191c (g := (mkF m 1 #[.val (.ref a1), .val (.int 32), .val (.int (Int32.ofNat f))] [(.ref a1)])) rfl (by rw [hml]; rfl) (Steps.refl _) (argsL := []) (rest := []) (lenOf pd_18 rfl) rfl (by show 2 * 0 + _ ≤ _; exact Nat.le_of_eq rfl) (hb hby d14_1) (fun _ _ => ⟨rfl, e0, (by decide : 0 + 0 ≤ _), (by decide : 0 + 0 ≤ _)⟩)
  dsimp only [Pt.U, Pt.locs, Pt.cells, Pt.slots] at X191 l191 y191 z191 st191 hQ191
  rw [l191, y191, z191] at X191
  obtain ⟨rfl, M191, q191_0⟩ := hQ191
  have N191 := Fr.app N0 M191
  refine own_go (fun t k => st191.trans k) ?_
  refine own_go (B := T191.setTop (mkF m 24 #[.val (.ref a1), .val (.int 32), .val (.int (Int32.ofNat f))] [(.ref a1)])) (fun tg kt => ?_) ?_
  ·refine XS.ifYes X191.here hx rfl (pc0 := 4) (pc' := 23) rfl (hb hby d14_4) rfl ((if0 _ _).trans (teq (show (if kd = (0 : Int32) then (1 : Int32) else 0) = (0 : Int32) from (by rw [if_neg (show ¬ (kd = (0 : Int32)) from (by rw [hk_]; decide))] <;> decide))).1) (by decide) (by decide) ?_
   refine XS.aloadN X191.here hx rfl (hb hby d14_23) rfl rfl ?_
   exact kt
  obtain ⟨T192, X192, e192, st192⟩ := getF X191 hx hZ hown (host := "") (Or.inl (hw _ (List.mem_of_getElem? (i := 46) rfl))) Via.refl q191_0 Fv_a1 (g := (mkF m 24 #[.val (.ref a1), .val (.int 32), .val (.int (Int32.ofNat f))] [(.ref a1)])) rfl rfl (hb hby d14_24)
  refine own_go st192 ?_
  refine own_go (B := T192.setTop (mkF m 30 #[.val (.ref a1), .val (.int 32), .val (.int (Int32.ofNat f))] [(.ref a1), (.int (Int32.ofNat f)), (.int 32), (.ref bn)])) (fun tg kt => ?_) ?_
  ·refine XS.iloadN X192.here hx rfl (hb hby d14_27) rfl ?_
   refine XS.iloadN X192.here hx rfl (hb hby d14_28) rfl ?_
   refine XS.aloadN X192.here hx rfl (hb hby d14_29) rfl rfl ?_
   exact kt
  obtain ⟨cq193, kq193, q193a, q193b, q193c⟩ := isOf hZ e192 E_a1
  obtain ⟨_, _, ⟨T193, L193, k193, n193⟩, -, X193, ⟨Lc193, hQ193, l193, y193, z193⟩, st193⟩ := X192.virtualBack hx (y := (⟨"java/lang/String", "length", "()I"⟩ : MethodName)) (z := (⟨"java/lang/String", "length", "()I"⟩ : MethodName)) hown (mvT hZ (hw _ (List.mem_of_getElem? (i := 79) rfl))) (mvT hZ (hw _ (List.mem_of_getElem? (i := 80) rfl))) (notFace_of_selects (args := #[]) (mvT hZ (hw _ (List.mem_of_getElem? (i := 82) rfl)))) (mvT hZ (hw _ (List.mem_of_getElem? (i := 82) rfl))) (mvT hZ (hw _ (List.mem_of_getElem? (i := 81) rfl))) (by decide) (backOf (W := 3) (rm16 l Z a0 hw [] a1 w_COMPACT_STRINGS bn kn kd nb vb cs h0 n0 Z0 S_COMPACT_STRINGS (by first | assumption | decide) E_a1 Fv_a1 Fc_a1 V_bn (by first | assumption | decide)) hZ (hw _ (List.mem_of_getElem? (i := 83) rfl)) (hw _ (List.mem_of_getElem? (i := 21) rfl)) (by decide) (by decide)) q193a q193c (g := (mkF m 30 #[.val (.ref a1), .val (.int 32), .val (.int (Int32.ofNat f))] [(.ref a1), (.int (Int32.ofNat f)), (.int 32), (.ref bn)])) rfl (by rw [hml]; rfl) (Steps.refl _) (argsL := []) (rest := [(.int (Int32.ofNat f)), (.int 32), (.ref bn)]) (lenOf pd_19 rfl) rfl (by show 2 * 0 + _ ≤ _; exact Nat.le_of_eq rfl) (hb hby d14_30) (fun _ _ => ⟨rfl, e192, (by decide : 0 + 0 ≤ _), (by decide : 0 + 0 ≤ _)⟩)
  dsimp only [Pt.U, Pt.locs, Pt.cells, Pt.slots] at X193 l193 y193 z193 st193 hQ193
  rw [l193, y193, z193] at X193
  obtain ⟨rfl, M193, q193_0⟩ := hQ193
  have N193 := Fr.app N191 M193
  refine own_go (fun t k => st193.trans k) ?_
  have V194 : Arv Z h0 bn kn .byte (14 : Int32) (own_tab 14 (own_u cs)) (.int 0) := by have q := V_bn; rw [hn_, hv_] at q; exact q
  obtain ⟨_, _, ⟨T195, L195, k195, n195⟩, -, X195, ⟨Lc195, hQ195, l195, y195, z195⟩, st195⟩ := Jvm.LawKit.callS X193 hx (y := (⟨"java/lang/StringUTF16", "indexOf", "([BIII)I"⟩ : MethodName)) hown (mvT hZ (hw _ (List.mem_of_getElem? (i := 164) rfl))) (mvT hZ (hw _ (List.mem_of_getElem? (i := 165) rfl))) (mvT hZ (hw _ (List.mem_of_getElem? (i := 35) rfl))) (mvT hZ (hw _ (List.mem_of_getElem? (i := 166) rfl))) (by decide) (backOf (W := 0) (rm35 l Z a0 hw [] bn w_SIOOBE_FORMATTER kn f cs h0 n0 Z0 S__assertionsDisabled S_HI_BYTE_SHIFT S_LO_BYTE_SHIFT S_SIOOBE_FORMATTER V194 (hf) (hC)) hZ (hw _ (List.mem_of_getElem? (i := 166) rfl)) (hw _ (List.mem_of_getElem? (i := 35) rfl)) (by decide) (by decide)) (g := (mkF m 33 #[.val (.ref a1), .val (.int 32), .val (.int (Int32.ofNat f))] [(.int 7), (.int (Int32.ofNat f)), (.int 32), (.ref bn)])) rfl (by rw [hml]; rfl) (argsL := [(.ref bn), (.int 32), (.int (Int32.ofNat f)), (.int 7)]) (rest := []) (lenOf pd_15 rfl) rfl (by show 2 * 0 + _ ≤ _; exact Nat.le_of_eq rfl) (hb hby d14_33) (fun _ _ => ⟨rfl, q193_0, (by decide : 0 + 0 ≤ _), (by decide : 0 + 0 ≤ _)⟩)
  dsimp only [Pt.U, Pt.locs, Pt.cells, Pt.slots] at X195 l195 y195 z195 st195 hQ195
  rw [l195, y195, z195] at X195
  obtain ⟨rfl, M195, q195_0⟩ := hQ195
  have N195 := Fr.app N193 M195
  refine own_go st195 ?_
  obtain ⟨fs, hr, hrun, hended, hW, hsame⟩ := X195.leave (v := some (.int (own_sk cs (7 - f) f))) (fun h => by rw [Bd.returns] at h; cases h)
  refine ⟨_, _, ?_, hrun, hended, _, _, rfl, ?_, ⟨_, rfl⟩, hW, hsame.mono (by decide) (by decide)⟩
  ·exact retI X195 hx Bd.returns (hb hby d14_36) hr
  ·show Q14 Z a1 w_COMPACT_STRINGS w_SIOOBE_FORMATTER bn kn kd nb vb cs f h0 n0 _ T195.heap _
   rw [q195_0]
   exact ⟨rfl, N195, rfl⟩
theorem d13_0 : decode jdk_42_method_79_code 0 = .ok (.aload_n 0, 1) := by decide +kernel
theorem d13_1 : decode jdk_42_method_79_code 1 = .ok (.iload_n 1, 1) := by decide +kernel
theorem d13_2 : decode jdk_42_method_79_code 2 = .ok (.iconst 0, 1) := by decide +kernel
theorem d13_3 : decode jdk_42_method_79_code 3 = .ok (.invokevirtual 633, 3) := by decide +kernel
theorem d13_6 : decode jdk_42_method_79_code 6 = .ok (.ireturn, 1) := by decide +kernel
theorem ef_13 (m : MethodId) (a1 : Addr) : entryFrame m #[(.ref a1), (.int 32)] 2 = mkF m 0 #[.val (.ref a1), .val (.int 32)] [] := by first | (simp [entryFrame, mkF, argsToLocals, Value.category]; done) | rfl
def Q13 (Z : State) (a1 : Addr) (w_COMPACT_STRINGS : Int32) (w_SIOOBE_FORMATTER : Option Addr) (bn : Addr) (kn : ClassId) (kd : Int32) (nb : Int32) (vb : List Value) (cs : Nat → Int32) (h0 : Heap) (n0 : Nat) (v : Option Value) (h : Heap) (L : List Loc) : Prop := v = some (.int (own_sk cs (7 - 0) 0)) ∧ Fr n0 L ∧ h = h0
set_option maxRecDepth 65536 in
set_option maxHeartbeats 40000000 in
theorem rm13 (l : Launch) (Z : State) (a0 : Array Value) (hw : ∀ d ∈ tables_1, d.before a0 Z = true) (ws : List Jvm.Cond) (a1 : Addr) (w_COMPACT_STRINGS : Int32) (w_SIOOBE_FORMATTER : Option Addr) (bn : Addr) (kn : ClassId) (kd : Int32) (nb : Int32) (vb : List Value) (cs : Nat → Int32) (h0 : Heap) (n0 : Nat) (Z0 : n0 ≤ h0.size) (S_COMPACT_STRINGS : Sta Z h0 "java/lang/String" "COMPACT_STRINGS" "Z" (.int w_COMPACT_STRINGS)) (N_COMPACT_STRINGS : ¬ w_COMPACT_STRINGS = (0 : Int32)) (S__assertionsDisabled : Sta Z h0 "java/lang/StringUTF16" "$assertionsDisabled" "Z" (.int 1)) (S_HI_BYTE_SHIFT : Sta Z h0 "java/lang/StringUTF16" "HI_BYTE_SHIFT" "I" (.int 0)) (S_LO_BYTE_SHIFT : Sta Z h0 "java/lang/StringUTF16" "LO_BYTE_SHIFT" "I" (.int 8)) (S_SIOOBE_FORMATTER : Sta Z h0 "jdk/internal/util/Preconditions" "SIOOBE_FORMATTER" "Ljava/util/function/BiFunction;" (own_rv w_SIOOBE_FORMATTER)) (E_a1 : Exa Z h0 a1 "java/lang/String") (Fv_a1 : Fld Z h0 a1 "java/lang/String" "value" "[B" (.ref bn)) (Fc_a1 : Fld Z h0 a1 "java/lang/String" "coder" "B" (.int kd)) (V_bn : Arv Z h0 bn kn .byte nb vb (.int 0)) (hsp : own_sp cs kd nb vb) (hC : ∀ i, i < 7 → 0 ≤ (cs i).toInt ∧ (cs i).toInt ≤ 65535) :
  MetFree l (⟨"java/lang/String", "indexOf", "(I)I"⟩ : MethodName) (head1 (Jvm.Cond.code (⟨"java/lang/String", "indexOf", "(I)I"⟩ : MethodName) jdk_42_method_79_code 2 (some .int) :: ws) ({ frames := 6, cells := 0, slots := 0, locals := 87 } : Room)) (fun a U => a = #[(.ref a1), (.int 32)] ∧ Z.Warmed39 U.vm ∧ U.heap = h0) (fun _ _ _ _ _ => True) (fun _ U o U' => ∃ v L, o = .returned v ∧ Q13 Z a1 w_COMPACT_STRINGS w_SIOOBE_FORMATTER bn kn kd nb vb cs h0 n0 v U'.heap L ∧ FrameEnd U o U' L ({ frames := 6, cells := 0, slots := 0, locals := 87 } : Room).cells ({ frames := 6, cells := 0, slots := 0, locals := 87 } : Room).slots) := by
 refine MetFree.of_bodySF (plainFor_of_name pn_221) hisR ?_
 intro p e s m args below meth c s₁ Bd hml0 hP hK
 obtain ⟨rfl, hZ, hh⟩ := hP
 have hx := Bd.exec
 have hby := Bd.bytes
 have hml : c.maxLocals = 2 := hml0
 have hown : s.vm.findClass "java/lang/String" = some m.cls := findClass_of_methodNamed Bd.named
 have hnm := (name_of_methodNamed Bd.named Bd.method).1
 have X0 : Stand p l e ({ frames := 6, cells := 0, slots := 0, locals := 87 } : Room) s m #[(.ref a1), (.int 32)] below meth c s₁ [] 0 0 := Stand.of_body Bd
 have e0 : s₁.heap = h0 := by rw [← hh, Bd.state]; rfl
 have N0 := Fr.nil n0
 refine own_go (B := s₁.setTop (mkF m 0 #[.val (.ref a1), .val (.int 32)] [])) (fun t k => castTop (ef_13 m a1) k) ?_
 refine own_go (B := s₁.setTop (mkF m 3 #[.val (.ref a1), .val (.int 32)] [(.int 0), (.int 32), (.ref a1)])) (fun tg kt => ?_) ?_
 ·refine XS.aloadN X0.here hx rfl (hb hby d13_0) rfl rfl ?_
  refine XS.iloadN X0.here hx rfl (hb hby d13_1) rfl ?_
  refine XS.iconst X0.here hx rfl (hb hby d13_2) ?_
  exact kt
 rw [show (0 : Int32) = (Int32.ofNat 0) from rfl]
 obtain ⟨cq197, kq197, q197a, q197b, q197c⟩ := isOf hZ e0 E_a1
 obtain ⟨_, _, ⟨T197, L197, k197, n197⟩, -, X197, ⟨Lc197, hQ197, l197, y197, z197⟩, st197⟩ := X0.virtualBack hx (y := (⟨"java/lang/String", "indexOf", "(II)I"⟩ : MethodName)) (z := (⟨"java/lang/String", "indexOf", "(II)I"⟩ : MethodName)) hown (mvT hZ (hw _ (List.mem_of_getElem? (i := 69) rfl))) (mvT hZ (hw _ (List.mem_of_getElem? (i := 70) rfl))) (notFace_of_selects (args := #[]) (mvT hZ (hw _ (List.mem_of_getElem? (i := 72) rfl)))) (mvT hZ (hw _ (List.mem_of_getElem? (i := 72) rfl))) (mvT hZ (hw _ (List.mem_of_getElem? (i := 71) rfl))) (by decide) (backOf (W := 0) (rm14 l Z a0 hw [] a1 w_COMPACT_STRINGS w_SIOOBE_FORMATTER bn kn kd nb vb cs 0 h0 n0 Z0 S_COMPACT_STRINGS (by first | assumption | decide) S__assertionsDisabled S_HI_BYTE_SHIFT S_LO_BYTE_SHIFT S_SIOOBE_FORMATTER E_a1 Fv_a1 Fc_a1 V_bn (by first | assumption | decide) ((by decide)) (hC)) hZ (hw _ (List.mem_of_getElem? (i := 73) rfl)) (hw _ (List.mem_of_getElem? (i := 21) rfl)) (by decide) (by decide)) q197a q197c (g := (mkF m 3 #[.val (.ref a1), .val (.int 32)] [(.int (Int32.ofNat 0)), (.int 32), (.ref a1)])) rfl (by rw [hml]; rfl) (Steps.refl _) (argsL := [(.int 32), (.int (Int32.ofNat 0))]) (rest := []) (lenOf pd_17 rfl) rfl (by show 2 * 0 + _ ≤ _; exact Nat.le_of_eq rfl) (hb hby d13_3) (fun _ _ => ⟨rfl, e0, (by decide : 0 + 0 ≤ _), (by decide : 0 + 0 ≤ _)⟩)
 dsimp only [Pt.U, Pt.locs, Pt.cells, Pt.slots] at X197 l197 y197 z197 st197 hQ197
 rw [l197, y197, z197] at X197
 obtain ⟨rfl, M197, q197_0⟩ := hQ197
 have N197 := Fr.app N0 M197
 refine own_go (fun t k => st197.trans k) ?_
 obtain ⟨fs, hr, hrun, hended, hW, hsame⟩ := X197.leave (v := some (.int (own_sk cs (7 - 0) 0))) (fun h => by rw [Bd.returns] at h; cases h)
 refine ⟨_, _, ?_, hrun, hended, _, _, rfl, ?_, ⟨_, rfl⟩, hW, hsame.mono (by decide) (by decide)⟩
 ·exact retI X197 hx Bd.returns (hb hby d13_6) hr
 ·show Q13 Z a1 w_COMPACT_STRINGS w_SIOOBE_FORMATTER bn kn kd nb vb cs h0 n0 _ T197.heap _
  rw [q197_0]
  exact ⟨rfl, N197, rfl⟩
theorem d27_0 : decode jdk_43_method_2_code 0 = .ok (.iload_n 1, 1) := by decide +kernel
theorem d27_1 : decode jdk_43_method_2_code 1 = .ok (.aload_n 0, 1) := by decide +kernel
theorem d27_2 : decode jdk_43_method_2_code 2 = .ok (.arraylength, 1) := by decide +kernel
theorem d27_3 : decode jdk_43_method_2_code 3 = .ok (.invokestatic 9, 3) := by decide +kernel
theorem d27_6 : decode jdk_43_method_2_code 6 = .ok (.aload_n 0, 1) := by decide +kernel
theorem d27_7 : decode jdk_43_method_2_code 7 = .ok (.iload_n 1, 1) := by decide +kernel
theorem d27_8 : decode jdk_43_method_2_code 8 = .ok (.baload, 1) := by decide +kernel
theorem d27_9 : decode jdk_43_method_2_code 9 = .ok (.sipush 255, 3) := by decide +kernel
theorem d27_12 : decode jdk_43_method_2_code 12 = .ok (.iand, 1) := by decide +kernel
theorem d27_13 : decode jdk_43_method_2_code 13 = .ok (.i2c, 1) := by decide +kernel
theorem d27_14 : decode jdk_43_method_2_code 14 = .ok (.ireturn, 1) := by decide +kernel
theorem ef_27 (m : MethodId) (a1 : Addr) : entryFrame m #[(.ref a1), (.int (Int32.ofNat t))] 2 = mkF m 0 #[.val (.ref a1), .val (.int (Int32.ofNat t))] [] := by first | (simp [entryFrame, mkF, argsToLocals, Value.category]; done) | rfl
def Q27 (Z : State) (a1 : Addr) (w_SIOOBE_FORMATTER : Option Addr) (k1 : ClassId) (t : Nat) (cs : Nat → Int32) (h0 : Heap) (n0 : Nat) (v : Option Value) (h : Heap) (L : List Loc) : Prop := v = some (.int (cs t)) ∧ Fr n0 L ∧ h = h0
set_option maxRecDepth 65536 in
set_option maxHeartbeats 40000000 in
theorem rm27 (l : Launch) (Z : State) (a0 : Array Value) (hw : ∀ d ∈ tables_1, d.before a0 Z = true) (ws : List Jvm.Cond) (a1 : Addr) (w_SIOOBE_FORMATTER : Option Addr) (k1 : ClassId) (t : Nat) (cs : Nat → Int32) (h0 : Heap) (n0 : Nat) (Z0 : n0 ≤ h0.size) (S_SIOOBE_FORMATTER : Sta Z h0 "jdk/internal/util/Preconditions" "SIOOBE_FORMATTER" "Ljava/util/function/BiFunction;" (own_rv w_SIOOBE_FORMATTER)) (V_a1 : Arv Z h0 a1 k1 .byte (7 : Int32) (own_tab 7 (own_l cs)) (.int 0)) (ht : t < 7) (hle : ∀ i, i < 7 → ¬ (255 : Int32) < cs i) (hC : ∀ i, i < 7 → 0 ≤ (cs i).toInt ∧ (cs i).toInt ≤ 65535) :
  MetFree l (⟨"java/lang/StringLatin1", "charAt", "([BI)C"⟩ : MethodName) (head1 (Jvm.Cond.code (⟨"java/lang/StringLatin1", "charAt", "([BI)C"⟩ : MethodName) jdk_43_method_2_code 2 (some .char) :: ws) ({ frames := 2, cells := 0, slots := 0, locals := 27 } : Room)) (fun a U => a = #[(.ref a1), (.int (Int32.ofNat t))] ∧ Z.Warmed39 U.vm ∧ U.heap = h0) (fun _ _ _ _ _ => True) (fun _ U o U' => ∃ v L, o = .returned v ∧ Q27 Z a1 w_SIOOBE_FORMATTER k1 t cs h0 n0 v U'.heap L ∧ FrameEnd U o U' L ({ frames := 2, cells := 0, slots := 0, locals := 27 } : Room).cells ({ frames := 2, cells := 0, slots := 0, locals := 27 } : Room).slots) := by
 refine MetFree.of_bodySF (plainFor_of_name pn_279) hisR ?_
 intro p e s m args below meth c s₁ Bd hml0 hP hK
 obtain ⟨rfl, hZ, hh⟩ := hP
 have hx := Bd.exec
 have hby := Bd.bytes
 have hml : c.maxLocals = 2 := hml0
 have hown : s.vm.findClass "java/lang/StringLatin1" = some m.cls := findClass_of_methodNamed Bd.named
 have hnm := (name_of_methodNamed Bd.named Bd.method).1
 have X0 : Stand p l e ({ frames := 2, cells := 0, slots := 0, locals := 27 } : Room) s m #[(.ref a1), (.int (Int32.ofNat t))] below meth c s₁ [] 0 0 := Stand.of_body Bd
 have e0 : s₁.heap = h0 := by rw [← hh, Bd.state]; rfl
 have N0 := Fr.nil n0
 refine own_go (B := s₁.setTop (mkF m 0 #[.val (.ref a1), .val (.int (Int32.ofNat t))] [])) (fun t k => castTop (ef_27 m a1) k) ?_
 refine own_go (B := s₁.setTop (mkF m 2 #[.val (.ref a1), .val (.int (Int32.ofNat t))] [(.ref a1), (.int (Int32.ofNat t))])) (fun tg kt => ?_) ?_
 ·refine XS.iloadN X0.here hx rfl (hb hby d27_0) rfl ?_
  refine XS.aloadN X0.here hx rfl (hb hby d27_1) rfl rfl ?_
  exact kt
 obtain ⟨cl199, Ar199, cq199, cS199, cN199, cH199, cG199⟩ := id V_a1
 refine own_go (B := s₁.setTop (mkF m 3 #[.val (.ref a1), .val (.int (Int32.ofNat t))] [(.int 7), (.int (Int32.ofNat t))])) (fun tg kt => ?_) ?_
 ·refine X0.arraylength hx (by rw [e0]; exact Ar199.1) (State.isArrayOf_alike hZ.alike Ar199.2.1) (g := (mkF m 2 #[.val (.ref a1), .val (.int (Int32.ofNat t))] [(.ref a1), (.int (Int32.ofNat t))])) rfl rfl (hb hby d27_2) _ ?_
  rw [len_of cS199 cN199]
  exact kt
 obtain ⟨_, _, ⟨T200, L200, k200, n200⟩, -, X200, ⟨Lc200, hQ200, l200, y200, z200⟩, st200⟩ := Jvm.LawKit.callS X0 hx (y := (⟨"java/lang/String", "checkIndex", "(II)V"⟩ : MethodName)) hown (mvT hZ (hw _ (List.mem_of_getElem? (i := 136) rfl))) (mvT hZ (hw _ (List.mem_of_getElem? (i := 137) rfl))) (mvT hZ (hw _ (List.mem_of_getElem? (i := 21) rfl))) (mvT hZ (hw _ (List.mem_of_getElem? (i := 138) rfl))) (by decide) (backOf (W := 0) (rm28 l Z a0 hw [] w_SIOOBE_FORMATTER t h0 n0 Z0 S_SIOOBE_FORMATTER (by first | assumption | decide)) hZ (hw _ (List.mem_of_getElem? (i := 138) rfl)) (hw _ (List.mem_of_getElem? (i := 21) rfl)) (by decide) (by decide)) (g := (mkF m 3 #[.val (.ref a1), .val (.int (Int32.ofNat t))] [(.int 7), (.int (Int32.ofNat t))])) rfl (by rw [hml]; rfl) (argsL := [(.int (Int32.ofNat t)), (.int 7)]) (rest := []) (lenOf pd_11 rfl) rfl (by show 2 * 0 + _ ≤ _; exact Nat.le_of_eq rfl) (hb hby d27_3) (fun _ _ => ⟨rfl, e0, (by decide : 0 + 0 ≤ _), (by decide : 0 + 0 ≤ _)⟩)
 dsimp only [Pt.U, Pt.locs, Pt.cells, Pt.slots] at X200 l200 y200 z200 st200 hQ200
 rw [l200, y200, z200] at X200
 obtain ⟨rfl, M200, q200_0⟩ := hQ200
 have N200 := Fr.app N0 M200
 refine own_go st200 ?_
 refine own_go (B := T200.setTop (mkF m 8 #[.val (.ref a1), .val (.int (Int32.ofNat t))] [(.int (Int32.ofNat t)), (.ref a1)])) (fun tg kt => ?_) ?_
 ·refine XS.aloadN X200.here hx rfl (hb hby d27_6) rfl rfl ?_
  refine XS.iloadN X200.here hx rfl (hb hby d27_7) rfl ?_
  exact kt
 obtain ⟨cl201, Ar201, cq201, cS201, cN201, cH201, cG201⟩ := id V_a1
 have hin201 := inb_of (j := (Int32.ofNat t)) cS201 (own_ltc ht (by decide) _ (by decide))
 have hat201 : cl201.slots[((Int32.ofNat t)).toNatClampNeg]? = some (.int (own_l cs t)) := Has.at cH201 hin201 (own_at (own_l cs) _ (own_toInt (by omega)) (by omega))
 refine own_go (B := T200.setTop (mkF m 14 #[.val (.ref a1), .val (.int (Int32.ofNat t))] [(.int (((own_l cs t) &&& (255 : Int32)).toUInt32.toUInt16.toUInt32.toInt32))])) (fun tg kt => ?_) ?_
 ·refine X200.baloadBytes hx (j := (Int32.ofNat t)) (v := (.int (own_l cs t))) (by rw [q200_0]; exact Ar201.1) (State.isArrayOf_alike hZ.alike Ar201.2.1) Ar201.2.2 hin201 hat201 (g := (mkF m 8 #[.val (.ref a1), .val (.int (Int32.ofNat t))] [(.int (Int32.ofNat t)), (.ref a1)])) rfl rfl (hb hby d27_8) _ ?_
  refine XS.sipush X200.here hx rfl (hb hby d27_9) ?_
  refine XS.iand X200.here hx rfl (hb hby d27_12) rfl ?_
  refine XS.i2c X200.here hx rfl (hb hby d27_13) rfl ?_
  exact kt
 obtain ⟨fs, hr, hrun, hended, hW, hsame⟩ := X200.leave (v := some (.int (nar .char (((own_l cs t) &&& (255 : Int32)).toUInt32.toUInt16.toUInt32.toInt32)))) (fun h => by rw [Bd.returns] at h; cases h)
 refine ⟨_, _, ?_, hrun, hended, _, _, rfl, ?_, ⟨_, rfl⟩, hW, hsame.mono (by decide) (by decide)⟩
 ·exact retN X200 hx (t := .char) Bd.returns (by simp) (hb hby d27_14) hr
 ·show Q27 Z a1 w_SIOOBE_FORMATTER k1 t cs h0 n0 _ T200.heap _
  rw [q200_0]
  exact ⟨(own_lget (hle t ht) (hC t ht)), N200, rfl⟩
theorem pd_20 : parseMethodDescriptor "(I[B)V" = some ⟨[.int, (.array .byte)], none⟩ := by decide +kernel
theorem d42_0 : decode jdk_52_method_83_code 0 = .ok (.iload_n 1, 1) := by decide +kernel
theorem d42_1 : decode jdk_52_method_83_code 1 = .ok (.aload_n 0, 1) := by decide +kernel
theorem d42_2 : decode jdk_52_method_83_code 2 = .ok (.invokestatic 67, 3) := by decide +kernel
theorem d42_5 : decode jdk_52_method_83_code 5 = .ok (.aload_n 0, 1) := by decide +kernel
theorem d42_6 : decode jdk_52_method_83_code 6 = .ok (.iload_n 1, 1) := by decide +kernel
theorem d42_7 : decode jdk_52_method_83_code 7 = .ok (.invokestatic 71, 3) := by decide +kernel
theorem d42_10 : decode jdk_52_method_83_code 10 = .ok (.ireturn, 1) := by decide +kernel
theorem ef_42 (m : MethodId) (a1 : Addr) : entryFrame m #[(.ref a1), (.int (Int32.ofNat t))] 2 = mkF m 0 #[.val (.ref a1), .val (.int (Int32.ofNat t))] [] := by first | (simp [entryFrame, mkF, argsToLocals, Value.category]; done) | rfl
def Q42 (Z : State) (a1 : Addr) (w_SIOOBE_FORMATTER : Option Addr) (k1 : ClassId) (t : Nat) (cs : Nat → Int32) (h0 : Heap) (n0 : Nat) (v : Option Value) (h : Heap) (L : List Loc) : Prop := v = some (.int (cs t)) ∧ Fr n0 L ∧ h = h0
set_option maxRecDepth 65536 in
set_option maxHeartbeats 40000000 in
theorem rm42 (l : Launch) (Z : State) (a0 : Array Value) (hw : ∀ d ∈ tables_1, d.before a0 Z = true) (ws : List Jvm.Cond) (a1 : Addr) (w_SIOOBE_FORMATTER : Option Addr) (k1 : ClassId) (t : Nat) (cs : Nat → Int32) (h0 : Heap) (n0 : Nat) (Z0 : n0 ≤ h0.size) (S__assertionsDisabled : Sta Z h0 "java/lang/StringUTF16" "$assertionsDisabled" "Z" (.int 1)) (S_HI_BYTE_SHIFT : Sta Z h0 "java/lang/StringUTF16" "HI_BYTE_SHIFT" "I" (.int 0)) (S_LO_BYTE_SHIFT : Sta Z h0 "java/lang/StringUTF16" "LO_BYTE_SHIFT" "I" (.int 8)) (S_SIOOBE_FORMATTER : Sta Z h0 "jdk/internal/util/Preconditions" "SIOOBE_FORMATTER" "Ljava/util/function/BiFunction;" (own_rv w_SIOOBE_FORMATTER)) (V_a1 : Arv Z h0 a1 k1 .byte (14 : Int32) (own_tab 14 (own_u cs)) (.int 0)) (ht : t < 7) (hC : ∀ i, i < 7 → 0 ≤ (cs i).toInt ∧ (cs i).toInt ≤ 65535) :
  MetFree l (⟨"java/lang/StringUTF16", "charAt", "([BI)C"⟩ : MethodName) (head1 (Jvm.Cond.code (⟨"java/lang/StringUTF16", "charAt", "([BI)C"⟩ : MethodName) jdk_52_method_83_code 2 (some .char) :: ws) ({ frames := 3, cells := 0, slots := 0, locals := 40 } : Room)) (fun a U => a = #[(.ref a1), (.int (Int32.ofNat t))] ∧ Z.Warmed39 U.vm ∧ U.heap = h0) (fun _ _ _ _ _ => True) (fun _ U o U' => ∃ v L, o = .returned v ∧ Q42 Z a1 w_SIOOBE_FORMATTER k1 t cs h0 n0 v U'.heap L ∧ FrameEnd U o U' L ({ frames := 3, cells := 0, slots := 0, locals := 40 } : Room).cells ({ frames := 3, cells := 0, slots := 0, locals := 40 } : Room).slots) := by
 refine MetFree.of_bodySF (plainFor_of_name pn_69) hisR ?_
 intro p e s m args below meth c s₁ Bd hml0 hP hK
 obtain ⟨rfl, hZ, hh⟩ := hP
 have hx := Bd.exec
 have hby := Bd.bytes
 have hml : c.maxLocals = 2 := hml0
 have hown : s.vm.findClass "java/lang/StringUTF16" = some m.cls := findClass_of_methodNamed Bd.named
 have hnm := (name_of_methodNamed Bd.named Bd.method).1
 have X0 : Stand p l e ({ frames := 3, cells := 0, slots := 0, locals := 40 } : Room) s m #[(.ref a1), (.int (Int32.ofNat t))] below meth c s₁ [] 0 0 := Stand.of_body Bd
 have e0 : s₁.heap = h0 := by rw [← hh, Bd.state]; rfl
 have N0 := Fr.nil n0
 refine own_go (B := s₁.setTop (mkF m 0 #[.val (.ref a1), .val (.int (Int32.ofNat t))] [])) (fun t k => castTop (ef_42 m a1) k) ?_
 refine own_go (B := s₁.setTop (mkF m 2 #[.val (.ref a1), .val (.int (Int32.ofNat t))] [(.ref a1), (.int (Int32.ofNat t))])) (fun tg kt => ?_) ?_
 ·refine XS.iloadN X0.here hx rfl (hb hby d42_0) rfl ?_
  refine XS.aloadN X0.here hx rfl (hb hby d42_1) rfl rfl ?_
  exact kt
 obtain ⟨_, _, ⟨T203, L203, k203, n203⟩, -, X203, ⟨Lc203, hQ203, l203, y203, z203⟩, st203⟩ := Jvm.LawKit.callS X0 hx (y := (⟨"java/lang/StringUTF16", "checkIndex", "(I[B)V"⟩ : MethodName)) hown (mvT hZ (hw _ (List.mem_of_getElem? (i := 191) rfl))) (mvT hZ (hw _ (List.mem_of_getElem? (i := 192) rfl))) (mvT hZ (hw _ (List.mem_of_getElem? (i := 35) rfl))) (mvT hZ (hw _ (List.mem_of_getElem? (i := 193) rfl))) (by decide) (backOf (W := 0) (rm43 l Z a0 hw [] a1 w_SIOOBE_FORMATTER k1 t cs h0 n0 Z0 S_SIOOBE_FORMATTER V_a1 (by first | assumption | decide)) hZ (hw _ (List.mem_of_getElem? (i := 193) rfl)) (hw _ (List.mem_of_getElem? (i := 35) rfl)) (by decide) (by decide)) (g := (mkF m 2 #[.val (.ref a1), .val (.int (Int32.ofNat t))] [(.ref a1), (.int (Int32.ofNat t))])) rfl (by rw [hml]; rfl) (argsL := [(.int (Int32.ofNat t)), (.ref a1)]) (rest := []) (lenOf pd_20 rfl) rfl (by show 2 * 0 + _ ≤ _; exact Nat.le_of_eq rfl) (hb hby d42_2) (fun _ _ => ⟨rfl, e0, (by decide : 0 + 0 ≤ _), (by decide : 0 + 0 ≤ _)⟩)
 dsimp only [Pt.U, Pt.locs, Pt.cells, Pt.slots] at X203 l203 y203 z203 st203 hQ203
 rw [l203, y203, z203] at X203
 obtain ⟨rfl, M203, q203_0⟩ := hQ203
 have N203 := Fr.app N0 M203
 refine own_go st203 ?_
 refine own_go (B := T203.setTop (mkF m 7 #[.val (.ref a1), .val (.int (Int32.ofNat t))] [(.int (Int32.ofNat t)), (.ref a1)])) (fun tg kt => ?_) ?_
 ·refine XS.aloadN X203.here hx rfl (hb hby d42_5) rfl rfl ?_
  refine XS.iloadN X203.here hx rfl (hb hby d42_6) rfl ?_
  exact kt
 obtain ⟨_, _, ⟨T204, L204, k204, n204⟩, -, X204, ⟨Lc204, hQ204, l204, y204, z204⟩, st204⟩ := Jvm.LawKit.callS X203 hx (y := (⟨"java/lang/StringUTF16", "getChar", "([BI)C"⟩ : MethodName)) hown (mvT hZ (hw _ (List.mem_of_getElem? (i := 161) rfl))) (mvT hZ (hw _ (List.mem_of_getElem? (i := 162) rfl))) (mvT hZ (hw _ (List.mem_of_getElem? (i := 35) rfl))) (mvT hZ (hw _ (List.mem_of_getElem? (i := 163) rfl))) (by decide) (backOf (W := 0) (rm34 l Z a0 hw [] a1 k1 t cs h0 n0 Z0 S__assertionsDisabled S_HI_BYTE_SHIFT S_LO_BYTE_SHIFT V_a1 (ht) (hC)) hZ (hw _ (List.mem_of_getElem? (i := 163) rfl)) (hw _ (List.mem_of_getElem? (i := 35) rfl)) (by decide) (by decide)) (g := (mkF m 7 #[.val (.ref a1), .val (.int (Int32.ofNat t))] [(.int (Int32.ofNat t)), (.ref a1)])) rfl (by rw [hml]; rfl) (argsL := [(.ref a1), (.int (Int32.ofNat t))]) (rest := []) (lenOf pd_5 rfl) rfl (by show 2 * 0 + _ ≤ _; exact Nat.le_of_eq rfl) (hb hby d42_7) (fun _ _ => ⟨rfl, q203_0, (by decide : 0 + 0 ≤ _), (by decide : 0 + 0 ≤ _)⟩)
 dsimp only [Pt.U, Pt.locs, Pt.cells, Pt.slots] at X204 l204 y204 z204 st204 hQ204
 rw [l204, y204, z204] at X204
 obtain ⟨rfl, M204, q204_0⟩ := hQ204
 have N204 := Fr.app N203 M204
 refine own_go st204 ?_
 obtain ⟨fs, hr, hrun, hended, hW, hsame⟩ := X204.leave (v := some (.int (nar .char (cs t)))) (fun h => by rw [Bd.returns] at h; cases h)
 refine ⟨_, _, ?_, hrun, hended, _, _, rfl, ?_, ⟨_, rfl⟩, hW, hsame.mono (by decide) (by decide)⟩
 ·exact retN X204 hx (t := .char) Bd.returns (by simp) (hb hby d42_10) hr
 ·show Q42 Z a1 w_SIOOBE_FORMATTER k1 t cs h0 n0 _ T204.heap _
  rw [q204_0]
  exact ⟨(congrArg (fun z => some (Value.int z)) (own_narC _ (hC t ht))), N204, rfl⟩
theorem d26_0 : decode jdk_42_method_56_code 0 = .ok (.aload_n 0, 1) := by decide +kernel
theorem d26_1 : decode jdk_42_method_56_code 1 = .ok (.invokevirtual 492, 3) := by decide +kernel
theorem d26_4 : decode jdk_42_method_56_code 4 = .ok (.ifCond .eq 12, 3) := by decide +kernel
theorem d26_7 : decode jdk_42_method_56_code 7 = .ok (.aload_n 0, 1) := by decide +kernel
theorem d26_8 : decode jdk_42_method_56_code 8 = .ok (.getfield 9, 3) := by decide +kernel
theorem d26_11 : decode jdk_42_method_56_code 11 = .ok (.iload_n 1, 1) := by decide +kernel
theorem d26_12 : decode jdk_42_method_56_code 12 = .ok (.invokestatic 495, 3) := by decide +kernel
theorem d26_15 : decode jdk_42_method_56_code 15 = .ok (.ireturn, 1) := by decide +kernel
theorem d26_16 : decode jdk_42_method_56_code 16 = .ok (.aload_n 0, 1) := by decide +kernel
theorem d26_17 : decode jdk_42_method_56_code 17 = .ok (.getfield 9, 3) := by decide +kernel
theorem d26_20 : decode jdk_42_method_56_code 20 = .ok (.iload_n 1, 1) := by decide +kernel
theorem d26_21 : decode jdk_42_method_56_code 21 = .ok (.invokestatic 498, 3) := by decide +kernel
theorem d26_24 : decode jdk_42_method_56_code 24 = .ok (.ireturn, 1) := by decide +kernel
theorem ef_26 (m : MethodId) (a1 : Addr) : entryFrame m #[(.ref a1), (.int (Int32.ofNat t))] 2 = mkF m 0 #[.val (.ref a1), .val (.int (Int32.ofNat t))] [] := by first | (simp [entryFrame, mkF, argsToLocals, Value.category]; done) | rfl
def Q26 (Z : State) (a1 : Addr) (w_COMPACT_STRINGS : Int32) (w_SIOOBE_FORMATTER : Option Addr) (bn : Addr) (kn : ClassId) (kd : Int32) (nb : Int32) (vb : List Value) (cs : Nat → Int32) (t : Nat) (h0 : Heap) (n0 : Nat) (v : Option Value) (h : Heap) (L : List Loc) : Prop := v = some (.int (cs t)) ∧ Fr n0 L ∧ h = h0
set_option maxRecDepth 65536 in
set_option maxHeartbeats 40000000 in
theorem rm26 (l : Launch) (Z : State) (a0 : Array Value) (hw : ∀ d ∈ tables_1, d.before a0 Z = true) (ws : List Jvm.Cond) (a1 : Addr) (w_COMPACT_STRINGS : Int32) (w_SIOOBE_FORMATTER : Option Addr) (bn : Addr) (kn : ClassId) (kd : Int32) (nb : Int32) (vb : List Value) (cs : Nat → Int32) (t : Nat) (h0 : Heap) (n0 : Nat) (Z0 : n0 ≤ h0.size) (S_COMPACT_STRINGS : Sta Z h0 "java/lang/String" "COMPACT_STRINGS" "Z" (.int w_COMPACT_STRINGS)) (N_COMPACT_STRINGS : ¬ w_COMPACT_STRINGS = (0 : Int32)) (S__assertionsDisabled : Sta Z h0 "java/lang/StringUTF16" "$assertionsDisabled" "Z" (.int 1)) (S_HI_BYTE_SHIFT : Sta Z h0 "java/lang/StringUTF16" "HI_BYTE_SHIFT" "I" (.int 0)) (S_LO_BYTE_SHIFT : Sta Z h0 "java/lang/StringUTF16" "LO_BYTE_SHIFT" "I" (.int 8)) (S_SIOOBE_FORMATTER : Sta Z h0 "jdk/internal/util/Preconditions" "SIOOBE_FORMATTER" "Ljava/util/function/BiFunction;" (own_rv w_SIOOBE_FORMATTER)) (E_a1 : Exa Z h0 a1 "java/lang/String") (Fv_a1 : Fld Z h0 a1 "java/lang/String" "value" "[B" (.ref bn)) (Fc_a1 : Fld Z h0 a1 "java/lang/String" "coder" "B" (.int kd)) (V_bn : Arv Z h0 bn kn .byte nb vb (.int 0)) (hsp : own_sp cs kd nb vb) (ht : t < 7) (hC : ∀ i, i < 7 → 0 ≤ (cs i).toInt ∧ (cs i).toInt ≤ 65535) :
  MetFree l (⟨"java/lang/String", "charAt", "(I)C"⟩ : MethodName) (head1 (Jvm.Cond.code (⟨"java/lang/String", "charAt", "(I)C"⟩ : MethodName) jdk_42_method_56_code 2 (some .char) :: ws) ({ frames := 4, cells := 0, slots := 0, locals := 53 } : Room)) (fun a U => a = #[(.ref a1), (.int (Int32.ofNat t))] ∧ Z.Warmed39 U.vm ∧ U.heap = h0) (fun _ _ _ _ _ => True) (fun _ U o U' => ∃ v L, o = .returned v ∧ Q26 Z a1 w_COMPACT_STRINGS w_SIOOBE_FORMATTER bn kn kd nb vb cs t h0 n0 v U'.heap L ∧ FrameEnd U o U' L ({ frames := 4, cells := 0, slots := 0, locals := 53 } : Room).cells ({ frames := 4, cells := 0, slots := 0, locals := 53 } : Room).slots) := by
 refine MetFree.of_bodySF (plainFor_of_name pn_221) hisR ?_
 intro p e s m args below meth c s₁ Bd hml0 hP hK
 obtain ⟨rfl, hZ, hh⟩ := hP
 have hx := Bd.exec
 have hby := Bd.bytes
 have hml : c.maxLocals = 2 := hml0
 have hown : s.vm.findClass "java/lang/String" = some m.cls := findClass_of_methodNamed Bd.named
 have hnm := (name_of_methodNamed Bd.named Bd.method).1
 have X0 : Stand p l e ({ frames := 4, cells := 0, slots := 0, locals := 53 } : Room) s m #[(.ref a1), (.int (Int32.ofNat t))] below meth c s₁ [] 0 0 := Stand.of_body Bd
 have e0 : s₁.heap = h0 := by rw [← hh, Bd.state]; rfl
 have N0 := Fr.nil n0
 refine own_go (B := s₁.setTop (mkF m 0 #[.val (.ref a1), .val (.int (Int32.ofNat t))] [])) (fun t k => castTop (ef_26 m a1) k) ?_
 rcases id hsp with ⟨hk_, hn_, hv_, hle⟩ | ⟨hk_, hn_, hv_⟩
 ·refine own_go (B := s₁.setTop (mkF m 1 #[.val (.ref a1), .val (.int (Int32.ofNat t))] [(.ref a1)])) (fun tg kt => ?_) ?_
  ·refine XS.aloadN X0.here hx rfl (hb hby d26_0) rfl rfl ?_
   exact kt
  obtain ⟨cq206, kq206, q206a, q206b, q206c⟩ := isOf hZ e0 E_a1
  obtain ⟨_, _, ⟨T206, L206, k206, n206⟩, -, X206, ⟨Lc206, hQ206, l206, y206, z206⟩, st206⟩ := X0.virtualBack hx (y := (⟨"java/lang/String", "isLatin1", "()Z"⟩ : MethodName)) (z := (⟨"java/lang/String", "isLatin1", "()Z"⟩ : MethodName)) hown (mvT hZ (hw _ (List.mem_of_getElem? (i := 74) rfl))) (mvT hZ (hw _ (List.mem_of_getElem? (i := 75) rfl))) (notFace_of_selects (args := #[]) (mvT hZ (hw _ (List.mem_of_getElem? (i := 77) rfl)))) (mvT hZ (hw _ (List.mem_of_getElem? (i := 77) rfl))) (mvT hZ (hw _ (List.mem_of_getElem? (i := 76) rfl))) (by decide) (backOf (W := 0) (rm15 l Z a0 hw [] a1 w_COMPACT_STRINGS bn kn kd nb vb cs h0 n0 Z0 S_COMPACT_STRINGS (by first | assumption | decide) E_a1 Fv_a1 Fc_a1 V_bn (by first | assumption | decide)) hZ (hw _ (List.mem_of_getElem? (i := 78) rfl)) (hw _ (List.mem_of_getElem? (i := 21) rfl)) (by decide) (by decide)) q206a q206c (g := (mkF m 1 #[.val (.ref a1), .val (.int (Int32.ofNat t))] [(.ref a1)])) rfl (by rw [hml]; rfl) (Steps.refl _) (argsL := []) (rest := []) (lenOf pd_18 rfl) rfl (by show 2 * 0 + _ ≤ _; exact Nat.le_of_eq rfl) (hb hby d26_1) (fun _ _ => ⟨rfl, e0, (by decide : 0 + 0 ≤ _), (by decide : 0 + 0 ≤ _)⟩)
  dsimp only [Pt.U, Pt.locs, Pt.cells, Pt.slots] at X206 l206 y206 z206 st206 hQ206
  rw [l206, y206, z206] at X206
  obtain ⟨rfl, M206, q206_0⟩ := hQ206
  have N206 := Fr.app N0 M206
  refine own_go (fun t k => st206.trans k) ?_
  refine own_go (B := T206.setTop (mkF m 8 #[.val (.ref a1), .val (.int (Int32.ofNat t))] [(.ref a1)])) (fun tg kt => ?_) ?_
  ·refine XS.ifNo X206.here hx rfl (hb hby d26_4) rfl ((if0 _ _).trans (feq (show ¬ ((if kd = (0 : Int32) then (1 : Int32) else 0) = (0 : Int32)) from (by rw [if_pos (show kd = (0 : Int32) from hk_)] <;> decide))).1) ?_
   refine XS.aloadN X206.here hx rfl (hb hby d26_7) rfl rfl ?_
   exact kt
  obtain ⟨T207, X207, e207, st207⟩ := getF X206 hx hZ hown (host := "") (Or.inl (hw _ (List.mem_of_getElem? (i := 46) rfl))) Via.refl q206_0 Fv_a1 (g := (mkF m 8 #[.val (.ref a1), .val (.int (Int32.ofNat t))] [(.ref a1)])) rfl rfl (hb hby d26_8)
  refine own_go st207 ?_
  refine own_go (B := T207.setTop (mkF m 12 #[.val (.ref a1), .val (.int (Int32.ofNat t))] [(.int (Int32.ofNat t)), (.ref bn)])) (fun tg kt => ?_) ?_
  ·refine XS.iloadN X207.here hx rfl (hb hby d26_11) rfl ?_
   exact kt
  have V208 : Arv Z h0 bn kn .byte (7 : Int32) (own_tab 7 (own_l cs)) (.int 0) := by have q := V_bn; rw [hn_, hv_] at q; exact q
  obtain ⟨_, _, ⟨T209, L209, k209, n209⟩, -, X209, ⟨Lc209, hQ209, l209, y209, z209⟩, st209⟩ := Jvm.LawKit.callS X207 hx (y := (⟨"java/lang/StringLatin1", "charAt", "([BI)C"⟩ : MethodName)) hown (mvT hZ (hw _ (List.mem_of_getElem? (i := 133) rfl))) (mvT hZ (hw _ (List.mem_of_getElem? (i := 134) rfl))) (mvT hZ (hw _ (List.mem_of_getElem? (i := 91) rfl))) (mvT hZ (hw _ (List.mem_of_getElem? (i := 135) rfl))) (by decide) (backOf (W := 0) (rm27 l Z a0 hw [] bn w_SIOOBE_FORMATTER kn t cs h0 n0 Z0 S_SIOOBE_FORMATTER V208 (ht) (hle) (hC)) hZ (hw _ (List.mem_of_getElem? (i := 135) rfl)) (hw _ (List.mem_of_getElem? (i := 91) rfl)) (by decide) (by decide)) (g := (mkF m 12 #[.val (.ref a1), .val (.int (Int32.ofNat t))] [(.int (Int32.ofNat t)), (.ref bn)])) rfl (by rw [hml]; rfl) (argsL := [(.ref bn), (.int (Int32.ofNat t))]) (rest := []) (lenOf pd_5 rfl) rfl (by show 2 * 0 + _ ≤ _; exact Nat.le_of_eq rfl) (hb hby d26_12) (fun _ _ => ⟨rfl, e207, (by decide : 0 + 0 ≤ _), (by decide : 0 + 0 ≤ _)⟩)
  dsimp only [Pt.U, Pt.locs, Pt.cells, Pt.slots] at X209 l209 y209 z209 st209 hQ209
  rw [l209, y209, z209] at X209
  obtain ⟨rfl, M209, q209_0⟩ := hQ209
  have N209 := Fr.app N206 M209
  refine own_go st209 ?_
  obtain ⟨fs, hr, hrun, hended, hW, hsame⟩ := X209.leave (v := some (.int (nar .char (cs t)))) (fun h => by rw [Bd.returns] at h; cases h)
  refine ⟨_, _, ?_, hrun, hended, _, _, rfl, ?_, ⟨_, rfl⟩, hW, hsame.mono (by decide) (by decide)⟩
  ·exact retN X209 hx (t := .char) Bd.returns (by simp) (hb hby d26_15) hr
  ·show Q26 Z a1 w_COMPACT_STRINGS w_SIOOBE_FORMATTER bn kn kd nb vb cs t h0 n0 _ T209.heap _
   rw [q209_0]
   exact ⟨(congrArg (fun z => some (Value.int z)) (own_narC _ (hC t ht))), N209, rfl⟩
 ·refine own_go (B := s₁.setTop (mkF m 1 #[.val (.ref a1), .val (.int (Int32.ofNat t))] [(.ref a1)])) (fun tg kt => ?_) ?_
  ·refine XS.aloadN X0.here hx rfl (hb hby d26_0) rfl rfl ?_
   exact kt
  obtain ⟨cq211, kq211, q211a, q211b, q211c⟩ := isOf hZ e0 E_a1
  obtain ⟨_, _, ⟨T211, L211, k211, n211⟩, -, X211, ⟨Lc211, hQ211, l211, y211, z211⟩, st211⟩ := X0.virtualBack hx (y := (⟨"java/lang/String", "isLatin1", "()Z"⟩ : MethodName)) (z := (⟨"java/lang/String", "isLatin1", "()Z"⟩ : MethodName)) hown (mvT hZ (hw _ (List.mem_of_getElem? (i := 74) rfl))) (mvT hZ (hw _ (List.mem_of_getElem? (i := 75) rfl))) (notFace_of_selects (args := #[]) (mvT hZ (hw _ (List.mem_of_getElem? (i := 77) rfl)))) (mvT hZ (hw _ (List.mem_of_getElem? (i := 77) rfl))) (mvT hZ (hw _ (List.mem_of_getElem? (i := 76) rfl))) (by decide) (backOf (W := 0) (rm15 l Z a0 hw [] a1 w_COMPACT_STRINGS bn kn kd nb vb cs h0 n0 Z0 S_COMPACT_STRINGS (by first | assumption | decide) E_a1 Fv_a1 Fc_a1 V_bn (by first | assumption | decide)) hZ (hw _ (List.mem_of_getElem? (i := 78) rfl)) (hw _ (List.mem_of_getElem? (i := 21) rfl)) (by decide) (by decide)) q211a q211c (g := (mkF m 1 #[.val (.ref a1), .val (.int (Int32.ofNat t))] [(.ref a1)])) rfl (by rw [hml]; rfl) (Steps.refl _) (argsL := []) (rest := []) (lenOf pd_18 rfl) rfl (by show 2 * 0 + _ ≤ _; exact Nat.le_of_eq rfl) (hb hby d26_1) (fun _ _ => ⟨rfl, e0, (by decide : 0 + 0 ≤ _), (by decide : 0 + 0 ≤ _)⟩)
  dsimp only [Pt.U, Pt.locs, Pt.cells, Pt.slots] at X211 l211 y211 z211 st211 hQ211
  rw [l211, y211, z211] at X211
  obtain ⟨rfl, M211, q211_0⟩ := hQ211
  have N211 := Fr.app N0 M211
  refine own_go (fun t k => st211.trans k) ?_
  refine own_go (B := T211.setTop (mkF m 17 #[.val (.ref a1), .val (.int (Int32.ofNat t))] [(.ref a1)])) (fun tg kt => ?_) ?_
  ·refine XS.ifYes X211.here hx rfl (pc0 := 4) (pc' := 16) rfl (hb hby d26_4) rfl ((if0 _ _).trans (teq (show (if kd = (0 : Int32) then (1 : Int32) else 0) = (0 : Int32) from (by rw [if_neg (show ¬ (kd = (0 : Int32)) from (by rw [hk_]; decide))] <;> decide))).1) (by decide) (by decide) ?_
   refine XS.aloadN X211.here hx rfl (hb hby d26_16) rfl rfl ?_
   exact kt
  obtain ⟨T212, X212, e212, st212⟩ := getF X211 hx hZ hown (host := "") (Or.inl (hw _ (List.mem_of_getElem? (i := 46) rfl))) Via.refl q211_0 Fv_a1 (g := (mkF m 17 #[.val (.ref a1), .val (.int (Int32.ofNat t))] [(.ref a1)])) rfl rfl (hb hby d26_17)
  refine own_go st212 ?_
  refine own_go (B := T212.setTop (mkF m 21 #[.val (.ref a1), .val (.int (Int32.ofNat t))] [(.int (Int32.ofNat t)), (.ref bn)])) (fun tg kt => ?_) ?_
  ·refine XS.iloadN X212.here hx rfl (hb hby d26_20) rfl ?_
   exact kt
  have V213 : Arv Z h0 bn kn .byte (14 : Int32) (own_tab 14 (own_u cs)) (.int 0) := by have q := V_bn; rw [hn_, hv_] at q; exact q
  obtain ⟨_, _, ⟨T214, L214, k214, n214⟩, -, X214, ⟨Lc214, hQ214, l214, y214, z214⟩, st214⟩ := Jvm.LawKit.callS X212 hx (y := (⟨"java/lang/StringUTF16", "charAt", "([BI)C"⟩ : MethodName)) hown (mvT hZ (hw _ (List.mem_of_getElem? (i := 188) rfl))) (mvT hZ (hw _ (List.mem_of_getElem? (i := 189) rfl))) (mvT hZ (hw _ (List.mem_of_getElem? (i := 35) rfl))) (mvT hZ (hw _ (List.mem_of_getElem? (i := 190) rfl))) (by decide) (backOf (W := 0) (rm42 l Z a0 hw [] bn w_SIOOBE_FORMATTER kn t cs h0 n0 Z0 S__assertionsDisabled S_HI_BYTE_SHIFT S_LO_BYTE_SHIFT S_SIOOBE_FORMATTER V213 (ht) (hC)) hZ (hw _ (List.mem_of_getElem? (i := 190) rfl)) (hw _ (List.mem_of_getElem? (i := 35) rfl)) (by decide) (by decide)) (g := (mkF m 21 #[.val (.ref a1), .val (.int (Int32.ofNat t))] [(.int (Int32.ofNat t)), (.ref bn)])) rfl (by rw [hml]; rfl) (argsL := [(.ref bn), (.int (Int32.ofNat t))]) (rest := []) (lenOf pd_5 rfl) rfl (by show 2 * 0 + _ ≤ _; exact Nat.le_of_eq rfl) (hb hby d26_21) (fun _ _ => ⟨rfl, e212, (by decide : 0 + 0 ≤ _), (by decide : 0 + 0 ≤ _)⟩)
  dsimp only [Pt.U, Pt.locs, Pt.cells, Pt.slots] at X214 l214 y214 z214 st214 hQ214
  rw [l214, y214, z214] at X214
  obtain ⟨rfl, M214, q214_0⟩ := hQ214
  have N214 := Fr.app N211 M214
  refine own_go st214 ?_
  obtain ⟨fs, hr, hrun, hended, hW, hsame⟩ := X214.leave (v := some (.int (nar .char (cs t)))) (fun h => by rw [Bd.returns] at h; cases h)
  refine ⟨_, _, ?_, hrun, hended, _, _, rfl, ?_, ⟨_, rfl⟩, hW, hsame.mono (by decide) (by decide)⟩
  ·exact retN X214 hx (t := .char) Bd.returns (by simp) (hb hby d26_24) hr
  ·show Q26 Z a1 w_COMPACT_STRINGS w_SIOOBE_FORMATTER bn kn kd nb vb cs t h0 n0 _ T214.heap _
   rw [q214_0]
   exact ⟨(congrArg (fun z => some (Value.int z)) (own_narC _ (hC t ht))), N214, rfl⟩
theorem pn_493 : plainName "java/util/Arrays" = true := by first | (simp [plainName, overriddenIn]; done) | decide +kernel
theorem d23_0 : decode jdk_65_method_123_code 0 = .ok (.iload_n 1, 1) := by decide +kernel
theorem d23_1 : decode jdk_65_method_123_code 1 = .ok (.aload_n 0, 1) := by decide +kernel
theorem d23_2 : decode jdk_65_method_123_code 2 = .ok (.arraylength, 1) := by decide +kernel
theorem d23_3 : decode jdk_65_method_123_code 3 = .ok (.if_icmp .ne 11, 3) := by decide +kernel
theorem d23_14 : decode jdk_65_method_123_code 14 = .ok (.iload_n 1, 1) := by decide +kernel
theorem d23_15 : decode jdk_65_method_123_code 15 = .ok (.newarray .int, 2) := by decide +kernel
theorem d23_17 : decode jdk_65_method_123_code 17 = .ok (.astore_n 2, 1) := by decide +kernel
theorem d23_18 : decode jdk_65_method_123_code 18 = .ok (.aload_n 0, 1) := by decide +kernel
theorem d23_19 : decode jdk_65_method_123_code 19 = .ok (.iconst 0, 1) := by decide +kernel
theorem d23_20 : decode jdk_65_method_123_code 20 = .ok (.aload_n 2, 1) := by decide +kernel
theorem d23_21 : decode jdk_65_method_123_code 21 = .ok (.iconst 0, 1) := by decide +kernel
theorem d23_22 : decode jdk_65_method_123_code 22 = .ok (.aload_n 0, 1) := by decide +kernel
theorem d23_23 : decode jdk_65_method_123_code 23 = .ok (.arraylength, 1) := by decide +kernel
theorem d23_24 : decode jdk_65_method_123_code 24 = .ok (.iload_n 1, 1) := by decide +kernel
theorem d23_25 : decode jdk_65_method_123_code 25 = .ok (.invokestatic 304, 3) := by decide +kernel
theorem d23_28 : decode jdk_65_method_123_code 28 = .ok (.invokestatic 150, 3) := by decide +kernel
theorem d23_31 : decode jdk_65_method_123_code 31 = .ok (.aload_n 2, 1) := by decide +kernel
theorem d23_32 : decode jdk_65_method_123_code 32 = .ok (.areturn, 1) := by decide +kernel
theorem ef_23_0 (m : MethodId) (a1 : Addr) : entryFrame m #[(.ref a1), (.int 2)] 3 = mkF m 0 #[.val (.ref a1), .val (.int 2), .unset] [] := by first | (simp [entryFrame, mkF, argsToLocals, Value.category]; done) | rfl
def Q23_0 (Z : State) (a1 : Addr) (k1 : ClassId) (x1 : Int32) (h0 : Heap) (n0 : Nat) (v : Option Value) (h : Heap) (L : List Loc) : Prop := ∃ (sn : Addr) (ks : ClassId), v = some (.ref sn) ∧ Fr n0 L ∧ Keep h0 h [] ∧ h0.size ≤ sn ∧ Arv Z h sn ks .int (2 : Int32) [(.int 0), (.int x1)] (.int 0)
set_option maxRecDepth 65536 in
set_option maxHeartbeats 40000000 in
theorem rm23_0 (l : Launch) (Z : State) (a0 : Array Value) (hw : ∀ d ∈ tables_1, d.before a0 Z = true) (ws : List Jvm.Cond) (a1 : Addr) (k1 : ClassId) (x1 : Int32) (h0 : Heap) (n0 : Nat) (Z0 : n0 ≤ h0.size) (V_a1 : Arv Z h0 a1 k1 .int (16 : Int32) [(.int 0), (.int x1), (.int 0), (.int 0), (.int 0), (.int 0), (.int 0), (.int 0), (.int 0), (.int 0), (.int 0), (.int 0), (.int 0), (.int 0), (.int 0), (.int 0)] (.int 0)) :
  MetFree l (⟨"java/util/Arrays", "copyOf", "([II)[I"⟩ : MethodName) (head1 (Jvm.Cond.code (⟨"java/util/Arrays", "copyOf", "([II)[I"⟩ : MethodName) jdk_65_method_123_code 3 (some (.array .int)) :: ws) ({ frames := 1, cells := 1, slots := 2, locals := 18 } : Room)) (fun a U => a = #[(.ref a1), (.int 2)] ∧ Z.Warmed39 U.vm ∧ U.heap = h0) (fun _ _ _ _ _ => True) (fun _ U o U' => ∃ v L, o = .returned v ∧ Q23_0 Z a1 k1 x1 h0 n0 v U'.heap L ∧ FrameEnd U o U' L ({ frames := 1, cells := 1, slots := 2, locals := 18 } : Room).cells ({ frames := 1, cells := 1, slots := 2, locals := 18 } : Room).slots) := by
 refine MetFree.of_bodySF (plainFor_of_name pn_493) hisR ?_
 intro p e s m args below meth c s₁ Bd hml0 hP hK
 obtain ⟨rfl, hZ, hh⟩ := hP
 have hx := Bd.exec
 have hby := Bd.bytes
 have hml : c.maxLocals = 3 := hml0
 have hown : s.vm.findClass "java/util/Arrays" = some m.cls := findClass_of_methodNamed Bd.named
 have hnm := (name_of_methodNamed Bd.named Bd.method).1
 have X0 : Stand p l e ({ frames := 1, cells := 1, slots := 2, locals := 18 } : Room) s m #[(.ref a1), (.int 2)] below meth c s₁ [] 0 0 := Stand.of_body Bd
 have e0 : s₁.heap = h0 := by rw [← hh, Bd.state]; rfl
 have N0 := Fr.nil n0
 refine own_go (B := s₁.setTop (mkF m 0 #[.val (.ref a1), .val (.int 2), .unset] [])) (fun t k => castTop (ef_23_0 m a1) k) ?_
 refine own_go (B := s₁.setTop (mkF m 2 #[.val (.ref a1), .val (.int 2), .unset] [(.ref a1), (.int 2)])) (fun tg kt => ?_) ?_
 ·refine XS.iloadN X0.here hx rfl (hb hby d23_0) rfl ?_
  refine XS.aloadN X0.here hx rfl (hb hby d23_1) rfl rfl ?_
  exact kt
 obtain ⟨cl216, Ar216, cq216, cS216, cN216, cH216, cG216⟩ := id V_a1
 refine own_go (B := s₁.setTop (mkF m 15 #[.val (.ref a1), .val (.int 2), .unset] [(.int 2)])) (fun tg kt => ?_) ?_
 ·refine X0.arraylength hx (by rw [e0]; exact Ar216.1) (State.isArrayOf_alike hZ.alike Ar216.2.1) (g := (mkF m 2 #[.val (.ref a1), .val (.int 2), .unset] [(.ref a1), (.int 2)])) rfl rfl (hb hby d23_2) _ ?_
  rw [len_of cS216 cN216]
  refine XS.icmpYes X0.here hx rfl (pc0 := 3) (pc' := 14) rfl (hb hby d23_3) rfl (feq (by decide : ¬ ((2 : Int32) = (16 : Int32)))).2 (by decide) (by decide) ?_
  refine XS.iloadN X0.here hx rfl (hb hby d23_14) rfl ?_
  exact kt
 obtain ⟨T217, h217, k217, X217, e217, E217, A217, st217⟩ := newP X0 hx hZ (hw _ (List.mem_of_getElem? (i := 63) rfl)) e0 (g := (mkF m 15 #[.val (.ref a1), .val (.int 2), .unset] [(.int 2)])) rfl (hb hby d23_15) rfl (by decide) (cap := 2) (by decide) (by decide) (by decide) (by decide)
 obtain ⟨b217, g217⟩ : ∃ z, z = h0.size := ⟨_, rfl⟩
 rw [← g217] at A217 st217
 refine own_go st217 ?_
 have K217 : Keep h0 h217 [] := Keep.ext (Keep.refl h0 []) E217
 have V217 : Arv Z h217 b217 k217 .int (2 : Int32) [(.int 0), (.int 0)] (.int 0) := (Arv.new A217 (by decide)).pad (pad_rep [] (.int 0) 2)
 refine own_go (B := T217.setTop (mkF m 23 #[.val (.ref a1), .val (.int 2), .val (.ref b217)] [(.ref a1), (.int 0), (.ref b217), (.int 0), (.ref a1)])) (fun tg kt => ?_) ?_
 ·refine XS.astoreN X217.here hx rfl (hb hby d23_17) rfl rfl (l' := #[.val (.ref a1), .val (.int 2), .val (.ref b217)]) rfl ?_
  refine XS.aloadN X217.here hx rfl (hb hby d23_18) rfl rfl ?_
  refine XS.iconst X217.here hx rfl (hb hby d23_19) ?_
  refine XS.aloadN X217.here hx rfl (hb hby d23_20) rfl rfl ?_
  refine XS.iconst X217.here hx rfl (hb hby d23_21) ?_
  refine XS.aloadN X217.here hx rfl (hb hby d23_22) rfl rfl ?_
  exact kt
 have f218 : Arv Z h217 a1 k1 .int (16 : Int32) [(.int 0), (.int x1), (.int 0), (.int 0), (.int 0), (.int 0), (.int 0), (.int 0), (.int 0), (.int 0), (.int 0), (.int 0), (.int 0), (.int 0), (.int 0), (.int 0)] (.int 0) := (V_a1.ext E217)
 obtain ⟨cl219, Ar219, cq219, cS219, cN219, cH219, cG219⟩ := id f218
 refine own_go (B := T217.setTop (mkF m 25 #[.val (.ref a1), .val (.int 2), .val (.ref b217)] [(.int 2), (.int 16), (.int 0), (.ref b217), (.int 0), (.ref a1)])) (fun tg kt => ?_) ?_
 ·refine X217.arraylength hx (by rw [e217]; exact Ar219.1) (State.isArrayOf_alike hZ.alike Ar219.2.1) (g := (mkF m 23 #[.val (.ref a1), .val (.int 2), .val (.ref b217)] [(.ref a1), (.int 0), (.ref b217), (.int 0), (.ref a1)])) rfl rfl (hb hby d23_23) _ ?_
  rw [len_of cS219 cN219]
  refine XS.iloadN X217.here hx rfl (hb hby d23_24) rfl ?_
  exact kt
 obtain ⟨_, _, ⟨T220, L220, k220, n220⟩, -, X220, ⟨Lc220, hQ220, l220, y220, z220⟩, st220⟩ := Jvm.LawKit.callS X217 hx (y := (⟨"java/lang/Math", "min", "(II)I"⟩ : MethodName)) hown (mvT hZ (hw _ (List.mem_of_getElem? (i := 111) rfl))) (mvT hZ (hw _ (List.mem_of_getElem? (i := 101) rfl))) (mvT hZ (hw _ (List.mem_of_getElem? (i := 98) rfl))) (mvT hZ (hw _ (List.mem_of_getElem? (i := 102) rfl))) (by decide) (backOf (W := 4) (rm21_2 l Z a0 hw []  h217 n0 (Nat.le_trans Z0 E217.1) ) hZ (hw _ (List.mem_of_getElem? (i := 102) rfl)) (hw _ (List.mem_of_getElem? (i := 98) rfl)) (by decide) (by decide)) (g := (mkF m 25 #[.val (.ref a1), .val (.int 2), .val (.ref b217)] [(.int 2), (.int 16), (.int 0), (.ref b217), (.int 0), (.ref a1)])) rfl (by rw [hml]; rfl) (argsL := [(.int 16), (.int 2)]) (rest := [(.int 0), (.ref b217), (.int 0), (.ref a1)]) (lenOf pd_17 rfl) rfl (by show 2 * 0 + _ ≤ _; exact Nat.le_of_eq rfl) (hb hby d23_25) (fun _ _ => ⟨rfl, e217, (by decide : 1 + 0 ≤ _), (by decide : 2 + 0 ≤ _)⟩)
 dsimp only [Pt.U, Pt.locs, Pt.cells, Pt.slots] at X220 l220 y220 z220 st220 hQ220
 rw [l220, y220, z220] at X220
 obtain ⟨rfl, M220, q220_0⟩ := hQ220
 have N220 := Fr.app N0 M220
 refine own_go st220 ?_
 obtain ⟨T221, h221, L221, X221, e221, N221, K221', V221', st221⟩ := cpA X220 hx hZ hown (hw _ (List.mem_of_getElem? (i := 112) rfl)) (hw _ (List.mem_of_getElem? (i := 115) rfl)) (hw _ (List.mem_of_getElem? (i := 113) rfl)) (hw _ (List.mem_of_getElem? (i := 114) rfl)) q220_0 f218 V217 (Or.inl ⟨rfl, rfl⟩) (by decide) (by decide) (by decide) (by decide) (by decide) rfl (by decide) N220 (Nat.le_trans Z0 (Nat.le_of_eq g217.symm)) (g := (mkF m 28 #[.val (.ref a1), .val (.int 2), .val (.ref b217)] [(.int 2), (.int 0), (.ref b217), (.int 0), (.ref a1)])) rfl (by rw [hml]; rfl) (rest := []) rfl (hb hby d23_28) (by decide) (W := 0) (by show 2 * 0 + _ ≤ _; exact Nat.le_of_eq rfl) (by decide)
 have K221 : Keep h0 h221 [] := Keep.trans K217 K221' (allS (Or.inr (Nat.le_of_eq g217.symm)) all0)
 have V221 : Arv Z h221 b217 k217 .int (2 : Int32) [(.int 0), (.int x1)] (.int 0) := V221'
 refine own_go st221 ?_
 refine own_go (B := T221.setTop (mkF m 32 #[.val (.ref a1), .val (.int 2), .val (.ref b217)] [(.ref b217)])) (fun tg kt => ?_) ?_
 ·refine XS.aloadN X221.here hx rfl (hb hby d23_31) rfl rfl ?_
  exact kt
 obtain ⟨fs, hr, hrun, hended, hW, hsame⟩ := X221.leave (v := some (.ref b217)) (fun h => by rw [Bd.returns] at h; cases h)
 refine ⟨_, _, ?_, hrun, hended, _, _, rfl, ?_, ⟨_, rfl⟩, hW, hsame.mono (by decide) (by decide)⟩
 ·exact own_retR X221 hx Bd.returns rfl rfl (hb hby d23_32) hr
 ·show Q23_0 Z a1 k1 x1 h0 n0 _ T221.heap _
  rw [e221]
  exact ⟨b217, k217, rfl, N221, K221, (Nat.le_of_eq g217.symm), V221⟩
theorem ef_23_1 (m : MethodId) (a1 : Addr) : entryFrame m #[(.ref a1), (.int 3)] 3 = mkF m 0 #[.val (.ref a1), .val (.int 3), .unset] [] := by first | (simp [entryFrame, mkF, argsToLocals, Value.category]; done) | rfl
def Q23_1 (Z : State) (a1 : Addr) (k1 : ClassId) (x1 : Int32) (x2 : Int32) (h0 : Heap) (n0 : Nat) (v : Option Value) (h : Heap) (L : List Loc) : Prop := ∃ (sn : Addr) (ks : ClassId), v = some (.ref sn) ∧ Fr n0 L ∧ Keep h0 h [] ∧ h0.size ≤ sn ∧ Arv Z h sn ks .int (3 : Int32) [(.int 0), (.int x1), (.int x2)] (.int 0)
set_option maxRecDepth 65536 in
set_option maxHeartbeats 40000000 in
theorem rm23_1 (l : Launch) (Z : State) (a0 : Array Value) (hw : ∀ d ∈ tables_1, d.before a0 Z = true) (ws : List Jvm.Cond) (a1 : Addr) (k1 : ClassId) (x1 : Int32) (x2 : Int32) (h0 : Heap) (n0 : Nat) (Z0 : n0 ≤ h0.size) (V_a1 : Arv Z h0 a1 k1 .int (16 : Int32) [(.int 0), (.int x1), (.int x2), (.int 0), (.int 0), (.int 0), (.int 0), (.int 0), (.int 0), (.int 0), (.int 0), (.int 0), (.int 0), (.int 0), (.int 0), (.int 0)] (.int 0)) :
  MetFree l (⟨"java/util/Arrays", "copyOf", "([II)[I"⟩ : MethodName) (head1 (Jvm.Cond.code (⟨"java/util/Arrays", "copyOf", "([II)[I"⟩ : MethodName) jdk_65_method_123_code 3 (some (.array .int)) :: ws) ({ frames := 1, cells := 1, slots := 3, locals := 18 } : Room)) (fun a U => a = #[(.ref a1), (.int 3)] ∧ Z.Warmed39 U.vm ∧ U.heap = h0) (fun _ _ _ _ _ => True) (fun _ U o U' => ∃ v L, o = .returned v ∧ Q23_1 Z a1 k1 x1 x2 h0 n0 v U'.heap L ∧ FrameEnd U o U' L ({ frames := 1, cells := 1, slots := 3, locals := 18 } : Room).cells ({ frames := 1, cells := 1, slots := 3, locals := 18 } : Room).slots) := by
 refine MetFree.of_bodySF (plainFor_of_name pn_493) hisR ?_
 intro p e s m args below meth c s₁ Bd hml0 hP hK
 obtain ⟨rfl, hZ, hh⟩ := hP
 have hx := Bd.exec
 have hby := Bd.bytes
 have hml : c.maxLocals = 3 := hml0
 have hown : s.vm.findClass "java/util/Arrays" = some m.cls := findClass_of_methodNamed Bd.named
 have hnm := (name_of_methodNamed Bd.named Bd.method).1
 have X0 : Stand p l e ({ frames := 1, cells := 1, slots := 3, locals := 18 } : Room) s m #[(.ref a1), (.int 3)] below meth c s₁ [] 0 0 := Stand.of_body Bd
 have e0 : s₁.heap = h0 := by rw [← hh, Bd.state]; rfl
 have N0 := Fr.nil n0
 refine own_go (B := s₁.setTop (mkF m 0 #[.val (.ref a1), .val (.int 3), .unset] [])) (fun t k => castTop (ef_23_1 m a1) k) ?_
 refine own_go (B := s₁.setTop (mkF m 2 #[.val (.ref a1), .val (.int 3), .unset] [(.ref a1), (.int 3)])) (fun tg kt => ?_) ?_
 ·refine XS.iloadN X0.here hx rfl (hb hby d23_0) rfl ?_
  refine XS.aloadN X0.here hx rfl (hb hby d23_1) rfl rfl ?_
  exact kt
 obtain ⟨cl223, Ar223, cq223, cS223, cN223, cH223, cG223⟩ := id V_a1
 refine own_go (B := s₁.setTop (mkF m 15 #[.val (.ref a1), .val (.int 3), .unset] [(.int 3)])) (fun tg kt => ?_) ?_
 ·refine X0.arraylength hx (by rw [e0]; exact Ar223.1) (State.isArrayOf_alike hZ.alike Ar223.2.1) (g := (mkF m 2 #[.val (.ref a1), .val (.int 3), .unset] [(.ref a1), (.int 3)])) rfl rfl (hb hby d23_2) _ ?_
  rw [len_of cS223 cN223]
  refine XS.icmpYes X0.here hx rfl (pc0 := 3) (pc' := 14) rfl (hb hby d23_3) rfl (feq (by decide : ¬ ((3 : Int32) = (16 : Int32)))).2 (by decide) (by decide) ?_
  refine XS.iloadN X0.here hx rfl (hb hby d23_14) rfl ?_
  exact kt
 obtain ⟨T224, h224, k224, X224, e224, E224, A224, st224⟩ := newP X0 hx hZ (hw _ (List.mem_of_getElem? (i := 63) rfl)) e0 (g := (mkF m 15 #[.val (.ref a1), .val (.int 3), .unset] [(.int 3)])) rfl (hb hby d23_15) rfl (by decide) (cap := 3) (by decide) (by decide) (by decide) (by decide)
 obtain ⟨b224, g224⟩ : ∃ z, z = h0.size := ⟨_, rfl⟩
 rw [← g224] at A224 st224
 refine own_go st224 ?_
 have K224 : Keep h0 h224 [] := Keep.ext (Keep.refl h0 []) E224
 have V224 : Arv Z h224 b224 k224 .int (3 : Int32) [(.int 0), (.int 0), (.int 0)] (.int 0) := (Arv.new A224 (by decide)).pad (pad_rep [] (.int 0) 3)
 refine own_go (B := T224.setTop (mkF m 23 #[.val (.ref a1), .val (.int 3), .val (.ref b224)] [(.ref a1), (.int 0), (.ref b224), (.int 0), (.ref a1)])) (fun tg kt => ?_) ?_
 ·refine XS.astoreN X224.here hx rfl (hb hby d23_17) rfl rfl (l' := #[.val (.ref a1), .val (.int 3), .val (.ref b224)]) rfl ?_
  refine XS.aloadN X224.here hx rfl (hb hby d23_18) rfl rfl ?_
  refine XS.iconst X224.here hx rfl (hb hby d23_19) ?_
  refine XS.aloadN X224.here hx rfl (hb hby d23_20) rfl rfl ?_
  refine XS.iconst X224.here hx rfl (hb hby d23_21) ?_
  refine XS.aloadN X224.here hx rfl (hb hby d23_22) rfl rfl ?_
  exact kt
 have f225 : Arv Z h224 a1 k1 .int (16 : Int32) [(.int 0), (.int x1), (.int x2), (.int 0), (.int 0), (.int 0), (.int 0), (.int 0), (.int 0), (.int 0), (.int 0), (.int 0), (.int 0), (.int 0), (.int 0), (.int 0)] (.int 0) := (V_a1.ext E224)
 obtain ⟨cl226, Ar226, cq226, cS226, cN226, cH226, cG226⟩ := id f225
 refine own_go (B := T224.setTop (mkF m 25 #[.val (.ref a1), .val (.int 3), .val (.ref b224)] [(.int 3), (.int 16), (.int 0), (.ref b224), (.int 0), (.ref a1)])) (fun tg kt => ?_) ?_
 ·refine X224.arraylength hx (by rw [e224]; exact Ar226.1) (State.isArrayOf_alike hZ.alike Ar226.2.1) (g := (mkF m 23 #[.val (.ref a1), .val (.int 3), .val (.ref b224)] [(.ref a1), (.int 0), (.ref b224), (.int 0), (.ref a1)])) rfl rfl (hb hby d23_23) _ ?_
  rw [len_of cS226 cN226]
  refine XS.iloadN X224.here hx rfl (hb hby d23_24) rfl ?_
  exact kt
 obtain ⟨_, _, ⟨T227, L227, k227, n227⟩, -, X227, ⟨Lc227, hQ227, l227, y227, z227⟩, st227⟩ := Jvm.LawKit.callS X224 hx (y := (⟨"java/lang/Math", "min", "(II)I"⟩ : MethodName)) hown (mvT hZ (hw _ (List.mem_of_getElem? (i := 111) rfl))) (mvT hZ (hw _ (List.mem_of_getElem? (i := 101) rfl))) (mvT hZ (hw _ (List.mem_of_getElem? (i := 98) rfl))) (mvT hZ (hw _ (List.mem_of_getElem? (i := 102) rfl))) (by decide) (backOf (W := 4) (rm21_3 l Z a0 hw []  h224 n0 (Nat.le_trans Z0 E224.1) ) hZ (hw _ (List.mem_of_getElem? (i := 102) rfl)) (hw _ (List.mem_of_getElem? (i := 98) rfl)) (by decide) (by decide)) (g := (mkF m 25 #[.val (.ref a1), .val (.int 3), .val (.ref b224)] [(.int 3), (.int 16), (.int 0), (.ref b224), (.int 0), (.ref a1)])) rfl (by rw [hml]; rfl) (argsL := [(.int 16), (.int 3)]) (rest := [(.int 0), (.ref b224), (.int 0), (.ref a1)]) (lenOf pd_17 rfl) rfl (by show 2 * 0 + _ ≤ _; exact Nat.le_of_eq rfl) (hb hby d23_25) (fun _ _ => ⟨rfl, e224, (by decide : 1 + 0 ≤ _), (by decide : 3 + 0 ≤ _)⟩)
 dsimp only [Pt.U, Pt.locs, Pt.cells, Pt.slots] at X227 l227 y227 z227 st227 hQ227
 rw [l227, y227, z227] at X227
 obtain ⟨rfl, M227, q227_0⟩ := hQ227
 have N227 := Fr.app N0 M227
 refine own_go st227 ?_
 obtain ⟨T228, h228, L228, X228, e228, N228, K228', V228', st228⟩ := cpA X227 hx hZ hown (hw _ (List.mem_of_getElem? (i := 112) rfl)) (hw _ (List.mem_of_getElem? (i := 115) rfl)) (hw _ (List.mem_of_getElem? (i := 113) rfl)) (hw _ (List.mem_of_getElem? (i := 114) rfl)) q227_0 f225 V224 (Or.inl ⟨rfl, rfl⟩) (by decide) (by decide) (by decide) (by decide) (by decide) rfl (by decide) N227 (Nat.le_trans Z0 (Nat.le_of_eq g224.symm)) (g := (mkF m 28 #[.val (.ref a1), .val (.int 3), .val (.ref b224)] [(.int 3), (.int 0), (.ref b224), (.int 0), (.ref a1)])) rfl (by rw [hml]; rfl) (rest := []) rfl (hb hby d23_28) (by decide) (W := 0) (by show 2 * 0 + _ ≤ _; exact Nat.le_of_eq rfl) (by decide)
 have K228 : Keep h0 h228 [] := Keep.trans K224 K228' (allS (Or.inr (Nat.le_of_eq g224.symm)) all0)
 have V228 : Arv Z h228 b224 k224 .int (3 : Int32) [(.int 0), (.int x1), (.int x2)] (.int 0) := V228'
 refine own_go st228 ?_
 refine own_go (B := T228.setTop (mkF m 32 #[.val (.ref a1), .val (.int 3), .val (.ref b224)] [(.ref b224)])) (fun tg kt => ?_) ?_
 ·refine XS.aloadN X228.here hx rfl (hb hby d23_31) rfl rfl ?_
  exact kt
 obtain ⟨fs, hr, hrun, hended, hW, hsame⟩ := X228.leave (v := some (.ref b224)) (fun h => by rw [Bd.returns] at h; cases h)
 refine ⟨_, _, ?_, hrun, hended, _, _, rfl, ?_, ⟨_, rfl⟩, hW, hsame.mono (by decide) (by decide)⟩
 ·exact own_retR X228 hx Bd.returns rfl rfl (hb hby d23_32) hr
 ·show Q23_1 Z a1 k1 x1 x2 h0 n0 _ T228.heap _
  rw [e228]
  exact ⟨b224, k224, rfl, N228, K228, (Nat.le_of_eq g224.symm), V228⟩
theorem ef_23_2 (m : MethodId) (a1 : Addr) : entryFrame m #[(.ref a1), (.int 4)] 3 = mkF m 0 #[.val (.ref a1), .val (.int 4), .unset] [] := by first | (simp [entryFrame, mkF, argsToLocals, Value.category]; done) | rfl
def Q23_2 (Z : State) (a1 : Addr) (k1 : ClassId) (x1 : Int32) (x2 : Int32) (x3 : Int32) (h0 : Heap) (n0 : Nat) (v : Option Value) (h : Heap) (L : List Loc) : Prop := ∃ (sn : Addr) (ks : ClassId), v = some (.ref sn) ∧ Fr n0 L ∧ Keep h0 h [] ∧ h0.size ≤ sn ∧ Arv Z h sn ks .int (4 : Int32) [(.int 0), (.int x1), (.int x2), (.int x3)] (.int 0)
set_option maxRecDepth 65536 in
set_option maxHeartbeats 40000000 in
theorem rm23_2 (l : Launch) (Z : State) (a0 : Array Value) (hw : ∀ d ∈ tables_1, d.before a0 Z = true) (ws : List Jvm.Cond) (a1 : Addr) (k1 : ClassId) (x1 : Int32) (x2 : Int32) (x3 : Int32) (h0 : Heap) (n0 : Nat) (Z0 : n0 ≤ h0.size) (V_a1 : Arv Z h0 a1 k1 .int (16 : Int32) [(.int 0), (.int x1), (.int x2), (.int x3), (.int 0), (.int 0), (.int 0), (.int 0), (.int 0), (.int 0), (.int 0), (.int 0), (.int 0), (.int 0), (.int 0), (.int 0)] (.int 0)) :
  MetFree l (⟨"java/util/Arrays", "copyOf", "([II)[I"⟩ : MethodName) (head1 (Jvm.Cond.code (⟨"java/util/Arrays", "copyOf", "([II)[I"⟩ : MethodName) jdk_65_method_123_code 3 (some (.array .int)) :: ws) ({ frames := 1, cells := 1, slots := 4, locals := 18 } : Room)) (fun a U => a = #[(.ref a1), (.int 4)] ∧ Z.Warmed39 U.vm ∧ U.heap = h0) (fun _ _ _ _ _ => True) (fun _ U o U' => ∃ v L, o = .returned v ∧ Q23_2 Z a1 k1 x1 x2 x3 h0 n0 v U'.heap L ∧ FrameEnd U o U' L ({ frames := 1, cells := 1, slots := 4, locals := 18 } : Room).cells ({ frames := 1, cells := 1, slots := 4, locals := 18 } : Room).slots) := by
 refine MetFree.of_bodySF (plainFor_of_name pn_493) hisR ?_
 intro p e s m args below meth c s₁ Bd hml0 hP hK
 obtain ⟨rfl, hZ, hh⟩ := hP
 have hx := Bd.exec
 have hby := Bd.bytes
 have hml : c.maxLocals = 3 := hml0
 have hown : s.vm.findClass "java/util/Arrays" = some m.cls := findClass_of_methodNamed Bd.named
 have hnm := (name_of_methodNamed Bd.named Bd.method).1
 have X0 : Stand p l e ({ frames := 1, cells := 1, slots := 4, locals := 18 } : Room) s m #[(.ref a1), (.int 4)] below meth c s₁ [] 0 0 := Stand.of_body Bd
 have e0 : s₁.heap = h0 := by rw [← hh, Bd.state]; rfl
 have N0 := Fr.nil n0
 refine own_go (B := s₁.setTop (mkF m 0 #[.val (.ref a1), .val (.int 4), .unset] [])) (fun t k => castTop (ef_23_2 m a1) k) ?_
 refine own_go (B := s₁.setTop (mkF m 2 #[.val (.ref a1), .val (.int 4), .unset] [(.ref a1), (.int 4)])) (fun tg kt => ?_) ?_
 ·refine XS.iloadN X0.here hx rfl (hb hby d23_0) rfl ?_
  refine XS.aloadN X0.here hx rfl (hb hby d23_1) rfl rfl ?_
  exact kt
 obtain ⟨cl230, Ar230, cq230, cS230, cN230, cH230, cG230⟩ := id V_a1
 refine own_go (B := s₁.setTop (mkF m 15 #[.val (.ref a1), .val (.int 4), .unset] [(.int 4)])) (fun tg kt => ?_) ?_
 ·refine X0.arraylength hx (by rw [e0]; exact Ar230.1) (State.isArrayOf_alike hZ.alike Ar230.2.1) (g := (mkF m 2 #[.val (.ref a1), .val (.int 4), .unset] [(.ref a1), (.int 4)])) rfl rfl (hb hby d23_2) _ ?_
  rw [len_of cS230 cN230]
  refine XS.icmpYes X0.here hx rfl (pc0 := 3) (pc' := 14) rfl (hb hby d23_3) rfl (feq (by decide : ¬ ((4 : Int32) = (16 : Int32)))).2 (by decide) (by decide) ?_
  refine XS.iloadN X0.here hx rfl (hb hby d23_14) rfl ?_
  exact kt
 obtain ⟨T231, h231, k231, X231, e231, E231, A231, st231⟩ := newP X0 hx hZ (hw _ (List.mem_of_getElem? (i := 63) rfl)) e0 (g := (mkF m 15 #[.val (.ref a1), .val (.int 4), .unset] [(.int 4)])) rfl (hb hby d23_15) rfl (by decide) (cap := 4) (by decide) (by decide) (by decide) (by decide)
 obtain ⟨b231, g231⟩ : ∃ z, z = h0.size := ⟨_, rfl⟩
 rw [← g231] at A231 st231
 refine own_go st231 ?_
 have K231 : Keep h0 h231 [] := Keep.ext (Keep.refl h0 []) E231
 have V231 : Arv Z h231 b231 k231 .int (4 : Int32) [(.int 0), (.int 0), (.int 0), (.int 0)] (.int 0) := (Arv.new A231 (by decide)).pad (pad_rep [] (.int 0) 4)
 refine own_go (B := T231.setTop (mkF m 23 #[.val (.ref a1), .val (.int 4), .val (.ref b231)] [(.ref a1), (.int 0), (.ref b231), (.int 0), (.ref a1)])) (fun tg kt => ?_) ?_
 ·refine XS.astoreN X231.here hx rfl (hb hby d23_17) rfl rfl (l' := #[.val (.ref a1), .val (.int 4), .val (.ref b231)]) rfl ?_
  refine XS.aloadN X231.here hx rfl (hb hby d23_18) rfl rfl ?_
  refine XS.iconst X231.here hx rfl (hb hby d23_19) ?_
  refine XS.aloadN X231.here hx rfl (hb hby d23_20) rfl rfl ?_
  refine XS.iconst X231.here hx rfl (hb hby d23_21) ?_
  refine XS.aloadN X231.here hx rfl (hb hby d23_22) rfl rfl ?_
  exact kt
 have f232 : Arv Z h231 a1 k1 .int (16 : Int32) [(.int 0), (.int x1), (.int x2), (.int x3), (.int 0), (.int 0), (.int 0), (.int 0), (.int 0), (.int 0), (.int 0), (.int 0), (.int 0), (.int 0), (.int 0), (.int 0)] (.int 0) := (V_a1.ext E231)
 obtain ⟨cl233, Ar233, cq233, cS233, cN233, cH233, cG233⟩ := id f232
 refine own_go (B := T231.setTop (mkF m 25 #[.val (.ref a1), .val (.int 4), .val (.ref b231)] [(.int 4), (.int 16), (.int 0), (.ref b231), (.int 0), (.ref a1)])) (fun tg kt => ?_) ?_
 ·refine X231.arraylength hx (by rw [e231]; exact Ar233.1) (State.isArrayOf_alike hZ.alike Ar233.2.1) (g := (mkF m 23 #[.val (.ref a1), .val (.int 4), .val (.ref b231)] [(.ref a1), (.int 0), (.ref b231), (.int 0), (.ref a1)])) rfl rfl (hb hby d23_23) _ ?_
  rw [len_of cS233 cN233]
  refine XS.iloadN X231.here hx rfl (hb hby d23_24) rfl ?_
  exact kt
 obtain ⟨_, _, ⟨T234, L234, k234, n234⟩, -, X234, ⟨Lc234, hQ234, l234, y234, z234⟩, st234⟩ := Jvm.LawKit.callS X231 hx (y := (⟨"java/lang/Math", "min", "(II)I"⟩ : MethodName)) hown (mvT hZ (hw _ (List.mem_of_getElem? (i := 111) rfl))) (mvT hZ (hw _ (List.mem_of_getElem? (i := 101) rfl))) (mvT hZ (hw _ (List.mem_of_getElem? (i := 98) rfl))) (mvT hZ (hw _ (List.mem_of_getElem? (i := 102) rfl))) (by decide) (backOf (W := 4) (rm21_4 l Z a0 hw []  h231 n0 (Nat.le_trans Z0 E231.1) ) hZ (hw _ (List.mem_of_getElem? (i := 102) rfl)) (hw _ (List.mem_of_getElem? (i := 98) rfl)) (by decide) (by decide)) (g := (mkF m 25 #[.val (.ref a1), .val (.int 4), .val (.ref b231)] [(.int 4), (.int 16), (.int 0), (.ref b231), (.int 0), (.ref a1)])) rfl (by rw [hml]; rfl) (argsL := [(.int 16), (.int 4)]) (rest := [(.int 0), (.ref b231), (.int 0), (.ref a1)]) (lenOf pd_17 rfl) rfl (by show 2 * 0 + _ ≤ _; exact Nat.le_of_eq rfl) (hb hby d23_25) (fun _ _ => ⟨rfl, e231, (by decide : 1 + 0 ≤ _), (by decide : 4 + 0 ≤ _)⟩)
 dsimp only [Pt.U, Pt.locs, Pt.cells, Pt.slots] at X234 l234 y234 z234 st234 hQ234
 rw [l234, y234, z234] at X234
 obtain ⟨rfl, M234, q234_0⟩ := hQ234
 have N234 := Fr.app N0 M234
 refine own_go st234 ?_
 obtain ⟨T235, h235, L235, X235, e235, N235, K235', V235', st235⟩ := cpA X234 hx hZ hown (hw _ (List.mem_of_getElem? (i := 112) rfl)) (hw _ (List.mem_of_getElem? (i := 115) rfl)) (hw _ (List.mem_of_getElem? (i := 113) rfl)) (hw _ (List.mem_of_getElem? (i := 114) rfl)) q234_0 f232 V231 (Or.inl ⟨rfl, rfl⟩) (by decide) (by decide) (by decide) (by decide) (by decide) rfl (by decide) N234 (Nat.le_trans Z0 (Nat.le_of_eq g231.symm)) (g := (mkF m 28 #[.val (.ref a1), .val (.int 4), .val (.ref b231)] [(.int 4), (.int 0), (.ref b231), (.int 0), (.ref a1)])) rfl (by rw [hml]; rfl) (rest := []) rfl (hb hby d23_28) (by decide) (W := 0) (by show 2 * 0 + _ ≤ _; exact Nat.le_of_eq rfl) (by decide)
 have K235 : Keep h0 h235 [] := Keep.trans K231 K235' (allS (Or.inr (Nat.le_of_eq g231.symm)) all0)
 have V235 : Arv Z h235 b231 k231 .int (4 : Int32) [(.int 0), (.int x1), (.int x2), (.int x3)] (.int 0) := V235'
 refine own_go st235 ?_
 refine own_go (B := T235.setTop (mkF m 32 #[.val (.ref a1), .val (.int 4), .val (.ref b231)] [(.ref b231)])) (fun tg kt => ?_) ?_
 ·refine XS.aloadN X235.here hx rfl (hb hby d23_31) rfl rfl ?_
  exact kt
 obtain ⟨fs, hr, hrun, hended, hW, hsame⟩ := X235.leave (v := some (.ref b231)) (fun h => by rw [Bd.returns] at h; cases h)
 refine ⟨_, _, ?_, hrun, hended, _, _, rfl, ?_, ⟨_, rfl⟩, hW, hsame.mono (by decide) (by decide)⟩
 ·exact own_retR X235 hx Bd.returns rfl rfl (hb hby d23_32) hr
 ·show Q23_2 Z a1 k1 x1 x2 x3 h0 n0 _ T235.heap _
  rw [e235]
  exact ⟨b231, k231, rfl, N235, K235, (Nat.le_of_eq g231.symm), V235⟩
theorem pd_21 : parseMethodDescriptor "([II)[I" = some ⟨[(.array .int), .int], some (.array .int)⟩ := by decide +kernel
theorem pn_524 : plainName "com/example/restate/restate/TextLines" = true := by first | (simp [plainName, overriddenIn]; done) | decide +kernel
theorem d12_0 : decode prog_98_method_2_code 0 = .ok (.bipush 16, 2) := by decide +kernel
theorem d12_2 : decode prog_98_method_2_code 2 = .ok (.newarray .int, 2) := by decide +kernel
theorem d12_4 : decode prog_98_method_2_code 4 = .ok (.astore_n 2, 1) := by decide +kernel
theorem d12_5 : decode prog_98_method_2_code 5 = .ok (.iconst 1, 1) := by decide +kernel
theorem d12_6 : decode prog_98_method_2_code 6 = .ok (.istore_n 3, 1) := by decide +kernel
theorem d12_7 : decode prog_98_method_2_code 7 = .ok (.aload_n 0, 1) := by decide +kernel
theorem d12_8 : decode prog_98_method_2_code 8 = .ok (.iload_n 1, 1) := by decide +kernel
theorem d12_9 : decode prog_98_method_2_code 9 = .ok (.invokevirtual 20, 3) := by decide +kernel
theorem d12_12 : decode prog_98_method_2_code 12 = .ok (.istore 4, 2) := by decide +kernel
theorem d12_14 : decode prog_98_method_2_code 14 = .ok (.iload 4, 2) := by decide +kernel
theorem d12_16 : decode prog_98_method_2_code 16 = .ok (.ifCond .lt 44, 3) := by decide +kernel
theorem d12_60 : decode prog_98_method_2_code 60 = .ok (.aload_n 2, 1) := by decide +kernel
theorem d12_61 : decode prog_98_method_2_code 61 = .ok (.iload_n 3, 1) := by decide +kernel
theorem d12_62 : decode prog_98_method_2_code 62 = .ok (.aload_n 0, 1) := by decide +kernel
theorem d12_63 : decode prog_98_method_2_code 63 = .ok (.invokevirtual 35, 3) := by decide +kernel
theorem d12_66 : decode prog_98_method_2_code 66 = .ok (.iconst 1, 1) := by decide +kernel
theorem d12_67 : decode prog_98_method_2_code 67 = .ok (.iadd, 1) := by decide +kernel
theorem d12_68 : decode prog_98_method_2_code 68 = .ok (.iastore, 1) := by decide +kernel
theorem d12_69 : decode prog_98_method_2_code 69 = .ok (.iload_n 3, 1) := by decide +kernel
theorem d12_70 : decode prog_98_method_2_code 70 = .ok (.iconst 1, 1) := by decide +kernel
theorem d12_71 : decode prog_98_method_2_code 71 = .ok (.iadd, 1) := by decide +kernel
theorem d12_72 : decode prog_98_method_2_code 72 = .ok (.aload_n 2, 1) := by decide +kernel
theorem d12_73 : decode prog_98_method_2_code 73 = .ok (.arraylength, 1) := by decide +kernel
theorem d12_74 : decode prog_98_method_2_code 74 = .ok (.if_icmp .ne 7, 3) := by decide +kernel
theorem d12_81 : decode prog_98_method_2_code 81 = .ok (.aload_n 2, 1) := by decide +kernel
theorem d12_82 : decode prog_98_method_2_code 82 = .ok (.iload_n 3, 1) := by decide +kernel
theorem d12_83 : decode prog_98_method_2_code 83 = .ok (.iconst 1, 1) := by decide +kernel
theorem d12_84 : decode prog_98_method_2_code 84 = .ok (.iadd, 1) := by decide +kernel
theorem d12_85 : decode prog_98_method_2_code 85 = .ok (.invokestatic 26, 3) := by decide +kernel
theorem d12_88 : decode prog_98_method_2_code 88 = .ok (.areturn, 1) := by decide +kernel
theorem ef_12_0 (m : MethodId) (a1 : Addr) : entryFrame m #[(.ref a1), (.int 32)] 5 = mkF m 0 #[.val (.ref a1), .val (.int 32), .unset, .unset, .unset] [] := by first | (simp [entryFrame, mkF, argsToLocals, Value.category]; done) | rfl
def Q12_0 (Z : State) (a1 : Addr) (w_COMPACT_STRINGS : Int32) (w_SIOOBE_FORMATTER : Option Addr) (bn : Addr) (kn : ClassId) (kd : Int32) (nb : Int32) (vb : List Value) (cs : Nat → Int32) (h0 : Heap) (n0 : Nat) (v : Option Value) (h : Heap) (L : List Loc) : Prop := ∃ (sn : Addr) (ks : ClassId), v = some (.ref sn) ∧ Fr n0 L ∧ Keep h0 h [] ∧ h0.size ≤ sn ∧ Arv Z h sn ks .int (2 : Int32) [(.int 0), (.int 8)] (.int 0)
set_option maxRecDepth 65536 in
set_option maxHeartbeats 40000000 in
theorem rm12_0 (l : Launch) (Z : State) (a0 : Array Value) (hw : ∀ d ∈ tables_1, d.before a0 Z = true) (ws : List Jvm.Cond) (a1 : Addr) (w_COMPACT_STRINGS : Int32) (w_SIOOBE_FORMATTER : Option Addr) (bn : Addr) (kn : ClassId) (kd : Int32) (nb : Int32) (vb : List Value) (cs : Nat → Int32) (h0 : Heap) (n0 : Nat) (Z0 : n0 ≤ h0.size) (S_COMPACT_STRINGS : Sta Z h0 "java/lang/String" "COMPACT_STRINGS" "Z" (.int w_COMPACT_STRINGS)) (N_COMPACT_STRINGS : ¬ w_COMPACT_STRINGS = (0 : Int32)) (S__assertionsDisabled : Sta Z h0 "java/lang/StringUTF16" "$assertionsDisabled" "Z" (.int 1)) (S_HI_BYTE_SHIFT : Sta Z h0 "java/lang/StringUTF16" "HI_BYTE_SHIFT" "I" (.int 0)) (S_LO_BYTE_SHIFT : Sta Z h0 "java/lang/StringUTF16" "LO_BYTE_SHIFT" "I" (.int 8)) (S_SIOOBE_FORMATTER : Sta Z h0 "jdk/internal/util/Preconditions" "SIOOBE_FORMATTER" "Ljava/util/function/BiFunction;" (own_rv w_SIOOBE_FORMATTER)) (E_a1 : Exa Z h0 a1 "java/lang/String") (Fv_a1 : Fld Z h0 a1 "java/lang/String" "value" "[B" (.ref bn)) (Fc_a1 : Fld Z h0 a1 "java/lang/String" "coder" "B" (.int kd)) (V_bn : Arv Z h0 bn kn .byte nb vb (.int 0)) (hsp : own_sp cs kd nb vb) (hC : ∀ i, i < 7 → 0 ≤ (cs i).toInt ∧ (cs i).toInt ≤ 65535) (hno : ∀ i, i < 7 → ¬ cs i = 32) :
  MetFree l (⟨"com/example/restate/restate/TextLines", "starts", "(Ljava/lang/String;C)[I"⟩ : MethodName) (head1 (Jvm.Cond.code (⟨"com/example/restate/restate/TextLines", "starts", "(Ljava/lang/String;C)[I"⟩ : MethodName) prog_98_method_2_code 5 (some (.array .int)) :: ws) ({ frames := 7, cells := 2, slots := 18, locals := 100 } : Room)) (fun a U => a = #[(.ref a1), (.int 32)] ∧ Z.Warmed39 U.vm ∧ U.heap = h0) (fun _ _ _ _ _ => True) (fun _ U o U' => ∃ v L, o = .returned v ∧ Q12_0 Z a1 w_COMPACT_STRINGS w_SIOOBE_FORMATTER bn kn kd nb vb cs h0 n0 v U'.heap L ∧ FrameEnd U o U' L ({ frames := 7, cells := 2, slots := 18, locals := 100 } : Room).cells ({ frames := 7, cells := 2, slots := 18, locals := 100 } : Room).slots) := by
 refine MetFree.of_bodySF (plainFor_of_name pn_524) hisR ?_
 intro p e s m args below meth c s₁ Bd hml0 hP hK
 obtain ⟨rfl, hZ, hh⟩ := hP
 have hx := Bd.exec
 have hby := Bd.bytes
 have hml : c.maxLocals = 5 := hml0
 have hown : s.vm.findClass "com/example/restate/restate/TextLines" = some m.cls := findClass_of_methodNamed Bd.named
 have hnm := (name_of_methodNamed Bd.named Bd.method).1
 have X0 : Stand p l e ({ frames := 7, cells := 2, slots := 18, locals := 100 } : Room) s m #[(.ref a1), (.int 32)] below meth c s₁ [] 0 0 := Stand.of_body Bd
 have e0 : s₁.heap = h0 := by rw [← hh, Bd.state]; rfl
 have N0 := Fr.nil n0
 refine own_go (B := s₁.setTop (mkF m 0 #[.val (.ref a1), .val (.int 32), .unset, .unset, .unset] [])) (fun t k => castTop (ef_12_0 m a1) k) ?_
 refine own_go (B := s₁.setTop (mkF m 2 #[.val (.ref a1), .val (.int 32), .unset, .unset, .unset] [(.int 16)])) (fun tg kt => ?_) ?_
 ·refine XS.bipush X0.here hx rfl (hb hby d12_0) ?_
  exact kt
 obtain ⟨T237, h237, k237, X237, e237, E237, A237, st237⟩ := newP X0 hx hZ (hw _ (List.mem_of_getElem? (i := 63) rfl)) e0 (g := (mkF m 2 #[.val (.ref a1), .val (.int 32), .unset, .unset, .unset] [(.int 16)])) rfl (hb hby d12_2) rfl (by decide) (cap := 16) (by decide) (by decide) (by decide) (by decide)
 obtain ⟨b237, g237⟩ : ∃ z, z = h0.size := ⟨_, rfl⟩
 rw [← g237] at A237 st237
 refine own_go st237 ?_
 have K237 : Keep h0 h237 [] := Keep.ext (Keep.refl h0 []) E237
 have V237 : Arv Z h237 b237 k237 .int (16 : Int32) [(.int 0), (.int 0), (.int 0), (.int 0), (.int 0), (.int 0), (.int 0), (.int 0), (.int 0), (.int 0), (.int 0), (.int 0), (.int 0), (.int 0), (.int 0), (.int 0)] (.int 0) := (Arv.new A237 (by decide)).pad (pad_rep [] (.int 0) 16)
 refine own_go (B := T237.setTop (mkF m 9 #[.val (.ref a1), .val (.int 32), .val (.ref b237), .val (.int 1), .unset] [(.int 32), (.ref a1)])) (fun tg kt => ?_) ?_
 ·refine XS.astoreN X237.here hx rfl (hb hby d12_4) rfl rfl (l' := #[.val (.ref a1), .val (.int 32), .val (.ref b237), .unset, .unset]) rfl ?_
  refine XS.iconst X237.here hx rfl (hb hby d12_5) ?_
  refine XS.istoreN X237.here hx rfl (hb hby d12_6) rfl (l' := #[.val (.ref a1), .val (.int 32), .val (.ref b237), .val (.int 1), .unset]) rfl ?_
  refine XS.aloadN X237.here hx rfl (hb hby d12_7) rfl rfl ?_
  refine XS.iloadN X237.here hx rfl (hb hby d12_8) rfl ?_
  exact kt
 have f239 : Sta Z h237 "java/lang/String" "COMPACT_STRINGS" "Z" (.int w_COMPACT_STRINGS) := (S_COMPACT_STRINGS.ext E237)
 have f240 : Sta Z h237 "java/lang/StringUTF16" "$assertionsDisabled" "Z" (.int 1) := (S__assertionsDisabled.ext E237)
 have f241 : Sta Z h237 "java/lang/StringUTF16" "HI_BYTE_SHIFT" "I" (.int 0) := (S_HI_BYTE_SHIFT.ext E237)
 have f242 : Sta Z h237 "java/lang/StringUTF16" "LO_BYTE_SHIFT" "I" (.int 8) := (S_LO_BYTE_SHIFT.ext E237)
 have f243 : Sta Z h237 "jdk/internal/util/Preconditions" "SIOOBE_FORMATTER" "Ljava/util/function/BiFunction;" (own_rv w_SIOOBE_FORMATTER) := (S_SIOOBE_FORMATTER.ext E237)
 have f244 : Exa Z h237 a1 "java/lang/String" := (E_a1.ext E237)
 have f245 : Fld Z h237 a1 "java/lang/String" "value" "[B" (.ref bn) := (Fv_a1.ext E237)
 have f246 : Fld Z h237 a1 "java/lang/String" "coder" "B" (.int kd) := (Fc_a1.ext E237)
 have f247 : Arv Z h237 bn kn .byte nb vb (.int 0) := (V_bn.ext E237)
 obtain ⟨cq238, kq238, q238a, q238b, q238c⟩ := isOf hZ e237 f244
 obtain ⟨_, _, ⟨T238, L238, k238, n238⟩, -, X238, ⟨Lc238, hQ238, l238, y238, z238⟩, st238⟩ := X237.virtualBack hx (y := (⟨"java/lang/String", "indexOf", "(I)I"⟩ : MethodName)) (z := (⟨"java/lang/String", "indexOf", "(I)I"⟩ : MethodName)) hown (mvT hZ (hw _ (List.mem_of_getElem? (i := 64) rfl))) (mvT hZ (hw _ (List.mem_of_getElem? (i := 65) rfl))) (notFace_of_selects (args := #[]) (mvT hZ (hw _ (List.mem_of_getElem? (i := 67) rfl)))) (mvT hZ (hw _ (List.mem_of_getElem? (i := 67) rfl))) (mvT hZ (hw _ (List.mem_of_getElem? (i := 66) rfl))) (by decide) (backOf (W := 0) (rm13 l Z a0 hw [] a1 w_COMPACT_STRINGS w_SIOOBE_FORMATTER bn kn kd nb vb cs h237 n0 (Nat.le_trans Z0 E237.1) f239 (by first | assumption | decide) f240 f241 f242 f243 f244 f245 f246 f247 (by first | assumption | decide) (hC)) hZ (hw _ (List.mem_of_getElem? (i := 68) rfl)) (hw _ (List.mem_of_getElem? (i := 21) rfl)) (by decide) (by decide)) q238a q238c (g := (mkF m 9 #[.val (.ref a1), .val (.int 32), .val (.ref b237), .val (.int 1), .unset] [(.int 32), (.ref a1)])) rfl (by rw [hml]; rfl) (Steps.refl _) (argsL := [(.int 32)]) (rest := []) (lenOf pd_0 rfl) rfl (by show 2 * 0 + _ ≤ _; exact Nat.le_of_eq rfl) (hb hby d12_9) (fun _ _ => ⟨rfl, e237, (by decide : 1 + 0 ≤ _), (by decide : 16 + 0 ≤ _)⟩)
 dsimp only [Pt.U, Pt.locs, Pt.cells, Pt.slots] at X238 l238 y238 z238 st238 hQ238
 rw [l238, y238, z238] at X238
 obtain ⟨rfl, M238, q238_0⟩ := hQ238
 have N238 := Fr.app N0 M238
 refine own_go (fun t k => st238.trans k) ?_
 refine own_go (B := T238.setTop (mkF m 14 #[.val (.ref a1), .val (.int 32), .val (.ref b237), .val (.int 1), .val (.int (own_sk cs (7 - 0) 0))] [])) (fun tg kt => ?_) ?_
 ·refine XS.istore X238.here hx rfl (hb hby d12_12) rfl (l' := #[.val (.ref a1), .val (.int 32), .val (.ref b237), .val (.int 1), .val (.int (own_sk cs (7 - 0) 0))]) rfl ?_
  exact kt
 rw [show (own_sk cs (7 - 0) 0) = (-1 : Int32) from (own_skN (by omega) (fun i _ h => hno i h))]
 refine own_go (B := T238.setTop (mkF m 63 #[.val (.ref a1), .val (.int 32), .val (.ref b237), .val (.int 1), .val (.int (-1))] [(.ref a1), (.int 1), (.ref b237)])) (fun tg kt => ?_) ?_
 ·refine XS.iload X238.here hx rfl (hb hby d12_14) rfl ?_
  refine XS.ifYes X238.here hx rfl (pc0 := 16) (pc' := 60) rfl (hb hby d12_16) rfl ((if0 _ _).trans (tlt (by decide : (-1 : Int32) < (0 : Int32))).1) (by decide) (by decide) ?_
  refine XS.aloadN X238.here hx rfl (hb hby d12_60) rfl rfl ?_
  refine XS.iloadN X238.here hx rfl (hb hby d12_61) rfl ?_
  refine XS.aloadN X238.here hx rfl (hb hby d12_62) rfl rfl ?_
  exact kt
 obtain ⟨cq248, kq248, q248a, q248b, q248c⟩ := isOf hZ q238_0 f244
 obtain ⟨_, _, ⟨T248, L248, k248, n248⟩, -, X248, ⟨Lc248, hQ248, l248, y248, z248⟩, st248⟩ := X238.virtualBack hx (y := (⟨"java/lang/String", "length", "()I"⟩ : MethodName)) (z := (⟨"java/lang/String", "length", "()I"⟩ : MethodName)) hown (mvT hZ (hw _ (List.mem_of_getElem? (i := 106) rfl))) (mvT hZ (hw _ (List.mem_of_getElem? (i := 80) rfl))) (notFace_of_selects (args := #[]) (mvT hZ (hw _ (List.mem_of_getElem? (i := 82) rfl)))) (mvT hZ (hw _ (List.mem_of_getElem? (i := 82) rfl))) (mvT hZ (hw _ (List.mem_of_getElem? (i := 81) rfl))) (by decide) (backOf (W := 2) (rm16 l Z a0 hw [] a1 w_COMPACT_STRINGS bn kn kd nb vb cs h237 n0 (Nat.le_trans Z0 E237.1) f239 (by first | assumption | decide) f244 f245 f246 f247 (by first | assumption | decide)) hZ (hw _ (List.mem_of_getElem? (i := 83) rfl)) (hw _ (List.mem_of_getElem? (i := 21) rfl)) (by decide) (by decide)) q248a q248c (g := (mkF m 63 #[.val (.ref a1), .val (.int 32), .val (.ref b237), .val (.int 1), .val (.int (-1))] [(.ref a1), (.int 1), (.ref b237)])) rfl (by rw [hml]; rfl) (Steps.refl _) (argsL := []) (rest := [(.int 1), (.ref b237)]) (lenOf pd_19 rfl) rfl (by show 2 * 0 + _ ≤ _; exact Nat.le_of_eq rfl) (hb hby d12_63) (fun _ _ => ⟨rfl, q238_0, (by decide : 1 + 0 ≤ _), (by decide : 16 + 0 ≤ _)⟩)
 dsimp only [Pt.U, Pt.locs, Pt.cells, Pt.slots] at X248 l248 y248 z248 st248 hQ248
 rw [l248, y248, z248] at X248
 obtain ⟨rfl, M248, q248_0⟩ := hQ248
 have N248 := Fr.app N238 M248
 refine own_go (fun t k => st248.trans k) ?_
 refine own_go (B := T248.setTop (mkF m 68 #[.val (.ref a1), .val (.int 32), .val (.ref b237), .val (.int 1), .val (.int (-1))] [(.int 8), (.int 1), (.ref b237)])) (fun tg kt => ?_) ?_
 ·refine XS.iconst X248.here hx rfl (hb hby d12_66) ?_
  refine XS.iadd X248.here hx rfl (hb hby d12_67) rfl ?_
  exact kt
 obtain ⟨cl249, Ar249, cq249, cS249, cN249, cH249, cG249⟩ := id V237
 have hin249 := inb_of (j := (1 : Int32)) cS249 ⟨by decide, by decide⟩
 obtain ⟨T249, h249, X249, e249, W249, st249⟩ := stI X248 hx hZ q248_0 Ar249 (j := (1 : Int32)) hin249 (g := (mkF m 68 #[.val (.ref a1), .val (.int 32), .val (.ref b237), .val (.int 1), .val (.int (-1))] [(.int 8), (.int 1), (.ref b237)])) rfl rfl (hb hby d12_68)
 refine own_go st249 ?_
 have V249 : Arv Z h249 b237 k237 .int (16 : Int32) [(.int 0), (.int 8), (.int 0), (.int 0), (.int 0), (.int 0), (.int 0), (.int 0), (.int 0), (.int 0), (.int 0), (.int 0), (.int 0), (.int 0), (.int 0), (.int 0)] (.int 0) := Arv.set Ar249 cq249 cS249 cN249 cH249 cG249 rfl W249 1 rfl (Nat.le_of_ble_eq_true rfl)
 have K249 : Keep h0 h249 [] := Keep.wr K237 W249 (Or.inr (Nat.le_of_eq g237.symm))
 have N249 := Fr.snoc X249 N248 (Nat.le_trans Z0 (Nat.le_of_eq g237.symm))
 refine own_go (B := T249.setTop (mkF m 73 #[.val (.ref a1), .val (.int 32), .val (.ref b237), .val (.int 1), .val (.int (-1))] [(.ref b237), (.int 2)])) (fun tg kt => ?_) ?_
 ·refine XS.iloadN X249.here hx rfl (hb hby d12_69) rfl ?_
  refine XS.iconst X249.here hx rfl (hb hby d12_70) ?_
  refine XS.iadd X249.here hx rfl (hb hby d12_71) rfl ?_
  refine XS.aloadN X249.here hx rfl (hb hby d12_72) rfl rfl ?_
  exact kt
 obtain ⟨cl250, Ar250, cq250, cS250, cN250, cH250, cG250⟩ := id V249
 refine own_go (B := T249.setTop (mkF m 85 #[.val (.ref a1), .val (.int 32), .val (.ref b237), .val (.int 1), .val (.int (-1))] [(.int 2), (.ref b237)])) (fun tg kt => ?_) ?_
 ·refine X249.arraylength hx (by rw [e249]; exact Ar250.1) (State.isArrayOf_alike hZ.alike Ar250.2.1) (g := (mkF m 73 #[.val (.ref a1), .val (.int 32), .val (.ref b237), .val (.int 1), .val (.int (-1))] [(.ref b237), (.int 2)])) rfl rfl (hb hby d12_73) _ ?_
  rw [len_of cS250 cN250]
  refine XS.icmpYes X249.here hx rfl (pc0 := 74) (pc' := 81) rfl (hb hby d12_74) rfl (feq (by decide : ¬ ((2 : Int32) = (16 : Int32)))).2 (by decide) (by decide) ?_
  refine XS.aloadN X249.here hx rfl (hb hby d12_81) rfl rfl ?_
  refine XS.iloadN X249.here hx rfl (hb hby d12_82) rfl ?_
  refine XS.iconst X249.here hx rfl (hb hby d12_83) ?_
  refine XS.iadd X249.here hx rfl (hb hby d12_84) rfl ?_
  exact kt
 have le252 : h0.size ≤ h249.size := (Nat.le_trans E237.1 (Nat.le_of_eq (Wr.size W249).symm))
 obtain ⟨_, _, ⟨T251, L251, k251, n251⟩, -, X251, ⟨Lc251, hQ251, l251, y251, z251⟩, st251⟩ := Jvm.LawKit.callS X249 hx (y := (⟨"java/util/Arrays", "copyOf", "([II)[I"⟩ : MethodName)) hown (mvT hZ (hw _ (List.mem_of_getElem? (i := 107) rfl))) (mvT hZ (hw _ (List.mem_of_getElem? (i := 108) rfl))) (mvT hZ (hw _ (List.mem_of_getElem? (i := 109) rfl))) (mvT hZ (hw _ (List.mem_of_getElem? (i := 110) rfl))) (by decide) (backOf (W := 0) (rm23_0 l Z a0 hw [] b237 k237 (8 : Int32) h249 n0 (Nat.le_trans Z0 le252) V249) hZ (hw _ (List.mem_of_getElem? (i := 110) rfl)) (hw _ (List.mem_of_getElem? (i := 109) rfl)) (by decide) (by decide)) (g := (mkF m 85 #[.val (.ref a1), .val (.int 32), .val (.ref b237), .val (.int 1), .val (.int (-1))] [(.int 2), (.ref b237)])) rfl (by rw [hml]; rfl) (argsL := [(.ref b237), (.int 2)]) (rest := []) (lenOf pd_21 rfl) rfl (by show 2 * 0 + _ ≤ _; exact Nat.le_of_eq rfl) (hb hby d12_85) (fun _ _ => ⟨rfl, e249, (by decide : 1 + 1 ≤ _), (by decide : 16 + 2 ≤ _)⟩)
 dsimp only [Pt.U, Pt.locs, Pt.cells, Pt.slots] at X251 l251 y251 z251 st251 hQ251
 rw [l251, y251, z251] at X251
 obtain ⟨sn_251, ks_251, rfl, M251, q251_0, q251_1, q251_2⟩ := hQ251
 have N251 := Fr.app N249 M251
 have K251 : Keep h0 T251.heap [] := Keep.trans K249 q251_0 all0
 refine own_go st251 ?_
 obtain ⟨fs, hr, hrun, hended, hW, hsame⟩ := X251.leave (v := some (.ref sn_251)) (fun h => by rw [Bd.returns] at h; cases h)
 refine ⟨_, _, ?_, hrun, hended, _, _, rfl, ?_, ⟨_, rfl⟩, hW, hsame.mono (by decide) (by decide)⟩
 ·exact own_retR X251 hx Bd.returns rfl rfl (hb hby d12_88) hr
 ·show Q12_0 Z a1 w_COMPACT_STRINGS w_SIOOBE_FORMATTER bn kn kd nb vb cs h0 n0 _ T251.heap _
  exact ⟨sn_251, ks_251, rfl, N251, K251, (Nat.le_trans le252 q251_1), q251_2⟩
theorem d12_19 : decode prog_98_method_2_code 19 = .ok (.iload_n 3, 1) := by decide +kernel
theorem d12_20 : decode prog_98_method_2_code 20 = .ok (.iconst 1, 1) := by decide +kernel
theorem d12_21 : decode prog_98_method_2_code 21 = .ok (.iadd, 1) := by decide +kernel
theorem d12_22 : decode prog_98_method_2_code 22 = .ok (.aload_n 2, 1) := by decide +kernel
theorem d12_23 : decode prog_98_method_2_code 23 = .ok (.arraylength, 1) := by decide +kernel
theorem d12_24 : decode prog_98_method_2_code 24 = .ok (.if_icmp .ne 12, 3) := by decide +kernel
theorem d12_36 : decode prog_98_method_2_code 36 = .ok (.aload_n 2, 1) := by decide +kernel
theorem d12_37 : decode prog_98_method_2_code 37 = .ok (.iload_n 3, 1) := by decide +kernel
theorem d12_38 : decode prog_98_method_2_code 38 = .ok (.iload 4, 2) := by decide +kernel
theorem d12_40 : decode prog_98_method_2_code 40 = .ok (.iconst 1, 1) := by decide +kernel
theorem d12_41 : decode prog_98_method_2_code 41 = .ok (.iadd, 1) := by decide +kernel
theorem d12_42 : decode prog_98_method_2_code 42 = .ok (.iastore, 1) := by decide +kernel
theorem d12_43 : decode prog_98_method_2_code 43 = .ok (.iinc 3 1, 3) := by decide +kernel
theorem d12_46 : decode prog_98_method_2_code 46 = .ok (.aload_n 0, 1) := by decide +kernel
theorem d12_47 : decode prog_98_method_2_code 47 = .ok (.iload_n 1, 1) := by decide +kernel
theorem d12_48 : decode prog_98_method_2_code 48 = .ok (.iload 4, 2) := by decide +kernel
theorem d12_50 : decode prog_98_method_2_code 50 = .ok (.iconst 1, 1) := by decide +kernel
theorem d12_51 : decode prog_98_method_2_code 51 = .ok (.iadd, 1) := by decide +kernel
theorem d12_52 : decode prog_98_method_2_code 52 = .ok (.invokevirtual 32, 3) := by decide +kernel
theorem d12_55 : decode prog_98_method_2_code 55 = .ok (.istore 4, 2) := by decide +kernel
theorem d12_57 : decode prog_98_method_2_code 57 = .ok (.goto (-43), 3) := by decide +kernel
theorem ef_12_1 (m : MethodId) (a1 : Addr) : entryFrame m #[(.ref a1), (.int 32)] 5 = mkF m 0 #[.val (.ref a1), .val (.int 32), .unset, .unset, .unset] [] := by first | (simp [entryFrame, mkF, argsToLocals, Value.category]; done) | rfl
def Q12_1 (Z : State) (a1 : Addr) (w_COMPACT_STRINGS : Int32) (w_SIOOBE_FORMATTER : Option Addr) (bn : Addr) (kn : ClassId) (kd : Int32) (nb : Int32) (vb : List Value) (cs : Nat → Int32) (pp : Nat) (h0 : Heap) (n0 : Nat) (v : Option Value) (h : Heap) (L : List Loc) : Prop := ∃ (sn : Addr) (ks : ClassId), v = some (.ref sn) ∧ Fr n0 L ∧ Keep h0 h [] ∧ h0.size ≤ sn ∧ Arv Z h sn ks .int (3 : Int32) [(.int 0), (.int (Int32.ofNat (pp + 1))), (.int 8)] (.int 0)
set_option maxRecDepth 65536 in
set_option maxHeartbeats 40000000 in
theorem rm12_1 (l : Launch) (Z : State) (a0 : Array Value) (hw : ∀ d ∈ tables_1, d.before a0 Z = true) (ws : List Jvm.Cond) (a1 : Addr) (w_COMPACT_STRINGS : Int32) (w_SIOOBE_FORMATTER : Option Addr) (bn : Addr) (kn : ClassId) (kd : Int32) (nb : Int32) (vb : List Value) (cs : Nat → Int32) (pp : Nat) (h0 : Heap) (n0 : Nat) (Z0 : n0 ≤ h0.size) (S_COMPACT_STRINGS : Sta Z h0 "java/lang/String" "COMPACT_STRINGS" "Z" (.int w_COMPACT_STRINGS)) (N_COMPACT_STRINGS : ¬ w_COMPACT_STRINGS = (0 : Int32)) (S__assertionsDisabled : Sta Z h0 "java/lang/StringUTF16" "$assertionsDisabled" "Z" (.int 1)) (S_HI_BYTE_SHIFT : Sta Z h0 "java/lang/StringUTF16" "HI_BYTE_SHIFT" "I" (.int 0)) (S_LO_BYTE_SHIFT : Sta Z h0 "java/lang/StringUTF16" "LO_BYTE_SHIFT" "I" (.int 8)) (S_SIOOBE_FORMATTER : Sta Z h0 "jdk/internal/util/Preconditions" "SIOOBE_FORMATTER" "Ljava/util/function/BiFunction;" (own_rv w_SIOOBE_FORMATTER)) (E_a1 : Exa Z h0 a1 "java/lang/String") (Fv_a1 : Fld Z h0 a1 "java/lang/String" "value" "[B" (.ref bn)) (Fc_a1 : Fld Z h0 a1 "java/lang/String" "coder" "B" (.int kd)) (V_bn : Arv Z h0 bn kn .byte nb vb (.int 0)) (hsp : own_sp cs kd nb vb) (hC : ∀ i, i < 7 → 0 ≤ (cs i).toInt ∧ (cs i).toInt ≤ 65535) (hpq : pp < 7) (h1s : cs pp = 32) (hno : ∀ i, i < 7 → i ≠ pp → ¬ cs i = 32) :
  MetFree l (⟨"com/example/restate/restate/TextLines", "starts", "(Ljava/lang/String;C)[I"⟩ : MethodName) (head1 (Jvm.Cond.code (⟨"com/example/restate/restate/TextLines", "starts", "(Ljava/lang/String;C)[I"⟩ : MethodName) prog_98_method_2_code 5 (some (.array .int)) :: ws) ({ frames := 7, cells := 2, slots := 19, locals := 100 } : Room)) (fun a U => a = #[(.ref a1), (.int 32)] ∧ Z.Warmed39 U.vm ∧ U.heap = h0) (fun _ _ _ _ _ => True) (fun _ U o U' => ∃ v L, o = .returned v ∧ Q12_1 Z a1 w_COMPACT_STRINGS w_SIOOBE_FORMATTER bn kn kd nb vb cs pp h0 n0 v U'.heap L ∧ FrameEnd U o U' L ({ frames := 7, cells := 2, slots := 19, locals := 100 } : Room).cells ({ frames := 7, cells := 2, slots := 19, locals := 100 } : Room).slots) := by
 refine MetFree.of_bodySF (plainFor_of_name pn_524) hisR ?_
 intro p e s m args below meth c s₁ Bd hml0 hP hK
 obtain ⟨rfl, hZ, hh⟩ := hP
 have hx := Bd.exec
 have hby := Bd.bytes
 have hml : c.maxLocals = 5 := hml0
 have hown : s.vm.findClass "com/example/restate/restate/TextLines" = some m.cls := findClass_of_methodNamed Bd.named
 have hnm := (name_of_methodNamed Bd.named Bd.method).1
 have X0 : Stand p l e ({ frames := 7, cells := 2, slots := 19, locals := 100 } : Room) s m #[(.ref a1), (.int 32)] below meth c s₁ [] 0 0 := Stand.of_body Bd
 have e0 : s₁.heap = h0 := by rw [← hh, Bd.state]; rfl
 have N0 := Fr.nil n0
 refine own_go (B := s₁.setTop (mkF m 0 #[.val (.ref a1), .val (.int 32), .unset, .unset, .unset] [])) (fun t k => castTop (ef_12_1 m a1) k) ?_
 refine own_go (B := s₁.setTop (mkF m 2 #[.val (.ref a1), .val (.int 32), .unset, .unset, .unset] [(.int 16)])) (fun tg kt => ?_) ?_
 ·refine XS.bipush X0.here hx rfl (hb hby d12_0) ?_
  exact kt
 obtain ⟨T254, h254, k254, X254, e254, E254, A254, st254⟩ := newP X0 hx hZ (hw _ (List.mem_of_getElem? (i := 63) rfl)) e0 (g := (mkF m 2 #[.val (.ref a1), .val (.int 32), .unset, .unset, .unset] [(.int 16)])) rfl (hb hby d12_2) rfl (by decide) (cap := 16) (by decide) (by decide) (by decide) (by decide)
 obtain ⟨b254, g254⟩ : ∃ z, z = h0.size := ⟨_, rfl⟩
 rw [← g254] at A254 st254
 refine own_go st254 ?_
 have K254 : Keep h0 h254 [] := Keep.ext (Keep.refl h0 []) E254
 have V254 : Arv Z h254 b254 k254 .int (16 : Int32) [(.int 0), (.int 0), (.int 0), (.int 0), (.int 0), (.int 0), (.int 0), (.int 0), (.int 0), (.int 0), (.int 0), (.int 0), (.int 0), (.int 0), (.int 0), (.int 0)] (.int 0) := (Arv.new A254 (by decide)).pad (pad_rep [] (.int 0) 16)
 refine own_go (B := T254.setTop (mkF m 9 #[.val (.ref a1), .val (.int 32), .val (.ref b254), .val (.int 1), .unset] [(.int 32), (.ref a1)])) (fun tg kt => ?_) ?_
 ·refine XS.astoreN X254.here hx rfl (hb hby d12_4) rfl rfl (l' := #[.val (.ref a1), .val (.int 32), .val (.ref b254), .unset, .unset]) rfl ?_
  refine XS.iconst X254.here hx rfl (hb hby d12_5) ?_
  refine XS.istoreN X254.here hx rfl (hb hby d12_6) rfl (l' := #[.val (.ref a1), .val (.int 32), .val (.ref b254), .val (.int 1), .unset]) rfl ?_
  refine XS.aloadN X254.here hx rfl (hb hby d12_7) rfl rfl ?_
  refine XS.iloadN X254.here hx rfl (hb hby d12_8) rfl ?_
  exact kt
 have f256 : Sta Z h254 "java/lang/String" "COMPACT_STRINGS" "Z" (.int w_COMPACT_STRINGS) := (S_COMPACT_STRINGS.ext E254)
 have f257 : Sta Z h254 "java/lang/StringUTF16" "$assertionsDisabled" "Z" (.int 1) := (S__assertionsDisabled.ext E254)
 have f258 : Sta Z h254 "java/lang/StringUTF16" "HI_BYTE_SHIFT" "I" (.int 0) := (S_HI_BYTE_SHIFT.ext E254)
 have f259 : Sta Z h254 "java/lang/StringUTF16" "LO_BYTE_SHIFT" "I" (.int 8) := (S_LO_BYTE_SHIFT.ext E254)
 have f260 : Sta Z h254 "jdk/internal/util/Preconditions" "SIOOBE_FORMATTER" "Ljava/util/function/BiFunction;" (own_rv w_SIOOBE_FORMATTER) := (S_SIOOBE_FORMATTER.ext E254)
 have f261 : Exa Z h254 a1 "java/lang/String" := (E_a1.ext E254)
 have f262 : Fld Z h254 a1 "java/lang/String" "value" "[B" (.ref bn) := (Fv_a1.ext E254)
 have f263 : Fld Z h254 a1 "java/lang/String" "coder" "B" (.int kd) := (Fc_a1.ext E254)
 have f264 : Arv Z h254 bn kn .byte nb vb (.int 0) := (V_bn.ext E254)
 obtain ⟨cq255, kq255, q255a, q255b, q255c⟩ := isOf hZ e254 f261
 obtain ⟨_, _, ⟨T255, L255, k255, n255⟩, -, X255, ⟨Lc255, hQ255, l255, y255, z255⟩, st255⟩ := X254.virtualBack hx (y := (⟨"java/lang/String", "indexOf", "(I)I"⟩ : MethodName)) (z := (⟨"java/lang/String", "indexOf", "(I)I"⟩ : MethodName)) hown (mvT hZ (hw _ (List.mem_of_getElem? (i := 64) rfl))) (mvT hZ (hw _ (List.mem_of_getElem? (i := 65) rfl))) (notFace_of_selects (args := #[]) (mvT hZ (hw _ (List.mem_of_getElem? (i := 67) rfl)))) (mvT hZ (hw _ (List.mem_of_getElem? (i := 67) rfl))) (mvT hZ (hw _ (List.mem_of_getElem? (i := 66) rfl))) (by decide) (backOf (W := 0) (rm13 l Z a0 hw [] a1 w_COMPACT_STRINGS w_SIOOBE_FORMATTER bn kn kd nb vb cs h254 n0 (Nat.le_trans Z0 E254.1) f256 (by first | assumption | decide) f257 f258 f259 f260 f261 f262 f263 f264 (by first | assumption | decide) (hC)) hZ (hw _ (List.mem_of_getElem? (i := 68) rfl)) (hw _ (List.mem_of_getElem? (i := 21) rfl)) (by decide) (by decide)) q255a q255c (g := (mkF m 9 #[.val (.ref a1), .val (.int 32), .val (.ref b254), .val (.int 1), .unset] [(.int 32), (.ref a1)])) rfl (by rw [hml]; rfl) (Steps.refl _) (argsL := [(.int 32)]) (rest := []) (lenOf pd_0 rfl) rfl (by show 2 * 0 + _ ≤ _; exact Nat.le_of_eq rfl) (hb hby d12_9) (fun _ _ => ⟨rfl, e254, (by decide : 1 + 0 ≤ _), (by decide : 16 + 0 ≤ _)⟩)
 dsimp only [Pt.U, Pt.locs, Pt.cells, Pt.slots] at X255 l255 y255 z255 st255 hQ255
 rw [l255, y255, z255] at X255
 obtain ⟨rfl, M255, q255_0⟩ := hQ255
 have N255 := Fr.app N0 M255
 refine own_go (fun t k => st255.trans k) ?_
 refine own_go (B := T255.setTop (mkF m 14 #[.val (.ref a1), .val (.int 32), .val (.ref b254), .val (.int 1), .val (.int (own_sk cs (7 - 0) 0))] [])) (fun tg kt => ?_) ?_
 ·refine XS.istore X255.here hx rfl (hb hby d12_12) rfl (l' := #[.val (.ref a1), .val (.int 32), .val (.ref b254), .val (.int 1), .val (.int (own_sk cs (7 - 0) 0))]) rfl ?_
  exact kt
 rw [show (own_sk cs (7 - 0) 0) = (Int32.ofNat pp) from (own_skA (Nat.zero_le _) (by omega) h1s (fun i _ h => hno i (by omega) (by omega)))]
 refine own_go (B := T255.setTop (mkF m 23 #[.val (.ref a1), .val (.int 32), .val (.ref b254), .val (.int 1), .val (.int (Int32.ofNat pp))] [(.ref b254), (.int 2)])) (fun tg kt => ?_) ?_
 ·refine XS.iload X255.here hx rfl (hb hby d12_14) rfl ?_
  refine XS.ifNo X255.here hx rfl (hb hby d12_16) rfl ((if0 _ _).trans (flt (show ¬ ((Int32.ofNat pp) < (0 : Int32)) from (own_ltc (k := 7) (by omega) (by decide) (7 : Int32) (by decide)).1)).1) ?_
  refine XS.iloadN X255.here hx rfl (hb hby d12_19) rfl ?_
  refine XS.iconst X255.here hx rfl (hb hby d12_20) ?_
  refine XS.iadd X255.here hx rfl (hb hby d12_21) rfl ?_
  refine XS.aloadN X255.here hx rfl (hb hby d12_22) rfl rfl ?_
  exact kt
 obtain ⟨cl265, Ar265, cq265, cS265, cN265, cH265, cG265⟩ := id V254
 refine own_go (B := T255.setTop (mkF m 42 #[.val (.ref a1), .val (.int 32), .val (.ref b254), .val (.int 1), .val (.int (Int32.ofNat pp))] [(.int ((Int32.ofNat pp) + (1 : Int32))), (.int 1), (.ref b254)])) (fun tg kt => ?_) ?_
 ·refine X255.arraylength hx (by rw [q255_0]; exact Ar265.1) (State.isArrayOf_alike hZ.alike Ar265.2.1) (g := (mkF m 23 #[.val (.ref a1), .val (.int 32), .val (.ref b254), .val (.int 1), .val (.int (Int32.ofNat pp))] [(.ref b254), (.int 2)])) rfl rfl (hb hby d12_23) _ ?_
  rw [len_of cS265 cN265]
  refine XS.icmpYes X255.here hx rfl (pc0 := 24) (pc' := 36) rfl (hb hby d12_24) rfl (feq (by decide : ¬ ((2 : Int32) = (16 : Int32)))).2 (by decide) (by decide) ?_
  refine XS.aloadN X255.here hx rfl (hb hby d12_36) rfl rfl ?_
  refine XS.iloadN X255.here hx rfl (hb hby d12_37) rfl ?_
  refine XS.iload X255.here hx rfl (hb hby d12_38) rfl ?_
  refine XS.iconst X255.here hx rfl (hb hby d12_40) ?_
  refine XS.iadd X255.here hx rfl (hb hby d12_41) rfl ?_
  exact kt
 rw [show ((Int32.ofNat pp) + (1 : Int32)) = (Int32.ofNat (pp + 1)) from own_isucc _]
 obtain ⟨cl266, Ar266, cq266, cS266, cN266, cH266, cG266⟩ := id V254
 have hin266 := inb_of (j := (1 : Int32)) cS266 ⟨by decide, by decide⟩
 obtain ⟨T266, h266, X266, e266, W266, st266⟩ := stI X255 hx hZ q255_0 Ar266 (j := (1 : Int32)) hin266 (g := (mkF m 42 #[.val (.ref a1), .val (.int 32), .val (.ref b254), .val (.int 1), .val (.int (Int32.ofNat pp))] [(.int (Int32.ofNat (pp + 1))), (.int 1), (.ref b254)])) rfl rfl (hb hby d12_42)
 refine own_go st266 ?_
 have V266 : Arv Z h266 b254 k254 .int (16 : Int32) [(.int 0), (.int (Int32.ofNat (pp + 1))), (.int 0), (.int 0), (.int 0), (.int 0), (.int 0), (.int 0), (.int 0), (.int 0), (.int 0), (.int 0), (.int 0), (.int 0), (.int 0), (.int 0)] (.int 0) := Arv.set Ar266 cq266 cS266 cN266 cH266 cG266 rfl W266 1 rfl (Nat.le_of_ble_eq_true rfl)
 have K266 : Keep h0 h266 [] := Keep.wr K254 W266 (Or.inr (Nat.le_of_eq g254.symm))
 have N266 := Fr.snoc X266 N255 (Nat.le_trans Z0 (Nat.le_of_eq g254.symm))
 refine own_go (B := T266.setTop (mkF m 52 #[.val (.ref a1), .val (.int 32), .val (.ref b254), .val (.int 2), .val (.int (Int32.ofNat pp))] [(.int ((Int32.ofNat pp) + (1 : Int32))), (.int 32), (.ref a1)])) (fun tg kt => ?_) ?_
 ·refine XS.iinc X266.here hx rfl (hb hby d12_43) rfl (l' := #[.val (.ref a1), .val (.int 32), .val (.ref b254), .val (.int 2), .val (.int (Int32.ofNat pp))]) rfl ?_
  refine XS.aloadN X266.here hx rfl (hb hby d12_46) rfl rfl ?_
  refine XS.iloadN X266.here hx rfl (hb hby d12_47) rfl ?_
  refine XS.iload X266.here hx rfl (hb hby d12_48) rfl ?_
  refine XS.iconst X266.here hx rfl (hb hby d12_50) ?_
  refine XS.iadd X266.here hx rfl (hb hby d12_51) rfl ?_
  exact kt
 rw [show ((Int32.ofNat pp) + (1 : Int32)) = (Int32.ofNat (pp + 1)) from own_isucc _]
 have f268 : Sta Z h266 "java/lang/String" "COMPACT_STRINGS" "Z" (.int w_COMPACT_STRINGS) := (f256.wr W266)
 have f269 : Sta Z h266 "java/lang/StringUTF16" "$assertionsDisabled" "Z" (.int 1) := (f257.wr W266)
 have f270 : Sta Z h266 "java/lang/StringUTF16" "HI_BYTE_SHIFT" "I" (.int 0) := (f258.wr W266)
 have f271 : Sta Z h266 "java/lang/StringUTF16" "LO_BYTE_SHIFT" "I" (.int 8) := (f259.wr W266)
 have f272 : Sta Z h266 "jdk/internal/util/Preconditions" "SIOOBE_FORMATTER" "Ljava/util/function/BiFunction;" (own_rv w_SIOOBE_FORMATTER) := (f260.wr W266)
 have f273 : Exa Z h266 a1 "java/lang/String" := (f261.wr W266)
 have ne274 : a1 ≠ b254 := (Nat.ne_of_lt (Nat.lt_of_lt_of_le E_a1.lt (Nat.le_of_eq g254.symm)))
 have f275 : Fld Z h266 a1 "java/lang/String" "value" "[B" (.ref bn) := (f262.other W266 (Or.inl ne274))
 have f276 : Fld Z h266 a1 "java/lang/String" "coder" "B" (.int kd) := (f263.other W266 (Or.inl ne274))
 have ne277 : bn ≠ b254 := (Nat.ne_of_lt (Nat.lt_of_lt_of_le V_bn.lt (Nat.le_of_eq g254.symm)))
 have f278 : Arv Z h266 bn kn .byte nb vb (.int 0) := (f264.other W266 ne277)
 have le279 : h0.size ≤ h266.size := (Nat.le_trans E254.1 (Nat.le_of_eq (Wr.size W266).symm))
 obtain ⟨cq267, kq267, q267a, q267b, q267c⟩ := isOf hZ e266 f273
 obtain ⟨_, _, ⟨T267, L267, k267, n267⟩, -, X267, ⟨Lc267, hQ267, l267, y267, z267⟩, st267⟩ := X266.virtualBack hx (y := (⟨"java/lang/String", "indexOf", "(II)I"⟩ : MethodName)) (z := (⟨"java/lang/String", "indexOf", "(II)I"⟩ : MethodName)) hown (mvT hZ (hw _ (List.mem_of_getElem? (i := 144) rfl))) (mvT hZ (hw _ (List.mem_of_getElem? (i := 70) rfl))) (notFace_of_selects (args := #[]) (mvT hZ (hw _ (List.mem_of_getElem? (i := 72) rfl)))) (mvT hZ (hw _ (List.mem_of_getElem? (i := 72) rfl))) (mvT hZ (hw _ (List.mem_of_getElem? (i := 71) rfl))) (by decide) (backOf (W := 0) (rm14 l Z a0 hw [] a1 w_COMPACT_STRINGS w_SIOOBE_FORMATTER bn kn kd nb vb cs (pp + 1) h266 n0 (Nat.le_trans Z0 le279) f268 (by first | assumption | decide) f269 f270 f271 f272 f273 f275 f276 f278 (by first | assumption | decide) ((by omega)) (hC)) hZ (hw _ (List.mem_of_getElem? (i := 73) rfl)) (hw _ (List.mem_of_getElem? (i := 21) rfl)) (by decide) (by decide)) q267a q267c (g := (mkF m 52 #[.val (.ref a1), .val (.int 32), .val (.ref b254), .val (.int 2), .val (.int (Int32.ofNat pp))] [(.int (Int32.ofNat (pp + 1))), (.int 32), (.ref a1)])) rfl (by rw [hml]; rfl) (Steps.refl _) (argsL := [(.int 32), (.int (Int32.ofNat (pp + 1)))]) (rest := []) (lenOf pd_17 rfl) rfl (by show 2 * 0 + _ ≤ _; exact Nat.le_of_eq rfl) (hb hby d12_52) (fun _ _ => ⟨rfl, e266, (by decide : 1 + 0 ≤ _), (by decide : 16 + 0 ≤ _)⟩)
 dsimp only [Pt.U, Pt.locs, Pt.cells, Pt.slots] at X267 l267 y267 z267 st267 hQ267
 rw [l267, y267, z267] at X267
 obtain ⟨rfl, M267, q267_0⟩ := hQ267
 have N267 := Fr.app N266 M267
 refine own_go (fun t k => st267.trans k) ?_
 refine own_go (B := T267.setTop (mkF m 14 #[.val (.ref a1), .val (.int 32), .val (.ref b254), .val (.int 2), .val (.int (own_sk cs (7 - (pp + 1)) (pp + 1)))] [])) (fun tg kt => ?_) ?_
 ·refine XS.istore X267.here hx rfl (hb hby d12_55) rfl (l' := #[.val (.ref a1), .val (.int 32), .val (.ref b254), .val (.int 2), .val (.int (own_sk cs (7 - (pp + 1)) (pp + 1)))]) rfl ?_
  refine XS.goto X267.here hx rfl (pc0 := 57) (pc' := 14) rfl (hb hby d12_57) (by decide) (by decide) ?_
  exact kt
 rw [show (own_sk cs (7 - (pp + 1)) (pp + 1)) = (-1 : Int32) from (own_skN (by omega) (fun i _ h => hno i h (by omega)))]
 refine own_go (B := T267.setTop (mkF m 63 #[.val (.ref a1), .val (.int 32), .val (.ref b254), .val (.int 2), .val (.int (-1))] [(.ref a1), (.int 2), (.ref b254)])) (fun tg kt => ?_) ?_
 ·refine XS.iload X267.here hx rfl (hb hby d12_14) rfl ?_
  refine XS.ifYes X267.here hx rfl (pc0 := 16) (pc' := 60) rfl (hb hby d12_16) rfl ((if0 _ _).trans (tlt (by decide : (-1 : Int32) < (0 : Int32))).1) (by decide) (by decide) ?_
  refine XS.aloadN X267.here hx rfl (hb hby d12_60) rfl rfl ?_
  refine XS.iloadN X267.here hx rfl (hb hby d12_61) rfl ?_
  refine XS.aloadN X267.here hx rfl (hb hby d12_62) rfl rfl ?_
  exact kt
 obtain ⟨cq280, kq280, q280a, q280b, q280c⟩ := isOf hZ q267_0 f273
 obtain ⟨_, _, ⟨T280, L280, k280, n280⟩, -, X280, ⟨Lc280, hQ280, l280, y280, z280⟩, st280⟩ := X267.virtualBack hx (y := (⟨"java/lang/String", "length", "()I"⟩ : MethodName)) (z := (⟨"java/lang/String", "length", "()I"⟩ : MethodName)) hown (mvT hZ (hw _ (List.mem_of_getElem? (i := 106) rfl))) (mvT hZ (hw _ (List.mem_of_getElem? (i := 80) rfl))) (notFace_of_selects (args := #[]) (mvT hZ (hw _ (List.mem_of_getElem? (i := 82) rfl)))) (mvT hZ (hw _ (List.mem_of_getElem? (i := 82) rfl))) (mvT hZ (hw _ (List.mem_of_getElem? (i := 81) rfl))) (by decide) (backOf (W := 2) (rm16 l Z a0 hw [] a1 w_COMPACT_STRINGS bn kn kd nb vb cs h266 n0 (Nat.le_trans Z0 le279) f268 (by first | assumption | decide) f273 f275 f276 f278 (by first | assumption | decide)) hZ (hw _ (List.mem_of_getElem? (i := 83) rfl)) (hw _ (List.mem_of_getElem? (i := 21) rfl)) (by decide) (by decide)) q280a q280c (g := (mkF m 63 #[.val (.ref a1), .val (.int 32), .val (.ref b254), .val (.int 2), .val (.int (-1))] [(.ref a1), (.int 2), (.ref b254)])) rfl (by rw [hml]; rfl) (Steps.refl _) (argsL := []) (rest := [(.int 2), (.ref b254)]) (lenOf pd_19 rfl) rfl (by show 2 * 0 + _ ≤ _; exact Nat.le_of_eq rfl) (hb hby d12_63) (fun _ _ => ⟨rfl, q267_0, (by decide : 1 + 0 ≤ _), (by decide : 16 + 0 ≤ _)⟩)
 dsimp only [Pt.U, Pt.locs, Pt.cells, Pt.slots] at X280 l280 y280 z280 st280 hQ280
 rw [l280, y280, z280] at X280
 obtain ⟨rfl, M280, q280_0⟩ := hQ280
 have N280 := Fr.app N267 M280
 refine own_go (fun t k => st280.trans k) ?_
 refine own_go (B := T280.setTop (mkF m 68 #[.val (.ref a1), .val (.int 32), .val (.ref b254), .val (.int 2), .val (.int (-1))] [(.int 8), (.int 2), (.ref b254)])) (fun tg kt => ?_) ?_
 ·refine XS.iconst X280.here hx rfl (hb hby d12_66) ?_
  refine XS.iadd X280.here hx rfl (hb hby d12_67) rfl ?_
  exact kt
 obtain ⟨cl281, Ar281, cq281, cS281, cN281, cH281, cG281⟩ := id V266
 have hin281 := inb_of (j := (2 : Int32)) cS281 ⟨by decide, by decide⟩
 obtain ⟨T281, h281, X281, e281, W281, st281⟩ := stI X280 hx hZ q280_0 Ar281 (j := (2 : Int32)) hin281 (g := (mkF m 68 #[.val (.ref a1), .val (.int 32), .val (.ref b254), .val (.int 2), .val (.int (-1))] [(.int 8), (.int 2), (.ref b254)])) rfl rfl (hb hby d12_68)
 refine own_go st281 ?_
 have V281 : Arv Z h281 b254 k254 .int (16 : Int32) [(.int 0), (.int (Int32.ofNat (pp + 1))), (.int 8), (.int 0), (.int 0), (.int 0), (.int 0), (.int 0), (.int 0), (.int 0), (.int 0), (.int 0), (.int 0), (.int 0), (.int 0), (.int 0)] (.int 0) := Arv.set Ar281 cq281 cS281 cN281 cH281 cG281 rfl W281 2 rfl (Nat.le_of_ble_eq_true rfl)
 have K281 : Keep h0 h281 [] := Keep.wr K266 W281 (Or.inr (Nat.le_of_eq g254.symm))
 have N281 := Fr.snoc X281 N280 (Nat.le_trans Z0 (Nat.le_of_eq g254.symm))
 refine own_go (B := T281.setTop (mkF m 73 #[.val (.ref a1), .val (.int 32), .val (.ref b254), .val (.int 2), .val (.int (-1))] [(.ref b254), (.int 3)])) (fun tg kt => ?_) ?_
 ·refine XS.iloadN X281.here hx rfl (hb hby d12_69) rfl ?_
  refine XS.iconst X281.here hx rfl (hb hby d12_70) ?_
  refine XS.iadd X281.here hx rfl (hb hby d12_71) rfl ?_
  refine XS.aloadN X281.here hx rfl (hb hby d12_72) rfl rfl ?_
  exact kt
 obtain ⟨cl282, Ar282, cq282, cS282, cN282, cH282, cG282⟩ := id V281
 refine own_go (B := T281.setTop (mkF m 85 #[.val (.ref a1), .val (.int 32), .val (.ref b254), .val (.int 2), .val (.int (-1))] [(.int 3), (.ref b254)])) (fun tg kt => ?_) ?_
 ·refine X281.arraylength hx (by rw [e281]; exact Ar282.1) (State.isArrayOf_alike hZ.alike Ar282.2.1) (g := (mkF m 73 #[.val (.ref a1), .val (.int 32), .val (.ref b254), .val (.int 2), .val (.int (-1))] [(.ref b254), (.int 3)])) rfl rfl (hb hby d12_73) _ ?_
  rw [len_of cS282 cN282]
  refine XS.icmpYes X281.here hx rfl (pc0 := 74) (pc' := 81) rfl (hb hby d12_74) rfl (feq (by decide : ¬ ((3 : Int32) = (16 : Int32)))).2 (by decide) (by decide) ?_
  refine XS.aloadN X281.here hx rfl (hb hby d12_81) rfl rfl ?_
  refine XS.iloadN X281.here hx rfl (hb hby d12_82) rfl ?_
  refine XS.iconst X281.here hx rfl (hb hby d12_83) ?_
  refine XS.iadd X281.here hx rfl (hb hby d12_84) rfl ?_
  exact kt
 have le284 : h0.size ≤ h281.size := (Nat.le_trans (Nat.le_trans E254.1 (Nat.le_of_eq (Wr.size W266).symm)) (Nat.le_of_eq (Wr.size W281).symm))
 obtain ⟨_, _, ⟨T283, L283, k283, n283⟩, -, X283, ⟨Lc283, hQ283, l283, y283, z283⟩, st283⟩ := Jvm.LawKit.callS X281 hx (y := (⟨"java/util/Arrays", "copyOf", "([II)[I"⟩ : MethodName)) hown (mvT hZ (hw _ (List.mem_of_getElem? (i := 107) rfl))) (mvT hZ (hw _ (List.mem_of_getElem? (i := 108) rfl))) (mvT hZ (hw _ (List.mem_of_getElem? (i := 109) rfl))) (mvT hZ (hw _ (List.mem_of_getElem? (i := 110) rfl))) (by decide) (backOf (W := 0) (rm23_1 l Z a0 hw [] b254 k254 (Int32.ofNat (pp + 1)) (8 : Int32) h281 n0 (Nat.le_trans Z0 le284) V281) hZ (hw _ (List.mem_of_getElem? (i := 110) rfl)) (hw _ (List.mem_of_getElem? (i := 109) rfl)) (by decide) (by decide)) (g := (mkF m 85 #[.val (.ref a1), .val (.int 32), .val (.ref b254), .val (.int 2), .val (.int (-1))] [(.int 3), (.ref b254)])) rfl (by rw [hml]; rfl) (argsL := [(.ref b254), (.int 3)]) (rest := []) (lenOf pd_21 rfl) rfl (by show 2 * 0 + _ ≤ _; exact Nat.le_of_eq rfl) (hb hby d12_85) (fun _ _ => ⟨rfl, e281, (by decide : 1 + 1 ≤ _), (by decide : 16 + 3 ≤ _)⟩)
 dsimp only [Pt.U, Pt.locs, Pt.cells, Pt.slots] at X283 l283 y283 z283 st283 hQ283
 rw [l283, y283, z283] at X283
 obtain ⟨sn_283, ks_283, rfl, M283, q283_0, q283_1, q283_2⟩ := hQ283
 have N283 := Fr.app N281 M283
 have K283 : Keep h0 T283.heap [] := Keep.trans K281 q283_0 all0
 refine own_go st283 ?_
 obtain ⟨fs, hr, hrun, hended, hW, hsame⟩ := X283.leave (v := some (.ref sn_283)) (fun h => by rw [Bd.returns] at h; cases h)
 refine ⟨_, _, ?_, hrun, hended, _, _, rfl, ?_, ⟨_, rfl⟩, hW, hsame.mono (by decide) (by decide)⟩
 ·exact own_retR X283 hx Bd.returns rfl rfl (hb hby d12_88) hr
 ·show Q12_1 Z a1 w_COMPACT_STRINGS w_SIOOBE_FORMATTER bn kn kd nb vb cs pp h0 n0 _ T283.heap _
  exact ⟨sn_283, ks_283, rfl, N283, K283, (Nat.le_trans le284 q283_1), q283_2⟩
theorem ef_12_2 (m : MethodId) (a1 : Addr) : entryFrame m #[(.ref a1), (.int 32)] 5 = mkF m 0 #[.val (.ref a1), .val (.int 32), .unset, .unset, .unset] [] := by first | (simp [entryFrame, mkF, argsToLocals, Value.category]; done) | rfl
def Q12_2 (Z : State) (a1 : Addr) (w_COMPACT_STRINGS : Int32) (w_SIOOBE_FORMATTER : Option Addr) (bn : Addr) (kn : ClassId) (kd : Int32) (nb : Int32) (vb : List Value) (cs : Nat → Int32) (pp : Nat) (qq : Nat) (h0 : Heap) (n0 : Nat) (v : Option Value) (h : Heap) (L : List Loc) : Prop := ∃ (sn : Addr) (ks : ClassId), v = some (.ref sn) ∧ Fr n0 L ∧ Keep h0 h [] ∧ h0.size ≤ sn ∧ Arv Z h sn ks .int (4 : Int32) [(.int 0), (.int (Int32.ofNat (pp + 1))), (.int (Int32.ofNat (qq + 1))), (.int 8)] (.int 0)
set_option maxRecDepth 65536 in
set_option maxHeartbeats 40000000 in
theorem rm12_2 (l : Launch) (Z : State) (a0 : Array Value) (hw : ∀ d ∈ tables_1, d.before a0 Z = true) (ws : List Jvm.Cond) (a1 : Addr) (w_COMPACT_STRINGS : Int32) (w_SIOOBE_FORMATTER : Option Addr) (bn : Addr) (kn : ClassId) (kd : Int32) (nb : Int32) (vb : List Value) (cs : Nat → Int32) (pp : Nat) (qq : Nat) (h0 : Heap) (n0 : Nat) (Z0 : n0 ≤ h0.size) (S_COMPACT_STRINGS : Sta Z h0 "java/lang/String" "COMPACT_STRINGS" "Z" (.int w_COMPACT_STRINGS)) (N_COMPACT_STRINGS : ¬ w_COMPACT_STRINGS = (0 : Int32)) (S__assertionsDisabled : Sta Z h0 "java/lang/StringUTF16" "$assertionsDisabled" "Z" (.int 1)) (S_HI_BYTE_SHIFT : Sta Z h0 "java/lang/StringUTF16" "HI_BYTE_SHIFT" "I" (.int 0)) (S_LO_BYTE_SHIFT : Sta Z h0 "java/lang/StringUTF16" "LO_BYTE_SHIFT" "I" (.int 8)) (S_SIOOBE_FORMATTER : Sta Z h0 "jdk/internal/util/Preconditions" "SIOOBE_FORMATTER" "Ljava/util/function/BiFunction;" (own_rv w_SIOOBE_FORMATTER)) (E_a1 : Exa Z h0 a1 "java/lang/String") (Fv_a1 : Fld Z h0 a1 "java/lang/String" "value" "[B" (.ref bn)) (Fc_a1 : Fld Z h0 a1 "java/lang/String" "coder" "B" (.int kd)) (V_bn : Arv Z h0 bn kn .byte nb vb (.int 0)) (hsp : own_sp cs kd nb vb) (hC : ∀ i, i < 7 → 0 ≤ (cs i).toInt ∧ (cs i).toInt ≤ 65535) (hpq : pp < qq ∧ qq < 7) (h1s : cs pp = 32) (h2s : cs qq = 32) (hno : ∀ i, i < 7 → i ≠ pp → i ≠ qq → ¬ cs i = 32) :
  MetFree l (⟨"com/example/restate/restate/TextLines", "starts", "(Ljava/lang/String;C)[I"⟩ : MethodName) (head1 (Jvm.Cond.code (⟨"com/example/restate/restate/TextLines", "starts", "(Ljava/lang/String;C)[I"⟩ : MethodName) prog_98_method_2_code 5 (some (.array .int)) :: ws) ({ frames := 7, cells := 2, slots := 20, locals := 100 } : Room)) (fun a U => a = #[(.ref a1), (.int 32)] ∧ Z.Warmed39 U.vm ∧ U.heap = h0) (fun _ _ _ _ _ => True) (fun _ U o U' => ∃ v L, o = .returned v ∧ Q12_2 Z a1 w_COMPACT_STRINGS w_SIOOBE_FORMATTER bn kn kd nb vb cs pp qq h0 n0 v U'.heap L ∧ FrameEnd U o U' L ({ frames := 7, cells := 2, slots := 20, locals := 100 } : Room).cells ({ frames := 7, cells := 2, slots := 20, locals := 100 } : Room).slots) := by
 refine MetFree.of_bodySF (plainFor_of_name pn_524) hisR ?_
 intro p e s m args below meth c s₁ Bd hml0 hP hK
 obtain ⟨rfl, hZ, hh⟩ := hP
 have hx := Bd.exec
 have hby := Bd.bytes
 have hml : c.maxLocals = 5 := hml0
 have hown : s.vm.findClass "com/example/restate/restate/TextLines" = some m.cls := findClass_of_methodNamed Bd.named
 have hnm := (name_of_methodNamed Bd.named Bd.method).1
 have X0 : Stand p l e ({ frames := 7, cells := 2, slots := 20, locals := 100 } : Room) s m #[(.ref a1), (.int 32)] below meth c s₁ [] 0 0 := Stand.of_body Bd
 have e0 : s₁.heap = h0 := by rw [← hh, Bd.state]; rfl
 have N0 := Fr.nil n0
 refine own_go (B := s₁.setTop (mkF m 0 #[.val (.ref a1), .val (.int 32), .unset, .unset, .unset] [])) (fun t k => castTop (ef_12_2 m a1) k) ?_
 refine own_go (B := s₁.setTop (mkF m 2 #[.val (.ref a1), .val (.int 32), .unset, .unset, .unset] [(.int 16)])) (fun tg kt => ?_) ?_
 ·refine XS.bipush X0.here hx rfl (hb hby d12_0) ?_
  exact kt
 obtain ⟨T286, h286, k286, X286, e286, E286, A286, st286⟩ := newP X0 hx hZ (hw _ (List.mem_of_getElem? (i := 63) rfl)) e0 (g := (mkF m 2 #[.val (.ref a1), .val (.int 32), .unset, .unset, .unset] [(.int 16)])) rfl (hb hby d12_2) rfl (by decide) (cap := 16) (by decide) (by decide) (by decide) (by decide)
 obtain ⟨b286, g286⟩ : ∃ z, z = h0.size := ⟨_, rfl⟩
 rw [← g286] at A286 st286
 refine own_go st286 ?_
 have K286 : Keep h0 h286 [] := Keep.ext (Keep.refl h0 []) E286
 have V286 : Arv Z h286 b286 k286 .int (16 : Int32) [(.int 0), (.int 0), (.int 0), (.int 0), (.int 0), (.int 0), (.int 0), (.int 0), (.int 0), (.int 0), (.int 0), (.int 0), (.int 0), (.int 0), (.int 0), (.int 0)] (.int 0) := (Arv.new A286 (by decide)).pad (pad_rep [] (.int 0) 16)
 refine own_go (B := T286.setTop (mkF m 9 #[.val (.ref a1), .val (.int 32), .val (.ref b286), .val (.int 1), .unset] [(.int 32), (.ref a1)])) (fun tg kt => ?_) ?_
 ·refine XS.astoreN X286.here hx rfl (hb hby d12_4) rfl rfl (l' := #[.val (.ref a1), .val (.int 32), .val (.ref b286), .unset, .unset]) rfl ?_
  refine XS.iconst X286.here hx rfl (hb hby d12_5) ?_
  refine XS.istoreN X286.here hx rfl (hb hby d12_6) rfl (l' := #[.val (.ref a1), .val (.int 32), .val (.ref b286), .val (.int 1), .unset]) rfl ?_
  refine XS.aloadN X286.here hx rfl (hb hby d12_7) rfl rfl ?_
  refine XS.iloadN X286.here hx rfl (hb hby d12_8) rfl ?_
  exact kt
 have f288 : Sta Z h286 "java/lang/String" "COMPACT_STRINGS" "Z" (.int w_COMPACT_STRINGS) := (S_COMPACT_STRINGS.ext E286)
 have f289 : Sta Z h286 "java/lang/StringUTF16" "$assertionsDisabled" "Z" (.int 1) := (S__assertionsDisabled.ext E286)
 have f290 : Sta Z h286 "java/lang/StringUTF16" "HI_BYTE_SHIFT" "I" (.int 0) := (S_HI_BYTE_SHIFT.ext E286)
 have f291 : Sta Z h286 "java/lang/StringUTF16" "LO_BYTE_SHIFT" "I" (.int 8) := (S_LO_BYTE_SHIFT.ext E286)
 have f292 : Sta Z h286 "jdk/internal/util/Preconditions" "SIOOBE_FORMATTER" "Ljava/util/function/BiFunction;" (own_rv w_SIOOBE_FORMATTER) := (S_SIOOBE_FORMATTER.ext E286)
 have f293 : Exa Z h286 a1 "java/lang/String" := (E_a1.ext E286)
 have f294 : Fld Z h286 a1 "java/lang/String" "value" "[B" (.ref bn) := (Fv_a1.ext E286)
 have f295 : Fld Z h286 a1 "java/lang/String" "coder" "B" (.int kd) := (Fc_a1.ext E286)
 have f296 : Arv Z h286 bn kn .byte nb vb (.int 0) := (V_bn.ext E286)
 obtain ⟨cq287, kq287, q287a, q287b, q287c⟩ := isOf hZ e286 f293
 obtain ⟨_, _, ⟨T287, L287, k287, n287⟩, -, X287, ⟨Lc287, hQ287, l287, y287, z287⟩, st287⟩ := X286.virtualBack hx (y := (⟨"java/lang/String", "indexOf", "(I)I"⟩ : MethodName)) (z := (⟨"java/lang/String", "indexOf", "(I)I"⟩ : MethodName)) hown (mvT hZ (hw _ (List.mem_of_getElem? (i := 64) rfl))) (mvT hZ (hw _ (List.mem_of_getElem? (i := 65) rfl))) (notFace_of_selects (args := #[]) (mvT hZ (hw _ (List.mem_of_getElem? (i := 67) rfl)))) (mvT hZ (hw _ (List.mem_of_getElem? (i := 67) rfl))) (mvT hZ (hw _ (List.mem_of_getElem? (i := 66) rfl))) (by decide) (backOf (W := 0) (rm13 l Z a0 hw [] a1 w_COMPACT_STRINGS w_SIOOBE_FORMATTER bn kn kd nb vb cs h286 n0 (Nat.le_trans Z0 E286.1) f288 (by first | assumption | decide) f289 f290 f291 f292 f293 f294 f295 f296 (by first | assumption | decide) (hC)) hZ (hw _ (List.mem_of_getElem? (i := 68) rfl)) (hw _ (List.mem_of_getElem? (i := 21) rfl)) (by decide) (by decide)) q287a q287c (g := (mkF m 9 #[.val (.ref a1), .val (.int 32), .val (.ref b286), .val (.int 1), .unset] [(.int 32), (.ref a1)])) rfl (by rw [hml]; rfl) (Steps.refl _) (argsL := [(.int 32)]) (rest := []) (lenOf pd_0 rfl) rfl (by show 2 * 0 + _ ≤ _; exact Nat.le_of_eq rfl) (hb hby d12_9) (fun _ _ => ⟨rfl, e286, (by decide : 1 + 0 ≤ _), (by decide : 16 + 0 ≤ _)⟩)
 dsimp only [Pt.U, Pt.locs, Pt.cells, Pt.slots] at X287 l287 y287 z287 st287 hQ287
 rw [l287, y287, z287] at X287
 obtain ⟨rfl, M287, q287_0⟩ := hQ287
 have N287 := Fr.app N0 M287
 refine own_go (fun t k => st287.trans k) ?_
 refine own_go (B := T287.setTop (mkF m 14 #[.val (.ref a1), .val (.int 32), .val (.ref b286), .val (.int 1), .val (.int (own_sk cs (7 - 0) 0))] [])) (fun tg kt => ?_) ?_
 ·refine XS.istore X287.here hx rfl (hb hby d12_12) rfl (l' := #[.val (.ref a1), .val (.int 32), .val (.ref b286), .val (.int 1), .val (.int (own_sk cs (7 - 0) 0))]) rfl ?_
  exact kt
 rw [show (own_sk cs (7 - 0) 0) = (Int32.ofNat pp) from (own_skA (Nat.zero_le _) (by omega) h1s (fun i _ h => hno i (by omega) (by omega) (by omega)))]
 refine own_go (B := T287.setTop (mkF m 23 #[.val (.ref a1), .val (.int 32), .val (.ref b286), .val (.int 1), .val (.int (Int32.ofNat pp))] [(.ref b286), (.int 2)])) (fun tg kt => ?_) ?_
 ·refine XS.iload X287.here hx rfl (hb hby d12_14) rfl ?_
  refine XS.ifNo X287.here hx rfl (hb hby d12_16) rfl ((if0 _ _).trans (flt (show ¬ ((Int32.ofNat pp) < (0 : Int32)) from (own_ltc (k := 7) (by omega) (by decide) (7 : Int32) (by decide)).1)).1) ?_
  refine XS.iloadN X287.here hx rfl (hb hby d12_19) rfl ?_
  refine XS.iconst X287.here hx rfl (hb hby d12_20) ?_
  refine XS.iadd X287.here hx rfl (hb hby d12_21) rfl ?_
  refine XS.aloadN X287.here hx rfl (hb hby d12_22) rfl rfl ?_
  exact kt
 obtain ⟨cl297, Ar297, cq297, cS297, cN297, cH297, cG297⟩ := id V286
 refine own_go (B := T287.setTop (mkF m 42 #[.val (.ref a1), .val (.int 32), .val (.ref b286), .val (.int 1), .val (.int (Int32.ofNat pp))] [(.int ((Int32.ofNat pp) + (1 : Int32))), (.int 1), (.ref b286)])) (fun tg kt => ?_) ?_
 ·refine X287.arraylength hx (by rw [q287_0]; exact Ar297.1) (State.isArrayOf_alike hZ.alike Ar297.2.1) (g := (mkF m 23 #[.val (.ref a1), .val (.int 32), .val (.ref b286), .val (.int 1), .val (.int (Int32.ofNat pp))] [(.ref b286), (.int 2)])) rfl rfl (hb hby d12_23) _ ?_
  rw [len_of cS297 cN297]
  refine XS.icmpYes X287.here hx rfl (pc0 := 24) (pc' := 36) rfl (hb hby d12_24) rfl (feq (by decide : ¬ ((2 : Int32) = (16 : Int32)))).2 (by decide) (by decide) ?_
  refine XS.aloadN X287.here hx rfl (hb hby d12_36) rfl rfl ?_
  refine XS.iloadN X287.here hx rfl (hb hby d12_37) rfl ?_
  refine XS.iload X287.here hx rfl (hb hby d12_38) rfl ?_
  refine XS.iconst X287.here hx rfl (hb hby d12_40) ?_
  refine XS.iadd X287.here hx rfl (hb hby d12_41) rfl ?_
  exact kt
 rw [show ((Int32.ofNat pp) + (1 : Int32)) = (Int32.ofNat (pp + 1)) from own_isucc _]
 obtain ⟨cl298, Ar298, cq298, cS298, cN298, cH298, cG298⟩ := id V286
 have hin298 := inb_of (j := (1 : Int32)) cS298 ⟨by decide, by decide⟩
 obtain ⟨T298, h298, X298, e298, W298, st298⟩ := stI X287 hx hZ q287_0 Ar298 (j := (1 : Int32)) hin298 (g := (mkF m 42 #[.val (.ref a1), .val (.int 32), .val (.ref b286), .val (.int 1), .val (.int (Int32.ofNat pp))] [(.int (Int32.ofNat (pp + 1))), (.int 1), (.ref b286)])) rfl rfl (hb hby d12_42)
 refine own_go st298 ?_
 have V298 : Arv Z h298 b286 k286 .int (16 : Int32) [(.int 0), (.int (Int32.ofNat (pp + 1))), (.int 0), (.int 0), (.int 0), (.int 0), (.int 0), (.int 0), (.int 0), (.int 0), (.int 0), (.int 0), (.int 0), (.int 0), (.int 0), (.int 0)] (.int 0) := Arv.set Ar298 cq298 cS298 cN298 cH298 cG298 rfl W298 1 rfl (Nat.le_of_ble_eq_true rfl)
 have K298 : Keep h0 h298 [] := Keep.wr K286 W298 (Or.inr (Nat.le_of_eq g286.symm))
 have N298 := Fr.snoc X298 N287 (Nat.le_trans Z0 (Nat.le_of_eq g286.symm))
 refine own_go (B := T298.setTop (mkF m 52 #[.val (.ref a1), .val (.int 32), .val (.ref b286), .val (.int 2), .val (.int (Int32.ofNat pp))] [(.int ((Int32.ofNat pp) + (1 : Int32))), (.int 32), (.ref a1)])) (fun tg kt => ?_) ?_
 ·refine XS.iinc X298.here hx rfl (hb hby d12_43) rfl (l' := #[.val (.ref a1), .val (.int 32), .val (.ref b286), .val (.int 2), .val (.int (Int32.ofNat pp))]) rfl ?_
  refine XS.aloadN X298.here hx rfl (hb hby d12_46) rfl rfl ?_
  refine XS.iloadN X298.here hx rfl (hb hby d12_47) rfl ?_
  refine XS.iload X298.here hx rfl (hb hby d12_48) rfl ?_
  refine XS.iconst X298.here hx rfl (hb hby d12_50) ?_
  refine XS.iadd X298.here hx rfl (hb hby d12_51) rfl ?_
  exact kt
 rw [show ((Int32.ofNat pp) + (1 : Int32)) = (Int32.ofNat (pp + 1)) from own_isucc _]
 have f300 : Sta Z h298 "java/lang/String" "COMPACT_STRINGS" "Z" (.int w_COMPACT_STRINGS) := (f288.wr W298)
 have f301 : Sta Z h298 "java/lang/StringUTF16" "$assertionsDisabled" "Z" (.int 1) := (f289.wr W298)
 have f302 : Sta Z h298 "java/lang/StringUTF16" "HI_BYTE_SHIFT" "I" (.int 0) := (f290.wr W298)
 have f303 : Sta Z h298 "java/lang/StringUTF16" "LO_BYTE_SHIFT" "I" (.int 8) := (f291.wr W298)
 have f304 : Sta Z h298 "jdk/internal/util/Preconditions" "SIOOBE_FORMATTER" "Ljava/util/function/BiFunction;" (own_rv w_SIOOBE_FORMATTER) := (f292.wr W298)
 have f305 : Exa Z h298 a1 "java/lang/String" := (f293.wr W298)
 have ne306 : a1 ≠ b286 := (Nat.ne_of_lt (Nat.lt_of_lt_of_le E_a1.lt (Nat.le_of_eq g286.symm)))
 have f307 : Fld Z h298 a1 "java/lang/String" "value" "[B" (.ref bn) := (f294.other W298 (Or.inl ne306))
 have f308 : Fld Z h298 a1 "java/lang/String" "coder" "B" (.int kd) := (f295.other W298 (Or.inl ne306))
 have ne309 : bn ≠ b286 := (Nat.ne_of_lt (Nat.lt_of_lt_of_le V_bn.lt (Nat.le_of_eq g286.symm)))
 have f310 : Arv Z h298 bn kn .byte nb vb (.int 0) := (f296.other W298 ne309)
 have le311 : h0.size ≤ h298.size := (Nat.le_trans E286.1 (Nat.le_of_eq (Wr.size W298).symm))
 obtain ⟨cq299, kq299, q299a, q299b, q299c⟩ := isOf hZ e298 f305
 obtain ⟨_, _, ⟨T299, L299, k299, n299⟩, -, X299, ⟨Lc299, hQ299, l299, y299, z299⟩, st299⟩ := X298.virtualBack hx (y := (⟨"java/lang/String", "indexOf", "(II)I"⟩ : MethodName)) (z := (⟨"java/lang/String", "indexOf", "(II)I"⟩ : MethodName)) hown (mvT hZ (hw _ (List.mem_of_getElem? (i := 144) rfl))) (mvT hZ (hw _ (List.mem_of_getElem? (i := 70) rfl))) (notFace_of_selects (args := #[]) (mvT hZ (hw _ (List.mem_of_getElem? (i := 72) rfl)))) (mvT hZ (hw _ (List.mem_of_getElem? (i := 72) rfl))) (mvT hZ (hw _ (List.mem_of_getElem? (i := 71) rfl))) (by decide) (backOf (W := 0) (rm14 l Z a0 hw [] a1 w_COMPACT_STRINGS w_SIOOBE_FORMATTER bn kn kd nb vb cs (pp + 1) h298 n0 (Nat.le_trans Z0 le311) f300 (by first | assumption | decide) f301 f302 f303 f304 f305 f307 f308 f310 (by first | assumption | decide) ((by omega)) (hC)) hZ (hw _ (List.mem_of_getElem? (i := 73) rfl)) (hw _ (List.mem_of_getElem? (i := 21) rfl)) (by decide) (by decide)) q299a q299c (g := (mkF m 52 #[.val (.ref a1), .val (.int 32), .val (.ref b286), .val (.int 2), .val (.int (Int32.ofNat pp))] [(.int (Int32.ofNat (pp + 1))), (.int 32), (.ref a1)])) rfl (by rw [hml]; rfl) (Steps.refl _) (argsL := [(.int 32), (.int (Int32.ofNat (pp + 1)))]) (rest := []) (lenOf pd_17 rfl) rfl (by show 2 * 0 + _ ≤ _; exact Nat.le_of_eq rfl) (hb hby d12_52) (fun _ _ => ⟨rfl, e298, (by decide : 1 + 0 ≤ _), (by decide : 16 + 0 ≤ _)⟩)
 dsimp only [Pt.U, Pt.locs, Pt.cells, Pt.slots] at X299 l299 y299 z299 st299 hQ299
 rw [l299, y299, z299] at X299
 obtain ⟨rfl, M299, q299_0⟩ := hQ299
 have N299 := Fr.app N298 M299
 refine own_go (fun t k => st299.trans k) ?_
 refine own_go (B := T299.setTop (mkF m 14 #[.val (.ref a1), .val (.int 32), .val (.ref b286), .val (.int 2), .val (.int (own_sk cs (7 - (pp + 1)) (pp + 1)))] [])) (fun tg kt => ?_) ?_
 ·refine XS.istore X299.here hx rfl (hb hby d12_55) rfl (l' := #[.val (.ref a1), .val (.int 32), .val (.ref b286), .val (.int 2), .val (.int (own_sk cs (7 - (pp + 1)) (pp + 1)))]) rfl ?_
  refine XS.goto X299.here hx rfl (pc0 := 57) (pc' := 14) rfl (hb hby d12_57) (by decide) (by decide) ?_
  exact kt
 rw [show (own_sk cs (7 - (pp + 1)) (pp + 1)) = (Int32.ofNat qq) from (own_skA (by omega) (by omega) h2s (fun i _ _ => hno i (by omega) (by omega) (by omega)))]
 refine own_go (B := T299.setTop (mkF m 23 #[.val (.ref a1), .val (.int 32), .val (.ref b286), .val (.int 2), .val (.int (Int32.ofNat qq))] [(.ref b286), (.int 3)])) (fun tg kt => ?_) ?_
 ·refine XS.iload X299.here hx rfl (hb hby d12_14) rfl ?_
  refine XS.ifNo X299.here hx rfl (hb hby d12_16) rfl ((if0 _ _).trans (flt (show ¬ ((Int32.ofNat qq) < (0 : Int32)) from (own_ltc (k := 7) (by omega) (by decide) (7 : Int32) (by decide)).1)).1) ?_
  refine XS.iloadN X299.here hx rfl (hb hby d12_19) rfl ?_
  refine XS.iconst X299.here hx rfl (hb hby d12_20) ?_
  refine XS.iadd X299.here hx rfl (hb hby d12_21) rfl ?_
  refine XS.aloadN X299.here hx rfl (hb hby d12_22) rfl rfl ?_
  exact kt
 obtain ⟨cl312, Ar312, cq312, cS312, cN312, cH312, cG312⟩ := id V298
 refine own_go (B := T299.setTop (mkF m 42 #[.val (.ref a1), .val (.int 32), .val (.ref b286), .val (.int 2), .val (.int (Int32.ofNat qq))] [(.int ((Int32.ofNat qq) + (1 : Int32))), (.int 2), (.ref b286)])) (fun tg kt => ?_) ?_
 ·refine X299.arraylength hx (by rw [q299_0]; exact Ar312.1) (State.isArrayOf_alike hZ.alike Ar312.2.1) (g := (mkF m 23 #[.val (.ref a1), .val (.int 32), .val (.ref b286), .val (.int 2), .val (.int (Int32.ofNat qq))] [(.ref b286), (.int 3)])) rfl rfl (hb hby d12_23) _ ?_
  rw [len_of cS312 cN312]
  refine XS.icmpYes X299.here hx rfl (pc0 := 24) (pc' := 36) rfl (hb hby d12_24) rfl (feq (by decide : ¬ ((3 : Int32) = (16 : Int32)))).2 (by decide) (by decide) ?_
  refine XS.aloadN X299.here hx rfl (hb hby d12_36) rfl rfl ?_
  refine XS.iloadN X299.here hx rfl (hb hby d12_37) rfl ?_
  refine XS.iload X299.here hx rfl (hb hby d12_38) rfl ?_
  refine XS.iconst X299.here hx rfl (hb hby d12_40) ?_
  refine XS.iadd X299.here hx rfl (hb hby d12_41) rfl ?_
  exact kt
 rw [show ((Int32.ofNat qq) + (1 : Int32)) = (Int32.ofNat (qq + 1)) from own_isucc _]
 obtain ⟨cl313, Ar313, cq313, cS313, cN313, cH313, cG313⟩ := id V298
 have hin313 := inb_of (j := (2 : Int32)) cS313 ⟨by decide, by decide⟩
 obtain ⟨T313, h313, X313, e313, W313, st313⟩ := stI X299 hx hZ q299_0 Ar313 (j := (2 : Int32)) hin313 (g := (mkF m 42 #[.val (.ref a1), .val (.int 32), .val (.ref b286), .val (.int 2), .val (.int (Int32.ofNat qq))] [(.int (Int32.ofNat (qq + 1))), (.int 2), (.ref b286)])) rfl rfl (hb hby d12_42)
 refine own_go st313 ?_
 have V313 : Arv Z h313 b286 k286 .int (16 : Int32) [(.int 0), (.int (Int32.ofNat (pp + 1))), (.int (Int32.ofNat (qq + 1))), (.int 0), (.int 0), (.int 0), (.int 0), (.int 0), (.int 0), (.int 0), (.int 0), (.int 0), (.int 0), (.int 0), (.int 0), (.int 0)] (.int 0) := Arv.set Ar313 cq313 cS313 cN313 cH313 cG313 rfl W313 2 rfl (Nat.le_of_ble_eq_true rfl)
 have K313 : Keep h0 h313 [] := Keep.wr K298 W313 (Or.inr (Nat.le_of_eq g286.symm))
 have N313 := Fr.snoc X313 N299 (Nat.le_trans Z0 (Nat.le_of_eq g286.symm))
 refine own_go (B := T313.setTop (mkF m 52 #[.val (.ref a1), .val (.int 32), .val (.ref b286), .val (.int 3), .val (.int (Int32.ofNat qq))] [(.int ((Int32.ofNat qq) + (1 : Int32))), (.int 32), (.ref a1)])) (fun tg kt => ?_) ?_
 ·refine XS.iinc X313.here hx rfl (hb hby d12_43) rfl (l' := #[.val (.ref a1), .val (.int 32), .val (.ref b286), .val (.int 3), .val (.int (Int32.ofNat qq))]) rfl ?_
  refine XS.aloadN X313.here hx rfl (hb hby d12_46) rfl rfl ?_
  refine XS.iloadN X313.here hx rfl (hb hby d12_47) rfl ?_
  refine XS.iload X313.here hx rfl (hb hby d12_48) rfl ?_
  refine XS.iconst X313.here hx rfl (hb hby d12_50) ?_
  refine XS.iadd X313.here hx rfl (hb hby d12_51) rfl ?_
  exact kt
 rw [show ((Int32.ofNat qq) + (1 : Int32)) = (Int32.ofNat (qq + 1)) from own_isucc _]
 have f315 : Sta Z h313 "java/lang/String" "COMPACT_STRINGS" "Z" (.int w_COMPACT_STRINGS) := (f300.wr W313)
 have f316 : Sta Z h313 "java/lang/StringUTF16" "$assertionsDisabled" "Z" (.int 1) := (f301.wr W313)
 have f317 : Sta Z h313 "java/lang/StringUTF16" "HI_BYTE_SHIFT" "I" (.int 0) := (f302.wr W313)
 have f318 : Sta Z h313 "java/lang/StringUTF16" "LO_BYTE_SHIFT" "I" (.int 8) := (f303.wr W313)
 have f319 : Sta Z h313 "jdk/internal/util/Preconditions" "SIOOBE_FORMATTER" "Ljava/util/function/BiFunction;" (own_rv w_SIOOBE_FORMATTER) := (f304.wr W313)
 have f320 : Exa Z h313 a1 "java/lang/String" := (f305.wr W313)
 have f321 : Fld Z h313 a1 "java/lang/String" "value" "[B" (.ref bn) := (f307.other W313 (Or.inl ne306))
 have f322 : Fld Z h313 a1 "java/lang/String" "coder" "B" (.int kd) := (f308.other W313 (Or.inl ne306))
 have f323 : Arv Z h313 bn kn .byte nb vb (.int 0) := (f310.other W313 ne309)
 have le324 : h0.size ≤ h313.size := (Nat.le_trans (Nat.le_trans E286.1 (Nat.le_of_eq (Wr.size W298).symm)) (Nat.le_of_eq (Wr.size W313).symm))
 obtain ⟨cq314, kq314, q314a, q314b, q314c⟩ := isOf hZ e313 f320
 obtain ⟨_, _, ⟨T314, L314, k314, n314⟩, -, X314, ⟨Lc314, hQ314, l314, y314, z314⟩, st314⟩ := X313.virtualBack hx (y := (⟨"java/lang/String", "indexOf", "(II)I"⟩ : MethodName)) (z := (⟨"java/lang/String", "indexOf", "(II)I"⟩ : MethodName)) hown (mvT hZ (hw _ (List.mem_of_getElem? (i := 144) rfl))) (mvT hZ (hw _ (List.mem_of_getElem? (i := 70) rfl))) (notFace_of_selects (args := #[]) (mvT hZ (hw _ (List.mem_of_getElem? (i := 72) rfl)))) (mvT hZ (hw _ (List.mem_of_getElem? (i := 72) rfl))) (mvT hZ (hw _ (List.mem_of_getElem? (i := 71) rfl))) (by decide) (backOf (W := 0) (rm14 l Z a0 hw [] a1 w_COMPACT_STRINGS w_SIOOBE_FORMATTER bn kn kd nb vb cs (qq + 1) h313 n0 (Nat.le_trans Z0 le324) f315 (by first | assumption | decide) f316 f317 f318 f319 f320 f321 f322 f323 (by first | assumption | decide) ((by omega)) (hC)) hZ (hw _ (List.mem_of_getElem? (i := 73) rfl)) (hw _ (List.mem_of_getElem? (i := 21) rfl)) (by decide) (by decide)) q314a q314c (g := (mkF m 52 #[.val (.ref a1), .val (.int 32), .val (.ref b286), .val (.int 3), .val (.int (Int32.ofNat qq))] [(.int (Int32.ofNat (qq + 1))), (.int 32), (.ref a1)])) rfl (by rw [hml]; rfl) (Steps.refl _) (argsL := [(.int 32), (.int (Int32.ofNat (qq + 1)))]) (rest := []) (lenOf pd_17 rfl) rfl (by show 2 * 0 + _ ≤ _; exact Nat.le_of_eq rfl) (hb hby d12_52) (fun _ _ => ⟨rfl, e313, (by decide : 1 + 0 ≤ _), (by decide : 16 + 0 ≤ _)⟩)
 dsimp only [Pt.U, Pt.locs, Pt.cells, Pt.slots] at X314 l314 y314 z314 st314 hQ314
 rw [l314, y314, z314] at X314
 obtain ⟨rfl, M314, q314_0⟩ := hQ314
 have N314 := Fr.app N313 M314
 refine own_go (fun t k => st314.trans k) ?_
 refine own_go (B := T314.setTop (mkF m 14 #[.val (.ref a1), .val (.int 32), .val (.ref b286), .val (.int 3), .val (.int (own_sk cs (7 - (qq + 1)) (qq + 1)))] [])) (fun tg kt => ?_) ?_
 ·refine XS.istore X314.here hx rfl (hb hby d12_55) rfl (l' := #[.val (.ref a1), .val (.int 32), .val (.ref b286), .val (.int 3), .val (.int (own_sk cs (7 - (qq + 1)) (qq + 1)))]) rfl ?_
  refine XS.goto X314.here hx rfl (pc0 := 57) (pc' := 14) rfl (hb hby d12_57) (by decide) (by decide) ?_
  exact kt
 rw [show (own_sk cs (7 - (qq + 1)) (qq + 1)) = (-1 : Int32) from (own_skN (by omega) (fun i _ h => hno i h (by omega) (by omega)))]
 refine own_go (B := T314.setTop (mkF m 63 #[.val (.ref a1), .val (.int 32), .val (.ref b286), .val (.int 3), .val (.int (-1))] [(.ref a1), (.int 3), (.ref b286)])) (fun tg kt => ?_) ?_
 ·refine XS.iload X314.here hx rfl (hb hby d12_14) rfl ?_
  refine XS.ifYes X314.here hx rfl (pc0 := 16) (pc' := 60) rfl (hb hby d12_16) rfl ((if0 _ _).trans (tlt (by decide : (-1 : Int32) < (0 : Int32))).1) (by decide) (by decide) ?_
  refine XS.aloadN X314.here hx rfl (hb hby d12_60) rfl rfl ?_
  refine XS.iloadN X314.here hx rfl (hb hby d12_61) rfl ?_
  refine XS.aloadN X314.here hx rfl (hb hby d12_62) rfl rfl ?_
  exact kt
 obtain ⟨cq325, kq325, q325a, q325b, q325c⟩ := isOf hZ q314_0 f320
 obtain ⟨_, _, ⟨T325, L325, k325, n325⟩, -, X325, ⟨Lc325, hQ325, l325, y325, z325⟩, st325⟩ := X314.virtualBack hx (y := (⟨"java/lang/String", "length", "()I"⟩ : MethodName)) (z := (⟨"java/lang/String", "length", "()I"⟩ : MethodName)) hown (mvT hZ (hw _ (List.mem_of_getElem? (i := 106) rfl))) (mvT hZ (hw _ (List.mem_of_getElem? (i := 80) rfl))) (notFace_of_selects (args := #[]) (mvT hZ (hw _ (List.mem_of_getElem? (i := 82) rfl)))) (mvT hZ (hw _ (List.mem_of_getElem? (i := 82) rfl))) (mvT hZ (hw _ (List.mem_of_getElem? (i := 81) rfl))) (by decide) (backOf (W := 2) (rm16 l Z a0 hw [] a1 w_COMPACT_STRINGS bn kn kd nb vb cs h313 n0 (Nat.le_trans Z0 le324) f315 (by first | assumption | decide) f320 f321 f322 f323 (by first | assumption | decide)) hZ (hw _ (List.mem_of_getElem? (i := 83) rfl)) (hw _ (List.mem_of_getElem? (i := 21) rfl)) (by decide) (by decide)) q325a q325c (g := (mkF m 63 #[.val (.ref a1), .val (.int 32), .val (.ref b286), .val (.int 3), .val (.int (-1))] [(.ref a1), (.int 3), (.ref b286)])) rfl (by rw [hml]; rfl) (Steps.refl _) (argsL := []) (rest := [(.int 3), (.ref b286)]) (lenOf pd_19 rfl) rfl (by show 2 * 0 + _ ≤ _; exact Nat.le_of_eq rfl) (hb hby d12_63) (fun _ _ => ⟨rfl, q314_0, (by decide : 1 + 0 ≤ _), (by decide : 16 + 0 ≤ _)⟩)
 dsimp only [Pt.U, Pt.locs, Pt.cells, Pt.slots] at X325 l325 y325 z325 st325 hQ325
 rw [l325, y325, z325] at X325
 obtain ⟨rfl, M325, q325_0⟩ := hQ325
 have N325 := Fr.app N314 M325
 refine own_go (fun t k => st325.trans k) ?_
 refine own_go (B := T325.setTop (mkF m 68 #[.val (.ref a1), .val (.int 32), .val (.ref b286), .val (.int 3), .val (.int (-1))] [(.int 8), (.int 3), (.ref b286)])) (fun tg kt => ?_) ?_
 ·refine XS.iconst X325.here hx rfl (hb hby d12_66) ?_
  refine XS.iadd X325.here hx rfl (hb hby d12_67) rfl ?_
  exact kt
 obtain ⟨cl326, Ar326, cq326, cS326, cN326, cH326, cG326⟩ := id V313
 have hin326 := inb_of (j := (3 : Int32)) cS326 ⟨by decide, by decide⟩
 obtain ⟨T326, h326, X326, e326, W326, st326⟩ := stI X325 hx hZ q325_0 Ar326 (j := (3 : Int32)) hin326 (g := (mkF m 68 #[.val (.ref a1), .val (.int 32), .val (.ref b286), .val (.int 3), .val (.int (-1))] [(.int 8), (.int 3), (.ref b286)])) rfl rfl (hb hby d12_68)
 refine own_go st326 ?_
 have V326 : Arv Z h326 b286 k286 .int (16 : Int32) [(.int 0), (.int (Int32.ofNat (pp + 1))), (.int (Int32.ofNat (qq + 1))), (.int 8), (.int 0), (.int 0), (.int 0), (.int 0), (.int 0), (.int 0), (.int 0), (.int 0), (.int 0), (.int 0), (.int 0), (.int 0)] (.int 0) := Arv.set Ar326 cq326 cS326 cN326 cH326 cG326 rfl W326 3 rfl (Nat.le_of_ble_eq_true rfl)
 have K326 : Keep h0 h326 [] := Keep.wr K313 W326 (Or.inr (Nat.le_of_eq g286.symm))
 have N326 := Fr.snoc X326 N325 (Nat.le_trans Z0 (Nat.le_of_eq g286.symm))
 refine own_go (B := T326.setTop (mkF m 73 #[.val (.ref a1), .val (.int 32), .val (.ref b286), .val (.int 3), .val (.int (-1))] [(.ref b286), (.int 4)])) (fun tg kt => ?_) ?_
 ·refine XS.iloadN X326.here hx rfl (hb hby d12_69) rfl ?_
  refine XS.iconst X326.here hx rfl (hb hby d12_70) ?_
  refine XS.iadd X326.here hx rfl (hb hby d12_71) rfl ?_
  refine XS.aloadN X326.here hx rfl (hb hby d12_72) rfl rfl ?_
  exact kt
 obtain ⟨cl327, Ar327, cq327, cS327, cN327, cH327, cG327⟩ := id V326
 refine own_go (B := T326.setTop (mkF m 85 #[.val (.ref a1), .val (.int 32), .val (.ref b286), .val (.int 3), .val (.int (-1))] [(.int 4), (.ref b286)])) (fun tg kt => ?_) ?_
 ·refine X326.arraylength hx (by rw [e326]; exact Ar327.1) (State.isArrayOf_alike hZ.alike Ar327.2.1) (g := (mkF m 73 #[.val (.ref a1), .val (.int 32), .val (.ref b286), .val (.int 3), .val (.int (-1))] [(.ref b286), (.int 4)])) rfl rfl (hb hby d12_73) _ ?_
  rw [len_of cS327 cN327]
  refine XS.icmpYes X326.here hx rfl (pc0 := 74) (pc' := 81) rfl (hb hby d12_74) rfl (feq (by decide : ¬ ((4 : Int32) = (16 : Int32)))).2 (by decide) (by decide) ?_
  refine XS.aloadN X326.here hx rfl (hb hby d12_81) rfl rfl ?_
  refine XS.iloadN X326.here hx rfl (hb hby d12_82) rfl ?_
  refine XS.iconst X326.here hx rfl (hb hby d12_83) ?_
  refine XS.iadd X326.here hx rfl (hb hby d12_84) rfl ?_
  exact kt
 have le329 : h0.size ≤ h326.size := (Nat.le_trans (Nat.le_trans (Nat.le_trans E286.1 (Nat.le_of_eq (Wr.size W298).symm)) (Nat.le_of_eq (Wr.size W313).symm)) (Nat.le_of_eq (Wr.size W326).symm))
 obtain ⟨_, _, ⟨T328, L328, k328, n328⟩, -, X328, ⟨Lc328, hQ328, l328, y328, z328⟩, st328⟩ := Jvm.LawKit.callS X326 hx (y := (⟨"java/util/Arrays", "copyOf", "([II)[I"⟩ : MethodName)) hown (mvT hZ (hw _ (List.mem_of_getElem? (i := 107) rfl))) (mvT hZ (hw _ (List.mem_of_getElem? (i := 108) rfl))) (mvT hZ (hw _ (List.mem_of_getElem? (i := 109) rfl))) (mvT hZ (hw _ (List.mem_of_getElem? (i := 110) rfl))) (by decide) (backOf (W := 0) (rm23_2 l Z a0 hw [] b286 k286 (Int32.ofNat (pp + 1)) (Int32.ofNat (qq + 1)) (8 : Int32) h326 n0 (Nat.le_trans Z0 le329) V326) hZ (hw _ (List.mem_of_getElem? (i := 110) rfl)) (hw _ (List.mem_of_getElem? (i := 109) rfl)) (by decide) (by decide)) (g := (mkF m 85 #[.val (.ref a1), .val (.int 32), .val (.ref b286), .val (.int 3), .val (.int (-1))] [(.int 4), (.ref b286)])) rfl (by rw [hml]; rfl) (argsL := [(.ref b286), (.int 4)]) (rest := []) (lenOf pd_21 rfl) rfl (by show 2 * 0 + _ ≤ _; exact Nat.le_of_eq rfl) (hb hby d12_85) (fun _ _ => ⟨rfl, e326, (by decide : 1 + 1 ≤ _), (by decide : 16 + 4 ≤ _)⟩)
 dsimp only [Pt.U, Pt.locs, Pt.cells, Pt.slots] at X328 l328 y328 z328 st328 hQ328
 rw [l328, y328, z328] at X328
 obtain ⟨sn_328, ks_328, rfl, M328, q328_0, q328_1, q328_2⟩ := hQ328
 have N328 := Fr.app N326 M328
 have K328 : Keep h0 T328.heap [] := Keep.trans K326 q328_0 all0
 refine own_go st328 ?_
 obtain ⟨fs, hr, hrun, hended, hW, hsame⟩ := X328.leave (v := some (.ref sn_328)) (fun h => by rw [Bd.returns] at h; cases h)
 refine ⟨_, _, ?_, hrun, hended, _, _, rfl, ?_, ⟨_, rfl⟩, hW, hsame.mono (by decide) (by decide)⟩
 ·exact own_retR X328 hx Bd.returns rfl rfl (hb hby d12_88) hr
 ·show Q12_2 Z a1 w_COMPACT_STRINGS w_SIOOBE_FORMATTER bn kn kd nb vb cs pp qq h0 n0 _ T328.heap _
  exact ⟨sn_328, ks_328, rfl, N328, K328, (Nat.le_trans le329 q328_1), q328_2⟩
theorem pd_22 : parseMethodDescriptor "(Ljava/lang/String;C)[I" = some ⟨[(.object "java/lang/String"), .char], some (.array .int)⟩ := by decide +kernel
theorem pn_560 : plainName "com/example/restate/restate/Words" = true := by first | (simp [plainName, overriddenIn]; done) | decide +kernel
theorem d10_0 : decode prog_113_method_1_code 0 = .ok (.aload_n 0, 1) := by decide +kernel
theorem d10_1 : decode prog_113_method_1_code 1 = .ok (.invokespecial 1, 3) := by decide +kernel
theorem d10_4 : decode prog_113_method_1_code 4 = .ok (.aload_n 0, 1) := by decide +kernel
theorem d10_5 : decode prog_113_method_1_code 5 = .ok (.aload_n 1, 1) := by decide +kernel
theorem d10_6 : decode prog_113_method_1_code 6 = .ok (.putfield 7, 3) := by decide +kernel
theorem d10_9 : decode prog_113_method_1_code 9 = .ok (.aload_n 0, 1) := by decide +kernel
theorem d10_10 : decode prog_113_method_1_code 10 = .ok (.aload_n 1, 1) := by decide +kernel
theorem d10_11 : decode prog_113_method_1_code 11 = .ok (.invokevirtual 13, 3) := by decide +kernel
theorem d10_14 : decode prog_113_method_1_code 14 = .ok (.ifCond .eq 13, 3) := by decide +kernel
theorem d10_27 : decode prog_113_method_1_code 27 = .ok (.aload_n 1, 1) := by decide +kernel
theorem d10_28 : decode prog_113_method_1_code 28 = .ok (.bipush 32, 2) := by decide +kernel
theorem d10_30 : decode prog_113_method_1_code 30 = .ok (.invokestatic 19, 3) := by decide +kernel
theorem d10_33 : decode prog_113_method_1_code 33 = .ok (.putfield 25, 3) := by decide +kernel
theorem d10_36 : decode prog_113_method_1_code 36 = .ok (.return_, 1) := by decide +kernel
theorem ef_10_0 (m : MethodId) (a1 : Addr) (a2 : Addr) : entryFrame m #[(.ref a1), (.ref a2)] 2 = mkF m 0 #[.val (.ref a1), .val (.ref a2)] [] := by first | (simp [entryFrame, mkF, argsToLocals, Value.category]; done) | rfl
def Q10_0 (Z : State) (a1 : Addr) (a2 : Addr) (w_COMPACT_STRINGS : Int32) (w_SIOOBE_FORMATTER : Option Addr) (bn : Addr) (kn : ClassId) (kd : Int32) (nb : Int32) (vb : List Value) (cs : Nat → Int32) (h0 : Heap) (n0 : Nat) (v : Option Value) (h : Heap) (L : List Loc) : Prop := ∃ (sn : Addr) (ks : ClassId), v = none ∧ Fr n0 L ∧ Keep h0 h [a1] ∧ h0.size ≤ sn ∧ Exa Z h a1 "com/example/restate/restate/Words" ∧ Fld Z h a1 "com/example/restate/restate/Words" "line" "Ljava/lang/String;" (.ref a2) ∧ Fld Z h a1 "com/example/restate/restate/Words" "starts" "[I" (.ref sn) ∧ Arv Z h sn ks .int (2 : Int32) [(.int 0), (.int 8)] (.int 0)
set_option maxRecDepth 65536 in
set_option maxHeartbeats 40000000 in
theorem rm10_0 (l : Launch) (Z : State) (a0 : Array Value) (hw : ∀ d ∈ tables_1, d.before a0 Z = true) (ws : List Jvm.Cond) (a1 : Addr) (a2 : Addr) (w_COMPACT_STRINGS : Int32) (w_SIOOBE_FORMATTER : Option Addr) (bn : Addr) (kn : ClassId) (kd : Int32) (nb : Int32) (vb : List Value) (cs : Nat → Int32) (h0 : Heap) (n0 : Nat) (Z0 : n0 ≤ h0.size) (E_a1 : Exa Z h0 a1 "com/example/restate/restate/Words") (F_line_a1 : Fld Z h0 a1 "com/example/restate/restate/Words" "line" "Ljava/lang/String;" .null) (F_starts_a1 : Fld Z h0 a1 "com/example/restate/restate/Words" "starts" "[I" .null) (g_a1 : n0 ≤ a1) (S_COMPACT_STRINGS : Sta Z h0 "java/lang/String" "COMPACT_STRINGS" "Z" (.int w_COMPACT_STRINGS)) (N_COMPACT_STRINGS : ¬ w_COMPACT_STRINGS = (0 : Int32)) (S__assertionsDisabled : Sta Z h0 "java/lang/StringUTF16" "$assertionsDisabled" "Z" (.int 1)) (S_HI_BYTE_SHIFT : Sta Z h0 "java/lang/StringUTF16" "HI_BYTE_SHIFT" "I" (.int 0)) (S_LO_BYTE_SHIFT : Sta Z h0 "java/lang/StringUTF16" "LO_BYTE_SHIFT" "I" (.int 8)) (S_SIOOBE_FORMATTER : Sta Z h0 "jdk/internal/util/Preconditions" "SIOOBE_FORMATTER" "Ljava/util/function/BiFunction;" (own_rv w_SIOOBE_FORMATTER)) (E_a2 : Exa Z h0 a2 "java/lang/String") (Fv_a2 : Fld Z h0 a2 "java/lang/String" "value" "[B" (.ref bn)) (Fc_a2 : Fld Z h0 a2 "java/lang/String" "coder" "B" (.int kd)) (V_bn : Arv Z h0 bn kn .byte nb vb (.int 0)) (hsp : own_sp cs kd nb vb) (hC : ∀ i, i < 7 → 0 ≤ (cs i).toInt ∧ (cs i).toInt ≤ 65535) (hno : ∀ i, i < 7 → ¬ cs i = 32) (n_12 : a1 ≠ a2) (n_1b : a1 ≠ bn) :
  MetFree l (⟨"com/example/restate/restate/Words", "<init>", "(Ljava/lang/String;)V"⟩ : MethodName) (head1 (Jvm.Cond.code (⟨"com/example/restate/restate/Words", "<init>", "(Ljava/lang/String;)V"⟩ : MethodName) prog_113_method_1_code 2 none :: ws) ({ frames := 8, cells := 2, slots := 18, locals := 117 } : Room)) (fun a U => a = #[(.ref a1), (.ref a2)] ∧ Z.Warmed39 U.vm ∧ U.heap = h0) (fun _ _ _ _ _ => True) (fun _ U o U' => ∃ v L, o = .returned v ∧ Q10_0 Z a1 a2 w_COMPACT_STRINGS w_SIOOBE_FORMATTER bn kn kd nb vb cs h0 n0 v U'.heap L ∧ FrameEnd U o U' L ({ frames := 8, cells := 2, slots := 18, locals := 117 } : Room).cells ({ frames := 8, cells := 2, slots := 18, locals := 117 } : Room).slots) := by
 refine MetFree.of_bodySF (plainFor_of_name pn_560) hisR ?_
 intro p e s m args below meth c s₁ Bd hml0 hP hK
 obtain ⟨rfl, hZ, hh⟩ := hP
 have hx := Bd.exec
 have hby := Bd.bytes
 have hml : c.maxLocals = 2 := hml0
 have hown : s.vm.findClass "com/example/restate/restate/Words" = some m.cls := findClass_of_methodNamed Bd.named
 have hnm := (name_of_methodNamed Bd.named Bd.method).1
 have X0 : Stand p l e ({ frames := 8, cells := 2, slots := 18, locals := 117 } : Room) s m #[(.ref a1), (.ref a2)] below meth c s₁ [] 0 0 := Stand.of_body Bd
 have e0 : s₁.heap = h0 := by rw [← hh, Bd.state]; rfl
 have N0 := Fr.nil n0
 refine own_go (B := s₁.setTop (mkF m 0 #[.val (.ref a1), .val (.ref a2)] [])) (fun t k => castTop (ef_10_0 m a1 a2) k) ?_
 refine own_go (B := s₁.setTop (mkF m 1 #[.val (.ref a1), .val (.ref a2)] [(.ref a1)])) (fun tg kt => ?_) ?_
 ·refine XS.aloadN X0.here hx rfl (hb hby d10_0) rfl rfl ?_
  exact kt
 obtain ⟨T331, X331, e331, st331⟩ := initO X0 hx hZ hown (hw _ (List.mem_of_getElem? (i := 51) rfl)) (hw _ (List.mem_of_getElem? (i := 30) rfl)) (hw _ (List.mem_of_getElem? (i := 31) rfl)) e0 (g := (mkF m 1 #[.val (.ref a1), .val (.ref a2)] [(.ref a1)])) rfl (by rw [hml]; rfl) rfl (hb hby d10_1) (by decide) (W := 0) (by show 2 * 0 + _ ≤ _; exact Nat.le_of_eq rfl) (by decide)
 refine own_go st331 ?_
 refine own_go (B := T331.setTop (mkF m 6 #[.val (.ref a1), .val (.ref a2)] [(.ref a2), (.ref a1)])) (fun tg kt => ?_) ?_
 ·refine XS.aloadN X331.here hx rfl (hb hby d10_4) rfl rfl ?_
  refine XS.aloadN X331.here hx rfl (hb hby d10_5) rfl rfl ?_
  exact kt
 obtain ⟨T332, h332, X332, e332, W332, st332⟩ := putF X331 hx hZ hown (host := "") (Or.inl (hw _ (List.mem_of_getElem? (i := 52) rfl))) Via.refl e331 F_line_a1 E_a1 (Or.inr ⟨(hw _ (List.mem_of_getElem? (i := 53) rfl)), rfl, hnm⟩) (hw _ (List.mem_of_getElem? (i := 17) rfl)) (ty := (.object "java/lang/String")) (by decide) rfl rfl (g := (mkF m 6 #[.val (.ref a1), .val (.ref a2)] [(.ref a2), (.ref a1)])) rfl rfl (hb hby d10_6)
 refine own_go st332 ?_
 have F332 : Fld Z h332 a1 "com/example/restate/restate/Words" "line" "Ljava/lang/String;" (.ref a2) := F_line_a1.same W332
 have K332 : Keep h0 h332 [a1] := Keep.wr (Keep.refl h0 [a1]) W332 (Or.inl (List.mem_of_getElem? (i := 0) rfl))
 have N332 := Fr.snoc X332 N0 g_a1
 refine own_go (B := T332.setTop (mkF m 11 #[.val (.ref a1), .val (.ref a2)] [(.ref a2), (.ref a1)])) (fun tg kt => ?_) ?_
 ·refine XS.aloadN X332.here hx rfl (hb hby d10_9) rfl rfl ?_
  refine XS.aloadN X332.here hx rfl (hb hby d10_10) rfl rfl ?_
  exact kt
 have f334 : Exa Z h332 a2 "java/lang/String" := (E_a2.wr W332)
 have f335 : Fld Z h332 a2 "java/lang/String" "value" "[B" (.ref bn) := (Fv_a2.other W332 (Or.inl (Ne.symm n_12)))
 have f336 : Fld Z h332 a2 "java/lang/String" "coder" "B" (.int kd) := (Fc_a2.other W332 (Or.inl (Ne.symm n_12)))
 have f337 : Arv Z h332 bn kn .byte nb vb (.int 0) := (V_bn.other W332 (Ne.symm n_1b))
 obtain ⟨cq333, kq333, q333a, q333b, q333c⟩ := isOf hZ e332 f334
 obtain ⟨_, _, ⟨T333, L333, k333, n333⟩, -, X333, ⟨Lc333, hQ333, l333, y333, z333⟩, st333⟩ := X332.virtualBack hx (y := (⟨"java/lang/String", "isEmpty", "()Z"⟩ : MethodName)) (z := (⟨"java/lang/String", "isEmpty", "()Z"⟩ : MethodName)) hown (mvT hZ (hw _ (List.mem_of_getElem? (i := 54) rfl))) (mvT hZ (hw _ (List.mem_of_getElem? (i := 55) rfl))) (notFace_of_selects (args := #[]) (mvT hZ (hw _ (List.mem_of_getElem? (i := 57) rfl)))) (mvT hZ (hw _ (List.mem_of_getElem? (i := 57) rfl))) (mvT hZ (hw _ (List.mem_of_getElem? (i := 56) rfl))) (by decide) (backOf (W := 1) (rm11 l Z a0 hw [] a2 bn kn kd nb vb cs h332 n0 (Nat.le_trans Z0 (Nat.le_of_eq (Wr.size W332).symm)) f334 f335 f336 f337 (by first | assumption | decide)) hZ (hw _ (List.mem_of_getElem? (i := 58) rfl)) (hw _ (List.mem_of_getElem? (i := 21) rfl)) (by decide) (by decide)) q333a q333c (g := (mkF m 11 #[.val (.ref a1), .val (.ref a2)] [(.ref a2), (.ref a1)])) rfl (by rw [hml]; rfl) (Steps.refl _) (argsL := []) (rest := [(.ref a1)]) (lenOf pd_18 rfl) rfl (by show 2 * 0 + _ ≤ _; exact Nat.le_of_eq rfl) (hb hby d10_11) (fun _ _ => ⟨rfl, e332, (by decide : 0 + 0 ≤ _), (by decide : 0 + 0 ≤ _)⟩)
 dsimp only [Pt.U, Pt.locs, Pt.cells, Pt.slots] at X333 l333 y333 z333 st333 hQ333
 rw [l333, y333, z333] at X333
 obtain ⟨rfl, M333, q333_0⟩ := hQ333
 have N333 := Fr.app N332 M333
 refine own_go (fun t k => st333.trans k) ?_
 refine own_go (B := T333.setTop (mkF m 30 #[.val (.ref a1), .val (.ref a2)] [(.int 32), (.ref a2), (.ref a1)])) (fun tg kt => ?_) ?_
 ·refine XS.ifYes X333.here hx rfl (pc0 := 14) (pc' := 27) rfl (hb hby d10_14) rfl ((if0 _ _).trans (teq (by decide : (0 : Int32) = (0 : Int32))).1) (by decide) (by decide) ?_
  refine XS.aloadN X333.here hx rfl (hb hby d10_27) rfl rfl ?_
  refine XS.bipush X333.here hx rfl (hb hby d10_28) ?_
  exact kt
 have f339 : Sta Z h332 "java/lang/String" "COMPACT_STRINGS" "Z" (.int w_COMPACT_STRINGS) := (S_COMPACT_STRINGS.wr W332)
 have f340 : Sta Z h332 "java/lang/StringUTF16" "$assertionsDisabled" "Z" (.int 1) := (S__assertionsDisabled.wr W332)
 have f341 : Sta Z h332 "java/lang/StringUTF16" "HI_BYTE_SHIFT" "I" (.int 0) := (S_HI_BYTE_SHIFT.wr W332)
 have f342 : Sta Z h332 "java/lang/StringUTF16" "LO_BYTE_SHIFT" "I" (.int 8) := (S_LO_BYTE_SHIFT.wr W332)
 have f343 : Sta Z h332 "jdk/internal/util/Preconditions" "SIOOBE_FORMATTER" "Ljava/util/function/BiFunction;" (own_rv w_SIOOBE_FORMATTER) := (S_SIOOBE_FORMATTER.wr W332)
 obtain ⟨_, _, ⟨T338, L338, k338, n338⟩, -, X338, ⟨Lc338, hQ338, l338, y338, z338⟩, st338⟩ := Jvm.LawKit.callS X333 hx (y := (⟨"com/example/restate/restate/TextLines", "starts", "(Ljava/lang/String;C)[I"⟩ : MethodName)) hown (mvT hZ (hw _ (List.mem_of_getElem? (i := 59) rfl))) (mvT hZ (hw _ (List.mem_of_getElem? (i := 60) rfl))) (mvT hZ (hw _ (List.mem_of_getElem? (i := 61) rfl))) (mvT hZ (hw _ (List.mem_of_getElem? (i := 62) rfl))) (by decide) (backOf (W := 1) (rm12_0 l Z a0 hw [] a2 w_COMPACT_STRINGS w_SIOOBE_FORMATTER bn kn kd nb vb cs h332 n0 (Nat.le_trans Z0 (Nat.le_of_eq (Wr.size W332).symm)) f339 (by first | assumption | decide) f340 f341 f342 f343 f334 f335 f336 f337 (by first | assumption | decide) (hC) (hno)) hZ (hw _ (List.mem_of_getElem? (i := 62) rfl)) (hw _ (List.mem_of_getElem? (i := 61) rfl)) (by decide) (by decide)) (g := (mkF m 30 #[.val (.ref a1), .val (.ref a2)] [(.int 32), (.ref a2), (.ref a1)])) rfl (by rw [hml]; rfl) (argsL := [(.ref a2), (.int 32)]) (rest := [(.ref a1)]) (lenOf pd_22 rfl) rfl (by show 2 * 0 + _ ≤ _; exact Nat.le_of_eq rfl) (hb hby d10_30) (fun _ _ => ⟨rfl, q333_0, (by decide : 0 + 2 ≤ _), (by decide : 0 + 18 ≤ _)⟩)
 dsimp only [Pt.U, Pt.locs, Pt.cells, Pt.slots] at X338 l338 y338 z338 st338 hQ338
 rw [l338, y338, z338] at X338
 obtain ⟨sn_338, ks_338, rfl, M338, q338_0, q338_1, q338_2⟩ := hQ338
 have N338 := Fr.app N333 M338
 have K338 : Keep h0 T338.heap [a1] := Keep.trans K332 q338_0 all0
 refine own_go st338 ?_
 have f345 : Exa Z T338.heap a1 "com/example/restate/restate/Words" := ((E_a1.wr W332).keep q338_0)
 have f346 : Fld Z T338.heap a1 "com/example/restate/restate/Words" "starts" "[I" .null := ((F_starts_a1.other W332 (Or.inr (slot_ne (Or.inr (hw _ (List.mem_of_getElem? (i := 117) rfl))) (Or.inr (hw _ (List.mem_of_getElem? (i := 53) rfl))) (by decide) (t := (.array .int)) (t' := (.object "java/lang/String")) (by decide) (by decide)))).keep q338_0 nin0)
 obtain ⟨T344, h344, X344, e344, W344, st344⟩ := putF X338 hx hZ hown (host := "") (Or.inl (hw _ (List.mem_of_getElem? (i := 116) rfl))) Via.refl rfl f346 f345 (Or.inr ⟨(hw _ (List.mem_of_getElem? (i := 117) rfl)), rfl, hnm⟩) (hw _ (List.mem_of_getElem? (i := 17) rfl)) (ty := (.array .int)) (by decide) rfl rfl (g := (mkF m 33 #[.val (.ref a1), .val (.ref a2)] [(.ref sn_338), (.ref a1)])) rfl rfl (hb hby d10_33)
 refine own_go st344 ?_
 have F344 : Fld Z h344 a1 "com/example/restate/restate/Words" "starts" "[I" (.ref sn_338) := f346.same W344
 have K344 : Keep h0 h344 [a1] := Keep.wr K338 W344 (Or.inl (List.mem_of_getElem? (i := 0) rfl))
 have N344 := Fr.snoc X344 N338 g_a1
 obtain ⟨fs, hr, hrun, hended, hW, hsame⟩ := X344.leave (v := none) (fun _ => rfl)
 refine ⟨_, _, ?_, hrun, hended, _, _, rfl, ?_, ⟨_, rfl⟩, hW, hsame.mono (by decide) (by decide)⟩
 ·exact X344.returnOut hx Bd.returns (hb hby d10_36) hr
 ·show Q10_0 Z a1 a2 w_COMPACT_STRINGS w_SIOOBE_FORMATTER bn kn kd nb vb cs h0 n0 _ T344.heap _
  rw [e344]
  have f348 : Exa Z h344 a1 "com/example/restate/restate/Words" := (f345.wr W344)
  have f349 : Fld Z h344 a1 "com/example/restate/restate/Words" "line" "Ljava/lang/String;" (.ref a2) := ((F332.keep q338_0 nin0).other W344 (Or.inr (slot_ne (Or.inr (hw _ (List.mem_of_getElem? (i := 53) rfl))) (Or.inr (hw _ (List.mem_of_getElem? (i := 117) rfl))) (by decide) (t := (.object "java/lang/String")) (t' := (.array .int)) (by decide) (by decide))))
  have ne350 : a1 ≠ sn_338 := (Nat.ne_of_lt (Nat.lt_of_lt_of_le (Nat.lt_of_lt_of_le E_a1.lt (Nat.le_of_eq (Wr.size W332).symm)) q338_1))
  have f351 : Arv Z h344 sn_338 ks_338 .int (2 : Int32) [(.int 0), (.int 8)] (.int 0) := (q338_2.other W344 (Ne.symm ne350))
  exact ⟨sn_338, ks_338, rfl, N344, K344, (Nat.le_trans (Nat.le_of_eq (Wr.size W332).symm) q338_1), f348, f349, F344, f351⟩
theorem d24_0 : decode prog_113_method_2_code 0 = .ok (.aload_n 0, 1) := by decide +kernel
theorem d24_1 : decode prog_113_method_2_code 1 = .ok (.getfield 25, 3) := by decide +kernel
theorem d24_4 : decode prog_113_method_2_code 4 = .ok (.arraylength, 1) := by decide +kernel
theorem d24_5 : decode prog_113_method_2_code 5 = .ok (.iconst 1, 1) := by decide +kernel
theorem d24_6 : decode prog_113_method_2_code 6 = .ok (.isub, 1) := by decide +kernel
theorem d24_7 : decode prog_113_method_2_code 7 = .ok (.ireturn, 1) := by decide +kernel
theorem ef_24_0 (m : MethodId) (a1 : Addr) : entryFrame m #[(.ref a1)] 1 = mkF m 0 #[.val (.ref a1)] [] := by first | (simp [entryFrame, mkF, argsToLocals, Value.category]; done) | rfl
def Q24_0 (Z : State) (a1 : Addr) (sn : Addr) (ks : ClassId) (vst : List Value) (h0 : Heap) (n0 : Nat) (v : Option Value) (h : Heap) (L : List Loc) : Prop := v = some (.int 1) ∧ Fr n0 L ∧ h = h0
set_option maxRecDepth 65536 in
set_option maxHeartbeats 40000000 in
theorem rm24_0 (l : Launch) (Z : State) (a0 : Array Value) (hw : ∀ d ∈ tables_1, d.before a0 Z = true) (ws : List Jvm.Cond) (a1 : Addr) (sn : Addr) (ks : ClassId) (vst : List Value) (h0 : Heap) (n0 : Nat) (Z0 : n0 ≤ h0.size) (E_a1 : Exa Z h0 a1 "com/example/restate/restate/Words") (Fs_a1 : Fld Z h0 a1 "com/example/restate/restate/Words" "starts" "[I" (.ref sn)) (V_sn : Arv Z h0 sn ks .int (2 : Int32) vst (.int 0)) :
  MetFree l (⟨"com/example/restate/restate/Words", "size", "()I"⟩ : MethodName) (head1 (Jvm.Cond.code (⟨"com/example/restate/restate/Words", "size", "()I"⟩ : MethodName) prog_113_method_2_code 1 (some .int) :: ws) ({ frames := 0, cells := 0, slots := 0, locals := 0 } : Room)) (fun a U => a = #[(.ref a1)] ∧ Z.Warmed39 U.vm ∧ U.heap = h0) (fun _ _ _ _ _ => True) (fun _ U o U' => ∃ v L, o = .returned v ∧ Q24_0 Z a1 sn ks vst h0 n0 v U'.heap L ∧ FrameEnd U o U' L ({ frames := 0, cells := 0, slots := 0, locals := 0 } : Room).cells ({ frames := 0, cells := 0, slots := 0, locals := 0 } : Room).slots) := by
 refine MetFree.of_bodySF (plainFor_of_name pn_560) hisR ?_
 intro p e s m args below meth c s₁ Bd hml0 hP hK
 obtain ⟨rfl, hZ, hh⟩ := hP
 have hx := Bd.exec
 have hby := Bd.bytes
 have hml : c.maxLocals = 1 := hml0
 have hown : s.vm.findClass "com/example/restate/restate/Words" = some m.cls := findClass_of_methodNamed Bd.named
 have hnm := (name_of_methodNamed Bd.named Bd.method).1
 have X0 : Stand p l e ({ frames := 0, cells := 0, slots := 0, locals := 0 } : Room) s m #[(.ref a1)] below meth c s₁ [] 0 0 := Stand.of_body Bd
 have e0 : s₁.heap = h0 := by rw [← hh, Bd.state]; rfl
 have N0 := Fr.nil n0
 refine own_go (B := s₁.setTop (mkF m 0 #[.val (.ref a1)] [])) (fun t k => castTop (ef_24_0 m a1) k) ?_
 refine own_go (B := s₁.setTop (mkF m 1 #[.val (.ref a1)] [(.ref a1)])) (fun tg kt => ?_) ?_
 ·refine XS.aloadN X0.here hx rfl (hb hby d24_0) rfl rfl ?_
  exact kt
 obtain ⟨T352, X352, e352, st352⟩ := getF X0 hx hZ hown (host := "") (Or.inl (hw _ (List.mem_of_getElem? (i := 116) rfl))) Via.refl e0 Fs_a1 (g := (mkF m 1 #[.val (.ref a1)] [(.ref a1)])) rfl rfl (hb hby d24_1)
 refine own_go st352 ?_
 obtain ⟨cl353, Ar353, cq353, cS353, cN353, cH353, cG353⟩ := id V_sn
 refine own_go (B := T352.setTop (mkF m 7 #[.val (.ref a1)] [(.int 1)])) (fun tg kt => ?_) ?_
 ·refine X352.arraylength hx (by rw [e352]; exact Ar353.1) (State.isArrayOf_alike hZ.alike Ar353.2.1) (g := (mkF m 4 #[.val (.ref a1)] [(.ref sn)])) rfl rfl (hb hby d24_4) _ ?_
  rw [len_of cS353 cN353]
  refine XS.iconst X352.here hx rfl (hb hby d24_5) ?_
  refine XS.isub X352.here hx rfl (hb hby d24_6) rfl ?_
  exact kt
 obtain ⟨fs, hr, hrun, hended, hW, hsame⟩ := X352.leave (v := some (.int 1)) (fun h => by rw [Bd.returns] at h; cases h)
 refine ⟨_, _, ?_, hrun, hended, _, _, rfl, ?_, ⟨_, rfl⟩, hW, hsame.mono (by decide) (by decide)⟩
 ·exact retI X352 hx Bd.returns (hb hby d24_7) hr
 ·show Q24_0 Z a1 sn ks vst h0 n0 _ T352.heap _
  rw [e352]
  exact ⟨rfl, N0, rfl⟩
theorem ef_10_1 (m : MethodId) (a1 : Addr) (a2 : Addr) : entryFrame m #[(.ref a1), (.ref a2)] 2 = mkF m 0 #[.val (.ref a1), .val (.ref a2)] [] := by first | (simp [entryFrame, mkF, argsToLocals, Value.category]; done) | rfl
def Q10_1 (Z : State) (a1 : Addr) (a2 : Addr) (w_COMPACT_STRINGS : Int32) (w_SIOOBE_FORMATTER : Option Addr) (bn : Addr) (kn : ClassId) (kd : Int32) (nb : Int32) (vb : List Value) (cs : Nat → Int32) (pp : Nat) (h0 : Heap) (n0 : Nat) (v : Option Value) (h : Heap) (L : List Loc) : Prop := ∃ (sn : Addr) (ks : ClassId), v = none ∧ Fr n0 L ∧ Keep h0 h [a1] ∧ h0.size ≤ sn ∧ Exa Z h a1 "com/example/restate/restate/Words" ∧ Fld Z h a1 "com/example/restate/restate/Words" "line" "Ljava/lang/String;" (.ref a2) ∧ Fld Z h a1 "com/example/restate/restate/Words" "starts" "[I" (.ref sn) ∧ Arv Z h sn ks .int (3 : Int32) [(.int 0), (.int (Int32.ofNat (pp + 1))), (.int 8)] (.int 0)
set_option maxRecDepth 65536 in
set_option maxHeartbeats 40000000 in
theorem rm10_1 (l : Launch) (Z : State) (a0 : Array Value) (hw : ∀ d ∈ tables_1, d.before a0 Z = true) (ws : List Jvm.Cond) (a1 : Addr) (a2 : Addr) (w_COMPACT_STRINGS : Int32) (w_SIOOBE_FORMATTER : Option Addr) (bn : Addr) (kn : ClassId) (kd : Int32) (nb : Int32) (vb : List Value) (cs : Nat → Int32) (pp : Nat) (h0 : Heap) (n0 : Nat) (Z0 : n0 ≤ h0.size) (E_a1 : Exa Z h0 a1 "com/example/restate/restate/Words") (F_line_a1 : Fld Z h0 a1 "com/example/restate/restate/Words" "line" "Ljava/lang/String;" .null) (F_starts_a1 : Fld Z h0 a1 "com/example/restate/restate/Words" "starts" "[I" .null) (g_a1 : n0 ≤ a1) (S_COMPACT_STRINGS : Sta Z h0 "java/lang/String" "COMPACT_STRINGS" "Z" (.int w_COMPACT_STRINGS)) (N_COMPACT_STRINGS : ¬ w_COMPACT_STRINGS = (0 : Int32)) (S__assertionsDisabled : Sta Z h0 "java/lang/StringUTF16" "$assertionsDisabled" "Z" (.int 1)) (S_HI_BYTE_SHIFT : Sta Z h0 "java/lang/StringUTF16" "HI_BYTE_SHIFT" "I" (.int 0)) (S_LO_BYTE_SHIFT : Sta Z h0 "java/lang/StringUTF16" "LO_BYTE_SHIFT" "I" (.int 8)) (S_SIOOBE_FORMATTER : Sta Z h0 "jdk/internal/util/Preconditions" "SIOOBE_FORMATTER" "Ljava/util/function/BiFunction;" (own_rv w_SIOOBE_FORMATTER)) (E_a2 : Exa Z h0 a2 "java/lang/String") (Fv_a2 : Fld Z h0 a2 "java/lang/String" "value" "[B" (.ref bn)) (Fc_a2 : Fld Z h0 a2 "java/lang/String" "coder" "B" (.int kd)) (V_bn : Arv Z h0 bn kn .byte nb vb (.int 0)) (hsp : own_sp cs kd nb vb) (hC : ∀ i, i < 7 → 0 ≤ (cs i).toInt ∧ (cs i).toInt ≤ 65535) (hpq : pp < 7) (h1s : cs pp = 32) (hno : ∀ i, i < 7 → i ≠ pp → ¬ cs i = 32) (n_12 : a1 ≠ a2) (n_1b : a1 ≠ bn) :
  MetFree l (⟨"com/example/restate/restate/Words", "<init>", "(Ljava/lang/String;)V"⟩ : MethodName) (head1 (Jvm.Cond.code (⟨"com/example/restate/restate/Words", "<init>", "(Ljava/lang/String;)V"⟩ : MethodName) prog_113_method_1_code 2 none :: ws) ({ frames := 8, cells := 2, slots := 19, locals := 117 } : Room)) (fun a U => a = #[(.ref a1), (.ref a2)] ∧ Z.Warmed39 U.vm ∧ U.heap = h0) (fun _ _ _ _ _ => True) (fun _ U o U' => ∃ v L, o = .returned v ∧ Q10_1 Z a1 a2 w_COMPACT_STRINGS w_SIOOBE_FORMATTER bn kn kd nb vb cs pp h0 n0 v U'.heap L ∧ FrameEnd U o U' L ({ frames := 8, cells := 2, slots := 19, locals := 117 } : Room).cells ({ frames := 8, cells := 2, slots := 19, locals := 117 } : Room).slots) := by
 refine MetFree.of_bodySF (plainFor_of_name pn_560) hisR ?_
 intro p e s m args below meth c s₁ Bd hml0 hP hK
 obtain ⟨rfl, hZ, hh⟩ := hP
 have hx := Bd.exec
 have hby := Bd.bytes
 have hml : c.maxLocals = 2 := hml0
 have hown : s.vm.findClass "com/example/restate/restate/Words" = some m.cls := findClass_of_methodNamed Bd.named
 have hnm := (name_of_methodNamed Bd.named Bd.method).1
 have X0 : Stand p l e ({ frames := 8, cells := 2, slots := 19, locals := 117 } : Room) s m #[(.ref a1), (.ref a2)] below meth c s₁ [] 0 0 := Stand.of_body Bd
 have e0 : s₁.heap = h0 := by rw [← hh, Bd.state]; rfl
 have N0 := Fr.nil n0
 refine own_go (B := s₁.setTop (mkF m 0 #[.val (.ref a1), .val (.ref a2)] [])) (fun t k => castTop (ef_10_1 m a1 a2) k) ?_
 refine own_go (B := s₁.setTop (mkF m 1 #[.val (.ref a1), .val (.ref a2)] [(.ref a1)])) (fun tg kt => ?_) ?_
 ·refine XS.aloadN X0.here hx rfl (hb hby d10_0) rfl rfl ?_
  exact kt
 obtain ⟨T355, X355, e355, st355⟩ := initO X0 hx hZ hown (hw _ (List.mem_of_getElem? (i := 51) rfl)) (hw _ (List.mem_of_getElem? (i := 30) rfl)) (hw _ (List.mem_of_getElem? (i := 31) rfl)) e0 (g := (mkF m 1 #[.val (.ref a1), .val (.ref a2)] [(.ref a1)])) rfl (by rw [hml]; rfl) rfl (hb hby d10_1) (by decide) (W := 0) (by show 2 * 0 + _ ≤ _; exact Nat.le_of_eq rfl) (by decide)
 refine own_go st355 ?_
 refine own_go (B := T355.setTop (mkF m 6 #[.val (.ref a1), .val (.ref a2)] [(.ref a2), (.ref a1)])) (fun tg kt => ?_) ?_
 ·refine XS.aloadN X355.here hx rfl (hb hby d10_4) rfl rfl ?_
  refine XS.aloadN X355.here hx rfl (hb hby d10_5) rfl rfl ?_
  exact kt
 obtain ⟨T356, h356, X356, e356, W356, st356⟩ := putF X355 hx hZ hown (host := "") (Or.inl (hw _ (List.mem_of_getElem? (i := 52) rfl))) Via.refl e355 F_line_a1 E_a1 (Or.inr ⟨(hw _ (List.mem_of_getElem? (i := 53) rfl)), rfl, hnm⟩) (hw _ (List.mem_of_getElem? (i := 17) rfl)) (ty := (.object "java/lang/String")) (by decide) rfl rfl (g := (mkF m 6 #[.val (.ref a1), .val (.ref a2)] [(.ref a2), (.ref a1)])) rfl rfl (hb hby d10_6)
 refine own_go st356 ?_
 have F356 : Fld Z h356 a1 "com/example/restate/restate/Words" "line" "Ljava/lang/String;" (.ref a2) := F_line_a1.same W356
 have K356 : Keep h0 h356 [a1] := Keep.wr (Keep.refl h0 [a1]) W356 (Or.inl (List.mem_of_getElem? (i := 0) rfl))
 have N356 := Fr.snoc X356 N0 g_a1
 refine own_go (B := T356.setTop (mkF m 11 #[.val (.ref a1), .val (.ref a2)] [(.ref a2), (.ref a1)])) (fun tg kt => ?_) ?_
 ·refine XS.aloadN X356.here hx rfl (hb hby d10_9) rfl rfl ?_
  refine XS.aloadN X356.here hx rfl (hb hby d10_10) rfl rfl ?_
  exact kt
 have f358 : Exa Z h356 a2 "java/lang/String" := (E_a2.wr W356)
 have f359 : Fld Z h356 a2 "java/lang/String" "value" "[B" (.ref bn) := (Fv_a2.other W356 (Or.inl (Ne.symm n_12)))
 have f360 : Fld Z h356 a2 "java/lang/String" "coder" "B" (.int kd) := (Fc_a2.other W356 (Or.inl (Ne.symm n_12)))
 have f361 : Arv Z h356 bn kn .byte nb vb (.int 0) := (V_bn.other W356 (Ne.symm n_1b))
 obtain ⟨cq357, kq357, q357a, q357b, q357c⟩ := isOf hZ e356 f358
 obtain ⟨_, _, ⟨T357, L357, k357, n357⟩, -, X357, ⟨Lc357, hQ357, l357, y357, z357⟩, st357⟩ := X356.virtualBack hx (y := (⟨"java/lang/String", "isEmpty", "()Z"⟩ : MethodName)) (z := (⟨"java/lang/String", "isEmpty", "()Z"⟩ : MethodName)) hown (mvT hZ (hw _ (List.mem_of_getElem? (i := 54) rfl))) (mvT hZ (hw _ (List.mem_of_getElem? (i := 55) rfl))) (notFace_of_selects (args := #[]) (mvT hZ (hw _ (List.mem_of_getElem? (i := 57) rfl)))) (mvT hZ (hw _ (List.mem_of_getElem? (i := 57) rfl))) (mvT hZ (hw _ (List.mem_of_getElem? (i := 56) rfl))) (by decide) (backOf (W := 1) (rm11 l Z a0 hw [] a2 bn kn kd nb vb cs h356 n0 (Nat.le_trans Z0 (Nat.le_of_eq (Wr.size W356).symm)) f358 f359 f360 f361 (by first | assumption | decide)) hZ (hw _ (List.mem_of_getElem? (i := 58) rfl)) (hw _ (List.mem_of_getElem? (i := 21) rfl)) (by decide) (by decide)) q357a q357c (g := (mkF m 11 #[.val (.ref a1), .val (.ref a2)] [(.ref a2), (.ref a1)])) rfl (by rw [hml]; rfl) (Steps.refl _) (argsL := []) (rest := [(.ref a1)]) (lenOf pd_18 rfl) rfl (by show 2 * 0 + _ ≤ _; exact Nat.le_of_eq rfl) (hb hby d10_11) (fun _ _ => ⟨rfl, e356, (by decide : 0 + 0 ≤ _), (by decide : 0 + 0 ≤ _)⟩)
 dsimp only [Pt.U, Pt.locs, Pt.cells, Pt.slots] at X357 l357 y357 z357 st357 hQ357
 rw [l357, y357, z357] at X357
 obtain ⟨rfl, M357, q357_0⟩ := hQ357
 have N357 := Fr.app N356 M357
 refine own_go (fun t k => st357.trans k) ?_
 refine own_go (B := T357.setTop (mkF m 30 #[.val (.ref a1), .val (.ref a2)] [(.int 32), (.ref a2), (.ref a1)])) (fun tg kt => ?_) ?_
 ·refine XS.ifYes X357.here hx rfl (pc0 := 14) (pc' := 27) rfl (hb hby d10_14) rfl ((if0 _ _).trans (teq (by decide : (0 : Int32) = (0 : Int32))).1) (by decide) (by decide) ?_
  refine XS.aloadN X357.here hx rfl (hb hby d10_27) rfl rfl ?_
  refine XS.bipush X357.here hx rfl (hb hby d10_28) ?_
  exact kt
 have f363 : Sta Z h356 "java/lang/String" "COMPACT_STRINGS" "Z" (.int w_COMPACT_STRINGS) := (S_COMPACT_STRINGS.wr W356)
 have f364 : Sta Z h356 "java/lang/StringUTF16" "$assertionsDisabled" "Z" (.int 1) := (S__assertionsDisabled.wr W356)
 have f365 : Sta Z h356 "java/lang/StringUTF16" "HI_BYTE_SHIFT" "I" (.int 0) := (S_HI_BYTE_SHIFT.wr W356)
 have f366 : Sta Z h356 "java/lang/StringUTF16" "LO_BYTE_SHIFT" "I" (.int 8) := (S_LO_BYTE_SHIFT.wr W356)
 have f367 : Sta Z h356 "jdk/internal/util/Preconditions" "SIOOBE_FORMATTER" "Ljava/util/function/BiFunction;" (own_rv w_SIOOBE_FORMATTER) := (S_SIOOBE_FORMATTER.wr W356)
 obtain ⟨_, _, ⟨T362, L362, k362, n362⟩, -, X362, ⟨Lc362, hQ362, l362, y362, z362⟩, st362⟩ := Jvm.LawKit.callS X357 hx (y := (⟨"com/example/restate/restate/TextLines", "starts", "(Ljava/lang/String;C)[I"⟩ : MethodName)) hown (mvT hZ (hw _ (List.mem_of_getElem? (i := 59) rfl))) (mvT hZ (hw _ (List.mem_of_getElem? (i := 60) rfl))) (mvT hZ (hw _ (List.mem_of_getElem? (i := 61) rfl))) (mvT hZ (hw _ (List.mem_of_getElem? (i := 62) rfl))) (by decide) (backOf (W := 1) (rm12_1 l Z a0 hw [] a2 w_COMPACT_STRINGS w_SIOOBE_FORMATTER bn kn kd nb vb cs pp h356 n0 (Nat.le_trans Z0 (Nat.le_of_eq (Wr.size W356).symm)) f363 (by first | assumption | decide) f364 f365 f366 f367 f358 f359 f360 f361 (by first | assumption | decide) (hC) (hpq) (h1s) (hno)) hZ (hw _ (List.mem_of_getElem? (i := 62) rfl)) (hw _ (List.mem_of_getElem? (i := 61) rfl)) (by decide) (by decide)) (g := (mkF m 30 #[.val (.ref a1), .val (.ref a2)] [(.int 32), (.ref a2), (.ref a1)])) rfl (by rw [hml]; rfl) (argsL := [(.ref a2), (.int 32)]) (rest := [(.ref a1)]) (lenOf pd_22 rfl) rfl (by show 2 * 0 + _ ≤ _; exact Nat.le_of_eq rfl) (hb hby d10_30) (fun _ _ => ⟨rfl, q357_0, (by decide : 0 + 2 ≤ _), (by decide : 0 + 19 ≤ _)⟩)
 dsimp only [Pt.U, Pt.locs, Pt.cells, Pt.slots] at X362 l362 y362 z362 st362 hQ362
 rw [l362, y362, z362] at X362
 obtain ⟨sn_362, ks_362, rfl, M362, q362_0, q362_1, q362_2⟩ := hQ362
 have N362 := Fr.app N357 M362
 have K362 : Keep h0 T362.heap [a1] := Keep.trans K356 q362_0 all0
 refine own_go st362 ?_
 have f369 : Exa Z T362.heap a1 "com/example/restate/restate/Words" := ((E_a1.wr W356).keep q362_0)
 have f370 : Fld Z T362.heap a1 "com/example/restate/restate/Words" "starts" "[I" .null := ((F_starts_a1.other W356 (Or.inr (slot_ne (Or.inr (hw _ (List.mem_of_getElem? (i := 117) rfl))) (Or.inr (hw _ (List.mem_of_getElem? (i := 53) rfl))) (by decide) (t := (.array .int)) (t' := (.object "java/lang/String")) (by decide) (by decide)))).keep q362_0 nin0)
 obtain ⟨T368, h368, X368, e368, W368, st368⟩ := putF X362 hx hZ hown (host := "") (Or.inl (hw _ (List.mem_of_getElem? (i := 116) rfl))) Via.refl rfl f370 f369 (Or.inr ⟨(hw _ (List.mem_of_getElem? (i := 117) rfl)), rfl, hnm⟩) (hw _ (List.mem_of_getElem? (i := 17) rfl)) (ty := (.array .int)) (by decide) rfl rfl (g := (mkF m 33 #[.val (.ref a1), .val (.ref a2)] [(.ref sn_362), (.ref a1)])) rfl rfl (hb hby d10_33)
 refine own_go st368 ?_
 have F368 : Fld Z h368 a1 "com/example/restate/restate/Words" "starts" "[I" (.ref sn_362) := f370.same W368
 have K368 : Keep h0 h368 [a1] := Keep.wr K362 W368 (Or.inl (List.mem_of_getElem? (i := 0) rfl))
 have N368 := Fr.snoc X368 N362 g_a1
 obtain ⟨fs, hr, hrun, hended, hW, hsame⟩ := X368.leave (v := none) (fun _ => rfl)
 refine ⟨_, _, ?_, hrun, hended, _, _, rfl, ?_, ⟨_, rfl⟩, hW, hsame.mono (by decide) (by decide)⟩
 ·exact X368.returnOut hx Bd.returns (hb hby d10_36) hr
 ·show Q10_1 Z a1 a2 w_COMPACT_STRINGS w_SIOOBE_FORMATTER bn kn kd nb vb cs pp h0 n0 _ T368.heap _
  rw [e368]
  have f372 : Exa Z h368 a1 "com/example/restate/restate/Words" := (f369.wr W368)
  have f373 : Fld Z h368 a1 "com/example/restate/restate/Words" "line" "Ljava/lang/String;" (.ref a2) := ((F356.keep q362_0 nin0).other W368 (Or.inr (slot_ne (Or.inr (hw _ (List.mem_of_getElem? (i := 53) rfl))) (Or.inr (hw _ (List.mem_of_getElem? (i := 117) rfl))) (by decide) (t := (.object "java/lang/String")) (t' := (.array .int)) (by decide) (by decide))))
  have ne374 : a1 ≠ sn_362 := (Nat.ne_of_lt (Nat.lt_of_lt_of_le (Nat.lt_of_lt_of_le E_a1.lt (Nat.le_of_eq (Wr.size W356).symm)) q362_1))
  have f375 : Arv Z h368 sn_362 ks_362 .int (3 : Int32) [(.int 0), (.int (Int32.ofNat (pp + 1))), (.int 8)] (.int 0) := (q362_2.other W368 (Ne.symm ne374))
  exact ⟨sn_362, ks_362, rfl, N368, K368, (Nat.le_trans (Nat.le_of_eq (Wr.size W356).symm) q362_1), f372, f373, F368, f375⟩
theorem ef_24_1 (m : MethodId) (a1 : Addr) : entryFrame m #[(.ref a1)] 1 = mkF m 0 #[.val (.ref a1)] [] := by first | (simp [entryFrame, mkF, argsToLocals, Value.category]; done) | rfl
def Q24_1 (Z : State) (a1 : Addr) (sn : Addr) (ks : ClassId) (vst : List Value) (h0 : Heap) (n0 : Nat) (v : Option Value) (h : Heap) (L : List Loc) : Prop := v = some (.int 2) ∧ Fr n0 L ∧ h = h0
set_option maxRecDepth 65536 in
set_option maxHeartbeats 40000000 in
theorem rm24_1 (l : Launch) (Z : State) (a0 : Array Value) (hw : ∀ d ∈ tables_1, d.before a0 Z = true) (ws : List Jvm.Cond) (a1 : Addr) (sn : Addr) (ks : ClassId) (vst : List Value) (h0 : Heap) (n0 : Nat) (Z0 : n0 ≤ h0.size) (E_a1 : Exa Z h0 a1 "com/example/restate/restate/Words") (Fs_a1 : Fld Z h0 a1 "com/example/restate/restate/Words" "starts" "[I" (.ref sn)) (V_sn : Arv Z h0 sn ks .int (3 : Int32) vst (.int 0)) :
  MetFree l (⟨"com/example/restate/restate/Words", "size", "()I"⟩ : MethodName) (head1 (Jvm.Cond.code (⟨"com/example/restate/restate/Words", "size", "()I"⟩ : MethodName) prog_113_method_2_code 1 (some .int) :: ws) ({ frames := 0, cells := 0, slots := 0, locals := 0 } : Room)) (fun a U => a = #[(.ref a1)] ∧ Z.Warmed39 U.vm ∧ U.heap = h0) (fun _ _ _ _ _ => True) (fun _ U o U' => ∃ v L, o = .returned v ∧ Q24_1 Z a1 sn ks vst h0 n0 v U'.heap L ∧ FrameEnd U o U' L ({ frames := 0, cells := 0, slots := 0, locals := 0 } : Room).cells ({ frames := 0, cells := 0, slots := 0, locals := 0 } : Room).slots) := by
 refine MetFree.of_bodySF (plainFor_of_name pn_560) hisR ?_
 intro p e s m args below meth c s₁ Bd hml0 hP hK
 obtain ⟨rfl, hZ, hh⟩ := hP
 have hx := Bd.exec
 have hby := Bd.bytes
 have hml : c.maxLocals = 1 := hml0
 have hown : s.vm.findClass "com/example/restate/restate/Words" = some m.cls := findClass_of_methodNamed Bd.named
 have hnm := (name_of_methodNamed Bd.named Bd.method).1
 have X0 : Stand p l e ({ frames := 0, cells := 0, slots := 0, locals := 0 } : Room) s m #[(.ref a1)] below meth c s₁ [] 0 0 := Stand.of_body Bd
 have e0 : s₁.heap = h0 := by rw [← hh, Bd.state]; rfl
 have N0 := Fr.nil n0
 refine own_go (B := s₁.setTop (mkF m 0 #[.val (.ref a1)] [])) (fun t k => castTop (ef_24_1 m a1) k) ?_
 refine own_go (B := s₁.setTop (mkF m 1 #[.val (.ref a1)] [(.ref a1)])) (fun tg kt => ?_) ?_
 ·refine XS.aloadN X0.here hx rfl (hb hby d24_0) rfl rfl ?_
  exact kt
 obtain ⟨T376, X376, e376, st376⟩ := getF X0 hx hZ hown (host := "") (Or.inl (hw _ (List.mem_of_getElem? (i := 116) rfl))) Via.refl e0 Fs_a1 (g := (mkF m 1 #[.val (.ref a1)] [(.ref a1)])) rfl rfl (hb hby d24_1)
 refine own_go st376 ?_
 obtain ⟨cl377, Ar377, cq377, cS377, cN377, cH377, cG377⟩ := id V_sn
 refine own_go (B := T376.setTop (mkF m 7 #[.val (.ref a1)] [(.int 2)])) (fun tg kt => ?_) ?_
 ·refine X376.arraylength hx (by rw [e376]; exact Ar377.1) (State.isArrayOf_alike hZ.alike Ar377.2.1) (g := (mkF m 4 #[.val (.ref a1)] [(.ref sn)])) rfl rfl (hb hby d24_4) _ ?_
  rw [len_of cS377 cN377]
  refine XS.iconst X376.here hx rfl (hb hby d24_5) ?_
  refine XS.isub X376.here hx rfl (hb hby d24_6) rfl ?_
  exact kt
 obtain ⟨fs, hr, hrun, hended, hW, hsame⟩ := X376.leave (v := some (.int 2)) (fun h => by rw [Bd.returns] at h; cases h)
 refine ⟨_, _, ?_, hrun, hended, _, _, rfl, ?_, ⟨_, rfl⟩, hW, hsame.mono (by decide) (by decide)⟩
 ·exact retI X376 hx Bd.returns (hb hby d24_7) hr
 ·show Q24_1 Z a1 sn ks vst h0 n0 _ T376.heap _
  rw [e376]
  exact ⟨rfl, N0, rfl⟩
theorem ef_10_2 (m : MethodId) (a1 : Addr) (a2 : Addr) : entryFrame m #[(.ref a1), (.ref a2)] 2 = mkF m 0 #[.val (.ref a1), .val (.ref a2)] [] := by first | (simp [entryFrame, mkF, argsToLocals, Value.category]; done) | rfl
def Q10_2 (Z : State) (a1 : Addr) (a2 : Addr) (w_COMPACT_STRINGS : Int32) (w_SIOOBE_FORMATTER : Option Addr) (bn : Addr) (kn : ClassId) (kd : Int32) (nb : Int32) (vb : List Value) (cs : Nat → Int32) (pp : Nat) (qq : Nat) (h0 : Heap) (n0 : Nat) (v : Option Value) (h : Heap) (L : List Loc) : Prop := ∃ (sn : Addr) (ks : ClassId), v = none ∧ Fr n0 L ∧ Keep h0 h [a1] ∧ h0.size ≤ sn ∧ Exa Z h a1 "com/example/restate/restate/Words" ∧ Fld Z h a1 "com/example/restate/restate/Words" "line" "Ljava/lang/String;" (.ref a2) ∧ Fld Z h a1 "com/example/restate/restate/Words" "starts" "[I" (.ref sn) ∧ Arv Z h sn ks .int (4 : Int32) [(.int 0), (.int (Int32.ofNat (pp + 1))), (.int (Int32.ofNat (qq + 1))), (.int 8)] (.int 0)
set_option maxRecDepth 65536 in
set_option maxHeartbeats 40000000 in
theorem rm10_2 (l : Launch) (Z : State) (a0 : Array Value) (hw : ∀ d ∈ tables_1, d.before a0 Z = true) (ws : List Jvm.Cond) (a1 : Addr) (a2 : Addr) (w_COMPACT_STRINGS : Int32) (w_SIOOBE_FORMATTER : Option Addr) (bn : Addr) (kn : ClassId) (kd : Int32) (nb : Int32) (vb : List Value) (cs : Nat → Int32) (pp : Nat) (qq : Nat) (h0 : Heap) (n0 : Nat) (Z0 : n0 ≤ h0.size) (E_a1 : Exa Z h0 a1 "com/example/restate/restate/Words") (F_line_a1 : Fld Z h0 a1 "com/example/restate/restate/Words" "line" "Ljava/lang/String;" .null) (F_starts_a1 : Fld Z h0 a1 "com/example/restate/restate/Words" "starts" "[I" .null) (g_a1 : n0 ≤ a1) (S_COMPACT_STRINGS : Sta Z h0 "java/lang/String" "COMPACT_STRINGS" "Z" (.int w_COMPACT_STRINGS)) (N_COMPACT_STRINGS : ¬ w_COMPACT_STRINGS = (0 : Int32)) (S__assertionsDisabled : Sta Z h0 "java/lang/StringUTF16" "$assertionsDisabled" "Z" (.int 1)) (S_HI_BYTE_SHIFT : Sta Z h0 "java/lang/StringUTF16" "HI_BYTE_SHIFT" "I" (.int 0)) (S_LO_BYTE_SHIFT : Sta Z h0 "java/lang/StringUTF16" "LO_BYTE_SHIFT" "I" (.int 8)) (S_SIOOBE_FORMATTER : Sta Z h0 "jdk/internal/util/Preconditions" "SIOOBE_FORMATTER" "Ljava/util/function/BiFunction;" (own_rv w_SIOOBE_FORMATTER)) (E_a2 : Exa Z h0 a2 "java/lang/String") (Fv_a2 : Fld Z h0 a2 "java/lang/String" "value" "[B" (.ref bn)) (Fc_a2 : Fld Z h0 a2 "java/lang/String" "coder" "B" (.int kd)) (V_bn : Arv Z h0 bn kn .byte nb vb (.int 0)) (hsp : own_sp cs kd nb vb) (hC : ∀ i, i < 7 → 0 ≤ (cs i).toInt ∧ (cs i).toInt ≤ 65535) (hpq : pp < qq ∧ qq < 7) (h1s : cs pp = 32) (h2s : cs qq = 32) (hno : ∀ i, i < 7 → i ≠ pp → i ≠ qq → ¬ cs i = 32) (n_12 : a1 ≠ a2) (n_1b : a1 ≠ bn) :
  MetFree l (⟨"com/example/restate/restate/Words", "<init>", "(Ljava/lang/String;)V"⟩ : MethodName) (head1 (Jvm.Cond.code (⟨"com/example/restate/restate/Words", "<init>", "(Ljava/lang/String;)V"⟩ : MethodName) prog_113_method_1_code 2 none :: ws) ({ frames := 8, cells := 2, slots := 20, locals := 117 } : Room)) (fun a U => a = #[(.ref a1), (.ref a2)] ∧ Z.Warmed39 U.vm ∧ U.heap = h0) (fun _ _ _ _ _ => True) (fun _ U o U' => ∃ v L, o = .returned v ∧ Q10_2 Z a1 a2 w_COMPACT_STRINGS w_SIOOBE_FORMATTER bn kn kd nb vb cs pp qq h0 n0 v U'.heap L ∧ FrameEnd U o U' L ({ frames := 8, cells := 2, slots := 20, locals := 117 } : Room).cells ({ frames := 8, cells := 2, slots := 20, locals := 117 } : Room).slots) := by
 refine MetFree.of_bodySF (plainFor_of_name pn_560) hisR ?_
 intro p e s m args below meth c s₁ Bd hml0 hP hK
 obtain ⟨rfl, hZ, hh⟩ := hP
 have hx := Bd.exec
 have hby := Bd.bytes
 have hml : c.maxLocals = 2 := hml0
 have hown : s.vm.findClass "com/example/restate/restate/Words" = some m.cls := findClass_of_methodNamed Bd.named
 have hnm := (name_of_methodNamed Bd.named Bd.method).1
 have X0 : Stand p l e ({ frames := 8, cells := 2, slots := 20, locals := 117 } : Room) s m #[(.ref a1), (.ref a2)] below meth c s₁ [] 0 0 := Stand.of_body Bd
 have e0 : s₁.heap = h0 := by rw [← hh, Bd.state]; rfl
 have N0 := Fr.nil n0
 refine own_go (B := s₁.setTop (mkF m 0 #[.val (.ref a1), .val (.ref a2)] [])) (fun t k => castTop (ef_10_2 m a1 a2) k) ?_
 refine own_go (B := s₁.setTop (mkF m 1 #[.val (.ref a1), .val (.ref a2)] [(.ref a1)])) (fun tg kt => ?_) ?_
 ·refine XS.aloadN X0.here hx rfl (hb hby d10_0) rfl rfl ?_
  exact kt
 obtain ⟨T379, X379, e379, st379⟩ := initO X0 hx hZ hown (hw _ (List.mem_of_getElem? (i := 51) rfl)) (hw _ (List.mem_of_getElem? (i := 30) rfl)) (hw _ (List.mem_of_getElem? (i := 31) rfl)) e0 (g := (mkF m 1 #[.val (.ref a1), .val (.ref a2)] [(.ref a1)])) rfl (by rw [hml]; rfl) rfl (hb hby d10_1) (by decide) (W := 0) (by show 2 * 0 + _ ≤ _; exact Nat.le_of_eq rfl) (by decide)
 refine own_go st379 ?_
 refine own_go (B := T379.setTop (mkF m 6 #[.val (.ref a1), .val (.ref a2)] [(.ref a2), (.ref a1)])) (fun tg kt => ?_) ?_
 ·refine XS.aloadN X379.here hx rfl (hb hby d10_4) rfl rfl ?_
  refine XS.aloadN X379.here hx rfl (hb hby d10_5) rfl rfl ?_
  exact kt
 obtain ⟨T380, h380, X380, e380, W380, st380⟩ := putF X379 hx hZ hown (host := "") (Or.inl (hw _ (List.mem_of_getElem? (i := 52) rfl))) Via.refl e379 F_line_a1 E_a1 (Or.inr ⟨(hw _ (List.mem_of_getElem? (i := 53) rfl)), rfl, hnm⟩) (hw _ (List.mem_of_getElem? (i := 17) rfl)) (ty := (.object "java/lang/String")) (by decide) rfl rfl (g := (mkF m 6 #[.val (.ref a1), .val (.ref a2)] [(.ref a2), (.ref a1)])) rfl rfl (hb hby d10_6)
 refine own_go st380 ?_
 have F380 : Fld Z h380 a1 "com/example/restate/restate/Words" "line" "Ljava/lang/String;" (.ref a2) := F_line_a1.same W380
 have K380 : Keep h0 h380 [a1] := Keep.wr (Keep.refl h0 [a1]) W380 (Or.inl (List.mem_of_getElem? (i := 0) rfl))
 have N380 := Fr.snoc X380 N0 g_a1
 refine own_go (B := T380.setTop (mkF m 11 #[.val (.ref a1), .val (.ref a2)] [(.ref a2), (.ref a1)])) (fun tg kt => ?_) ?_
 ·refine XS.aloadN X380.here hx rfl (hb hby d10_9) rfl rfl ?_
  refine XS.aloadN X380.here hx rfl (hb hby d10_10) rfl rfl ?_
  exact kt
 have f382 : Exa Z h380 a2 "java/lang/String" := (E_a2.wr W380)
 have f383 : Fld Z h380 a2 "java/lang/String" "value" "[B" (.ref bn) := (Fv_a2.other W380 (Or.inl (Ne.symm n_12)))
 have f384 : Fld Z h380 a2 "java/lang/String" "coder" "B" (.int kd) := (Fc_a2.other W380 (Or.inl (Ne.symm n_12)))
 have f385 : Arv Z h380 bn kn .byte nb vb (.int 0) := (V_bn.other W380 (Ne.symm n_1b))
 obtain ⟨cq381, kq381, q381a, q381b, q381c⟩ := isOf hZ e380 f382
 obtain ⟨_, _, ⟨T381, L381, k381, n381⟩, -, X381, ⟨Lc381, hQ381, l381, y381, z381⟩, st381⟩ := X380.virtualBack hx (y := (⟨"java/lang/String", "isEmpty", "()Z"⟩ : MethodName)) (z := (⟨"java/lang/String", "isEmpty", "()Z"⟩ : MethodName)) hown (mvT hZ (hw _ (List.mem_of_getElem? (i := 54) rfl))) (mvT hZ (hw _ (List.mem_of_getElem? (i := 55) rfl))) (notFace_of_selects (args := #[]) (mvT hZ (hw _ (List.mem_of_getElem? (i := 57) rfl)))) (mvT hZ (hw _ (List.mem_of_getElem? (i := 57) rfl))) (mvT hZ (hw _ (List.mem_of_getElem? (i := 56) rfl))) (by decide) (backOf (W := 1) (rm11 l Z a0 hw [] a2 bn kn kd nb vb cs h380 n0 (Nat.le_trans Z0 (Nat.le_of_eq (Wr.size W380).symm)) f382 f383 f384 f385 (by first | assumption | decide)) hZ (hw _ (List.mem_of_getElem? (i := 58) rfl)) (hw _ (List.mem_of_getElem? (i := 21) rfl)) (by decide) (by decide)) q381a q381c (g := (mkF m 11 #[.val (.ref a1), .val (.ref a2)] [(.ref a2), (.ref a1)])) rfl (by rw [hml]; rfl) (Steps.refl _) (argsL := []) (rest := [(.ref a1)]) (lenOf pd_18 rfl) rfl (by show 2 * 0 + _ ≤ _; exact Nat.le_of_eq rfl) (hb hby d10_11) (fun _ _ => ⟨rfl, e380, (by decide : 0 + 0 ≤ _), (by decide : 0 + 0 ≤ _)⟩)
 dsimp only [Pt.U, Pt.locs, Pt.cells, Pt.slots] at X381 l381 y381 z381 st381 hQ381
 rw [l381, y381, z381] at X381
 obtain ⟨rfl, M381, q381_0⟩ := hQ381
 have N381 := Fr.app N380 M381
 refine own_go (fun t k => st381.trans k) ?_
 refine own_go (B := T381.setTop (mkF m 30 #[.val (.ref a1), .val (.ref a2)] [(.int 32), (.ref a2), (.ref a1)])) (fun tg kt => ?_) ?_
 ·refine XS.ifYes X381.here hx rfl (pc0 := 14) (pc' := 27) rfl (hb hby d10_14) rfl ((if0 _ _).trans (teq (by decide : (0 : Int32) = (0 : Int32))).1) (by decide) (by decide) ?_
  refine XS.aloadN X381.here hx rfl (hb hby d10_27) rfl rfl ?_
  refine XS.bipush X381.here hx rfl (hb hby d10_28) ?_
  exact kt
 have f387 : Sta Z h380 "java/lang/String" "COMPACT_STRINGS" "Z" (.int w_COMPACT_STRINGS) := (S_COMPACT_STRINGS.wr W380)
 have f388 : Sta Z h380 "java/lang/StringUTF16" "$assertionsDisabled" "Z" (.int 1) := (S__assertionsDisabled.wr W380)
 have f389 : Sta Z h380 "java/lang/StringUTF16" "HI_BYTE_SHIFT" "I" (.int 0) := (S_HI_BYTE_SHIFT.wr W380)
 have f390 : Sta Z h380 "java/lang/StringUTF16" "LO_BYTE_SHIFT" "I" (.int 8) := (S_LO_BYTE_SHIFT.wr W380)
 have f391 : Sta Z h380 "jdk/internal/util/Preconditions" "SIOOBE_FORMATTER" "Ljava/util/function/BiFunction;" (own_rv w_SIOOBE_FORMATTER) := (S_SIOOBE_FORMATTER.wr W380)
 obtain ⟨_, _, ⟨T386, L386, k386, n386⟩, -, X386, ⟨Lc386, hQ386, l386, y386, z386⟩, st386⟩ := Jvm.LawKit.callS X381 hx (y := (⟨"com/example/restate/restate/TextLines", "starts", "(Ljava/lang/String;C)[I"⟩ : MethodName)) hown (mvT hZ (hw _ (List.mem_of_getElem? (i := 59) rfl))) (mvT hZ (hw _ (List.mem_of_getElem? (i := 60) rfl))) (mvT hZ (hw _ (List.mem_of_getElem? (i := 61) rfl))) (mvT hZ (hw _ (List.mem_of_getElem? (i := 62) rfl))) (by decide) (backOf (W := 1) (rm12_2 l Z a0 hw [] a2 w_COMPACT_STRINGS w_SIOOBE_FORMATTER bn kn kd nb vb cs pp qq h380 n0 (Nat.le_trans Z0 (Nat.le_of_eq (Wr.size W380).symm)) f387 (by first | assumption | decide) f388 f389 f390 f391 f382 f383 f384 f385 (by first | assumption | decide) (hC) (hpq) (h1s) (h2s) (hno)) hZ (hw _ (List.mem_of_getElem? (i := 62) rfl)) (hw _ (List.mem_of_getElem? (i := 61) rfl)) (by decide) (by decide)) (g := (mkF m 30 #[.val (.ref a1), .val (.ref a2)] [(.int 32), (.ref a2), (.ref a1)])) rfl (by rw [hml]; rfl) (argsL := [(.ref a2), (.int 32)]) (rest := [(.ref a1)]) (lenOf pd_22 rfl) rfl (by show 2 * 0 + _ ≤ _; exact Nat.le_of_eq rfl) (hb hby d10_30) (fun _ _ => ⟨rfl, q381_0, (by decide : 0 + 2 ≤ _), (by decide : 0 + 20 ≤ _)⟩)
 dsimp only [Pt.U, Pt.locs, Pt.cells, Pt.slots] at X386 l386 y386 z386 st386 hQ386
 rw [l386, y386, z386] at X386
 obtain ⟨sn_386, ks_386, rfl, M386, q386_0, q386_1, q386_2⟩ := hQ386
 have N386 := Fr.app N381 M386
 have K386 : Keep h0 T386.heap [a1] := Keep.trans K380 q386_0 all0
 refine own_go st386 ?_
 have f393 : Exa Z T386.heap a1 "com/example/restate/restate/Words" := ((E_a1.wr W380).keep q386_0)
 have f394 : Fld Z T386.heap a1 "com/example/restate/restate/Words" "starts" "[I" .null := ((F_starts_a1.other W380 (Or.inr (slot_ne (Or.inr (hw _ (List.mem_of_getElem? (i := 117) rfl))) (Or.inr (hw _ (List.mem_of_getElem? (i := 53) rfl))) (by decide) (t := (.array .int)) (t' := (.object "java/lang/String")) (by decide) (by decide)))).keep q386_0 nin0)
 obtain ⟨T392, h392, X392, e392, W392, st392⟩ := putF X386 hx hZ hown (host := "") (Or.inl (hw _ (List.mem_of_getElem? (i := 116) rfl))) Via.refl rfl f394 f393 (Or.inr ⟨(hw _ (List.mem_of_getElem? (i := 117) rfl)), rfl, hnm⟩) (hw _ (List.mem_of_getElem? (i := 17) rfl)) (ty := (.array .int)) (by decide) rfl rfl (g := (mkF m 33 #[.val (.ref a1), .val (.ref a2)] [(.ref sn_386), (.ref a1)])) rfl rfl (hb hby d10_33)
 refine own_go st392 ?_
 have F392 : Fld Z h392 a1 "com/example/restate/restate/Words" "starts" "[I" (.ref sn_386) := f394.same W392
 have K392 : Keep h0 h392 [a1] := Keep.wr K386 W392 (Or.inl (List.mem_of_getElem? (i := 0) rfl))
 have N392 := Fr.snoc X392 N386 g_a1
 obtain ⟨fs, hr, hrun, hended, hW, hsame⟩ := X392.leave (v := none) (fun _ => rfl)
 refine ⟨_, _, ?_, hrun, hended, _, _, rfl, ?_, ⟨_, rfl⟩, hW, hsame.mono (by decide) (by decide)⟩
 ·exact X392.returnOut hx Bd.returns (hb hby d10_36) hr
 ·show Q10_2 Z a1 a2 w_COMPACT_STRINGS w_SIOOBE_FORMATTER bn kn kd nb vb cs pp qq h0 n0 _ T392.heap _
  rw [e392]
  have f396 : Exa Z h392 a1 "com/example/restate/restate/Words" := (f393.wr W392)
  have f397 : Fld Z h392 a1 "com/example/restate/restate/Words" "line" "Ljava/lang/String;" (.ref a2) := ((F380.keep q386_0 nin0).other W392 (Or.inr (slot_ne (Or.inr (hw _ (List.mem_of_getElem? (i := 53) rfl))) (Or.inr (hw _ (List.mem_of_getElem? (i := 117) rfl))) (by decide) (t := (.object "java/lang/String")) (t' := (.array .int)) (by decide) (by decide))))
  have ne398 : a1 ≠ sn_386 := (Nat.ne_of_lt (Nat.lt_of_lt_of_le (Nat.lt_of_lt_of_le E_a1.lt (Nat.le_of_eq (Wr.size W380).symm)) q386_1))
  have f399 : Arv Z h392 sn_386 ks_386 .int (4 : Int32) [(.int 0), (.int (Int32.ofNat (pp + 1))), (.int (Int32.ofNat (qq + 1))), (.int 8)] (.int 0) := (q386_2.other W392 (Ne.symm ne398))
  exact ⟨sn_386, ks_386, rfl, N392, K392, (Nat.le_trans (Nat.le_of_eq (Wr.size W380).symm) q386_1), f396, f397, F392, f399⟩
theorem ef_24_2 (m : MethodId) (a1 : Addr) : entryFrame m #[(.ref a1)] 1 = mkF m 0 #[.val (.ref a1)] [] := by first | (simp [entryFrame, mkF, argsToLocals, Value.category]; done) | rfl
def Q24_2 (Z : State) (a1 : Addr) (sn : Addr) (ks : ClassId) (vst : List Value) (h0 : Heap) (n0 : Nat) (v : Option Value) (h : Heap) (L : List Loc) : Prop := v = some (.int 3) ∧ Fr n0 L ∧ h = h0
set_option maxRecDepth 65536 in
set_option maxHeartbeats 40000000 in
theorem rm24_2 (l : Launch) (Z : State) (a0 : Array Value) (hw : ∀ d ∈ tables_1, d.before a0 Z = true) (ws : List Jvm.Cond) (a1 : Addr) (sn : Addr) (ks : ClassId) (vst : List Value) (h0 : Heap) (n0 : Nat) (Z0 : n0 ≤ h0.size) (E_a1 : Exa Z h0 a1 "com/example/restate/restate/Words") (Fs_a1 : Fld Z h0 a1 "com/example/restate/restate/Words" "starts" "[I" (.ref sn)) (V_sn : Arv Z h0 sn ks .int (4 : Int32) vst (.int 0)) :
  MetFree l (⟨"com/example/restate/restate/Words", "size", "()I"⟩ : MethodName) (head1 (Jvm.Cond.code (⟨"com/example/restate/restate/Words", "size", "()I"⟩ : MethodName) prog_113_method_2_code 1 (some .int) :: ws) ({ frames := 0, cells := 0, slots := 0, locals := 0 } : Room)) (fun a U => a = #[(.ref a1)] ∧ Z.Warmed39 U.vm ∧ U.heap = h0) (fun _ _ _ _ _ => True) (fun _ U o U' => ∃ v L, o = .returned v ∧ Q24_2 Z a1 sn ks vst h0 n0 v U'.heap L ∧ FrameEnd U o U' L ({ frames := 0, cells := 0, slots := 0, locals := 0 } : Room).cells ({ frames := 0, cells := 0, slots := 0, locals := 0 } : Room).slots) := by
 refine MetFree.of_bodySF (plainFor_of_name pn_560) hisR ?_
 intro p e s m args below meth c s₁ Bd hml0 hP hK
 obtain ⟨rfl, hZ, hh⟩ := hP
 have hx := Bd.exec
 have hby := Bd.bytes
 have hml : c.maxLocals = 1 := hml0
 have hown : s.vm.findClass "com/example/restate/restate/Words" = some m.cls := findClass_of_methodNamed Bd.named
 have hnm := (name_of_methodNamed Bd.named Bd.method).1
 have X0 : Stand p l e ({ frames := 0, cells := 0, slots := 0, locals := 0 } : Room) s m #[(.ref a1)] below meth c s₁ [] 0 0 := Stand.of_body Bd
 have e0 : s₁.heap = h0 := by rw [← hh, Bd.state]; rfl
 have N0 := Fr.nil n0
 refine own_go (B := s₁.setTop (mkF m 0 #[.val (.ref a1)] [])) (fun t k => castTop (ef_24_2 m a1) k) ?_
 refine own_go (B := s₁.setTop (mkF m 1 #[.val (.ref a1)] [(.ref a1)])) (fun tg kt => ?_) ?_
 ·refine XS.aloadN X0.here hx rfl (hb hby d24_0) rfl rfl ?_
  exact kt
 obtain ⟨T400, X400, e400, st400⟩ := getF X0 hx hZ hown (host := "") (Or.inl (hw _ (List.mem_of_getElem? (i := 116) rfl))) Via.refl e0 Fs_a1 (g := (mkF m 1 #[.val (.ref a1)] [(.ref a1)])) rfl rfl (hb hby d24_1)
 refine own_go st400 ?_
 obtain ⟨cl401, Ar401, cq401, cS401, cN401, cH401, cG401⟩ := id V_sn
 refine own_go (B := T400.setTop (mkF m 7 #[.val (.ref a1)] [(.int 3)])) (fun tg kt => ?_) ?_
 ·refine X400.arraylength hx (by rw [e400]; exact Ar401.1) (State.isArrayOf_alike hZ.alike Ar401.2.1) (g := (mkF m 4 #[.val (.ref a1)] [(.ref sn)])) rfl rfl (hb hby d24_4) _ ?_
  rw [len_of cS401 cN401]
  refine XS.iconst X400.here hx rfl (hb hby d24_5) ?_
  refine XS.isub X400.here hx rfl (hb hby d24_6) rfl ?_
  exact kt
 obtain ⟨fs, hr, hrun, hended, hW, hsame⟩ := X400.leave (v := some (.int 3)) (fun h => by rw [Bd.returns] at h; cases h)
 refine ⟨_, _, ?_, hrun, hended, _, _, rfl, ?_, ⟨_, rfl⟩, hW, hsame.mono (by decide) (by decide)⟩
 ·exact retI X400 hx Bd.returns (hb hby d24_7) hr
 ·show Q24_2 Z a1 sn ks vst h0 n0 _ T400.heap _
  rw [e400]
  exact ⟨rfl, N0, rfl⟩
theorem pd_23 : parseMethodDescriptor "(I)C" = some ⟨[.int], some .char⟩ := by decide +kernel
theorem d25_0 : decode prog_113_method_3_code 0 = .ok (.iconst 0, 1) := by decide +kernel
theorem d25_1 : decode prog_113_method_3_code 1 = .ok (.istore_n 2, 1) := by decide +kernel
theorem d25_2 : decode prog_113_method_3_code 2 = .ok (.aload_n 0, 1) := by decide +kernel
theorem d25_3 : decode prog_113_method_3_code 3 = .ok (.getfield 25, 3) := by decide +kernel
theorem d25_6 : decode prog_113_method_3_code 6 = .ok (.iload_n 1, 1) := by decide +kernel
theorem d25_7 : decode prog_113_method_3_code 7 = .ok (.iaload, 1) := by decide +kernel
theorem d25_8 : decode prog_113_method_3_code 8 = .ok (.istore_n 3, 1) := by decide +kernel
theorem d25_9 : decode prog_113_method_3_code 9 = .ok (.iload_n 3, 1) := by decide +kernel
theorem d25_10 : decode prog_113_method_3_code 10 = .ok (.aload_n 0, 1) := by decide +kernel
theorem d25_11 : decode prog_113_method_3_code 11 = .ok (.getfield 25, 3) := by decide +kernel
theorem d25_14 : decode prog_113_method_3_code 14 = .ok (.iload_n 1, 1) := by decide +kernel
theorem d25_15 : decode prog_113_method_3_code 15 = .ok (.iconst 1, 1) := by decide +kernel
theorem d25_16 : decode prog_113_method_3_code 16 = .ok (.iadd, 1) := by decide +kernel
theorem d25_17 : decode prog_113_method_3_code 17 = .ok (.iaload, 1) := by decide +kernel
theorem d25_18 : decode prog_113_method_3_code 18 = .ok (.iconst 1, 1) := by decide +kernel
theorem d25_19 : decode prog_113_method_3_code 19 = .ok (.isub, 1) := by decide +kernel
theorem d25_20 : decode prog_113_method_3_code 20 = .ok (.if_icmp .ge 23, 3) := by decide +kernel
theorem d25_23 : decode prog_113_method_3_code 23 = .ok (.bipush 31, 2) := by decide +kernel
theorem d25_25 : decode prog_113_method_3_code 25 = .ok (.iload_n 2, 1) := by decide +kernel
theorem d25_26 : decode prog_113_method_3_code 26 = .ok (.imul, 1) := by decide +kernel
theorem d25_27 : decode prog_113_method_3_code 27 = .ok (.aload_n 0, 1) := by decide +kernel
theorem d25_28 : decode prog_113_method_3_code 28 = .ok (.getfield 7, 3) := by decide +kernel
theorem d25_31 : decode prog_113_method_3_code 31 = .ok (.iload_n 3, 1) := by decide +kernel
theorem d25_32 : decode prog_113_method_3_code 32 = .ok (.invokevirtual 28, 3) := by decide +kernel
theorem d25_35 : decode prog_113_method_3_code 35 = .ok (.iadd, 1) := by decide +kernel
theorem d25_36 : decode prog_113_method_3_code 36 = .ok (.istore_n 2, 1) := by decide +kernel
theorem d25_37 : decode prog_113_method_3_code 37 = .ok (.iinc 3 1, 3) := by decide +kernel
theorem d25_40 : decode prog_113_method_3_code 40 = .ok (.goto (-31), 3) := by decide +kernel
theorem d25_43 : decode prog_113_method_3_code 43 = .ok (.iload_n 2, 1) := by decide +kernel
theorem d25_44 : decode prog_113_method_3_code 44 = .ok (.ireturn, 1) := by decide +kernel
theorem ef_25 (m : MethodId) (a1 : Addr) (p1 : Int32) : entryFrame m #[(.ref a1), (.int p1)] 4 = mkF m 0 #[.val (.ref a1), .val (.int p1), .unset, .unset] [] := by first | (simp [entryFrame, mkF, argsToLocals, Value.category]; done) | rfl
def Q25 (Z : State) (a1 : Addr) (p1 : Int32) (a2 : Addr) (w_COMPACT_STRINGS : Int32) (w_SIOOBE_FORMATTER : Option Addr) (bn : Addr) (kn : ClassId) (kd : Int32) (nb : Int32) (vb : List Value) (cs : Nat → Int32) (sn : Addr) (ks : ClassId) (ns : Int32) (vst : List Value) (wa : Nat) (wb : Nat) (h0 : Heap) (n0 : Nat) (v : Option Value) (h : Heap) (L : List Loc) : Prop := v = some (.int (own_h cs wa wb)) ∧ Fr n0 L ∧ h = h0
set_option maxRecDepth 65536 in
set_option maxHeartbeats 40000000 in
theorem rm25 (l : Launch) (Z : State) (a0 : Array Value) (hw : ∀ d ∈ tables_1, d.before a0 Z = true) (ws : List Jvm.Cond) (a1 : Addr) (p1 : Int32) (a2 : Addr) (w_COMPACT_STRINGS : Int32) (w_SIOOBE_FORMATTER : Option Addr) (bn : Addr) (kn : ClassId) (kd : Int32) (nb : Int32) (vb : List Value) (cs : Nat → Int32) (sn : Addr) (ks : ClassId) (ns : Int32) (vst : List Value) (wa : Nat) (wb : Nat) (h0 : Heap) (n0 : Nat) (Z0 : n0 ≤ h0.size) (S_COMPACT_STRINGS : Sta Z h0 "java/lang/String" "COMPACT_STRINGS" "Z" (.int w_COMPACT_STRINGS)) (N_COMPACT_STRINGS : ¬ w_COMPACT_STRINGS = (0 : Int32)) (S__assertionsDisabled : Sta Z h0 "java/lang/StringUTF16" "$assertionsDisabled" "Z" (.int 1)) (S_HI_BYTE_SHIFT : Sta Z h0 "java/lang/StringUTF16" "HI_BYTE_SHIFT" "I" (.int 0)) (S_LO_BYTE_SHIFT : Sta Z h0 "java/lang/StringUTF16" "LO_BYTE_SHIFT" "I" (.int 8)) (S_SIOOBE_FORMATTER : Sta Z h0 "jdk/internal/util/Preconditions" "SIOOBE_FORMATTER" "Ljava/util/function/BiFunction;" (own_rv w_SIOOBE_FORMATTER)) (E_a2 : Exa Z h0 a2 "java/lang/String") (Fv_a2 : Fld Z h0 a2 "java/lang/String" "value" "[B" (.ref bn)) (Fc_a2 : Fld Z h0 a2 "java/lang/String" "coder" "B" (.int kd)) (V_bn : Arv Z h0 bn kn .byte nb vb (.int 0)) (hsp : own_sp cs kd nb vb) (hC : ∀ i, i < 7 → 0 ≤ (cs i).toInt ∧ (cs i).toInt ≤ 65535) (Fl_a1 : Fld Z h0 a1 "com/example/restate/restate/Words" "line" "Ljava/lang/String;" (.ref a2)) (Fs_a1 : Fld Z h0 a1 "com/example/restate/restate/Words" "starts" "[I" (.ref sn)) (E_a1 : Exa Z h0 a1 "com/example/restate/restate/Words") (V_sn : Arv Z h0 sn ks .int ns vst (.int 0)) (hin1 : ¬ p1 < 0 ∧ p1 < ns) (hin2 : ¬ (p1 + (1 : Int32)) < 0 ∧ (p1 + (1 : Int32)) < ns) (hat1 : vst.getD p1.toNatClampNeg (.int 0) = .int (Int32.ofNat wa)) (hat2 : vst.getD (p1 + (1 : Int32)).toNatClampNeg (.int 0) = .int (Int32.ofNat (wb + 1))) (hab : wa ≤ wb ∧ wb ≤ 7) :
  MetFree l (⟨"com/example/restate/restate/Words", "hash", "(I)I"⟩ : MethodName) (head1 (Jvm.Cond.code (⟨"com/example/restate/restate/Words", "hash", "(I)I"⟩ : MethodName) prog_113_method_3_code 4 (some .int) :: ws) ({ frames := 5, cells := 0, slots := 0, locals := 67 } : Room)) (fun a U => a = #[(.ref a1), (.int p1)] ∧ Z.Warmed39 U.vm ∧ U.heap = h0) (fun _ _ _ _ _ => True) (fun _ U o U' => ∃ v L, o = .returned v ∧ Q25 Z a1 p1 a2 w_COMPACT_STRINGS w_SIOOBE_FORMATTER bn kn kd nb vb cs sn ks ns vst wa wb h0 n0 v U'.heap L ∧ FrameEnd U o U' L ({ frames := 5, cells := 0, slots := 0, locals := 67 } : Room).cells ({ frames := 5, cells := 0, slots := 0, locals := 67 } : Room).slots) := by
 refine MetFree.of_bodySF (plainFor_of_name pn_560) hisR ?_
 intro p e s m args below meth c s₁ Bd hml0 hP hK
 obtain ⟨rfl, hZ, hh⟩ := hP
 have hx := Bd.exec
 have hby := Bd.bytes
 have hml : c.maxLocals = 4 := hml0
 have hown : s.vm.findClass "com/example/restate/restate/Words" = some m.cls := findClass_of_methodNamed Bd.named
 have hnm := (name_of_methodNamed Bd.named Bd.method).1
 have X0 : Stand p l e ({ frames := 5, cells := 0, slots := 0, locals := 67 } : Room) s m #[(.ref a1), (.int p1)] below meth c s₁ [] 0 0 := Stand.of_body Bd
 have e0 : s₁.heap = h0 := by rw [← hh, Bd.state]; rfl
 have N0 := Fr.nil n0
 refine own_go (B := s₁.setTop (mkF m 0 #[.val (.ref a1), .val (.int p1), .unset, .unset] [])) (fun t k => castTop (ef_25 m a1 p1) k) ?_
 refine own_go (B := s₁.setTop (mkF m 3 #[.val (.ref a1), .val (.int p1), .val (.int 0), .unset] [(.ref a1)])) (fun tg kt => ?_) ?_
 ·refine XS.iconst X0.here hx rfl (hb hby d25_0) ?_
  refine XS.istoreN X0.here hx rfl (hb hby d25_1) rfl (l' := #[.val (.ref a1), .val (.int p1), .val (.int 0), .unset]) rfl ?_
  refine XS.aloadN X0.here hx rfl (hb hby d25_2) rfl rfl ?_
  exact kt
 obtain ⟨T403, X403, e403, st403⟩ := getF X0 hx hZ hown (host := "") (Or.inl (hw _ (List.mem_of_getElem? (i := 116) rfl))) Via.refl e0 Fs_a1 (g := (mkF m 3 #[.val (.ref a1), .val (.int p1), .val (.int 0), .unset] [(.ref a1)])) rfl rfl (hb hby d25_3)
 refine own_go st403 ?_
 refine own_go (B := T403.setTop (mkF m 7 #[.val (.ref a1), .val (.int p1), .val (.int 0), .unset] [(.int p1), (.ref sn)])) (fun tg kt => ?_) ?_
 ·refine XS.iloadN X403.here hx rfl (hb hby d25_6) rfl ?_
  exact kt
 obtain ⟨cl404, Ar404, cq404, cS404, cN404, cH404, cG404⟩ := id V_sn
 have hin404 := inb_of (j := p1) cS404 hin1
 have hat404 : cl404.slots[(p1).toNatClampNeg]? = some (.int (Int32.ofNat wa)) := Has.at cH404 hin404 hat1
 refine own_go (B := T403.setTop (mkF m 9 #[.val (.ref a1), .val (.int p1), .val (.int 0), .val (.int (Int32.ofNat wa))] [])) (fun tg kt => ?_) ?_
 ·refine X403.iaload hx (j := p1) (v := (.int (Int32.ofNat wa))) (by rw [e403]; exact Ar404.1) (State.isArrayOf_alike hZ.alike Ar404.2.1) Ar404.2.2 hin404 hat404 (g := (mkF m 7 #[.val (.ref a1), .val (.int p1), .val (.int 0), .unset] [(.int p1), (.ref sn)])) rfl rfl (hb hby d25_7) _ ?_
  refine XS.istoreN X403.here hx rfl (hb hby d25_8) rfl (l' := #[.val (.ref a1), .val (.int p1), .val (.int 0), .val (.int (Int32.ofNat wa))]) rfl ?_
  exact kt
 have loop405 : ∀ (k t : Nat) (T_405 : State) (lo_405 : List Loc), k + t = wb → Stand p l e ({ frames := 5, cells := 0, slots := 0, locals := 67 } : Room) s m #[(.ref a1), (.int p1)] below meth c T_405 lo_405 0 0 → T_405.heap = h0 → Fr n0 lo_405 → (wa ≤ t) → ∃ s₂ o, Steps p.tables e below (T_405.setTop (mkF m 9 #[.val (.ref a1), .val (.int p1), .val (.int (own_h cs wa t)), .val (.int (Int32.ofNat t))] [])) s₂ ∧ s₂.status = .running ∧ Ended s₂ below o ∧ ∃ v L, o = .returned v ∧ Q25 Z a1 p1 a2 w_COMPACT_STRINGS w_SIOOBE_FORMATTER bn kn kd nb vb cs sn ks ns vst wa wb h0 n0 v s₂.heap L ∧ FrameEnd s o s₂ L ({ frames := 5, cells := 0, slots := 0, locals := 67 } : Room).cells ({ frames := 5, cells := 0, slots := 0, locals := 67 } : Room).slots := by
  intro k
  induction k with
  | zero =>
   intro t T_405 lo_405 hkt405 X_405 e_405 N_405 hge_405
   obtain rfl : wb = t := by omega
   refine own_go (B := T_405.setTop (mkF m 11 #[.val (.ref a1), .val (.int p1), .val (.int (own_h cs wa wb)), .val (.int (Int32.ofNat wb))] [(.ref a1), (.int (Int32.ofNat wb))])) (fun tg kt => ?_) ?_
   ·refine XS.iloadN X_405.here hx rfl (hb hby d25_9) rfl ?_
    refine XS.aloadN X_405.here hx rfl (hb hby d25_10) rfl rfl ?_
    exact kt
   obtain ⟨T406, X406, e406, st406⟩ := getF X_405 hx hZ hown (host := "") (Or.inl (hw _ (List.mem_of_getElem? (i := 116) rfl))) Via.refl e_405 Fs_a1 (g := (mkF m 11 #[.val (.ref a1), .val (.int p1), .val (.int (own_h cs wa wb)), .val (.int (Int32.ofNat wb))] [(.ref a1), (.int (Int32.ofNat wb))])) rfl rfl (hb hby d25_11)
   refine own_go st406 ?_
   refine own_go (B := T406.setTop (mkF m 17 #[.val (.ref a1), .val (.int p1), .val (.int (own_h cs wa wb)), .val (.int (Int32.ofNat wb))] [(.int (p1 + (1 : Int32))), (.ref sn), (.int (Int32.ofNat wb))])) (fun tg kt => ?_) ?_
   ·refine XS.iloadN X406.here hx rfl (hb hby d25_14) rfl ?_
    refine XS.iconst X406.here hx rfl (hb hby d25_15) ?_
    refine XS.iadd X406.here hx rfl (hb hby d25_16) rfl ?_
    exact kt
   obtain ⟨cl407, Ar407, cq407, cS407, cN407, cH407, cG407⟩ := id V_sn
   have hin407 := inb_of (j := (p1 + (1 : Int32))) cS407 hin2
   have hat407 : cl407.slots[((p1 + (1 : Int32))).toNatClampNeg]? = some (.int (Int32.ofNat (wb + 1))) := Has.at cH407 hin407 hat2
   refine own_go (B := T406.setTop (mkF m 20 #[.val (.ref a1), .val (.int p1), .val (.int (own_h cs wa wb)), .val (.int (Int32.ofNat wb))] [(.int ((Int32.ofNat (wb + 1)) - (1 : Int32))), (.int (Int32.ofNat wb))])) (fun tg kt => ?_) ?_
   ·refine X406.iaload hx (j := (p1 + (1 : Int32))) (v := (.int (Int32.ofNat (wb + 1)))) (by rw [e406]; exact Ar407.1) (State.isArrayOf_alike hZ.alike Ar407.2.1) Ar407.2.2 hin407 hat407 (g := (mkF m 17 #[.val (.ref a1), .val (.int p1), .val (.int (own_h cs wa wb)), .val (.int (Int32.ofNat wb))] [(.int (p1 + (1 : Int32))), (.ref sn), (.int (Int32.ofNat wb))])) rfl rfl (hb hby d25_17) _ ?_
    refine XS.iconst X406.here hx rfl (hb hby d25_18) ?_
    refine XS.isub X406.here hx rfl (hb hby d25_19) rfl ?_
    exact kt
   rw [show ((Int32.ofNat (wb + 1)) - (1 : Int32)) = (Int32.ofNat wb) from own_ipred _]
   refine own_go (B := T406.setTop (mkF m 44 #[.val (.ref a1), .val (.int p1), .val (.int (own_h cs wa wb)), .val (.int (Int32.ofNat wb))] [(.int (own_h cs wa wb))])) (fun tg kt => ?_) ?_
   ·refine XS.icmpYes X406.here hx rfl (pc0 := 20) (pc' := 43) rfl (hb hby d25_20) rfl (flt (show ¬ ((Int32.ofNat wb) < (Int32.ofNat wb)) from Int32.lt_irrefl)).2.1 (by decide) (by decide) ?_
    refine XS.iloadN X406.here hx rfl (hb hby d25_43) rfl ?_
    exact kt
   obtain ⟨fs, hr, hrun, hended, hW, hsame⟩ := X406.leave (v := some (.int (own_h cs wa wb))) (fun h => by rw [Bd.returns] at h; cases h)
   refine ⟨_, _, ?_, hrun, hended, _, _, rfl, ?_, ⟨_, rfl⟩, hW, hsame.mono (by decide) (by decide)⟩
   ·exact retI X406 hx Bd.returns (hb hby d25_44) hr
   ·show Q25 Z a1 p1 a2 w_COMPACT_STRINGS w_SIOOBE_FORMATTER bn kn kd nb vb cs sn ks ns vst wa wb h0 n0 _ T406.heap _
    rw [e406]
    exact ⟨rfl, N_405, rfl⟩
  | succ k ih405 =>
   intro t T_405 lo_405 hkt405 X_405 e_405 N_405 hge_405
   have ht405 : t < wb := by omega
   refine own_go (B := T_405.setTop (mkF m 11 #[.val (.ref a1), .val (.int p1), .val (.int (own_h cs wa t)), .val (.int (Int32.ofNat t))] [(.ref a1), (.int (Int32.ofNat t))])) (fun tg kt => ?_) ?_
   ·refine XS.iloadN X_405.here hx rfl (hb hby d25_9) rfl ?_
    refine XS.aloadN X_405.here hx rfl (hb hby d25_10) rfl rfl ?_
    exact kt
   obtain ⟨T409, X409, e409, st409⟩ := getF X_405 hx hZ hown (host := "") (Or.inl (hw _ (List.mem_of_getElem? (i := 116) rfl))) Via.refl e_405 Fs_a1 (g := (mkF m 11 #[.val (.ref a1), .val (.int p1), .val (.int (own_h cs wa t)), .val (.int (Int32.ofNat t))] [(.ref a1), (.int (Int32.ofNat t))])) rfl rfl (hb hby d25_11)
   refine own_go st409 ?_
   refine own_go (B := T409.setTop (mkF m 17 #[.val (.ref a1), .val (.int p1), .val (.int (own_h cs wa t)), .val (.int (Int32.ofNat t))] [(.int (p1 + (1 : Int32))), (.ref sn), (.int (Int32.ofNat t))])) (fun tg kt => ?_) ?_
   ·refine XS.iloadN X409.here hx rfl (hb hby d25_14) rfl ?_
    refine XS.iconst X409.here hx rfl (hb hby d25_15) ?_
    refine XS.iadd X409.here hx rfl (hb hby d25_16) rfl ?_
    exact kt
   obtain ⟨cl410, Ar410, cq410, cS410, cN410, cH410, cG410⟩ := id V_sn
   have hin410 := inb_of (j := (p1 + (1 : Int32))) cS410 hin2
   have hat410 : cl410.slots[((p1 + (1 : Int32))).toNatClampNeg]? = some (.int (Int32.ofNat (wb + 1))) := Has.at cH410 hin410 hat2
   refine own_go (B := T409.setTop (mkF m 20 #[.val (.ref a1), .val (.int p1), .val (.int (own_h cs wa t)), .val (.int (Int32.ofNat t))] [(.int ((Int32.ofNat (wb + 1)) - (1 : Int32))), (.int (Int32.ofNat t))])) (fun tg kt => ?_) ?_
   ·refine X409.iaload hx (j := (p1 + (1 : Int32))) (v := (.int (Int32.ofNat (wb + 1)))) (by rw [e409]; exact Ar410.1) (State.isArrayOf_alike hZ.alike Ar410.2.1) Ar410.2.2 hin410 hat410 (g := (mkF m 17 #[.val (.ref a1), .val (.int p1), .val (.int (own_h cs wa t)), .val (.int (Int32.ofNat t))] [(.int (p1 + (1 : Int32))), (.ref sn), (.int (Int32.ofNat t))])) rfl rfl (hb hby d25_17) _ ?_
    refine XS.iconst X409.here hx rfl (hb hby d25_18) ?_
    refine XS.isub X409.here hx rfl (hb hby d25_19) rfl ?_
    exact kt
   rw [show ((Int32.ofNat (wb + 1)) - (1 : Int32)) = (Int32.ofNat wb) from own_ipred _]
   refine own_go (B := T409.setTop (mkF m 28 #[.val (.ref a1), .val (.int p1), .val (.int (own_h cs wa t)), .val (.int (Int32.ofNat t))] [(.ref a1), (.int ((31 : Int32) * (own_h cs wa t)))])) (fun tg kt => ?_) ?_
   ·refine XS.icmpNo X409.here hx rfl (hb hby d25_20) rfl (tlt (show (Int32.ofNat t) < (Int32.ofNat wb) from (own_ltn ht405 hab.2))).2.1 ?_
    refine XS.bipush X409.here hx rfl (hb hby d25_23) ?_
    refine XS.iloadN X409.here hx rfl (hb hby d25_25) rfl ?_
    refine XS.imul X409.here hx rfl (hb hby d25_26) rfl ?_
    refine XS.aloadN X409.here hx rfl (hb hby d25_27) rfl rfl ?_
    exact kt
   obtain ⟨T411, X411, e411, st411⟩ := getF X409 hx hZ hown (host := "") (Or.inl (hw _ (List.mem_of_getElem? (i := 52) rfl))) Via.refl e409 Fl_a1 (g := (mkF m 28 #[.val (.ref a1), .val (.int p1), .val (.int (own_h cs wa t)), .val (.int (Int32.ofNat t))] [(.ref a1), (.int ((31 : Int32) * (own_h cs wa t)))])) rfl rfl (hb hby d25_28)
   refine own_go st411 ?_
   refine own_go (B := T411.setTop (mkF m 32 #[.val (.ref a1), .val (.int p1), .val (.int (own_h cs wa t)), .val (.int (Int32.ofNat t))] [(.int (Int32.ofNat t)), (.ref a2), (.int ((31 : Int32) * (own_h cs wa t)))])) (fun tg kt => ?_) ?_
   ·refine XS.iloadN X411.here hx rfl (hb hby d25_31) rfl ?_
    exact kt
   obtain ⟨cq412, kq412, q412a, q412b, q412c⟩ := isOf hZ e411 E_a2
   obtain ⟨_, _, ⟨T412, L412, k412, n412⟩, -, X412, ⟨Lc412, hQ412, l412, y412, z412⟩, st412⟩ := X411.virtualBack hx (y := (⟨"java/lang/String", "charAt", "(I)C"⟩ : MethodName)) (z := (⟨"java/lang/String", "charAt", "(I)C"⟩ : MethodName)) hown (mvT hZ (hw _ (List.mem_of_getElem? (i := 128) rfl))) (mvT hZ (hw _ (List.mem_of_getElem? (i := 129) rfl))) (notFace_of_selects (args := #[]) (mvT hZ (hw _ (List.mem_of_getElem? (i := 131) rfl)))) (mvT hZ (hw _ (List.mem_of_getElem? (i := 131) rfl))) (mvT hZ (hw _ (List.mem_of_getElem? (i := 130) rfl))) (by decide) (backOf (W := 1) (rm26 l Z a0 hw [] a2 w_COMPACT_STRINGS w_SIOOBE_FORMATTER bn kn kd nb vb cs t h0 n0 Z0 S_COMPACT_STRINGS (by first | assumption | decide) S__assertionsDisabled S_HI_BYTE_SHIFT S_LO_BYTE_SHIFT S_SIOOBE_FORMATTER E_a2 Fv_a2 Fc_a2 V_bn (by first | assumption | decide) ((by omega)) (hC)) hZ (hw _ (List.mem_of_getElem? (i := 132) rfl)) (hw _ (List.mem_of_getElem? (i := 21) rfl)) (by decide) (by decide)) q412a q412c (g := (mkF m 32 #[.val (.ref a1), .val (.int p1), .val (.int (own_h cs wa t)), .val (.int (Int32.ofNat t))] [(.int (Int32.ofNat t)), (.ref a2), (.int ((31 : Int32) * (own_h cs wa t)))])) rfl (by rw [hml]; rfl) (Steps.refl _) (argsL := [(.int (Int32.ofNat t))]) (rest := [(.int ((31 : Int32) * (own_h cs wa t)))]) (lenOf pd_23 rfl) rfl (by show 2 * 0 + _ ≤ _; exact Nat.le_of_eq rfl) (hb hby d25_32) (fun _ _ => ⟨rfl, e411, (by decide : 0 + 0 ≤ _), (by decide : 0 + 0 ≤ _)⟩)
   dsimp only [Pt.U, Pt.locs, Pt.cells, Pt.slots] at X412 l412 y412 z412 st412 hQ412
   rw [l412, y412, z412] at X412
   obtain ⟨rfl, M412, q412_0⟩ := hQ412
   have N412 := Fr.app N_405 M412
   refine own_go (fun t k => st412.trans k) ?_
   refine own_go (B := T412.setTop (mkF m 9 #[.val (.ref a1), .val (.int p1), .val (.int (((31 : Int32) * (own_h cs wa t)) + (cs t))), .val (.int ((Int32.ofNat t) + (1 : Int32)))] [])) (fun tg kt => ?_) ?_
   ·refine XS.iadd X412.here hx rfl (hb hby d25_35) rfl ?_
    refine XS.istoreN X412.here hx rfl (hb hby d25_36) rfl (l' := #[.val (.ref a1), .val (.int p1), .val (.int (((31 : Int32) * (own_h cs wa t)) + (cs t))), .val (.int (Int32.ofNat t))]) rfl ?_
    refine XS.iinc X412.here hx rfl (hb hby d25_37) rfl (l' := #[.val (.ref a1), .val (.int p1), .val (.int (((31 : Int32) * (own_h cs wa t)) + (cs t))), .val (.int ((Int32.ofNat t) + (1 : Int32)))]) rfl ?_
    refine XS.goto X412.here hx rfl (pc0 := 40) (pc' := 9) rfl (hb hby d25_40) (by decide) (by decide) ?_
    exact kt
   rw [show (((31 : Int32) * (own_h cs wa t)) + (cs t)) = (own_h cs wa (t + 1)) from own_hS hge_405]
   rw [show ((Int32.ofNat t) + (1 : Int32)) = (Int32.ofNat (t + 1)) from own_isucc _]
   exact ih405 (t + 1) T412 _ (by omega) X412 q412_0 N412 (Nat.le_succ_of_le hge_405)
 have lk405 := loop405 (wb - wa) wa T403 _ (by omega) X403 e403 N0 (Nat.le_refl _)
 rw [own_h0] at lk405
 exact lk405
theorem pd_24 : parseMethodDescriptor "([CIII)I" = some ⟨[(.array .char), .int, .int, .int], some .int⟩ := by decide +kernel
theorem pd_25 : parseMethodDescriptor "([C)V" = some ⟨[(.array .char)], none⟩ := by decide +kernel
theorem pd_26 : parseMethodDescriptor "(Ljava/lang/String;)V" = some ⟨[(.object "java/lang/String")], none⟩ := by decide +kernel
theorem ef_0 (m : MethodId) (p1 : Int32) (p2 : Int32) (p3 : Int32) (p4 : Int32) (p5 : Int32) (p6 : Int32) : entryFrame m #[(.int p1), (.int p2), (.int p3), (.int p4), (.int p5), (.int p6)] maxLocals = mkF m 0 #[.val (.int p1), .val (.int p2), .val (.int p3), .val (.int p4), .val (.int p5), .val (.int p6), .unset, .unset, .unset, .unset, .unset, .unset, .unset, .unset, .unset, .unset, .unset, .unset] [] := by first | (simp [entryFrame, mkF, argsToLocals, Value.category, maxLocals]; done) | rfl
def Q0 (Z : State) (p1 : Int32) (p2 : Int32) (p3 : Int32) (p4 : Int32) (p5 : Int32) (p6 : Int32) (w_COMPACT_STRINGS : Int32) (w_SIOOBE_FORMATTER : Option Addr) (h0 : Heap) (n0 : Nat) (v : Option Value) (h : Heap) (L : List Loc) : Prop := v = some (.int 1) ∧ Fr n0 L
set_option maxRecDepth 65536 in
set_option maxHeartbeats 40000000 in
theorem rm0 (l : Launch) (Z : State) (a0 : Array Value) (hw : ∀ d ∈ tables_1, d.before a0 Z = true) (ws : List Jvm.Cond) (p1 : Int32) (p2 : Int32) (p3 : Int32) (p4 : Int32) (p5 : Int32) (p6 : Int32) (w_COMPACT_STRINGS : Int32) (w_SIOOBE_FORMATTER : Option Addr) (h0 : Heap) (n0 : Nat) (Z0 : n0 ≤ h0.size) (S_COMPACT_STRINGS : Sta Z h0 "java/lang/String" "COMPACT_STRINGS" "Z" (.int w_COMPACT_STRINGS)) (S_SIOOBE_FORMATTER : Sta Z h0 "jdk/internal/util/Preconditions" "SIOOBE_FORMATTER" "Ljava/util/function/BiFunction;" (own_rv w_SIOOBE_FORMATTER)) (S__assertionsDisabled : Sta Z h0 "java/lang/StringUTF16" "$assertionsDisabled" "Z" (.int 1)) (S_HI_BYTE_SHIFT : Sta Z h0 "java/lang/StringUTF16" "HI_BYTE_SHIFT" "I" (.int 0)) (S_LO_BYTE_SHIFT : Sta Z h0 "java/lang/StringUTF16" "LO_BYTE_SHIFT" "I" (.int 8)) (N_COMPACT_STRINGS : ¬ w_COMPACT_STRINGS = (0 : Int32)) :
  MetFree l x (head1 (Jvm.Cond.code x code maxLocals ret :: ws) room_1) (fun a U => a = #[(.int p1), (.int p2), (.int p3), (.int p4), (.int p5), (.int p6)] ∧ Z.Warmed39 U.vm ∧ U.heap = h0) (fun _ _ _ _ _ => True) (fun _ U o U' => ∃ v L, o = .returned v ∧ Q0 Z p1 p2 p3 p4 p5 p6 w_COMPACT_STRINGS w_SIOOBE_FORMATTER h0 n0 v U'.heap L ∧ FrameEnd U o U' L room_1.cells room_1.slots) := by
 refine MetFree.of_bodySF (plainFor_of_name pn_12) hisR ?_
 intro p e s m args below meth c s₁ Bd hml0 hP hK
 obtain ⟨rfl, hZ, hh⟩ := hP
 have hx := Bd.exec
 have hby := Bd.bytes
 have hml : c.maxLocals = 18 := hml0
 have hown : s.vm.findClass "com/example/restate/restate/WordsHashPinLaw" = some m.cls := findClass_of_methodNamed Bd.named
 have hnm := (name_of_methodNamed Bd.named Bd.method).1
 have X0 : Stand p l e room_1 s m #[(.int p1), (.int p2), (.int p3), (.int p4), (.int p5), (.int p6)] below meth c s₁ [] 0 0 := Stand.of_body Bd
 have e0 : s₁.heap = h0 := by rw [← hh, Bd.state]; rfl
 have N0 := Fr.nil n0
 refine own_go (B := s₁.setTop (mkF m 0 #[.val (.int p1), .val (.int p2), .val (.int p3), .val (.int p4), .val (.int p5), .val (.int p6), .unset, .unset, .unset, .unset, .unset, .unset, .unset, .unset, .unset, .unset, .unset, .unset] [])) (fun t k => castTop (ef_0 m p1 p2 p3 p4 p5 p6) k) ?_
 refine own_go (B := s₁.setTop (mkF m 2 #[.val (.int p1), .val (.int p2), .val (.int p3), .val (.int p4), .val (.int p5), .val (.int p6), .unset, .unset, .unset, .unset, .unset, .unset, .unset, .unset, .unset, .unset, .unset, .unset] [(.int 7)])) (fun tg kt => ?_) ?_
 ·refine XS.bipush X0.here hx rfl (hb hby at_0) ?_
  exact kt
 obtain ⟨T413, h413, k413, X413, e413, E413, A413, st413⟩ := newP X0 hx hZ (hw _ (List.mem_of_getElem? (i := 0) rfl)) e0 (g := (mkF m 2 #[.val (.int p1), .val (.int p2), .val (.int p3), .val (.int p4), .val (.int p5), .val (.int p6), .unset, .unset, .unset, .unset, .unset, .unset, .unset, .unset, .unset, .unset, .unset, .unset] [(.int 7)])) rfl (hb hby at_2) rfl (by decide) (cap := 7) (by decide) (by decide) (by decide) (by decide)
 obtain ⟨b413, g413⟩ : ∃ z, z = h0.size := ⟨_, rfl⟩
 rw [← g413] at A413 st413
 refine own_go st413 ?_
 have K413 : Keep h0 h413 [] := Keep.ext (Keep.refl h0 []) E413
 have V413 : Arv Z h413 b413 k413 .char (7 : Int32) (own_tab 7 (fun _ => 0)) (.int 0) := (Arv.new A413 (by decide)).pad (own_tab0 7)
 refine own_go (B := T413.setTop (mkF m 10 #[.val (.int p1), .val (.int p2), .val (.int p3), .val (.int p4), .val (.int p5), .val (.int p6), .val (.ref b413), .unset, .unset, .unset, .unset, .unset, .unset, .unset, .unset, .unset, .unset, .unset] [(.int p1), (.int 0), (.ref b413)])) (fun tg kt => ?_) ?_
 ·refine XS.astore X413.here hx rfl (hb hby at_4) rfl rfl (l' := #[.val (.int p1), .val (.int p2), .val (.int p3), .val (.int p4), .val (.int p5), .val (.int p6), .val (.ref b413), .unset, .unset, .unset, .unset, .unset, .unset, .unset, .unset, .unset, .unset, .unset]) rfl ?_
  refine XS.aload X413.here hx rfl (hb hby at_6) rfl rfl ?_
  refine XS.iconst X413.here hx rfl (hb hby at_8) ?_
  refine XS.iloadN X413.here hx rfl (hb hby at_9) rfl ?_
  exact kt
 obtain ⟨_, _, ⟨T414, L414, k414, n414⟩, -, X414, ⟨Lc414, hQ414, l414, y414, z414⟩, st414⟩ := Jvm.LawKit.callS X413 hx (y := (⟨"com/example/restate/restate/WordsHashPinLaw", "chr", "(I)C"⟩ : MethodName)) hown (mvT hZ (hw _ (List.mem_of_getElem? (i := 1) rfl))) (mvT hZ (hw _ (List.mem_of_getElem? (i := 2) rfl))) (mvT hZ (hw _ (List.mem_of_getElem? (i := 3) rfl))) (mvT hZ (hw _ (List.mem_of_getElem? (i := 4) rfl))) (by decide) (backOf (W := 2) (rm1 l Z a0 hw [] p1 h413 n0 (Nat.le_trans Z0 E413.1) ) hZ (hw _ (List.mem_of_getElem? (i := 4) rfl)) (hw _ (List.mem_of_getElem? (i := 3) rfl)) (by decide) (by decide)) (g := (mkF m 10 #[.val (.int p1), .val (.int p2), .val (.int p3), .val (.int p4), .val (.int p5), .val (.int p6), .val (.ref b413), .unset, .unset, .unset, .unset, .unset, .unset, .unset, .unset, .unset, .unset, .unset] [(.int p1), (.int 0), (.ref b413)])) rfl (by rw [hml]; rfl) (argsL := [(.int p1)]) (rest := [(.int 0), (.ref b413)]) (lenOf pd_23 rfl) rfl (by show 2 * 0 + _ ≤ _; exact Nat.le_of_eq rfl) (hb hby at_10) (fun _ _ => ⟨rfl, e413, (by decide : 1 + 0 ≤ _), (by decide : 7 + 0 ≤ _)⟩)
 dsimp only [Pt.U, Pt.locs, Pt.cells, Pt.slots] at X414 l414 y414 z414 st414 hQ414
 rw [l414, y414, z414] at X414
 obtain ⟨rfl, M414, q414_0⟩ := hQ414
 have N414 := Fr.app N0 M414
 refine own_go st414 ?_
 obtain ⟨cl415, Ar415, cq415, cS415, cN415, cH415, cG415⟩ := id V413
 have hin415 := inb_of (j := (0 : Int32)) cS415 ⟨by decide, by decide⟩
 obtain ⟨T415, h415, X415, e415, W415, st415⟩ := stC X414 hx hZ q414_0 Ar415 (j := (0 : Int32)) hin415 (g := (mkF m 13 #[.val (.int p1), .val (.int p2), .val (.int p3), .val (.int p4), .val (.int p5), .val (.int p6), .val (.ref b413), .unset, .unset, .unset, .unset, .unset, .unset, .unset, .unset, .unset, .unset, .unset] [(.int (own_chr p1)), (.int 0), (.ref b413)])) rfl rfl (hb hby at_13)
 refine own_go st415 ?_
 have V415 : Arv Z h415 b413 k413 .char (7 : Int32) (own_tab 7 (fun j => if j = 0 then (own_chr p1) else (fun _ => 0) j)) (.int 0) := by have q := Arv.set Ar415 cq415 cS415 cN415 cH415 cG415 (fits_nar_char _) W415 0 rfl (by rw [own_tab_len]; decide); rw [own_tab_set _ _ (by decide)] at q; exact own_chrF q
 have K415 : Keep h0 h415 [] := Keep.wr K413 W415 (Or.inr (Nat.le_of_eq g413.symm))
 have N415 := Fr.snoc X415 N414 (Nat.le_trans Z0 (Nat.le_of_eq g413.symm))
 refine own_go (B := T415.setTop (mkF m 21 #[.val (.int p1), .val (.int p2), .val (.int p3), .val (.int p4), .val (.int p5), .val (.int p6), .val (.ref b413), .unset, .unset, .unset, .unset, .unset, .unset, .unset, .unset, .unset, .unset, .unset] [(.int ((p1.toUInt32 >>> ((16 : Int32) &&& 31).toUInt32).toInt32)), (.int 1), (.ref b413)])) (fun tg kt => ?_) ?_
 ·refine XS.aload X415.here hx rfl (hb hby at_14) rfl rfl ?_
  refine XS.iconst X415.here hx rfl (hb hby at_16) ?_
  refine XS.iloadN X415.here hx rfl (hb hby at_17) rfl ?_
  refine XS.bipush X415.here hx rfl (hb hby at_18) ?_
  refine XS.iushr X415.here hx rfl (hb hby at_20) rfl ?_
  exact kt
 have le417 : h0.size ≤ h415.size := (Nat.le_trans E413.1 (Nat.le_of_eq (Wr.size W415).symm))
 obtain ⟨_, _, ⟨T416, L416, k416, n416⟩, -, X416, ⟨Lc416, hQ416, l416, y416, z416⟩, st416⟩ := Jvm.LawKit.callS X415 hx (y := (⟨"com/example/restate/restate/WordsHashPinLaw", "chr", "(I)C"⟩ : MethodName)) hown (mvT hZ (hw _ (List.mem_of_getElem? (i := 1) rfl))) (mvT hZ (hw _ (List.mem_of_getElem? (i := 2) rfl))) (mvT hZ (hw _ (List.mem_of_getElem? (i := 3) rfl))) (mvT hZ (hw _ (List.mem_of_getElem? (i := 4) rfl))) (by decide) (backOf (W := 2) (rm1 l Z a0 hw [] ((p1.toUInt32 >>> ((16 : Int32) &&& 31).toUInt32).toInt32) h415 n0 (Nat.le_trans Z0 le417) ) hZ (hw _ (List.mem_of_getElem? (i := 4) rfl)) (hw _ (List.mem_of_getElem? (i := 3) rfl)) (by decide) (by decide)) (g := (mkF m 21 #[.val (.int p1), .val (.int p2), .val (.int p3), .val (.int p4), .val (.int p5), .val (.int p6), .val (.ref b413), .unset, .unset, .unset, .unset, .unset, .unset, .unset, .unset, .unset, .unset, .unset] [(.int ((p1.toUInt32 >>> ((16 : Int32) &&& 31).toUInt32).toInt32)), (.int 1), (.ref b413)])) rfl (by rw [hml]; rfl) (argsL := [(.int ((p1.toUInt32 >>> ((16 : Int32) &&& 31).toUInt32).toInt32))]) (rest := [(.int 1), (.ref b413)]) (lenOf pd_23 rfl) rfl (by show 2 * 0 + _ ≤ _; exact Nat.le_of_eq rfl) (hb hby at_21) (fun _ _ => ⟨rfl, e415, (by decide : 1 + 0 ≤ _), (by decide : 7 + 0 ≤ _)⟩)
 dsimp only [Pt.U, Pt.locs, Pt.cells, Pt.slots] at X416 l416 y416 z416 st416 hQ416
 rw [l416, y416, z416] at X416
 obtain ⟨rfl, M416, q416_0⟩ := hQ416
 have N416 := Fr.app N415 M416
 refine own_go st416 ?_
 obtain ⟨cl418, Ar418, cq418, cS418, cN418, cH418, cG418⟩ := id V415
 have hin418 := inb_of (j := (1 : Int32)) cS418 ⟨by decide, by decide⟩
 obtain ⟨T418, h418, X418, e418, W418, st418⟩ := stC X416 hx hZ q416_0 Ar418 (j := (1 : Int32)) hin418 (g := (mkF m 24 #[.val (.int p1), .val (.int p2), .val (.int p3), .val (.int p4), .val (.int p5), .val (.int p6), .val (.ref b413), .unset, .unset, .unset, .unset, .unset, .unset, .unset, .unset, .unset, .unset, .unset] [(.int (own_chr ((p1.toUInt32 >>> ((16 : Int32) &&& 31).toUInt32).toInt32))), (.int 1), (.ref b413)])) rfl rfl (hb hby at_24)
 refine own_go st418 ?_
 have V418 : Arv Z h418 b413 k413 .char (7 : Int32) (own_tab 7 (fun j => if j = 1 then (own_chr ((p1.toUInt32 >>> ((16 : Int32) &&& 31).toUInt32).toInt32)) else (fun j => if j = 0 then (own_chr p1) else (fun _ => 0) j) j)) (.int 0) := by have q := Arv.set Ar418 cq418 cS418 cN418 cH418 cG418 (fits_nar_char _) W418 1 rfl (by rw [own_tab_len]; decide); rw [own_tab_set _ _ (by decide)] at q; exact own_chrF q
 have K418 : Keep h0 h418 [] := Keep.wr K415 W418 (Or.inr (Nat.le_of_eq g413.symm))
 have N418 := Fr.snoc X418 N416 (Nat.le_trans Z0 (Nat.le_of_eq g413.symm))
 refine own_go (B := T418.setTop (mkF m 29 #[.val (.int p1), .val (.int p2), .val (.int p3), .val (.int p4), .val (.int p5), .val (.int p6), .val (.ref b413), .unset, .unset, .unset, .unset, .unset, .unset, .unset, .unset, .unset, .unset, .unset] [(.int p2), (.int 2), (.ref b413)])) (fun tg kt => ?_) ?_
 ·refine XS.aload X418.here hx rfl (hb hby at_25) rfl rfl ?_
  refine XS.iconst X418.here hx rfl (hb hby at_27) ?_
  refine XS.iloadN X418.here hx rfl (hb hby at_28) rfl ?_
  exact kt
 have le420 : h0.size ≤ h418.size := (Nat.le_trans (Nat.le_trans E413.1 (Nat.le_of_eq (Wr.size W415).symm)) (Nat.le_of_eq (Wr.size W418).symm))
 obtain ⟨_, _, ⟨T419, L419, k419, n419⟩, -, X419, ⟨Lc419, hQ419, l419, y419, z419⟩, st419⟩ := Jvm.LawKit.callS X418 hx (y := (⟨"com/example/restate/restate/WordsHashPinLaw", "chr", "(I)C"⟩ : MethodName)) hown (mvT hZ (hw _ (List.mem_of_getElem? (i := 1) rfl))) (mvT hZ (hw _ (List.mem_of_getElem? (i := 2) rfl))) (mvT hZ (hw _ (List.mem_of_getElem? (i := 3) rfl))) (mvT hZ (hw _ (List.mem_of_getElem? (i := 4) rfl))) (by decide) (backOf (W := 2) (rm1 l Z a0 hw [] p2 h418 n0 (Nat.le_trans Z0 le420) ) hZ (hw _ (List.mem_of_getElem? (i := 4) rfl)) (hw _ (List.mem_of_getElem? (i := 3) rfl)) (by decide) (by decide)) (g := (mkF m 29 #[.val (.int p1), .val (.int p2), .val (.int p3), .val (.int p4), .val (.int p5), .val (.int p6), .val (.ref b413), .unset, .unset, .unset, .unset, .unset, .unset, .unset, .unset, .unset, .unset, .unset] [(.int p2), (.int 2), (.ref b413)])) rfl (by rw [hml]; rfl) (argsL := [(.int p2)]) (rest := [(.int 2), (.ref b413)]) (lenOf pd_23 rfl) rfl (by show 2 * 0 + _ ≤ _; exact Nat.le_of_eq rfl) (hb hby at_29) (fun _ _ => ⟨rfl, e418, (by decide : 1 + 0 ≤ _), (by decide : 7 + 0 ≤ _)⟩)
 dsimp only [Pt.U, Pt.locs, Pt.cells, Pt.slots] at X419 l419 y419 z419 st419 hQ419
 rw [l419, y419, z419] at X419
 obtain ⟨rfl, M419, q419_0⟩ := hQ419
 have N419 := Fr.app N418 M419
 refine own_go st419 ?_
 obtain ⟨cl421, Ar421, cq421, cS421, cN421, cH421, cG421⟩ := id V418
 have hin421 := inb_of (j := (2 : Int32)) cS421 ⟨by decide, by decide⟩
 obtain ⟨T421, h421, X421, e421, W421, st421⟩ := stC X419 hx hZ q419_0 Ar421 (j := (2 : Int32)) hin421 (g := (mkF m 32 #[.val (.int p1), .val (.int p2), .val (.int p3), .val (.int p4), .val (.int p5), .val (.int p6), .val (.ref b413), .unset, .unset, .unset, .unset, .unset, .unset, .unset, .unset, .unset, .unset, .unset] [(.int (own_chr p2)), (.int 2), (.ref b413)])) rfl rfl (hb hby at_32)
 refine own_go st421 ?_
 have V421 : Arv Z h421 b413 k413 .char (7 : Int32) (own_tab 7 (fun j => if j = 2 then (own_chr p2) else (fun j => if j = 1 then (own_chr ((p1.toUInt32 >>> ((16 : Int32) &&& 31).toUInt32).toInt32)) else (fun j => if j = 0 then (own_chr p1) else (fun _ => 0) j) j) j)) (.int 0) := by have q := Arv.set Ar421 cq421 cS421 cN421 cH421 cG421 (fits_nar_char _) W421 2 rfl (by rw [own_tab_len]; decide); rw [own_tab_set _ _ (by decide)] at q; exact own_chrF q
 have K421 : Keep h0 h421 [] := Keep.wr K418 W421 (Or.inr (Nat.le_of_eq g413.symm))
 have N421 := Fr.snoc X421 N419 (Nat.le_trans Z0 (Nat.le_of_eq g413.symm))
 refine own_go (B := T421.setTop (mkF m 40 #[.val (.int p1), .val (.int p2), .val (.int p3), .val (.int p4), .val (.int p5), .val (.int p6), .val (.ref b413), .unset, .unset, .unset, .unset, .unset, .unset, .unset, .unset, .unset, .unset, .unset] [(.int ((p2.toUInt32 >>> ((16 : Int32) &&& 31).toUInt32).toInt32)), (.int 3), (.ref b413)])) (fun tg kt => ?_) ?_
 ·refine XS.aload X421.here hx rfl (hb hby at_33) rfl rfl ?_
  refine XS.iconst X421.here hx rfl (hb hby at_35) ?_
  refine XS.iloadN X421.here hx rfl (hb hby at_36) rfl ?_
  refine XS.bipush X421.here hx rfl (hb hby at_37) ?_
  refine XS.iushr X421.here hx rfl (hb hby at_39) rfl ?_
  exact kt
 have le423 : h0.size ≤ h421.size := (Nat.le_trans (Nat.le_trans (Nat.le_trans E413.1 (Nat.le_of_eq (Wr.size W415).symm)) (Nat.le_of_eq (Wr.size W418).symm)) (Nat.le_of_eq (Wr.size W421).symm))
 obtain ⟨_, _, ⟨T422, L422, k422, n422⟩, -, X422, ⟨Lc422, hQ422, l422, y422, z422⟩, st422⟩ := Jvm.LawKit.callS X421 hx (y := (⟨"com/example/restate/restate/WordsHashPinLaw", "chr", "(I)C"⟩ : MethodName)) hown (mvT hZ (hw _ (List.mem_of_getElem? (i := 1) rfl))) (mvT hZ (hw _ (List.mem_of_getElem? (i := 2) rfl))) (mvT hZ (hw _ (List.mem_of_getElem? (i := 3) rfl))) (mvT hZ (hw _ (List.mem_of_getElem? (i := 4) rfl))) (by decide) (backOf (W := 2) (rm1 l Z a0 hw [] ((p2.toUInt32 >>> ((16 : Int32) &&& 31).toUInt32).toInt32) h421 n0 (Nat.le_trans Z0 le423) ) hZ (hw _ (List.mem_of_getElem? (i := 4) rfl)) (hw _ (List.mem_of_getElem? (i := 3) rfl)) (by decide) (by decide)) (g := (mkF m 40 #[.val (.int p1), .val (.int p2), .val (.int p3), .val (.int p4), .val (.int p5), .val (.int p6), .val (.ref b413), .unset, .unset, .unset, .unset, .unset, .unset, .unset, .unset, .unset, .unset, .unset] [(.int ((p2.toUInt32 >>> ((16 : Int32) &&& 31).toUInt32).toInt32)), (.int 3), (.ref b413)])) rfl (by rw [hml]; rfl) (argsL := [(.int ((p2.toUInt32 >>> ((16 : Int32) &&& 31).toUInt32).toInt32))]) (rest := [(.int 3), (.ref b413)]) (lenOf pd_23 rfl) rfl (by show 2 * 0 + _ ≤ _; exact Nat.le_of_eq rfl) (hb hby at_40) (fun _ _ => ⟨rfl, e421, (by decide : 1 + 0 ≤ _), (by decide : 7 + 0 ≤ _)⟩)
 dsimp only [Pt.U, Pt.locs, Pt.cells, Pt.slots] at X422 l422 y422 z422 st422 hQ422
 rw [l422, y422, z422] at X422
 obtain ⟨rfl, M422, q422_0⟩ := hQ422
 have N422 := Fr.app N421 M422
 refine own_go st422 ?_
 obtain ⟨cl424, Ar424, cq424, cS424, cN424, cH424, cG424⟩ := id V421
 have hin424 := inb_of (j := (3 : Int32)) cS424 ⟨by decide, by decide⟩
 obtain ⟨T424, h424, X424, e424, W424, st424⟩ := stC X422 hx hZ q422_0 Ar424 (j := (3 : Int32)) hin424 (g := (mkF m 43 #[.val (.int p1), .val (.int p2), .val (.int p3), .val (.int p4), .val (.int p5), .val (.int p6), .val (.ref b413), .unset, .unset, .unset, .unset, .unset, .unset, .unset, .unset, .unset, .unset, .unset] [(.int (own_chr ((p2.toUInt32 >>> ((16 : Int32) &&& 31).toUInt32).toInt32))), (.int 3), (.ref b413)])) rfl rfl (hb hby at_43)
 refine own_go st424 ?_
 have V424 : Arv Z h424 b413 k413 .char (7 : Int32) (own_tab 7 (fun j => if j = 3 then (own_chr ((p2.toUInt32 >>> ((16 : Int32) &&& 31).toUInt32).toInt32)) else (fun j => if j = 2 then (own_chr p2) else (fun j => if j = 1 then (own_chr ((p1.toUInt32 >>> ((16 : Int32) &&& 31).toUInt32).toInt32)) else (fun j => if j = 0 then (own_chr p1) else (fun _ => 0) j) j) j) j)) (.int 0) := by have q := Arv.set Ar424 cq424 cS424 cN424 cH424 cG424 (fits_nar_char _) W424 3 rfl (by rw [own_tab_len]; decide); rw [own_tab_set _ _ (by decide)] at q; exact own_chrF q
 have K424 : Keep h0 h424 [] := Keep.wr K421 W424 (Or.inr (Nat.le_of_eq g413.symm))
 have N424 := Fr.snoc X424 N422 (Nat.le_trans Z0 (Nat.le_of_eq g413.symm))
 refine own_go (B := T424.setTop (mkF m 48 #[.val (.int p1), .val (.int p2), .val (.int p3), .val (.int p4), .val (.int p5), .val (.int p6), .val (.ref b413), .unset, .unset, .unset, .unset, .unset, .unset, .unset, .unset, .unset, .unset, .unset] [(.int p3), (.int 4), (.ref b413)])) (fun tg kt => ?_) ?_
 ·refine XS.aload X424.here hx rfl (hb hby at_44) rfl rfl ?_
  refine XS.iconst X424.here hx rfl (hb hby at_46) ?_
  refine XS.iloadN X424.here hx rfl (hb hby at_47) rfl ?_
  exact kt
 have le426 : h0.size ≤ h424.size := (Nat.le_trans (Nat.le_trans (Nat.le_trans (Nat.le_trans E413.1 (Nat.le_of_eq (Wr.size W415).symm)) (Nat.le_of_eq (Wr.size W418).symm)) (Nat.le_of_eq (Wr.size W421).symm)) (Nat.le_of_eq (Wr.size W424).symm))
 obtain ⟨_, _, ⟨T425, L425, k425, n425⟩, -, X425, ⟨Lc425, hQ425, l425, y425, z425⟩, st425⟩ := Jvm.LawKit.callS X424 hx (y := (⟨"com/example/restate/restate/WordsHashPinLaw", "chr", "(I)C"⟩ : MethodName)) hown (mvT hZ (hw _ (List.mem_of_getElem? (i := 1) rfl))) (mvT hZ (hw _ (List.mem_of_getElem? (i := 2) rfl))) (mvT hZ (hw _ (List.mem_of_getElem? (i := 3) rfl))) (mvT hZ (hw _ (List.mem_of_getElem? (i := 4) rfl))) (by decide) (backOf (W := 2) (rm1 l Z a0 hw [] p3 h424 n0 (Nat.le_trans Z0 le426) ) hZ (hw _ (List.mem_of_getElem? (i := 4) rfl)) (hw _ (List.mem_of_getElem? (i := 3) rfl)) (by decide) (by decide)) (g := (mkF m 48 #[.val (.int p1), .val (.int p2), .val (.int p3), .val (.int p4), .val (.int p5), .val (.int p6), .val (.ref b413), .unset, .unset, .unset, .unset, .unset, .unset, .unset, .unset, .unset, .unset, .unset] [(.int p3), (.int 4), (.ref b413)])) rfl (by rw [hml]; rfl) (argsL := [(.int p3)]) (rest := [(.int 4), (.ref b413)]) (lenOf pd_23 rfl) rfl (by show 2 * 0 + _ ≤ _; exact Nat.le_of_eq rfl) (hb hby at_48) (fun _ _ => ⟨rfl, e424, (by decide : 1 + 0 ≤ _), (by decide : 7 + 0 ≤ _)⟩)
 dsimp only [Pt.U, Pt.locs, Pt.cells, Pt.slots] at X425 l425 y425 z425 st425 hQ425
 rw [l425, y425, z425] at X425
 obtain ⟨rfl, M425, q425_0⟩ := hQ425
 have N425 := Fr.app N424 M425
 refine own_go st425 ?_
 obtain ⟨cl427, Ar427, cq427, cS427, cN427, cH427, cG427⟩ := id V424
 have hin427 := inb_of (j := (4 : Int32)) cS427 ⟨by decide, by decide⟩
 obtain ⟨T427, h427, X427, e427, W427, st427⟩ := stC X425 hx hZ q425_0 Ar427 (j := (4 : Int32)) hin427 (g := (mkF m 51 #[.val (.int p1), .val (.int p2), .val (.int p3), .val (.int p4), .val (.int p5), .val (.int p6), .val (.ref b413), .unset, .unset, .unset, .unset, .unset, .unset, .unset, .unset, .unset, .unset, .unset] [(.int (own_chr p3)), (.int 4), (.ref b413)])) rfl rfl (hb hby at_51)
 refine own_go st427 ?_
 have V427 : Arv Z h427 b413 k413 .char (7 : Int32) (own_tab 7 (fun j => if j = 4 then (own_chr p3) else (fun j => if j = 3 then (own_chr ((p2.toUInt32 >>> ((16 : Int32) &&& 31).toUInt32).toInt32)) else (fun j => if j = 2 then (own_chr p2) else (fun j => if j = 1 then (own_chr ((p1.toUInt32 >>> ((16 : Int32) &&& 31).toUInt32).toInt32)) else (fun j => if j = 0 then (own_chr p1) else (fun _ => 0) j) j) j) j) j)) (.int 0) := by have q := Arv.set Ar427 cq427 cS427 cN427 cH427 cG427 (fits_nar_char _) W427 4 rfl (by rw [own_tab_len]; decide); rw [own_tab_set _ _ (by decide)] at q; exact own_chrF q
 have K427 : Keep h0 h427 [] := Keep.wr K424 W427 (Or.inr (Nat.le_of_eq g413.symm))
 have N427 := Fr.snoc X427 N425 (Nat.le_trans Z0 (Nat.le_of_eq g413.symm))
 refine own_go (B := T427.setTop (mkF m 59 #[.val (.int p1), .val (.int p2), .val (.int p3), .val (.int p4), .val (.int p5), .val (.int p6), .val (.ref b413), .unset, .unset, .unset, .unset, .unset, .unset, .unset, .unset, .unset, .unset, .unset] [(.int ((p3.toUInt32 >>> ((16 : Int32) &&& 31).toUInt32).toInt32)), (.int 5), (.ref b413)])) (fun tg kt => ?_) ?_
 ·refine XS.aload X427.here hx rfl (hb hby at_52) rfl rfl ?_
  refine XS.iconst X427.here hx rfl (hb hby at_54) ?_
  refine XS.iloadN X427.here hx rfl (hb hby at_55) rfl ?_
  refine XS.bipush X427.here hx rfl (hb hby at_56) ?_
  refine XS.iushr X427.here hx rfl (hb hby at_58) rfl ?_
  exact kt
 have le429 : h0.size ≤ h427.size := (Nat.le_trans (Nat.le_trans (Nat.le_trans (Nat.le_trans (Nat.le_trans E413.1 (Nat.le_of_eq (Wr.size W415).symm)) (Nat.le_of_eq (Wr.size W418).symm)) (Nat.le_of_eq (Wr.size W421).symm)) (Nat.le_of_eq (Wr.size W424).symm)) (Nat.le_of_eq (Wr.size W427).symm))
 obtain ⟨_, _, ⟨T428, L428, k428, n428⟩, -, X428, ⟨Lc428, hQ428, l428, y428, z428⟩, st428⟩ := Jvm.LawKit.callS X427 hx (y := (⟨"com/example/restate/restate/WordsHashPinLaw", "chr", "(I)C"⟩ : MethodName)) hown (mvT hZ (hw _ (List.mem_of_getElem? (i := 1) rfl))) (mvT hZ (hw _ (List.mem_of_getElem? (i := 2) rfl))) (mvT hZ (hw _ (List.mem_of_getElem? (i := 3) rfl))) (mvT hZ (hw _ (List.mem_of_getElem? (i := 4) rfl))) (by decide) (backOf (W := 2) (rm1 l Z a0 hw [] ((p3.toUInt32 >>> ((16 : Int32) &&& 31).toUInt32).toInt32) h427 n0 (Nat.le_trans Z0 le429) ) hZ (hw _ (List.mem_of_getElem? (i := 4) rfl)) (hw _ (List.mem_of_getElem? (i := 3) rfl)) (by decide) (by decide)) (g := (mkF m 59 #[.val (.int p1), .val (.int p2), .val (.int p3), .val (.int p4), .val (.int p5), .val (.int p6), .val (.ref b413), .unset, .unset, .unset, .unset, .unset, .unset, .unset, .unset, .unset, .unset, .unset] [(.int ((p3.toUInt32 >>> ((16 : Int32) &&& 31).toUInt32).toInt32)), (.int 5), (.ref b413)])) rfl (by rw [hml]; rfl) (argsL := [(.int ((p3.toUInt32 >>> ((16 : Int32) &&& 31).toUInt32).toInt32))]) (rest := [(.int 5), (.ref b413)]) (lenOf pd_23 rfl) rfl (by show 2 * 0 + _ ≤ _; exact Nat.le_of_eq rfl) (hb hby at_59) (fun _ _ => ⟨rfl, e427, (by decide : 1 + 0 ≤ _), (by decide : 7 + 0 ≤ _)⟩)
 dsimp only [Pt.U, Pt.locs, Pt.cells, Pt.slots] at X428 l428 y428 z428 st428 hQ428
 rw [l428, y428, z428] at X428
 obtain ⟨rfl, M428, q428_0⟩ := hQ428
 have N428 := Fr.app N427 M428
 refine own_go st428 ?_
 obtain ⟨cl430, Ar430, cq430, cS430, cN430, cH430, cG430⟩ := id V427
 have hin430 := inb_of (j := (5 : Int32)) cS430 ⟨by decide, by decide⟩
 obtain ⟨T430, h430, X430, e430, W430, st430⟩ := stC X428 hx hZ q428_0 Ar430 (j := (5 : Int32)) hin430 (g := (mkF m 62 #[.val (.int p1), .val (.int p2), .val (.int p3), .val (.int p4), .val (.int p5), .val (.int p6), .val (.ref b413), .unset, .unset, .unset, .unset, .unset, .unset, .unset, .unset, .unset, .unset, .unset] [(.int (own_chr ((p3.toUInt32 >>> ((16 : Int32) &&& 31).toUInt32).toInt32))), (.int 5), (.ref b413)])) rfl rfl (hb hby at_62)
 refine own_go st430 ?_
 have V430 : Arv Z h430 b413 k413 .char (7 : Int32) (own_tab 7 (fun j => if j = 5 then (own_chr ((p3.toUInt32 >>> ((16 : Int32) &&& 31).toUInt32).toInt32)) else (fun j => if j = 4 then (own_chr p3) else (fun j => if j = 3 then (own_chr ((p2.toUInt32 >>> ((16 : Int32) &&& 31).toUInt32).toInt32)) else (fun j => if j = 2 then (own_chr p2) else (fun j => if j = 1 then (own_chr ((p1.toUInt32 >>> ((16 : Int32) &&& 31).toUInt32).toInt32)) else (fun j => if j = 0 then (own_chr p1) else (fun _ => 0) j) j) j) j) j) j)) (.int 0) := by have q := Arv.set Ar430 cq430 cS430 cN430 cH430 cG430 (fits_nar_char _) W430 5 rfl (by rw [own_tab_len]; decide); rw [own_tab_set _ _ (by decide)] at q; exact own_chrF q
 have K430 : Keep h0 h430 [] := Keep.wr K427 W430 (Or.inr (Nat.le_of_eq g413.symm))
 have N430 := Fr.snoc X430 N428 (Nat.le_trans Z0 (Nat.le_of_eq g413.symm))
 refine own_go (B := T430.setTop (mkF m 68 #[.val (.int p1), .val (.int p2), .val (.int p3), .val (.int p4), .val (.int p5), .val (.int p6), .val (.ref b413), .unset, .unset, .unset, .unset, .unset, .unset, .unset, .unset, .unset, .unset, .unset] [(.int p4), (.int 6), (.ref b413)])) (fun tg kt => ?_) ?_
 ·refine XS.aload X430.here hx rfl (hb hby at_63) rfl rfl ?_
  refine XS.bipush X430.here hx rfl (hb hby at_65) ?_
  refine XS.iloadN X430.here hx rfl (hb hby at_67) rfl ?_
  exact kt
 have le432 : h0.size ≤ h430.size := (Nat.le_trans (Nat.le_trans (Nat.le_trans (Nat.le_trans (Nat.le_trans (Nat.le_trans E413.1 (Nat.le_of_eq (Wr.size W415).symm)) (Nat.le_of_eq (Wr.size W418).symm)) (Nat.le_of_eq (Wr.size W421).symm)) (Nat.le_of_eq (Wr.size W424).symm)) (Nat.le_of_eq (Wr.size W427).symm)) (Nat.le_of_eq (Wr.size W430).symm))
 obtain ⟨_, _, ⟨T431, L431, k431, n431⟩, -, X431, ⟨Lc431, hQ431, l431, y431, z431⟩, st431⟩ := Jvm.LawKit.callS X430 hx (y := (⟨"com/example/restate/restate/WordsHashPinLaw", "chr", "(I)C"⟩ : MethodName)) hown (mvT hZ (hw _ (List.mem_of_getElem? (i := 1) rfl))) (mvT hZ (hw _ (List.mem_of_getElem? (i := 2) rfl))) (mvT hZ (hw _ (List.mem_of_getElem? (i := 3) rfl))) (mvT hZ (hw _ (List.mem_of_getElem? (i := 4) rfl))) (by decide) (backOf (W := 2) (rm1 l Z a0 hw [] p4 h430 n0 (Nat.le_trans Z0 le432) ) hZ (hw _ (List.mem_of_getElem? (i := 4) rfl)) (hw _ (List.mem_of_getElem? (i := 3) rfl)) (by decide) (by decide)) (g := (mkF m 68 #[.val (.int p1), .val (.int p2), .val (.int p3), .val (.int p4), .val (.int p5), .val (.int p6), .val (.ref b413), .unset, .unset, .unset, .unset, .unset, .unset, .unset, .unset, .unset, .unset, .unset] [(.int p4), (.int 6), (.ref b413)])) rfl (by rw [hml]; rfl) (argsL := [(.int p4)]) (rest := [(.int 6), (.ref b413)]) (lenOf pd_23 rfl) rfl (by show 2 * 0 + _ ≤ _; exact Nat.le_of_eq rfl) (hb hby at_68) (fun _ _ => ⟨rfl, e430, (by decide : 1 + 0 ≤ _), (by decide : 7 + 0 ≤ _)⟩)
 dsimp only [Pt.U, Pt.locs, Pt.cells, Pt.slots] at X431 l431 y431 z431 st431 hQ431
 rw [l431, y431, z431] at X431
 obtain ⟨rfl, M431, q431_0⟩ := hQ431
 have N431 := Fr.app N430 M431
 refine own_go st431 ?_
 obtain ⟨cl433, Ar433, cq433, cS433, cN433, cH433, cG433⟩ := id V430
 have hin433 := inb_of (j := (6 : Int32)) cS433 ⟨by decide, by decide⟩
 obtain ⟨T433, h433, X433, e433, W433, st433⟩ := stC X431 hx hZ q431_0 Ar433 (j := (6 : Int32)) hin433 (g := (mkF m 71 #[.val (.int p1), .val (.int p2), .val (.int p3), .val (.int p4), .val (.int p5), .val (.int p6), .val (.ref b413), .unset, .unset, .unset, .unset, .unset, .unset, .unset, .unset, .unset, .unset, .unset] [(.int (own_chr p4)), (.int 6), (.ref b413)])) rfl rfl (hb hby at_71)
 refine own_go st433 ?_
 have V433 : Arv Z h433 b413 k413 .char (7 : Int32) (own_tab 7 (fun j => if j = 6 then (own_chr p4) else (fun j => if j = 5 then (own_chr ((p3.toUInt32 >>> ((16 : Int32) &&& 31).toUInt32).toInt32)) else (fun j => if j = 4 then (own_chr p3) else (fun j => if j = 3 then (own_chr ((p2.toUInt32 >>> ((16 : Int32) &&& 31).toUInt32).toInt32)) else (fun j => if j = 2 then (own_chr p2) else (fun j => if j = 1 then (own_chr ((p1.toUInt32 >>> ((16 : Int32) &&& 31).toUInt32).toInt32)) else (fun j => if j = 0 then (own_chr p1) else (fun _ => 0) j) j) j) j) j) j) j)) (.int 0) := by have q := Arv.set Ar433 cq433 cS433 cN433 cH433 cG433 (fits_nar_char _) W433 6 rfl (by rw [own_tab_len]; decide); rw [own_tab_set _ _ (by decide)] at q; exact own_chrF q
 have K433 : Keep h0 h433 [] := Keep.wr K430 W433 (Or.inr (Nat.le_of_eq g413.symm))
 have N433 := Fr.snoc X433 N431 (Nat.le_trans Z0 (Nat.le_of_eq g413.symm))
 have V434 : Arv Z h433 b413 k413 .char (7 : Int32) (own_tab 7 (own_c7 p1 p2 p3 p4)) (.int 0) := V433
 refine own_go (B := T433.setTop (mkF m 80 #[.val (.int p1), .val (.int p2), .val (.int p3), .val (.int p4), .val (.int p5), .val (.int p6), .val (.ref b413), .val (.int ((p5 &&& (3 : Int32)) % (3 : Int32))), .unset, .unset, .unset, .unset, .unset, .unset, .unset, .unset, .unset, .unset] [])) (fun tg kt => ?_) ?_
 ·refine XS.iload X433.here hx rfl (hb hby at_72) rfl ?_
  refine XS.iconst X433.here hx rfl (hb hby at_74) ?_
  refine XS.iand X433.here hx rfl (hb hby at_75) rfl ?_
  refine XS.iconst X433.here hx rfl (hb hby at_76) ?_
  refine iremM X433 hx rfl (hb hby at_77) rfl (by decide) ?_
  refine XS.istore X433.here hx rfl (hb hby at_78) rfl (l' := #[.val (.int p1), .val (.int p2), .val (.int p3), .val (.int p4), .val (.int p5), .val (.int p6), .val (.ref b413), .val (.int ((p5 &&& (3 : Int32)) % (3 : Int32))), .unset, .unset, .unset, .unset, .unset, .unset, .unset, .unset, .unset, .unset]) rfl ?_
  exact kt
 rcases own_k3 p5 with hk_ | hk_ | hk_
 ·rw [show ((p5 &&& (3 : Int32)) % (3 : Int32)) = (0 : Int32) from hk_]
  refine own_go (B := T433.setTop (mkF m 84 #[.val (.int p1), .val (.int p2), .val (.int p3), .val (.int p4), .val (.int p5), .val (.int p6), .val (.ref b413), .val (.int 0), .unset, .unset, .unset, .unset, .unset, .unset, .unset, .unset, .unset, .unset] [(.int ((p5.toUInt32 >>> ((2 : Int32) &&& 31).toUInt32).toInt32))])) (fun tg kt => ?_) ?_
  ·refine XS.iload X433.here hx rfl (hb hby at_80) rfl ?_
   refine XS.iconst X433.here hx rfl (hb hby at_82) ?_
   refine XS.iushr X433.here hx rfl (hb hby at_83) rfl ?_
   exact kt
  obtain ⟨y8, e_y8⟩ : ∃ z, z = ((p5.toUInt32 >>> ((2 : Int32) &&& 31).toUInt32).toInt32) := ⟨_, rfl⟩
  rw [← e_y8]
  refine own_go (B := T433.setTop (mkF m 95 #[.val (.int p1), .val (.int p2), .val (.int p3), .val (.int p4), .val (.int p5), .val (.int p6), .val (.ref b413), .val (.int 0), .val (.int (y8 &&& (32767 : Int32))), .unset, .unset, .unset, .unset, .unset, .unset, .unset, .unset, .unset] [(.int ((p5.toUInt32 >>> ((17 : Int32) &&& 31).toUInt32).toInt32))])) (fun tg kt => ?_) ?_
  ·refine XS.sipush X433.here hx rfl (hb hby at_84) ?_
   refine XS.iand X433.here hx rfl (hb hby at_87) rfl ?_
   refine XS.istore X433.here hx rfl (hb hby at_88) rfl (l' := #[.val (.int p1), .val (.int p2), .val (.int p3), .val (.int p4), .val (.int p5), .val (.int p6), .val (.ref b413), .val (.int 0), .val (.int (y8 &&& (32767 : Int32))), .unset, .unset, .unset, .unset, .unset, .unset, .unset, .unset, .unset]) rfl ?_
   refine XS.iload X433.here hx rfl (hb hby at_90) rfl ?_
   refine XS.bipush X433.here hx rfl (hb hby at_92) ?_
   refine XS.iushr X433.here hx rfl (hb hby at_94) rfl ?_
   exact kt
  obtain ⟨y9, e_y9⟩ : ∃ z, z = ((p5.toUInt32 >>> ((17 : Int32) &&& 31).toUInt32).toInt32) := ⟨_, rfl⟩
  rw [← e_y9]
  refine own_go (B := T433.setTop (mkF m 174 #[.val (.int p1), .val (.int p2), .val (.int p3), .val (.int p4), .val (.int p5), .val (.int p6), .val (.ref b413), .val (.int 0), .val (.int (y8 &&& (32767 : Int32))), .val (.int (y9 &&& (32767 : Int32))), .val (.int 7), .val (.int 7), .unset, .unset, .unset, .unset, .unset, .unset] [])) (fun tg kt => ?_) ?_
  ·refine XS.sipush X433.here hx rfl (hb hby at_95) ?_
   refine XS.iand X433.here hx rfl (hb hby at_98) rfl ?_
   refine XS.istore X433.here hx rfl (hb hby at_99) rfl (l' := #[.val (.int p1), .val (.int p2), .val (.int p3), .val (.int p4), .val (.int p5), .val (.int p6), .val (.ref b413), .val (.int 0), .val (.int (y8 &&& (32767 : Int32))), .val (.int (y9 &&& (32767 : Int32))), .unset, .unset, .unset, .unset, .unset, .unset, .unset, .unset]) rfl ?_
   refine XS.bipush X433.here hx rfl (hb hby at_101) ?_
   refine XS.istore X433.here hx rfl (hb hby at_103) rfl (l' := #[.val (.int p1), .val (.int p2), .val (.int p3), .val (.int p4), .val (.int p5), .val (.int p6), .val (.ref b413), .val (.int 0), .val (.int (y8 &&& (32767 : Int32))), .val (.int (y9 &&& (32767 : Int32))), .val (.int 7), .unset, .unset, .unset, .unset, .unset, .unset, .unset]) rfl ?_
   refine XS.bipush X433.here hx rfl (hb hby at_105) ?_
   refine XS.istore X433.here hx rfl (hb hby at_107) rfl (l' := #[.val (.int p1), .val (.int p2), .val (.int p3), .val (.int p4), .val (.int p5), .val (.int p6), .val (.ref b413), .val (.int 0), .val (.int (y8 &&& (32767 : Int32))), .val (.int (y9 &&& (32767 : Int32))), .val (.int 7), .val (.int 7), .unset, .unset, .unset, .unset, .unset, .unset]) rfl ?_
   refine XS.iload X433.here hx rfl (hb hby at_109) rfl ?_
   refine XS.iconst X433.here hx rfl (hb hby at_111) ?_
   refine XS.icmpYes X433.here hx rfl (pc0 := 112) (pc' := 132) rfl (hb hby at_112) rfl (feq (by decide : ¬ ((0 : Int32) = (1 : Int32)))).2 (by decide) (by decide) ?_
   refine XS.iload X433.here hx rfl (hb hby at_132) rfl ?_
   refine XS.iconst X433.here hx rfl (hb hby at_134) ?_
   refine XS.icmpYes X433.here hx rfl (pc0 := 135) (pc' := 174) rfl (hb hby at_135) rfl (feq (by decide : ¬ ((0 : Int32) = (2 : Int32)))).2 (by decide) (by decide) ?_
   exact kt
  obtain ⟨cs, ecs⟩ : ∃ z, z = (own_c7 p1 p2 p3 p4) := ⟨_, rfl⟩
  have V435 : Arv Z h433 b413 k413 .char (7 : Int32) (own_tab 7 cs) (.int 0) := (by rw [ecs]; exact V434)
  have hC : ∀ i, i < 7 → 0 ≤ (cs i).toInt ∧ (cs i).toInt ≤ 65535 := by rw [ecs]; exact (fun i hi => (own_c7b p1 p2 p3 p4 i hi).1)
  have hno : ∀ i, i < 7 → ¬ cs i = 32 := by rw [ecs]; exact fun i hi => (own_c7b p1 p2 p3 p4 i hi).2
  refine own_go (B := T433.setTop (mkF m 184 #[.val (.int p1), .val (.int p2), .val (.int p3), .val (.int p4), .val (.int p5), .val (.int p6), .val (.ref b413), .val (.int 0), .val (.int (y8 &&& (32767 : Int32))), .val (.int (y9 &&& (32767 : Int32))), .val (.int 7), .val (.int 7), .unset, .unset, .unset, .unset, .unset, .unset] [(.int ((p6 &&& (2147483647 : Int32)) % (1 : Int32)))])) (fun tg kt => ?_) ?_
  ·refine XS.iload X433.here hx rfl (hb hby at_174) rfl ?_
   refine X433.ldcInt hx hown (mvT hZ (hw _ (List.mem_of_getElem? (i := 6) rfl))) (g := (mkF m 176 #[.val (.int p1), .val (.int p2), .val (.int p3), .val (.int p4), .val (.int p5), .val (.int p6), .val (.ref b413), .val (.int 0), .val (.int (y8 &&& (32767 : Int32))), .val (.int (y9 &&& (32767 : Int32))), .val (.int 7), .val (.int 7), .unset, .unset, .unset, .unset, .unset, .unset] [(.int p6)])) rfl (hb hby at_176) _ ?_
   refine XS.iand X433.here hx rfl (hb hby at_178) rfl ?_
   refine XS.iload X433.here hx rfl (hb hby at_179) rfl ?_
   refine XS.iconst X433.here hx rfl (hb hby at_181) ?_
   refine XS.iadd X433.here hx rfl (hb hby at_182) rfl ?_
   refine iremM X433 hx rfl (hb hby at_183) rfl (by decide) ?_
   exact kt
  rw [show ((p6 &&& (2147483647 : Int32)) % (1 : Int32)) = (0 : Int32) from own_wd1 p6]
  refine own_go (B := T433.setTop (mkF m 244 #[.val (.int p1), .val (.int p2), .val (.int p3), .val (.int p4), .val (.int p5), .val (.int p6), .val (.ref b413), .val (.int 0), .val (.int (y8 &&& (32767 : Int32))), .val (.int (y9 &&& (32767 : Int32))), .val (.int 7), .val (.int 7), .val (.int 0), .val (.int 0), .val (.int 7), .val (.int 7), .unset, .unset] [(.int 0), (.int 7), (.int 0), (.ref b413)])) (fun tg kt => ?_) ?_
  ·refine XS.istore X433.here hx rfl (hb hby at_184) rfl (l' := #[.val (.int p1), .val (.int p2), .val (.int p3), .val (.int p4), .val (.int p5), .val (.int p6), .val (.ref b413), .val (.int 0), .val (.int (y8 &&& (32767 : Int32))), .val (.int (y9 &&& (32767 : Int32))), .val (.int 7), .val (.int 7), .val (.int 0), .unset, .unset, .unset, .unset, .unset]) rfl ?_
   refine XS.iload X433.here hx rfl (hb hby at_186) rfl ?_
   refine XS.ifNo X433.here hx rfl (hb hby at_188) rfl ((if0 _ _).trans (teq (by decide : (0 : Int32) = (0 : Int32))).2) ?_
   refine XS.iconst X433.here hx rfl (hb hby at_191) ?_
   refine XS.istore X433.here hx rfl (hb hby at_192) rfl (l' := #[.val (.int p1), .val (.int p2), .val (.int p3), .val (.int p4), .val (.int p5), .val (.int p6), .val (.ref b413), .val (.int 0), .val (.int (y8 &&& (32767 : Int32))), .val (.int (y9 &&& (32767 : Int32))), .val (.int 7), .val (.int 7), .val (.int 0), .val (.int 0), .unset, .unset, .unset, .unset]) rfl ?_
   refine XS.iload X433.here hx rfl (hb hby at_194) rfl ?_
   refine XS.istore X433.here hx rfl (hb hby at_196) rfl (l' := #[.val (.int p1), .val (.int p2), .val (.int p3), .val (.int p4), .val (.int p5), .val (.int p6), .val (.ref b413), .val (.int 0), .val (.int (y8 &&& (32767 : Int32))), .val (.int (y9 &&& (32767 : Int32))), .val (.int 7), .val (.int 7), .val (.int 0), .val (.int 0), .val (.int 7), .unset, .unset, .unset]) rfl ?_
   refine XS.goto X433.here hx rfl (pc0 := 198) (pc' := 230) rfl (hb hby at_198) (by decide) (by decide) ?_
   refine XS.iload X433.here hx rfl (hb hby at_230) rfl ?_
   refine XS.iload X433.here hx rfl (hb hby at_232) rfl ?_
   refine XS.isub X433.here hx rfl (hb hby at_234) rfl ?_
   refine XS.istore X433.here hx rfl (hb hby at_235) rfl (l' := #[.val (.int p1), .val (.int p2), .val (.int p3), .val (.int p4), .val (.int p5), .val (.int p6), .val (.ref b413), .val (.int 0), .val (.int (y8 &&& (32767 : Int32))), .val (.int (y9 &&& (32767 : Int32))), .val (.int 7), .val (.int 7), .val (.int 0), .val (.int 0), .val (.int 7), .val (.int 7), .unset, .unset]) rfl ?_
   refine XS.aload X433.here hx rfl (hb hby at_237) rfl rfl ?_
   refine XS.iload X433.here hx rfl (hb hby at_239) rfl ?_
   refine XS.iload X433.here hx rfl (hb hby at_241) rfl ?_
   refine XS.iconst X433.here hx rfl (hb hby at_243) ?_
   exact kt
  have le437 : h0.size ≤ h433.size := (Nat.le_trans (Nat.le_trans (Nat.le_trans (Nat.le_trans (Nat.le_trans (Nat.le_trans (Nat.le_trans E413.1 (Nat.le_of_eq (Wr.size W415).symm)) (Nat.le_of_eq (Wr.size W418).symm)) (Nat.le_of_eq (Wr.size W421).symm)) (Nat.le_of_eq (Wr.size W424).symm)) (Nat.le_of_eq (Wr.size W427).symm)) (Nat.le_of_eq (Wr.size W430).symm)) (Nat.le_of_eq (Wr.size W433).symm))
  obtain ⟨_, _, ⟨T436, L436, k436, n436⟩, -, X436, ⟨Lc436, hQ436, l436, y436, z436⟩, st436⟩ := Jvm.LawKit.callS X433 hx (y := (⟨"com/example/restate/restate/WordsHashPinLaw", "term", "([CIII)I"⟩ : MethodName)) hown (mvT hZ (hw _ (List.mem_of_getElem? (i := 7) rfl))) (mvT hZ (hw _ (List.mem_of_getElem? (i := 8) rfl))) (mvT hZ (hw _ (List.mem_of_getElem? (i := 3) rfl))) (mvT hZ (hw _ (List.mem_of_getElem? (i := 9) rfl))) (by decide) (backOf (W := 0) (rm2_0 l Z a0 hw [] b413 (0 : Int32) (7 : Int32) k413 cs 0 (7 - 0) h433 n0 (Nat.le_trans Z0 le437) V435 (⟨own_toInt (t := 0) (by omega), own_toInt (t := 7 - 0) (by omega), by omega⟩)) hZ (hw _ (List.mem_of_getElem? (i := 9) rfl)) (hw _ (List.mem_of_getElem? (i := 3) rfl)) (by decide) (by decide)) (g := (mkF m 244 #[.val (.int p1), .val (.int p2), .val (.int p3), .val (.int p4), .val (.int p5), .val (.int p6), .val (.ref b413), .val (.int 0), .val (.int (y8 &&& (32767 : Int32))), .val (.int (y9 &&& (32767 : Int32))), .val (.int 7), .val (.int 7), .val (.int 0), .val (.int 0), .val (.int 7), .val (.int 7), .unset, .unset] [(.int 0), (.int 7), (.int 0), (.ref b413)])) rfl (by rw [hml]; rfl) (argsL := [(.ref b413), (.int 0), (.int 7), (.int 0)]) (rest := []) (lenOf pd_24 rfl) rfl (by show 2 * 0 + _ ≤ _; exact Nat.le_of_eq rfl) (hb hby at_244) (fun _ _ => ⟨rfl, e433, (by decide : 1 + 0 ≤ _), (by decide : 7 + 0 ≤ _)⟩)
  dsimp only [Pt.U, Pt.locs, Pt.cells, Pt.slots] at X436 l436 y436 z436 st436 hQ436
  rw [l436, y436, z436] at X436
  obtain ⟨rfl, M436, q436_0⟩ := hQ436
  have N436 := Fr.app N433 M436
  refine own_go st436 ?_
  refine own_go (B := T436.setTop (mkF m 254 #[.val (.int p1), .val (.int p2), .val (.int p3), .val (.int p4), .val (.int p5), .val (.int p6), .val (.ref b413), .val (.int 0), .val (.int (y8 &&& (32767 : Int32))), .val (.int (y9 &&& (32767 : Int32))), .val (.int 7), .val (.int 7), .val (.int 0), .val (.int 0), .val (.int 7), .val (.int 7), .unset, .unset] [(.int 1), (.int 7), (.int 0), (.ref b413), (.int (own_term cs 0 (7 : Int32) 0))])) (fun tg kt => ?_) ?_
  ·refine XS.aload X436.here hx rfl (hb hby at_247) rfl rfl ?_
   refine XS.iload X436.here hx rfl (hb hby at_249) rfl ?_
   refine XS.iload X436.here hx rfl (hb hby at_251) rfl ?_
   refine XS.iconst X436.here hx rfl (hb hby at_253) ?_
   exact kt
  obtain ⟨_, _, ⟨T438, L438, k438, n438⟩, -, X438, ⟨Lc438, hQ438, l438, y438, z438⟩, st438⟩ := Jvm.LawKit.callS X436 hx (y := (⟨"com/example/restate/restate/WordsHashPinLaw", "term", "([CIII)I"⟩ : MethodName)) hown (mvT hZ (hw _ (List.mem_of_getElem? (i := 7) rfl))) (mvT hZ (hw _ (List.mem_of_getElem? (i := 8) rfl))) (mvT hZ (hw _ (List.mem_of_getElem? (i := 3) rfl))) (mvT hZ (hw _ (List.mem_of_getElem? (i := 9) rfl))) (by decide) (backOf (W := 1) (rm2_1 l Z a0 hw [] b413 (0 : Int32) (7 : Int32) k413 cs 0 (7 - 0) h433 n0 (Nat.le_trans Z0 le437) V435 (⟨own_toInt (t := 0) (by omega), own_toInt (t := 7 - 0) (by omega), by omega⟩)) hZ (hw _ (List.mem_of_getElem? (i := 9) rfl)) (hw _ (List.mem_of_getElem? (i := 3) rfl)) (by decide) (by decide)) (g := (mkF m 254 #[.val (.int p1), .val (.int p2), .val (.int p3), .val (.int p4), .val (.int p5), .val (.int p6), .val (.ref b413), .val (.int 0), .val (.int (y8 &&& (32767 : Int32))), .val (.int (y9 &&& (32767 : Int32))), .val (.int 7), .val (.int 7), .val (.int 0), .val (.int 0), .val (.int 7), .val (.int 7), .unset, .unset] [(.int 1), (.int 7), (.int 0), (.ref b413), (.int (own_term cs 0 (7 : Int32) 0))])) rfl (by rw [hml]; rfl) (argsL := [(.ref b413), (.int 0), (.int 7), (.int 1)]) (rest := [(.int (own_term cs 0 (7 : Int32) 0))]) (lenOf pd_24 rfl) rfl (by show 2 * 0 + _ ≤ _; exact Nat.le_of_eq rfl) (hb hby at_254) (fun _ _ => ⟨rfl, q436_0, (by decide : 1 + 0 ≤ _), (by decide : 7 + 0 ≤ _)⟩)
  dsimp only [Pt.U, Pt.locs, Pt.cells, Pt.slots] at X438 l438 y438 z438 st438 hQ438
  rw [l438, y438, z438] at X438
  obtain ⟨rfl, M438, q438_0⟩ := hQ438
  have N438 := Fr.app N436 M438
  refine own_go st438 ?_
  refine own_go (B := T438.setTop (mkF m 265 #[.val (.int p1), .val (.int p2), .val (.int p3), .val (.int p4), .val (.int p5), .val (.int p6), .val (.ref b413), .val (.int 0), .val (.int (y8 &&& (32767 : Int32))), .val (.int (y9 &&& (32767 : Int32))), .val (.int 7), .val (.int 7), .val (.int 0), .val (.int 0), .val (.int 7), .val (.int 7), .unset, .unset] [(.int 2), (.int 7), (.int 0), (.ref b413), (.int ((own_term cs 0 (7 : Int32) 0) + (own_term cs 0 (7 : Int32) 1)))])) (fun tg kt => ?_) ?_
  ·refine XS.iadd X438.here hx rfl (hb hby at_257) rfl ?_
   refine XS.aload X438.here hx rfl (hb hby at_258) rfl rfl ?_
   refine XS.iload X438.here hx rfl (hb hby at_260) rfl ?_
   refine XS.iload X438.here hx rfl (hb hby at_262) rfl ?_
   refine XS.iconst X438.here hx rfl (hb hby at_264) ?_
   exact kt
  obtain ⟨_, _, ⟨T439, L439, k439, n439⟩, -, X439, ⟨Lc439, hQ439, l439, y439, z439⟩, st439⟩ := Jvm.LawKit.callS X438 hx (y := (⟨"com/example/restate/restate/WordsHashPinLaw", "term", "([CIII)I"⟩ : MethodName)) hown (mvT hZ (hw _ (List.mem_of_getElem? (i := 7) rfl))) (mvT hZ (hw _ (List.mem_of_getElem? (i := 8) rfl))) (mvT hZ (hw _ (List.mem_of_getElem? (i := 3) rfl))) (mvT hZ (hw _ (List.mem_of_getElem? (i := 9) rfl))) (by decide) (backOf (W := 1) (rm2_2 l Z a0 hw [] b413 (0 : Int32) (7 : Int32) k413 cs 0 (7 - 0) h433 n0 (Nat.le_trans Z0 le437) V435 (⟨own_toInt (t := 0) (by omega), own_toInt (t := 7 - 0) (by omega), by omega⟩)) hZ (hw _ (List.mem_of_getElem? (i := 9) rfl)) (hw _ (List.mem_of_getElem? (i := 3) rfl)) (by decide) (by decide)) (g := (mkF m 265 #[.val (.int p1), .val (.int p2), .val (.int p3), .val (.int p4), .val (.int p5), .val (.int p6), .val (.ref b413), .val (.int 0), .val (.int (y8 &&& (32767 : Int32))), .val (.int (y9 &&& (32767 : Int32))), .val (.int 7), .val (.int 7), .val (.int 0), .val (.int 0), .val (.int 7), .val (.int 7), .unset, .unset] [(.int 2), (.int 7), (.int 0), (.ref b413), (.int ((own_term cs 0 (7 : Int32) 0) + (own_term cs 0 (7 : Int32) 1)))])) rfl (by rw [hml]; rfl) (argsL := [(.ref b413), (.int 0), (.int 7), (.int 2)]) (rest := [(.int ((own_term cs 0 (7 : Int32) 0) + (own_term cs 0 (7 : Int32) 1)))]) (lenOf pd_24 rfl) rfl (by show 2 * 0 + _ ≤ _; exact Nat.le_of_eq rfl) (hb hby at_265) (fun _ _ => ⟨rfl, q438_0, (by decide : 1 + 0 ≤ _), (by decide : 7 + 0 ≤ _)⟩)
  dsimp only [Pt.U, Pt.locs, Pt.cells, Pt.slots] at X439 l439 y439 z439 st439 hQ439
  rw [l439, y439, z439] at X439
  obtain ⟨rfl, M439, q439_0⟩ := hQ439
  have N439 := Fr.app N438 M439
  refine own_go st439 ?_
  refine own_go (B := T439.setTop (mkF m 276 #[.val (.int p1), .val (.int p2), .val (.int p3), .val (.int p4), .val (.int p5), .val (.int p6), .val (.ref b413), .val (.int 0), .val (.int (y8 &&& (32767 : Int32))), .val (.int (y9 &&& (32767 : Int32))), .val (.int 7), .val (.int 7), .val (.int 0), .val (.int 0), .val (.int 7), .val (.int 7), .unset, .unset] [(.int 3), (.int 7), (.int 0), (.ref b413), (.int (((own_term cs 0 (7 : Int32) 0) + (own_term cs 0 (7 : Int32) 1)) + (own_term cs 0 (7 : Int32) 2)))])) (fun tg kt => ?_) ?_
  ·refine XS.iadd X439.here hx rfl (hb hby at_268) rfl ?_
   refine XS.aload X439.here hx rfl (hb hby at_269) rfl rfl ?_
   refine XS.iload X439.here hx rfl (hb hby at_271) rfl ?_
   refine XS.iload X439.here hx rfl (hb hby at_273) rfl ?_
   refine XS.iconst X439.here hx rfl (hb hby at_275) ?_
   exact kt
  obtain ⟨_, _, ⟨T440, L440, k440, n440⟩, -, X440, ⟨Lc440, hQ440, l440, y440, z440⟩, st440⟩ := Jvm.LawKit.callS X439 hx (y := (⟨"com/example/restate/restate/WordsHashPinLaw", "term", "([CIII)I"⟩ : MethodName)) hown (mvT hZ (hw _ (List.mem_of_getElem? (i := 7) rfl))) (mvT hZ (hw _ (List.mem_of_getElem? (i := 8) rfl))) (mvT hZ (hw _ (List.mem_of_getElem? (i := 3) rfl))) (mvT hZ (hw _ (List.mem_of_getElem? (i := 9) rfl))) (by decide) (backOf (W := 1) (rm2_3 l Z a0 hw [] b413 (0 : Int32) (7 : Int32) k413 cs 0 (7 - 0) h433 n0 (Nat.le_trans Z0 le437) V435 (⟨own_toInt (t := 0) (by omega), own_toInt (t := 7 - 0) (by omega), by omega⟩)) hZ (hw _ (List.mem_of_getElem? (i := 9) rfl)) (hw _ (List.mem_of_getElem? (i := 3) rfl)) (by decide) (by decide)) (g := (mkF m 276 #[.val (.int p1), .val (.int p2), .val (.int p3), .val (.int p4), .val (.int p5), .val (.int p6), .val (.ref b413), .val (.int 0), .val (.int (y8 &&& (32767 : Int32))), .val (.int (y9 &&& (32767 : Int32))), .val (.int 7), .val (.int 7), .val (.int 0), .val (.int 0), .val (.int 7), .val (.int 7), .unset, .unset] [(.int 3), (.int 7), (.int 0), (.ref b413), (.int (((own_term cs 0 (7 : Int32) 0) + (own_term cs 0 (7 : Int32) 1)) + (own_term cs 0 (7 : Int32) 2)))])) rfl (by rw [hml]; rfl) (argsL := [(.ref b413), (.int 0), (.int 7), (.int 3)]) (rest := [(.int (((own_term cs 0 (7 : Int32) 0) + (own_term cs 0 (7 : Int32) 1)) + (own_term cs 0 (7 : Int32) 2)))]) (lenOf pd_24 rfl) rfl (by show 2 * 0 + _ ≤ _; exact Nat.le_of_eq rfl) (hb hby at_276) (fun _ _ => ⟨rfl, q439_0, (by decide : 1 + 0 ≤ _), (by decide : 7 + 0 ≤ _)⟩)
  dsimp only [Pt.U, Pt.locs, Pt.cells, Pt.slots] at X440 l440 y440 z440 st440 hQ440
  rw [l440, y440, z440] at X440
  obtain ⟨rfl, M440, q440_0⟩ := hQ440
  have N440 := Fr.app N439 M440
  refine own_go st440 ?_
  refine own_go (B := T440.setTop (mkF m 287 #[.val (.int p1), .val (.int p2), .val (.int p3), .val (.int p4), .val (.int p5), .val (.int p6), .val (.ref b413), .val (.int 0), .val (.int (y8 &&& (32767 : Int32))), .val (.int (y9 &&& (32767 : Int32))), .val (.int 7), .val (.int 7), .val (.int 0), .val (.int 0), .val (.int 7), .val (.int 7), .unset, .unset] [(.int 4), (.int 7), (.int 0), (.ref b413), (.int ((((own_term cs 0 (7 : Int32) 0) + (own_term cs 0 (7 : Int32) 1)) + (own_term cs 0 (7 : Int32) 2)) + (own_term cs 0 (7 : Int32) 3)))])) (fun tg kt => ?_) ?_
  ·refine XS.iadd X440.here hx rfl (hb hby at_279) rfl ?_
   refine XS.aload X440.here hx rfl (hb hby at_280) rfl rfl ?_
   refine XS.iload X440.here hx rfl (hb hby at_282) rfl ?_
   refine XS.iload X440.here hx rfl (hb hby at_284) rfl ?_
   refine XS.iconst X440.here hx rfl (hb hby at_286) ?_
   exact kt
  obtain ⟨_, _, ⟨T441, L441, k441, n441⟩, -, X441, ⟨Lc441, hQ441, l441, y441, z441⟩, st441⟩ := Jvm.LawKit.callS X440 hx (y := (⟨"com/example/restate/restate/WordsHashPinLaw", "term", "([CIII)I"⟩ : MethodName)) hown (mvT hZ (hw _ (List.mem_of_getElem? (i := 7) rfl))) (mvT hZ (hw _ (List.mem_of_getElem? (i := 8) rfl))) (mvT hZ (hw _ (List.mem_of_getElem? (i := 3) rfl))) (mvT hZ (hw _ (List.mem_of_getElem? (i := 9) rfl))) (by decide) (backOf (W := 1) (rm2_4 l Z a0 hw [] b413 (0 : Int32) (7 : Int32) k413 cs 0 (7 - 0) h433 n0 (Nat.le_trans Z0 le437) V435 (⟨own_toInt (t := 0) (by omega), own_toInt (t := 7 - 0) (by omega), by omega⟩)) hZ (hw _ (List.mem_of_getElem? (i := 9) rfl)) (hw _ (List.mem_of_getElem? (i := 3) rfl)) (by decide) (by decide)) (g := (mkF m 287 #[.val (.int p1), .val (.int p2), .val (.int p3), .val (.int p4), .val (.int p5), .val (.int p6), .val (.ref b413), .val (.int 0), .val (.int (y8 &&& (32767 : Int32))), .val (.int (y9 &&& (32767 : Int32))), .val (.int 7), .val (.int 7), .val (.int 0), .val (.int 0), .val (.int 7), .val (.int 7), .unset, .unset] [(.int 4), (.int 7), (.int 0), (.ref b413), (.int ((((own_term cs 0 (7 : Int32) 0) + (own_term cs 0 (7 : Int32) 1)) + (own_term cs 0 (7 : Int32) 2)) + (own_term cs 0 (7 : Int32) 3)))])) rfl (by rw [hml]; rfl) (argsL := [(.ref b413), (.int 0), (.int 7), (.int 4)]) (rest := [(.int ((((own_term cs 0 (7 : Int32) 0) + (own_term cs 0 (7 : Int32) 1)) + (own_term cs 0 (7 : Int32) 2)) + (own_term cs 0 (7 : Int32) 3)))]) (lenOf pd_24 rfl) rfl (by show 2 * 0 + _ ≤ _; exact Nat.le_of_eq rfl) (hb hby at_287) (fun _ _ => ⟨rfl, q440_0, (by decide : 1 + 0 ≤ _), (by decide : 7 + 0 ≤ _)⟩)
  dsimp only [Pt.U, Pt.locs, Pt.cells, Pt.slots] at X441 l441 y441 z441 st441 hQ441
  rw [l441, y441, z441] at X441
  obtain ⟨rfl, M441, q441_0⟩ := hQ441
  have N441 := Fr.app N440 M441
  refine own_go st441 ?_
  refine own_go (B := T441.setTop (mkF m 298 #[.val (.int p1), .val (.int p2), .val (.int p3), .val (.int p4), .val (.int p5), .val (.int p6), .val (.ref b413), .val (.int 0), .val (.int (y8 &&& (32767 : Int32))), .val (.int (y9 &&& (32767 : Int32))), .val (.int 7), .val (.int 7), .val (.int 0), .val (.int 0), .val (.int 7), .val (.int 7), .unset, .unset] [(.int 5), (.int 7), (.int 0), (.ref b413), (.int (((((own_term cs 0 (7 : Int32) 0) + (own_term cs 0 (7 : Int32) 1)) + (own_term cs 0 (7 : Int32) 2)) + (own_term cs 0 (7 : Int32) 3)) + (own_term cs 0 (7 : Int32) 4)))])) (fun tg kt => ?_) ?_
  ·refine XS.iadd X441.here hx rfl (hb hby at_290) rfl ?_
   refine XS.aload X441.here hx rfl (hb hby at_291) rfl rfl ?_
   refine XS.iload X441.here hx rfl (hb hby at_293) rfl ?_
   refine XS.iload X441.here hx rfl (hb hby at_295) rfl ?_
   refine XS.iconst X441.here hx rfl (hb hby at_297) ?_
   exact kt
  obtain ⟨_, _, ⟨T442, L442, k442, n442⟩, -, X442, ⟨Lc442, hQ442, l442, y442, z442⟩, st442⟩ := Jvm.LawKit.callS X441 hx (y := (⟨"com/example/restate/restate/WordsHashPinLaw", "term", "([CIII)I"⟩ : MethodName)) hown (mvT hZ (hw _ (List.mem_of_getElem? (i := 7) rfl))) (mvT hZ (hw _ (List.mem_of_getElem? (i := 8) rfl))) (mvT hZ (hw _ (List.mem_of_getElem? (i := 3) rfl))) (mvT hZ (hw _ (List.mem_of_getElem? (i := 9) rfl))) (by decide) (backOf (W := 1) (rm2_5 l Z a0 hw [] b413 (0 : Int32) (7 : Int32) k413 cs 0 (7 - 0) h433 n0 (Nat.le_trans Z0 le437) V435 (⟨own_toInt (t := 0) (by omega), own_toInt (t := 7 - 0) (by omega), by omega⟩)) hZ (hw _ (List.mem_of_getElem? (i := 9) rfl)) (hw _ (List.mem_of_getElem? (i := 3) rfl)) (by decide) (by decide)) (g := (mkF m 298 #[.val (.int p1), .val (.int p2), .val (.int p3), .val (.int p4), .val (.int p5), .val (.int p6), .val (.ref b413), .val (.int 0), .val (.int (y8 &&& (32767 : Int32))), .val (.int (y9 &&& (32767 : Int32))), .val (.int 7), .val (.int 7), .val (.int 0), .val (.int 0), .val (.int 7), .val (.int 7), .unset, .unset] [(.int 5), (.int 7), (.int 0), (.ref b413), (.int (((((own_term cs 0 (7 : Int32) 0) + (own_term cs 0 (7 : Int32) 1)) + (own_term cs 0 (7 : Int32) 2)) + (own_term cs 0 (7 : Int32) 3)) + (own_term cs 0 (7 : Int32) 4)))])) rfl (by rw [hml]; rfl) (argsL := [(.ref b413), (.int 0), (.int 7), (.int 5)]) (rest := [(.int (((((own_term cs 0 (7 : Int32) 0) + (own_term cs 0 (7 : Int32) 1)) + (own_term cs 0 (7 : Int32) 2)) + (own_term cs 0 (7 : Int32) 3)) + (own_term cs 0 (7 : Int32) 4)))]) (lenOf pd_24 rfl) rfl (by show 2 * 0 + _ ≤ _; exact Nat.le_of_eq rfl) (hb hby at_298) (fun _ _ => ⟨rfl, q441_0, (by decide : 1 + 0 ≤ _), (by decide : 7 + 0 ≤ _)⟩)
  dsimp only [Pt.U, Pt.locs, Pt.cells, Pt.slots] at X442 l442 y442 z442 st442 hQ442
  rw [l442, y442, z442] at X442
  obtain ⟨rfl, M442, q442_0⟩ := hQ442
  have N442 := Fr.app N441 M442
  refine own_go st442 ?_
  refine own_go (B := T442.setTop (mkF m 310 #[.val (.int p1), .val (.int p2), .val (.int p3), .val (.int p4), .val (.int p5), .val (.int p6), .val (.ref b413), .val (.int 0), .val (.int (y8 &&& (32767 : Int32))), .val (.int (y9 &&& (32767 : Int32))), .val (.int 7), .val (.int 7), .val (.int 0), .val (.int 0), .val (.int 7), .val (.int 7), .unset, .unset] [(.int 6), (.int 7), (.int 0), (.ref b413), (.int ((((((own_term cs 0 (7 : Int32) 0) + (own_term cs 0 (7 : Int32) 1)) + (own_term cs 0 (7 : Int32) 2)) + (own_term cs 0 (7 : Int32) 3)) + (own_term cs 0 (7 : Int32) 4)) + (own_term cs 0 (7 : Int32) 5)))])) (fun tg kt => ?_) ?_
  ·refine XS.iadd X442.here hx rfl (hb hby at_301) rfl ?_
   refine XS.aload X442.here hx rfl (hb hby at_302) rfl rfl ?_
   refine XS.iload X442.here hx rfl (hb hby at_304) rfl ?_
   refine XS.iload X442.here hx rfl (hb hby at_306) rfl ?_
   refine XS.bipush X442.here hx rfl (hb hby at_308) ?_
   exact kt
  obtain ⟨_, _, ⟨T443, L443, k443, n443⟩, -, X443, ⟨Lc443, hQ443, l443, y443, z443⟩, st443⟩ := Jvm.LawKit.callS X442 hx (y := (⟨"com/example/restate/restate/WordsHashPinLaw", "term", "([CIII)I"⟩ : MethodName)) hown (mvT hZ (hw _ (List.mem_of_getElem? (i := 7) rfl))) (mvT hZ (hw _ (List.mem_of_getElem? (i := 8) rfl))) (mvT hZ (hw _ (List.mem_of_getElem? (i := 3) rfl))) (mvT hZ (hw _ (List.mem_of_getElem? (i := 9) rfl))) (by decide) (backOf (W := 1) (rm2_6 l Z a0 hw [] b413 (0 : Int32) (7 : Int32) k413 cs 0 (7 - 0) h433 n0 (Nat.le_trans Z0 le437) V435 (⟨own_toInt (t := 0) (by omega), own_toInt (t := 7 - 0) (by omega), by omega⟩)) hZ (hw _ (List.mem_of_getElem? (i := 9) rfl)) (hw _ (List.mem_of_getElem? (i := 3) rfl)) (by decide) (by decide)) (g := (mkF m 310 #[.val (.int p1), .val (.int p2), .val (.int p3), .val (.int p4), .val (.int p5), .val (.int p6), .val (.ref b413), .val (.int 0), .val (.int (y8 &&& (32767 : Int32))), .val (.int (y9 &&& (32767 : Int32))), .val (.int 7), .val (.int 7), .val (.int 0), .val (.int 0), .val (.int 7), .val (.int 7), .unset, .unset] [(.int 6), (.int 7), (.int 0), (.ref b413), (.int ((((((own_term cs 0 (7 : Int32) 0) + (own_term cs 0 (7 : Int32) 1)) + (own_term cs 0 (7 : Int32) 2)) + (own_term cs 0 (7 : Int32) 3)) + (own_term cs 0 (7 : Int32) 4)) + (own_term cs 0 (7 : Int32) 5)))])) rfl (by rw [hml]; rfl) (argsL := [(.ref b413), (.int 0), (.int 7), (.int 6)]) (rest := [(.int ((((((own_term cs 0 (7 : Int32) 0) + (own_term cs 0 (7 : Int32) 1)) + (own_term cs 0 (7 : Int32) 2)) + (own_term cs 0 (7 : Int32) 3)) + (own_term cs 0 (7 : Int32) 4)) + (own_term cs 0 (7 : Int32) 5)))]) (lenOf pd_24 rfl) rfl (by show 2 * 0 + _ ≤ _; exact Nat.le_of_eq rfl) (hb hby at_310) (fun _ _ => ⟨rfl, q442_0, (by decide : 1 + 0 ≤ _), (by decide : 7 + 0 ≤ _)⟩)
  dsimp only [Pt.U, Pt.locs, Pt.cells, Pt.slots] at X443 l443 y443 z443 st443 hQ443
  rw [l443, y443, z443] at X443
  obtain ⟨rfl, M443, q443_0⟩ := hQ443
  have N443 := Fr.app N442 M443
  refine own_go st443 ?_
  refine own_go (B := T443.setTop (mkF m 316 #[.val (.int p1), .val (.int p2), .val (.int p3), .val (.int p4), .val (.int p5), .val (.int p6), .val (.ref b413), .val (.int 0), .val (.int (y8 &&& (32767 : Int32))), .val (.int (y9 &&& (32767 : Int32))), .val (.int 7), .val (.int 7), .val (.int 0), .val (.int 0), .val (.int 7), .val (.int 7), .val (.int (((((((own_term cs 0 (7 : Int32) 0) + (own_term cs 0 (7 : Int32) 1)) + (own_term cs 0 (7 : Int32) 2)) + (own_term cs 0 (7 : Int32) 3)) + (own_term cs 0 (7 : Int32) 4)) + (own_term cs 0 (7 : Int32) 5)) + (own_term cs 0 (7 : Int32) 6))), .unset] [])) (fun tg kt => ?_) ?_
  ·refine XS.iadd X443.here hx rfl (hb hby at_313) rfl ?_
   refine XS.istore X443.here hx rfl (hb hby at_314) rfl (l' := #[.val (.int p1), .val (.int p2), .val (.int p3), .val (.int p4), .val (.int p5), .val (.int p6), .val (.ref b413), .val (.int 0), .val (.int (y8 &&& (32767 : Int32))), .val (.int (y9 &&& (32767 : Int32))), .val (.int 7), .val (.int 7), .val (.int 0), .val (.int 0), .val (.int 7), .val (.int 7), .val (.int (((((((own_term cs 0 (7 : Int32) 0) + (own_term cs 0 (7 : Int32) 1)) + (own_term cs 0 (7 : Int32) 2)) + (own_term cs 0 (7 : Int32) 3)) + (own_term cs 0 (7 : Int32) 4)) + (own_term cs 0 (7 : Int32) 5)) + (own_term cs 0 (7 : Int32) 6))), .unset]) rfl ?_
   exact kt
  rw [show (((((((own_term cs 0 (7 : Int32) 0) + (own_term cs 0 (7 : Int32) 1)) + (own_term cs 0 (7 : Int32) 2)) + (own_term cs 0 (7 : Int32) 3)) + (own_term cs 0 (7 : Int32) 4)) + (own_term cs 0 (7 : Int32) 5)) + (own_term cs 0 (7 : Int32) 6)) = (own_h cs 0 7) from own_sum (a := 0) (b := 7) (by omega) (by omega)]
  obtain ⟨T444, h444, X444, e444, E444, A444, D444, -, st444⟩ := newO X443 hx hZ hown (hw _ (List.mem_of_getElem? (i := 16) rfl)) (hw _ (List.mem_of_getElem? (i := 17) rfl)) (hw _ (List.mem_of_getElem? (i := 18) rfl)) q443_0 (g := (mkF m 316 #[.val (.int p1), .val (.int p2), .val (.int p3), .val (.int p4), .val (.int p5), .val (.int p6), .val (.ref b413), .val (.int 0), .val (.int (y8 &&& (32767 : Int32))), .val (.int (y9 &&& (32767 : Int32))), .val (.int 7), .val (.int 7), .val (.int 0), .val (.int 0), .val (.int 7), .val (.int 7), .val (.int (own_h cs 0 7)), .unset] [])) rfl (hb hby at_316) (by decide) (by decide)
  obtain ⟨b444, g444⟩ : ∃ z, z = h433.size := ⟨_, rfl⟩
  rw [← g444] at A444 D444 st444
  refine own_go st444 ?_
  have K444 : Keep h0 h444 [] := Keep.ext K433 E444
  have F444_53 : Fld Z h444 b444 "com/example/restate/restate/Words" "line" "Ljava/lang/String;" .null := D444 (Or.inr (hw _ (List.mem_of_getElem? (i := 53) rfl))) (ty := (.object "java/lang/String")) (by decide)
  have F444_117 : Fld Z h444 b444 "com/example/restate/restate/Words" "starts" "[I" .null := D444 (Or.inr (hw _ (List.mem_of_getElem? (i := 117) rfl))) (ty := (.array .int)) (by decide)
  refine own_go (B := T444.setTop (mkF m 320 #[.val (.int p1), .val (.int p2), .val (.int p3), .val (.int p4), .val (.int p5), .val (.int p6), .val (.ref b413), .val (.int 0), .val (.int (y8 &&& (32767 : Int32))), .val (.int (y9 &&& (32767 : Int32))), .val (.int 7), .val (.int 7), .val (.int 0), .val (.int 0), .val (.int 7), .val (.int 7), .val (.int (own_h cs 0 7)), .unset] [(.ref b444), (.ref b444)])) (fun tg kt => ?_) ?_
  ·refine XS.dup X444.here hx rfl (hb hby at_319) rfl rfl ?_
   exact kt
  obtain ⟨T445, h445, X445, e445, E445, A445, D445, -, st445⟩ := newO X444 hx hZ hown (hw _ (List.mem_of_getElem? (i := 19) rfl)) (hw _ (List.mem_of_getElem? (i := 20) rfl)) (hw _ (List.mem_of_getElem? (i := 21) rfl)) e444 (g := (mkF m 320 #[.val (.int p1), .val (.int p2), .val (.int p3), .val (.int p4), .val (.int p5), .val (.int p6), .val (.ref b413), .val (.int 0), .val (.int (y8 &&& (32767 : Int32))), .val (.int (y9 &&& (32767 : Int32))), .val (.int 7), .val (.int 7), .val (.int 0), .val (.int 0), .val (.int 7), .val (.int 7), .val (.int (own_h cs 0 7)), .unset] [(.ref b444), (.ref b444)])) rfl (hb hby at_320) (by decide) (by decide)
  obtain ⟨b445, g445⟩ : ∃ z, z = h444.size := ⟨_, rfl⟩
  rw [← g445] at A445 D445 st445
  refine own_go st445 ?_
  have K445 : Keep h0 h445 [] := Keep.ext K444 E445
  have F445_45 : Fld Z h445 b445 "java/lang/String" "coder" "B" (.int 0) := D445 (Or.inr (hw _ (List.mem_of_getElem? (i := 45) rfl))) (ty := .byte) (by decide)
  have F445_47 : Fld Z h445 b445 "java/lang/String" "value" "[B" .null := D445 (Or.inr (hw _ (List.mem_of_getElem? (i := 47) rfl))) (ty := (.array .byte)) (by decide)
  refine own_go (B := T445.setTop (mkF m 326 #[.val (.int p1), .val (.int p2), .val (.int p3), .val (.int p4), .val (.int p5), .val (.int p6), .val (.ref b413), .val (.int 0), .val (.int (y8 &&& (32767 : Int32))), .val (.int (y9 &&& (32767 : Int32))), .val (.int 7), .val (.int 7), .val (.int 0), .val (.int 0), .val (.int 7), .val (.int 7), .val (.int (own_h cs 0 7)), .unset] [(.ref b413), (.ref b445), (.ref b445), (.ref b444), (.ref b444)])) (fun tg kt => ?_) ?_
  ·refine XS.dup X445.here hx rfl (hb hby at_323) rfl rfl ?_
   refine XS.aload X445.here hx rfl (hb hby at_324) rfl rfl ?_
   exact kt
  have le447 : h0.size ≤ h444.size := (Nat.le_trans (Nat.le_trans (Nat.le_trans (Nat.le_trans (Nat.le_trans (Nat.le_trans (Nat.le_trans (Nat.le_trans E413.1 (Nat.le_of_eq (Wr.size W415).symm)) (Nat.le_of_eq (Wr.size W418).symm)) (Nat.le_of_eq (Wr.size W421).symm)) (Nat.le_of_eq (Wr.size W424).symm)) (Nat.le_of_eq (Wr.size W427).symm)) (Nat.le_of_eq (Wr.size W430).symm)) (Nat.le_of_eq (Wr.size W433).symm)) E444.1)
  have f448 : Sta Z h445 "java/lang/String" "COMPACT_STRINGS" "Z" (.int w_COMPACT_STRINGS) := ((((((((((S_COMPACT_STRINGS.ext E413).wr W415).wr W418).wr W421).wr W424).wr W427).wr W430).wr W433).ext E444).ext E445)
  have f449 : Sta Z h445 "java/lang/StringUTF16" "$assertionsDisabled" "Z" (.int 1) := ((((((((((S__assertionsDisabled.ext E413).wr W415).wr W418).wr W421).wr W424).wr W427).wr W430).wr W433).ext E444).ext E445)
  have f450 : Sta Z h445 "java/lang/StringUTF16" "HI_BYTE_SHIFT" "I" (.int 0) := ((((((((((S_HI_BYTE_SHIFT.ext E413).wr W415).wr W418).wr W421).wr W424).wr W427).wr W430).wr W433).ext E444).ext E445)
  have f451 : Sta Z h445 "java/lang/StringUTF16" "LO_BYTE_SHIFT" "I" (.int 8) := ((((((((((S_LO_BYTE_SHIFT.ext E413).wr W415).wr W418).wr W421).wr W424).wr W427).wr W430).wr W433).ext E444).ext E445)
  have f452 : Arv Z h445 b413 k413 .char (7 : Int32) (own_tab 7 cs) (.int 0) := ((V435.ext E444).ext E445)
  have le453 : h0.size ≤ h445.size := (Nat.le_trans (Nat.le_trans (Nat.le_trans (Nat.le_trans (Nat.le_trans (Nat.le_trans (Nat.le_trans (Nat.le_trans (Nat.le_trans E413.1 (Nat.le_of_eq (Wr.size W415).symm)) (Nat.le_of_eq (Wr.size W418).symm)) (Nat.le_of_eq (Wr.size W421).symm)) (Nat.le_of_eq (Wr.size W424).symm)) (Nat.le_of_eq (Wr.size W427).symm)) (Nat.le_of_eq (Wr.size W430).symm)) (Nat.le_of_eq (Wr.size W433).symm)) E444.1) E445.1)
  obtain ⟨_, _, ⟨T446, L446, k446, n446⟩, -, X446, ⟨Lc446, hQ446, l446, y446, z446⟩, st446⟩ := X445.specialBack hx (y := (⟨"java/lang/String", "<init>", "([C)V"⟩ : MethodName)) rfl hown (mvT hZ (hw _ (List.mem_of_getElem? (i := 22) rfl))) (mvT hZ (hw _ (List.mem_of_getElem? (i := 23) rfl))) (mvT hZ (hw _ (List.mem_of_getElem? (i := 24) rfl))) (by decide) (backOf (W := 3) (rm4 l Z a0 hw [] b445 b413 w_COMPACT_STRINGS k413 cs h445 n0 (Nat.le_trans Z0 le453) A445 F445_47 F445_45 (Nat.le_trans (Nat.le_trans Z0 le447) (Nat.le_of_eq g445.symm)) f448 (N_COMPACT_STRINGS) f449 f450 f451 f452 (hC)) hZ (hw _ (List.mem_of_getElem? (i := 24) rfl)) (hw _ (List.mem_of_getElem? (i := 21) rfl)) (by decide) (by decide)) (g := (mkF m 326 #[.val (.int p1), .val (.int p2), .val (.int p3), .val (.int p4), .val (.int p5), .val (.int p6), .val (.ref b413), .val (.int 0), .val (.int (y8 &&& (32767 : Int32))), .val (.int (y9 &&& (32767 : Int32))), .val (.int 7), .val (.int 7), .val (.int 0), .val (.int 0), .val (.int 7), .val (.int 7), .val (.int (own_h cs 0 7)), .unset] [(.ref b413), (.ref b445), (.ref b445), (.ref b444), (.ref b444)])) rfl (by rw [hml]; rfl) (Steps.refl _) (a := b445) (argsL := [(.ref b413)]) (rest := [(.ref b445), (.ref b444), (.ref b444)]) (lenOf pd_25 rfl) rfl (by show 2 * 0 + _ ≤ _; exact Nat.le_of_eq rfl) (hb hby at_326) (fun _ _ => ⟨rfl, e445, (by decide : 3 + 2 ≤ _), (by decide : 13 + 21 ≤ _)⟩)
  dsimp only [Pt.U, Pt.locs, Pt.cells, Pt.slots] at X446 l446 y446 z446 st446 hQ446
  rw [l446, y446, z446] at X446
  obtain ⟨bn_446, kn_446, nb_446, vb_446, rfl, M446, q446_0, q446_1, q446_2, q446_3, q446_4, q446_5, q446_6⟩ := hQ446
  have N446 := Fr.app N443 M446
  have K446 : Keep h0 T446.heap [] := Keep.trans K445 q446_0 (allS (Or.inr (Nat.le_trans le447 (Nat.le_of_eq g445.symm))) all0)
  refine own_go (fun t k => st446.trans k) ?_
  have f455 : Exa Z T446.heap b444 "com/example/restate/restate/Words" := ((A444.ext E445).keep q446_0)
  have ne456 : b444 ≠ b445 := (Nat.ne_of_lt (Nat.lt_of_lt_of_le A444.lt (Nat.le_of_eq g445.symm)))
  have f457 : Fld Z T446.heap b444 "com/example/restate/restate/Words" "line" "Ljava/lang/String;" .null := ((F444_53.ext E445).keep q446_0 (ninS ne456 nin0))
  have f458 : Fld Z T446.heap b444 "com/example/restate/restate/Words" "starts" "[I" .null := ((F444_117.ext E445).keep q446_0 (ninS ne456 nin0))
  have f459 : Sta Z T446.heap "java/lang/String" "COMPACT_STRINGS" "Z" (.int w_COMPACT_STRINGS) := (own_staKeep f448 q446_0 (own_nsS (own_nsE A445) own_ns0))
  have f460 : Sta Z T446.heap "java/lang/StringUTF16" "$assertionsDisabled" "Z" (.int 1) := (own_staKeep f449 q446_0 (own_nsS (own_nsE A445) own_ns0))
  have f461 : Sta Z T446.heap "java/lang/StringUTF16" "HI_BYTE_SHIFT" "I" (.int 0) := (own_staKeep f450 q446_0 (own_nsS (own_nsE A445) own_ns0))
  have f462 : Sta Z T446.heap "java/lang/StringUTF16" "LO_BYTE_SHIFT" "I" (.int 8) := (own_staKeep f451 q446_0 (own_nsS (own_nsE A445) own_ns0))
  have f463 : Sta Z T446.heap "jdk/internal/util/Preconditions" "SIOOBE_FORMATTER" "Ljava/util/function/BiFunction;" (own_rv w_SIOOBE_FORMATTER) := (own_staKeep ((((((((((S_SIOOBE_FORMATTER.ext E413).wr W415).wr W418).wr W421).wr W424).wr W427).wr W430).wr W433).ext E444).ext E445) q446_0 (own_nsS (own_nsE A445) own_ns0))
  have ne464 : b444 ≠ bn_446 := (Nat.ne_of_lt (Nat.lt_of_lt_of_le (Nat.lt_of_lt_of_le A444.lt E445.1) q446_1))
  have le465 : h0.size ≤ T446.heap.size := (Nat.le_trans (Nat.le_trans (Nat.le_trans (Nat.le_trans (Nat.le_trans (Nat.le_trans (Nat.le_trans (Nat.le_trans (Nat.le_trans (Nat.le_trans E413.1 (Nat.le_of_eq (Wr.size W415).symm)) (Nat.le_of_eq (Wr.size W418).symm)) (Nat.le_of_eq (Wr.size W421).symm)) (Nat.le_of_eq (Wr.size W424).symm)) (Nat.le_of_eq (Wr.size W427).symm)) (Nat.le_of_eq (Wr.size W430).symm)) (Nat.le_of_eq (Wr.size W433).symm)) E444.1) E445.1) q446_0.1)
  obtain ⟨_, _, ⟨T454, L454, k454, n454⟩, -, X454, ⟨Lc454, hQ454, l454, y454, z454⟩, st454⟩ := X446.specialBack hx (y := (⟨"com/example/restate/restate/Words", "<init>", "(Ljava/lang/String;)V"⟩ : MethodName)) rfl hown (mvT hZ (hw _ (List.mem_of_getElem? (i := 48) rfl))) (mvT hZ (hw _ (List.mem_of_getElem? (i := 49) rfl))) (mvT hZ (hw _ (List.mem_of_getElem? (i := 50) rfl))) (by decide) (backOf (W := 1) (rm10_0 l Z a0 hw [] b444 b445 w_COMPACT_STRINGS w_SIOOBE_FORMATTER bn_446 kn_446 (own_cf nb_446) nb_446 vb_446 cs T446.heap n0 (Nat.le_trans Z0 le465) f455 f457 f458 (Nat.le_trans (Nat.le_trans Z0 le437) (Nat.le_of_eq g444.symm)) f459 (by first | assumption | decide) f460 f461 f462 f463 q446_2 q446_4 q446_3 q446_5 (q446_6) (hC) (hno) ne456 ne464) hZ (hw _ (List.mem_of_getElem? (i := 50) rfl)) (hw _ (List.mem_of_getElem? (i := 18) rfl)) (by decide) (by decide)) (g := (mkF m 329 #[.val (.int p1), .val (.int p2), .val (.int p3), .val (.int p4), .val (.int p5), .val (.int p6), .val (.ref b413), .val (.int 0), .val (.int (y8 &&& (32767 : Int32))), .val (.int (y9 &&& (32767 : Int32))), .val (.int 7), .val (.int 7), .val (.int 0), .val (.int 0), .val (.int 7), .val (.int 7), .val (.int (own_h cs 0 7)), .unset] [(.ref b445), (.ref b444), (.ref b444)])) rfl (by rw [hml]; rfl) (Steps.refl _) (a := b444) (argsL := [(.ref b445)]) (rest := [(.ref b444)]) (lenOf pd_26 rfl) rfl (by show 2 * 0 + _ ≤ _; exact Nat.le_of_eq rfl) (hb hby at_329) (fun _ _ => ⟨rfl, rfl, (by decide : 5 + 2 ≤ _), (by decide : 34 + 18 ≤ _)⟩)
  dsimp only [Pt.U, Pt.locs, Pt.cells, Pt.slots] at X454 l454 y454 z454 st454 hQ454
  rw [l454, y454, z454] at X454
  obtain ⟨sn_454, ks_454, rfl, M454, q454_0, q454_1, q454_2, q454_3, q454_4, q454_5⟩ := hQ454
  have N454 := Fr.app N446 M454
  have K454 : Keep h0 T454.heap [] := Keep.trans K446 q454_0 (allS (Or.inr (Nat.le_trans le437 (Nat.le_of_eq g444.symm))) all0)
  refine own_go (fun t k => st454.trans k) ?_
  refine own_go (B := T454.setTop (mkF m 336 #[.val (.int p1), .val (.int p2), .val (.int p3), .val (.int p4), .val (.int p5), .val (.int p6), .val (.ref b413), .val (.int 0), .val (.int (y8 &&& (32767 : Int32))), .val (.int (y9 &&& (32767 : Int32))), .val (.int 7), .val (.int 7), .val (.int 0), .val (.int 0), .val (.int 7), .val (.int 7), .val (.int (own_h cs 0 7)), .val (.ref b444)] [(.ref b444)])) (fun tg kt => ?_) ?_
  ·refine XS.astore X454.here hx rfl (hb hby at_332) rfl rfl (l' := #[.val (.int p1), .val (.int p2), .val (.int p3), .val (.int p4), .val (.int p5), .val (.int p6), .val (.ref b413), .val (.int 0), .val (.int (y8 &&& (32767 : Int32))), .val (.int (y9 &&& (32767 : Int32))), .val (.int 7), .val (.int 7), .val (.int 0), .val (.int 0), .val (.int 7), .val (.int 7), .val (.int (own_h cs 0 7)), .val (.ref b444)]) rfl ?_
   refine XS.aload X454.here hx rfl (hb hby at_334) rfl rfl ?_
   exact kt
  have le467 : h0.size ≤ T454.heap.size := (Nat.le_trans (Nat.le_trans (Nat.le_trans (Nat.le_trans (Nat.le_trans (Nat.le_trans (Nat.le_trans (Nat.le_trans (Nat.le_trans (Nat.le_trans (Nat.le_trans E413.1 (Nat.le_of_eq (Wr.size W415).symm)) (Nat.le_of_eq (Wr.size W418).symm)) (Nat.le_of_eq (Wr.size W421).symm)) (Nat.le_of_eq (Wr.size W424).symm)) (Nat.le_of_eq (Wr.size W427).symm)) (Nat.le_of_eq (Wr.size W430).symm)) (Nat.le_of_eq (Wr.size W433).symm)) E444.1) E445.1) q446_0.1) q454_0.1)
  obtain ⟨cq466, kq466, q466a, q466b, q466c⟩ := isOf hZ rfl q454_2
  obtain ⟨_, _, ⟨T466, L466, k466, n466⟩, -, X466, ⟨Lc466, hQ466, l466, y466, z466⟩, st466⟩ := X454.virtualBack hx (y := (⟨"com/example/restate/restate/Words", "size", "()I"⟩ : MethodName)) (z := (⟨"com/example/restate/restate/Words", "size", "()I"⟩ : MethodName)) hown (mvT hZ (hw _ (List.mem_of_getElem? (i := 118) rfl))) (mvT hZ (hw _ (List.mem_of_getElem? (i := 119) rfl))) (notFace_of_selects (args := #[]) (mvT hZ (hw _ (List.mem_of_getElem? (i := 121) rfl)))) (mvT hZ (hw _ (List.mem_of_getElem? (i := 121) rfl))) (mvT hZ (hw _ (List.mem_of_getElem? (i := 120) rfl))) (by decide) (backOf (W := 0) (rm24_0 l Z a0 hw [] b444 sn_454 ks_454 ([(.int 0), (.int 8)]) T454.heap n0 (Nat.le_trans Z0 le467) q454_2 q454_4 q454_5) hZ (hw _ (List.mem_of_getElem? (i := 122) rfl)) (hw _ (List.mem_of_getElem? (i := 18) rfl)) (by decide) (by decide)) q466a q466c (g := (mkF m 336 #[.val (.int p1), .val (.int p2), .val (.int p3), .val (.int p4), .val (.int p5), .val (.int p6), .val (.ref b413), .val (.int 0), .val (.int (y8 &&& (32767 : Int32))), .val (.int (y9 &&& (32767 : Int32))), .val (.int 7), .val (.int 7), .val (.int 0), .val (.int 0), .val (.int 7), .val (.int 7), .val (.int (own_h cs 0 7)), .val (.ref b444)] [(.ref b444)])) rfl (by rw [hml]; rfl) (Steps.refl _) (argsL := []) (rest := []) (lenOf pd_19 rfl) rfl (by show 2 * 0 + _ ≤ _; exact Nat.le_of_eq rfl) (hb hby at_336) (fun _ _ => ⟨rfl, rfl, (by decide : 7 + 0 ≤ _), (by decide : 52 + 0 ≤ _)⟩)
  dsimp only [Pt.U, Pt.locs, Pt.cells, Pt.slots] at X466 l466 y466 z466 st466 hQ466
  rw [l466, y466, z466] at X466
  obtain ⟨rfl, M466, q466_0⟩ := hQ466
  have N466 := Fr.app N454 M466
  refine own_go (fun t k => st466.trans k) ?_
  refine own_go (B := T466.setTop (mkF m 350 #[.val (.int p1), .val (.int p2), .val (.int p3), .val (.int p4), .val (.int p5), .val (.int p6), .val (.ref b413), .val (.int 0), .val (.int (y8 &&& (32767 : Int32))), .val (.int (y9 &&& (32767 : Int32))), .val (.int 7), .val (.int 7), .val (.int 0), .val (.int 0), .val (.int 7), .val (.int 7), .val (.int (own_h cs 0 7)), .val (.ref b444)] [(.int 0), (.ref b444)])) (fun tg kt => ?_) ?_
  ·refine XS.iload X466.here hx rfl (hb hby at_339) rfl ?_
   refine XS.iconst X466.here hx rfl (hb hby at_341) ?_
   refine XS.iadd X466.here hx rfl (hb hby at_342) rfl ?_
   refine XS.icmpNo X466.here hx rfl (hb hby at_343) rfl (teq (by decide : (1 : Int32) = (1 : Int32))).2 ?_
   refine XS.aload X466.here hx rfl (hb hby at_346) rfl rfl ?_
   refine XS.iload X466.here hx rfl (hb hby at_348) rfl ?_
   exact kt
  have f469 : Sta Z T454.heap "java/lang/String" "COMPACT_STRINGS" "Z" (.int w_COMPACT_STRINGS) := (own_staKeep f459 q454_0 (own_nsS (own_nsE f455) own_ns0))
  have f470 : Sta Z T454.heap "java/lang/StringUTF16" "$assertionsDisabled" "Z" (.int 1) := (own_staKeep f460 q454_0 (own_nsS (own_nsE f455) own_ns0))
  have f471 : Sta Z T454.heap "java/lang/StringUTF16" "HI_BYTE_SHIFT" "I" (.int 0) := (own_staKeep f461 q454_0 (own_nsS (own_nsE f455) own_ns0))
  have f472 : Sta Z T454.heap "java/lang/StringUTF16" "LO_BYTE_SHIFT" "I" (.int 8) := (own_staKeep f462 q454_0 (own_nsS (own_nsE f455) own_ns0))
  have f473 : Sta Z T454.heap "jdk/internal/util/Preconditions" "SIOOBE_FORMATTER" "Ljava/util/function/BiFunction;" (own_rv w_SIOOBE_FORMATTER) := (own_staKeep f463 q454_0 (own_nsS (own_nsE f455) own_ns0))
  have f474 : Exa Z T454.heap b445 "java/lang/String" := (q446_2.keep q454_0)
  have f475 : Fld Z T454.heap b445 "java/lang/String" "value" "[B" (.ref bn_446) := (q446_4.keep q454_0 (ninS (Ne.symm ne456) nin0))
  have f476 : Fld Z T454.heap b445 "java/lang/String" "coder" "B" (.int (own_cf nb_446)) := (q446_3.keep q454_0 (ninS (Ne.symm ne456) nin0))
  have f477 : Arv Z T454.heap bn_446 kn_446 .byte nb_446 vb_446 (.int 0) := (q446_5.keep q454_0 (ninS (Ne.symm ne464) nin0))
  obtain ⟨cq468, kq468, q468a, q468b, q468c⟩ := isOf hZ q466_0 q454_2
  obtain ⟨_, _, ⟨T468, L468, k468, n468⟩, -, X468, ⟨Lc468, hQ468, l468, y468, z468⟩, st468⟩ := X466.virtualBack hx (y := (⟨"com/example/restate/restate/Words", "hash", "(I)I"⟩ : MethodName)) (z := (⟨"com/example/restate/restate/Words", "hash", "(I)I"⟩ : MethodName)) hown (mvT hZ (hw _ (List.mem_of_getElem? (i := 123) rfl))) (mvT hZ (hw _ (List.mem_of_getElem? (i := 124) rfl))) (notFace_of_selects (args := #[]) (mvT hZ (hw _ (List.mem_of_getElem? (i := 126) rfl)))) (mvT hZ (hw _ (List.mem_of_getElem? (i := 126) rfl))) (mvT hZ (hw _ (List.mem_of_getElem? (i := 125) rfl))) (by decide) (backOf (W := 0) (rm25 l Z a0 hw [] b444 (0 : Int32) b445 w_COMPACT_STRINGS w_SIOOBE_FORMATTER bn_446 kn_446 (own_cf nb_446) nb_446 vb_446 cs sn_454 ks_454 (2 : Int32) ([(.int 0), (.int 8)]) 0 7 T454.heap n0 (Nat.le_trans Z0 le467) f469 (N_COMPACT_STRINGS) f470 f471 f472 f473 f474 f475 f476 f477 (q446_6) (hC) q454_3 q454_4 q454_2 q454_5 (by decide) (by decide) (rfl) (rfl) (⟨by omega, by omega⟩)) hZ (hw _ (List.mem_of_getElem? (i := 127) rfl)) (hw _ (List.mem_of_getElem? (i := 18) rfl)) (by decide) (by decide)) q468a q468c (g := (mkF m 350 #[.val (.int p1), .val (.int p2), .val (.int p3), .val (.int p4), .val (.int p5), .val (.int p6), .val (.ref b413), .val (.int 0), .val (.int (y8 &&& (32767 : Int32))), .val (.int (y9 &&& (32767 : Int32))), .val (.int 7), .val (.int 7), .val (.int 0), .val (.int 0), .val (.int 7), .val (.int 7), .val (.int (own_h cs 0 7)), .val (.ref b444)] [(.int 0), (.ref b444)])) rfl (by rw [hml]; rfl) (Steps.refl _) (argsL := [(.int 0)]) (rest := []) (lenOf pd_0 rfl) rfl (by show 2 * 0 + _ ≤ _; exact Nat.le_of_eq rfl) (hb hby at_350) (fun _ _ => ⟨rfl, q466_0, (by decide : 7 + 0 ≤ _), (by decide : 52 + 0 ≤ _)⟩)
  dsimp only [Pt.U, Pt.locs, Pt.cells, Pt.slots] at X468 l468 y468 z468 st468 hQ468
  rw [l468, y468, z468] at X468
  obtain ⟨rfl, M468, q468_0⟩ := hQ468
  have N468 := Fr.app N466 M468
  refine own_go (fun t k => st468.trans k) ?_
  refine own_go (B := T468.setTop (mkF m 363 #[.val (.int p1), .val (.int p2), .val (.int p3), .val (.int p4), .val (.int p5), .val (.int p6), .val (.ref b413), .val (.int 0), .val (.int (y8 &&& (32767 : Int32))), .val (.int (y9 &&& (32767 : Int32))), .val (.int 7), .val (.int 7), .val (.int 0), .val (.int 0), .val (.int 7), .val (.int 7), .val (.int (own_h cs 0 7)), .val (.ref b444)] [(.int 1)])) (fun tg kt => ?_) ?_
  ·refine XS.iload X468.here hx rfl (hb hby at_353) rfl ?_
   refine XS.icmpNo X468.here hx rfl (hb hby at_355) rfl (teq (rfl : (own_h cs 0 7) = (own_h cs 0 7))).2 ?_
   refine XS.iconst X468.here hx rfl (hb hby at_358) ?_
   refine XS.goto X468.here hx rfl (pc0 := 359) (pc' := 363) rfl (hb hby at_359) (by decide) (by decide) ?_
   exact kt
  obtain ⟨fs, hr, hrun, hended, hW, hsame⟩ := X468.leave (v := some (.int 1)) (fun h => by rw [Bd.returns] at h; cases h)
  refine ⟨_, _, ?_, hrun, hended, _, _, rfl, ?_, ⟨_, rfl⟩, hW, hsame.mono (by decide) (by decide)⟩
  ·exact retN X468 hx (t := .boolean) Bd.returns (by simp) (hb hby at_363) hr
  ·show Q0 Z p1 p2 p3 p4 p5 p6 w_COMPACT_STRINGS w_SIOOBE_FORMATTER h0 n0 _ T468.heap _
   rw [q468_0]
   exact ⟨rfl, N468⟩
 ·rw [show ((p5 &&& (3 : Int32)) % (3 : Int32)) = (1 : Int32) from hk_]
  refine own_go (B := T433.setTop (mkF m 84 #[.val (.int p1), .val (.int p2), .val (.int p3), .val (.int p4), .val (.int p5), .val (.int p6), .val (.ref b413), .val (.int 1), .unset, .unset, .unset, .unset, .unset, .unset, .unset, .unset, .unset, .unset] [(.int ((p5.toUInt32 >>> ((2 : Int32) &&& 31).toUInt32).toInt32))])) (fun tg kt => ?_) ?_
  ·refine XS.iload X433.here hx rfl (hb hby at_80) rfl ?_
   refine XS.iconst X433.here hx rfl (hb hby at_82) ?_
   refine XS.iushr X433.here hx rfl (hb hby at_83) rfl ?_
   exact kt
  obtain ⟨y8, e_y8⟩ : ∃ z, z = ((p5.toUInt32 >>> ((2 : Int32) &&& 31).toUInt32).toInt32) := ⟨_, rfl⟩
  rw [← e_y8]
  refine own_go (B := T433.setTop (mkF m 95 #[.val (.int p1), .val (.int p2), .val (.int p3), .val (.int p4), .val (.int p5), .val (.int p6), .val (.ref b413), .val (.int 1), .val (.int (y8 &&& (32767 : Int32))), .unset, .unset, .unset, .unset, .unset, .unset, .unset, .unset, .unset] [(.int ((p5.toUInt32 >>> ((17 : Int32) &&& 31).toUInt32).toInt32))])) (fun tg kt => ?_) ?_
  ·refine XS.sipush X433.here hx rfl (hb hby at_84) ?_
   refine XS.iand X433.here hx rfl (hb hby at_87) rfl ?_
   refine XS.istore X433.here hx rfl (hb hby at_88) rfl (l' := #[.val (.int p1), .val (.int p2), .val (.int p3), .val (.int p4), .val (.int p5), .val (.int p6), .val (.ref b413), .val (.int 1), .val (.int (y8 &&& (32767 : Int32))), .unset, .unset, .unset, .unset, .unset, .unset, .unset, .unset, .unset]) rfl ?_
   refine XS.iload X433.here hx rfl (hb hby at_90) rfl ?_
   refine XS.bipush X433.here hx rfl (hb hby at_92) ?_
   refine XS.iushr X433.here hx rfl (hb hby at_94) rfl ?_
   exact kt
  obtain ⟨y9, e_y9⟩ : ∃ z, z = ((p5.toUInt32 >>> ((17 : Int32) &&& 31).toUInt32).toInt32) := ⟨_, rfl⟩
  rw [← e_y9]
  refine own_go (B := T433.setTop (mkF m 120 #[.val (.int p1), .val (.int p2), .val (.int p3), .val (.int p4), .val (.int p5), .val (.int p6), .val (.ref b413), .val (.int 1), .val (.int (y8 &&& (32767 : Int32))), .val (.int (y9 &&& (32767 : Int32))), .val (.int 7), .val (.int 7), .unset, .unset, .unset, .unset, .unset, .unset] [(.int ((y8 &&& (32767 : Int32)) % (7 : Int32)))])) (fun tg kt => ?_) ?_
  ·refine XS.sipush X433.here hx rfl (hb hby at_95) ?_
   refine XS.iand X433.here hx rfl (hb hby at_98) rfl ?_
   refine XS.istore X433.here hx rfl (hb hby at_99) rfl (l' := #[.val (.int p1), .val (.int p2), .val (.int p3), .val (.int p4), .val (.int p5), .val (.int p6), .val (.ref b413), .val (.int 1), .val (.int (y8 &&& (32767 : Int32))), .val (.int (y9 &&& (32767 : Int32))), .unset, .unset, .unset, .unset, .unset, .unset, .unset, .unset]) rfl ?_
   refine XS.bipush X433.here hx rfl (hb hby at_101) ?_
   refine XS.istore X433.here hx rfl (hb hby at_103) rfl (l' := #[.val (.int p1), .val (.int p2), .val (.int p3), .val (.int p4), .val (.int p5), .val (.int p6), .val (.ref b413), .val (.int 1), .val (.int (y8 &&& (32767 : Int32))), .val (.int (y9 &&& (32767 : Int32))), .val (.int 7), .unset, .unset, .unset, .unset, .unset, .unset, .unset]) rfl ?_
   refine XS.bipush X433.here hx rfl (hb hby at_105) ?_
   refine XS.istore X433.here hx rfl (hb hby at_107) rfl (l' := #[.val (.int p1), .val (.int p2), .val (.int p3), .val (.int p4), .val (.int p5), .val (.int p6), .val (.ref b413), .val (.int 1), .val (.int (y8 &&& (32767 : Int32))), .val (.int (y9 &&& (32767 : Int32))), .val (.int 7), .val (.int 7), .unset, .unset, .unset, .unset, .unset, .unset]) rfl ?_
   refine XS.iload X433.here hx rfl (hb hby at_109) rfl ?_
   refine XS.iconst X433.here hx rfl (hb hby at_111) ?_
   refine XS.icmpNo X433.here hx rfl (hb hby at_112) rfl (teq (by decide : (1 : Int32) = (1 : Int32))).2 ?_
   refine XS.iload X433.here hx rfl (hb hby at_115) rfl ?_
   refine XS.bipush X433.here hx rfl (hb hby at_117) ?_
   refine iremM X433 hx rfl (hb hby at_119) rfl (by decide) ?_
   exact kt
  obtain ⟨pp, hpp, epp⟩ := own_md (n := 7) (m := 7) (own_m15 y8) (by decide) (by decide)
  rw [show ((y8 &&& (32767 : Int32)) % (7 : Int32)) = (Int32.ofNat pp) from epp]
  refine own_go (B := T433.setTop (mkF m 128 #[.val (.int p1), .val (.int p2), .val (.int p3), .val (.int p4), .val (.int p5), .val (.int p6), .val (.ref b413), .val (.int 1), .val (.int (y8 &&& (32767 : Int32))), .val (.int (y9 &&& (32767 : Int32))), .val (.int (Int32.ofNat pp)), .val (.int 7), .unset, .unset, .unset, .unset, .unset, .unset] [(.int 32), (.int (Int32.ofNat pp)), (.ref b413)])) (fun tg kt => ?_) ?_
  ·refine XS.istore X433.here hx rfl (hb hby at_120) rfl (l' := #[.val (.int p1), .val (.int p2), .val (.int p3), .val (.int p4), .val (.int p5), .val (.int p6), .val (.ref b413), .val (.int 1), .val (.int (y8 &&& (32767 : Int32))), .val (.int (y9 &&& (32767 : Int32))), .val (.int (Int32.ofNat pp)), .val (.int 7), .unset, .unset, .unset, .unset, .unset, .unset]) rfl ?_
   refine XS.aload X433.here hx rfl (hb hby at_122) rfl rfl ?_
   refine XS.iload X433.here hx rfl (hb hby at_124) rfl ?_
   refine XS.bipush X433.here hx rfl (hb hby at_126) ?_
   exact kt
  obtain ⟨cl479, Ar479, cq479, cS479, cN479, cH479, cG479⟩ := id V434
  have hin479 := inb_of (j := (Int32.ofNat pp)) cS479 (own_ltc (k := 7) (by omega) (by decide) _ (by decide))
  obtain ⟨T479, h479, X479, e479, W479, st479⟩ := stC X433 hx hZ e433 Ar479 (j := (Int32.ofNat pp)) hin479 (g := (mkF m 128 #[.val (.int p1), .val (.int p2), .val (.int p3), .val (.int p4), .val (.int p5), .val (.int p6), .val (.ref b413), .val (.int 1), .val (.int (y8 &&& (32767 : Int32))), .val (.int (y9 &&& (32767 : Int32))), .val (.int (Int32.ofNat pp)), .val (.int 7), .unset, .unset, .unset, .unset, .unset, .unset] [(.int 32), (.int (Int32.ofNat pp)), (.ref b413)])) rfl rfl (hb hby at_128)
  refine own_go st479 ?_
  have V479 : Arv Z h479 b413 k413 .char (7 : Int32) (own_tab 7 (own_w1 (own_c7 p1 p2 p3 p4) pp)) (.int 0) := by have q := Arv.set Ar479 cq479 cS479 cN479 cH479 cG479 (fits_nar_char _) W479 pp (own_nat (by omega)) (by rw [own_tab_len]; omega); rw [own_tab_set _ _ (by omega)] at q; exact q
  have K479 : Keep h0 h479 [] := Keep.wr K433 W479 (Or.inr (Nat.le_of_eq g413.symm))
  have N479 := Fr.snoc X479 N433 (Nat.le_trans Z0 (Nat.le_of_eq g413.symm))
  refine own_go (B := T479.setTop (mkF m 174 #[.val (.int p1), .val (.int p2), .val (.int p3), .val (.int p4), .val (.int p5), .val (.int p6), .val (.ref b413), .val (.int 1), .val (.int (y8 &&& (32767 : Int32))), .val (.int (y9 &&& (32767 : Int32))), .val (.int (Int32.ofNat pp)), .val (.int 7), .unset, .unset, .unset, .unset, .unset, .unset] [])) (fun tg kt => ?_) ?_
  ·refine XS.goto X479.here hx rfl (pc0 := 129) (pc' := 174) rfl (hb hby at_129) (by decide) (by decide) ?_
   exact kt
  obtain ⟨cs, ecs⟩ : ∃ z, z = (own_w1 (own_c7 p1 p2 p3 p4) pp) := ⟨_, rfl⟩
  have V480 : Arv Z h479 b413 k413 .char (7 : Int32) (own_tab 7 cs) (.int 0) := (by rw [ecs]; exact V479)
  have hC : ∀ i, i < 7 → 0 ≤ (cs i).toInt ∧ (cs i).toInt ≤ 65535 := by rw [ecs]; exact (own_w1C (fun i hi => (own_c7b p1 p2 p3 p4 i hi).1))
  have h1s : cs pp = 32 := by rw [ecs]; exact own_w1p _ _
  have hno : ∀ i, i < 7 → i ≠ pp → ¬ cs i = 32 := by rw [ecs]; exact fun i hi h1 => own_w1N h1 (own_c7b p1 p2 p3 p4 i hi).2
  refine own_go (B := T479.setTop (mkF m 184 #[.val (.int p1), .val (.int p2), .val (.int p3), .val (.int p4), .val (.int p5), .val (.int p6), .val (.ref b413), .val (.int 1), .val (.int (y8 &&& (32767 : Int32))), .val (.int (y9 &&& (32767 : Int32))), .val (.int (Int32.ofNat pp)), .val (.int 7), .unset, .unset, .unset, .unset, .unset, .unset] [(.int ((p6 &&& (2147483647 : Int32)) % (2 : Int32)))])) (fun tg kt => ?_) ?_
  ·refine XS.iload X479.here hx rfl (hb hby at_174) rfl ?_
   refine X479.ldcInt hx hown (mvT hZ (hw _ (List.mem_of_getElem? (i := 6) rfl))) (g := (mkF m 176 #[.val (.int p1), .val (.int p2), .val (.int p3), .val (.int p4), .val (.int p5), .val (.int p6), .val (.ref b413), .val (.int 1), .val (.int (y8 &&& (32767 : Int32))), .val (.int (y9 &&& (32767 : Int32))), .val (.int (Int32.ofNat pp)), .val (.int 7), .unset, .unset, .unset, .unset, .unset, .unset] [(.int p6)])) rfl (hb hby at_176) _ ?_
   refine XS.iand X479.here hx rfl (hb hby at_178) rfl ?_
   refine XS.iload X479.here hx rfl (hb hby at_179) rfl ?_
   refine XS.iconst X479.here hx rfl (hb hby at_181) ?_
   refine XS.iadd X479.here hx rfl (hb hby at_182) rfl ?_
   refine iremM X479 hx rfl (hb hby at_183) rfl (by decide) ?_
   exact kt
  rcases own_w2 p6 with hw_ | hw_
  ·rw [show ((p6 &&& (2147483647 : Int32)) % (2 : Int32)) = (0 : Int32) from hw_]
   refine own_go (B := T479.setTop (mkF m 237 #[.val (.int p1), .val (.int p2), .val (.int p3), .val (.int p4), .val (.int p5), .val (.int p6), .val (.ref b413), .val (.int 1), .val (.int (y8 &&& (32767 : Int32))), .val (.int (y9 &&& (32767 : Int32))), .val (.int (Int32.ofNat pp)), .val (.int 7), .val (.int 0), .val (.int 0), .val (.int (Int32.ofNat pp)), .val (.int ((Int32.ofNat pp) - (0 : Int32))), .unset, .unset] [])) (fun tg kt => ?_) ?_
   ·refine XS.istore X479.here hx rfl (hb hby at_184) rfl (l' := #[.val (.int p1), .val (.int p2), .val (.int p3), .val (.int p4), .val (.int p5), .val (.int p6), .val (.ref b413), .val (.int 1), .val (.int (y8 &&& (32767 : Int32))), .val (.int (y9 &&& (32767 : Int32))), .val (.int (Int32.ofNat pp)), .val (.int 7), .val (.int 0), .unset, .unset, .unset, .unset, .unset]) rfl ?_
    refine XS.iload X479.here hx rfl (hb hby at_186) rfl ?_
    refine XS.ifNo X479.here hx rfl (hb hby at_188) rfl ((if0 _ _).trans (teq (by decide : (0 : Int32) = (0 : Int32))).2) ?_
    refine XS.iconst X479.here hx rfl (hb hby at_191) ?_
    refine XS.istore X479.here hx rfl (hb hby at_192) rfl (l' := #[.val (.int p1), .val (.int p2), .val (.int p3), .val (.int p4), .val (.int p5), .val (.int p6), .val (.ref b413), .val (.int 1), .val (.int (y8 &&& (32767 : Int32))), .val (.int (y9 &&& (32767 : Int32))), .val (.int (Int32.ofNat pp)), .val (.int 7), .val (.int 0), .val (.int 0), .unset, .unset, .unset, .unset]) rfl ?_
    refine XS.iload X479.here hx rfl (hb hby at_194) rfl ?_
    refine XS.istore X479.here hx rfl (hb hby at_196) rfl (l' := #[.val (.int p1), .val (.int p2), .val (.int p3), .val (.int p4), .val (.int p5), .val (.int p6), .val (.ref b413), .val (.int 1), .val (.int (y8 &&& (32767 : Int32))), .val (.int (y9 &&& (32767 : Int32))), .val (.int (Int32.ofNat pp)), .val (.int 7), .val (.int 0), .val (.int 0), .val (.int (Int32.ofNat pp)), .unset, .unset, .unset]) rfl ?_
    refine XS.goto X479.here hx rfl (pc0 := 198) (pc' := 230) rfl (hb hby at_198) (by decide) (by decide) ?_
    refine XS.iload X479.here hx rfl (hb hby at_230) rfl ?_
    refine XS.iload X479.here hx rfl (hb hby at_232) rfl ?_
    refine XS.isub X479.here hx rfl (hb hby at_234) rfl ?_
    refine XS.istore X479.here hx rfl (hb hby at_235) rfl (l' := #[.val (.int p1), .val (.int p2), .val (.int p3), .val (.int p4), .val (.int p5), .val (.int p6), .val (.ref b413), .val (.int 1), .val (.int (y8 &&& (32767 : Int32))), .val (.int (y9 &&& (32767 : Int32))), .val (.int (Int32.ofNat pp)), .val (.int 7), .val (.int 0), .val (.int 0), .val (.int (Int32.ofNat pp)), .val (.int ((Int32.ofNat pp) - (0 : Int32))), .unset, .unset]) rfl ?_
    exact kt
   rw [show ((Int32.ofNat pp) - (0 : Int32)) = (Int32.ofNat (pp - 0)) from own_isub (a := 0) (b := pp) (by omega) (by omega)]
   refine own_go (B := T479.setTop (mkF m 244 #[.val (.int p1), .val (.int p2), .val (.int p3), .val (.int p4), .val (.int p5), .val (.int p6), .val (.ref b413), .val (.int 1), .val (.int (y8 &&& (32767 : Int32))), .val (.int (y9 &&& (32767 : Int32))), .val (.int (Int32.ofNat pp)), .val (.int 7), .val (.int 0), .val (.int 0), .val (.int (Int32.ofNat pp)), .val (.int (Int32.ofNat (pp - 0))), .unset, .unset] [(.int 0), (.int (Int32.ofNat (pp - 0))), (.int 0), (.ref b413)])) (fun tg kt => ?_) ?_
   ·refine XS.aload X479.here hx rfl (hb hby at_237) rfl rfl ?_
    refine XS.iload X479.here hx rfl (hb hby at_239) rfl ?_
    refine XS.iload X479.here hx rfl (hb hby at_241) rfl ?_
    refine XS.iconst X479.here hx rfl (hb hby at_243) ?_
    exact kt
   have le482 : h0.size ≤ h479.size := (Nat.le_trans (Nat.le_trans (Nat.le_trans (Nat.le_trans (Nat.le_trans (Nat.le_trans (Nat.le_trans (Nat.le_trans E413.1 (Nat.le_of_eq (Wr.size W415).symm)) (Nat.le_of_eq (Wr.size W418).symm)) (Nat.le_of_eq (Wr.size W421).symm)) (Nat.le_of_eq (Wr.size W424).symm)) (Nat.le_of_eq (Wr.size W427).symm)) (Nat.le_of_eq (Wr.size W430).symm)) (Nat.le_of_eq (Wr.size W433).symm)) (Nat.le_of_eq (Wr.size W479).symm))
   obtain ⟨_, _, ⟨T481, L481, k481, n481⟩, -, X481, ⟨Lc481, hQ481, l481, y481, z481⟩, st481⟩ := Jvm.LawKit.callS X479 hx (y := (⟨"com/example/restate/restate/WordsHashPinLaw", "term", "([CIII)I"⟩ : MethodName)) hown (mvT hZ (hw _ (List.mem_of_getElem? (i := 7) rfl))) (mvT hZ (hw _ (List.mem_of_getElem? (i := 8) rfl))) (mvT hZ (hw _ (List.mem_of_getElem? (i := 3) rfl))) (mvT hZ (hw _ (List.mem_of_getElem? (i := 9) rfl))) (by decide) (backOf (W := 0) (rm2_0 l Z a0 hw [] b413 (0 : Int32) (Int32.ofNat (pp - 0)) k413 cs 0 (pp - 0) h479 n0 (Nat.le_trans Z0 le482) V480 (⟨own_toInt (t := 0) (by omega), own_toInt (t := pp - 0) (by omega), by omega⟩)) hZ (hw _ (List.mem_of_getElem? (i := 9) rfl)) (hw _ (List.mem_of_getElem? (i := 3) rfl)) (by decide) (by decide)) (g := (mkF m 244 #[.val (.int p1), .val (.int p2), .val (.int p3), .val (.int p4), .val (.int p5), .val (.int p6), .val (.ref b413), .val (.int 1), .val (.int (y8 &&& (32767 : Int32))), .val (.int (y9 &&& (32767 : Int32))), .val (.int (Int32.ofNat pp)), .val (.int 7), .val (.int 0), .val (.int 0), .val (.int (Int32.ofNat pp)), .val (.int (Int32.ofNat (pp - 0))), .unset, .unset] [(.int 0), (.int (Int32.ofNat (pp - 0))), (.int 0), (.ref b413)])) rfl (by rw [hml]; rfl) (argsL := [(.ref b413), (.int 0), (.int (Int32.ofNat (pp - 0))), (.int 0)]) (rest := []) (lenOf pd_24 rfl) rfl (by show 2 * 0 + _ ≤ _; exact Nat.le_of_eq rfl) (hb hby at_244) (fun _ _ => ⟨rfl, e479, (by decide : 1 + 0 ≤ _), (by decide : 7 + 0 ≤ _)⟩)
   dsimp only [Pt.U, Pt.locs, Pt.cells, Pt.slots] at X481 l481 y481 z481 st481 hQ481
   rw [l481, y481, z481] at X481
   obtain ⟨rfl, M481, q481_0⟩ := hQ481
   have N481 := Fr.app N479 M481
   refine own_go st481 ?_
   refine own_go (B := T481.setTop (mkF m 254 #[.val (.int p1), .val (.int p2), .val (.int p3), .val (.int p4), .val (.int p5), .val (.int p6), .val (.ref b413), .val (.int 1), .val (.int (y8 &&& (32767 : Int32))), .val (.int (y9 &&& (32767 : Int32))), .val (.int (Int32.ofNat pp)), .val (.int 7), .val (.int 0), .val (.int 0), .val (.int (Int32.ofNat pp)), .val (.int (Int32.ofNat (pp - 0))), .unset, .unset] [(.int 1), (.int (Int32.ofNat (pp - 0))), (.int 0), (.ref b413), (.int (own_term cs 0 (Int32.ofNat (pp - 0)) 0))])) (fun tg kt => ?_) ?_
   ·refine XS.aload X481.here hx rfl (hb hby at_247) rfl rfl ?_
    refine XS.iload X481.here hx rfl (hb hby at_249) rfl ?_
    refine XS.iload X481.here hx rfl (hb hby at_251) rfl ?_
    refine XS.iconst X481.here hx rfl (hb hby at_253) ?_
    exact kt
   obtain ⟨_, _, ⟨T483, L483, k483, n483⟩, -, X483, ⟨Lc483, hQ483, l483, y483, z483⟩, st483⟩ := Jvm.LawKit.callS X481 hx (y := (⟨"com/example/restate/restate/WordsHashPinLaw", "term", "([CIII)I"⟩ : MethodName)) hown (mvT hZ (hw _ (List.mem_of_getElem? (i := 7) rfl))) (mvT hZ (hw _ (List.mem_of_getElem? (i := 8) rfl))) (mvT hZ (hw _ (List.mem_of_getElem? (i := 3) rfl))) (mvT hZ (hw _ (List.mem_of_getElem? (i := 9) rfl))) (by decide) (backOf (W := 1) (rm2_1 l Z a0 hw [] b413 (0 : Int32) (Int32.ofNat (pp - 0)) k413 cs 0 (pp - 0) h479 n0 (Nat.le_trans Z0 le482) V480 (⟨own_toInt (t := 0) (by omega), own_toInt (t := pp - 0) (by omega), by omega⟩)) hZ (hw _ (List.mem_of_getElem? (i := 9) rfl)) (hw _ (List.mem_of_getElem? (i := 3) rfl)) (by decide) (by decide)) (g := (mkF m 254 #[.val (.int p1), .val (.int p2), .val (.int p3), .val (.int p4), .val (.int p5), .val (.int p6), .val (.ref b413), .val (.int 1), .val (.int (y8 &&& (32767 : Int32))), .val (.int (y9 &&& (32767 : Int32))), .val (.int (Int32.ofNat pp)), .val (.int 7), .val (.int 0), .val (.int 0), .val (.int (Int32.ofNat pp)), .val (.int (Int32.ofNat (pp - 0))), .unset, .unset] [(.int 1), (.int (Int32.ofNat (pp - 0))), (.int 0), (.ref b413), (.int (own_term cs 0 (Int32.ofNat (pp - 0)) 0))])) rfl (by rw [hml]; rfl) (argsL := [(.ref b413), (.int 0), (.int (Int32.ofNat (pp - 0))), (.int 1)]) (rest := [(.int (own_term cs 0 (Int32.ofNat (pp - 0)) 0))]) (lenOf pd_24 rfl) rfl (by show 2 * 0 + _ ≤ _; exact Nat.le_of_eq rfl) (hb hby at_254) (fun _ _ => ⟨rfl, q481_0, (by decide : 1 + 0 ≤ _), (by decide : 7 + 0 ≤ _)⟩)
   dsimp only [Pt.U, Pt.locs, Pt.cells, Pt.slots] at X483 l483 y483 z483 st483 hQ483
   rw [l483, y483, z483] at X483
   obtain ⟨rfl, M483, q483_0⟩ := hQ483
   have N483 := Fr.app N481 M483
   refine own_go st483 ?_
   refine own_go (B := T483.setTop (mkF m 265 #[.val (.int p1), .val (.int p2), .val (.int p3), .val (.int p4), .val (.int p5), .val (.int p6), .val (.ref b413), .val (.int 1), .val (.int (y8 &&& (32767 : Int32))), .val (.int (y9 &&& (32767 : Int32))), .val (.int (Int32.ofNat pp)), .val (.int 7), .val (.int 0), .val (.int 0), .val (.int (Int32.ofNat pp)), .val (.int (Int32.ofNat (pp - 0))), .unset, .unset] [(.int 2), (.int (Int32.ofNat (pp - 0))), (.int 0), (.ref b413), (.int ((own_term cs 0 (Int32.ofNat (pp - 0)) 0) + (own_term cs 0 (Int32.ofNat (pp - 0)) 1)))])) (fun tg kt => ?_) ?_
   ·refine XS.iadd X483.here hx rfl (hb hby at_257) rfl ?_
    refine XS.aload X483.here hx rfl (hb hby at_258) rfl rfl ?_
    refine XS.iload X483.here hx rfl (hb hby at_260) rfl ?_
    refine XS.iload X483.here hx rfl (hb hby at_262) rfl ?_
    refine XS.iconst X483.here hx rfl (hb hby at_264) ?_
    exact kt
   obtain ⟨_, _, ⟨T484, L484, k484, n484⟩, -, X484, ⟨Lc484, hQ484, l484, y484, z484⟩, st484⟩ := Jvm.LawKit.callS X483 hx (y := (⟨"com/example/restate/restate/WordsHashPinLaw", "term", "([CIII)I"⟩ : MethodName)) hown (mvT hZ (hw _ (List.mem_of_getElem? (i := 7) rfl))) (mvT hZ (hw _ (List.mem_of_getElem? (i := 8) rfl))) (mvT hZ (hw _ (List.mem_of_getElem? (i := 3) rfl))) (mvT hZ (hw _ (List.mem_of_getElem? (i := 9) rfl))) (by decide) (backOf (W := 1) (rm2_2 l Z a0 hw [] b413 (0 : Int32) (Int32.ofNat (pp - 0)) k413 cs 0 (pp - 0) h479 n0 (Nat.le_trans Z0 le482) V480 (⟨own_toInt (t := 0) (by omega), own_toInt (t := pp - 0) (by omega), by omega⟩)) hZ (hw _ (List.mem_of_getElem? (i := 9) rfl)) (hw _ (List.mem_of_getElem? (i := 3) rfl)) (by decide) (by decide)) (g := (mkF m 265 #[.val (.int p1), .val (.int p2), .val (.int p3), .val (.int p4), .val (.int p5), .val (.int p6), .val (.ref b413), .val (.int 1), .val (.int (y8 &&& (32767 : Int32))), .val (.int (y9 &&& (32767 : Int32))), .val (.int (Int32.ofNat pp)), .val (.int 7), .val (.int 0), .val (.int 0), .val (.int (Int32.ofNat pp)), .val (.int (Int32.ofNat (pp - 0))), .unset, .unset] [(.int 2), (.int (Int32.ofNat (pp - 0))), (.int 0), (.ref b413), (.int ((own_term cs 0 (Int32.ofNat (pp - 0)) 0) + (own_term cs 0 (Int32.ofNat (pp - 0)) 1)))])) rfl (by rw [hml]; rfl) (argsL := [(.ref b413), (.int 0), (.int (Int32.ofNat (pp - 0))), (.int 2)]) (rest := [(.int ((own_term cs 0 (Int32.ofNat (pp - 0)) 0) + (own_term cs 0 (Int32.ofNat (pp - 0)) 1)))]) (lenOf pd_24 rfl) rfl (by show 2 * 0 + _ ≤ _; exact Nat.le_of_eq rfl) (hb hby at_265) (fun _ _ => ⟨rfl, q483_0, (by decide : 1 + 0 ≤ _), (by decide : 7 + 0 ≤ _)⟩)
   dsimp only [Pt.U, Pt.locs, Pt.cells, Pt.slots] at X484 l484 y484 z484 st484 hQ484
   rw [l484, y484, z484] at X484
   obtain ⟨rfl, M484, q484_0⟩ := hQ484
   have N484 := Fr.app N483 M484
   refine own_go st484 ?_
   refine own_go (B := T484.setTop (mkF m 276 #[.val (.int p1), .val (.int p2), .val (.int p3), .val (.int p4), .val (.int p5), .val (.int p6), .val (.ref b413), .val (.int 1), .val (.int (y8 &&& (32767 : Int32))), .val (.int (y9 &&& (32767 : Int32))), .val (.int (Int32.ofNat pp)), .val (.int 7), .val (.int 0), .val (.int 0), .val (.int (Int32.ofNat pp)), .val (.int (Int32.ofNat (pp - 0))), .unset, .unset] [(.int 3), (.int (Int32.ofNat (pp - 0))), (.int 0), (.ref b413), (.int (((own_term cs 0 (Int32.ofNat (pp - 0)) 0) + (own_term cs 0 (Int32.ofNat (pp - 0)) 1)) + (own_term cs 0 (Int32.ofNat (pp - 0)) 2)))])) (fun tg kt => ?_) ?_
   ·refine XS.iadd X484.here hx rfl (hb hby at_268) rfl ?_
    refine XS.aload X484.here hx rfl (hb hby at_269) rfl rfl ?_
    refine XS.iload X484.here hx rfl (hb hby at_271) rfl ?_
    refine XS.iload X484.here hx rfl (hb hby at_273) rfl ?_
    refine XS.iconst X484.here hx rfl (hb hby at_275) ?_
    exact kt
   obtain ⟨_, _, ⟨T485, L485, k485, n485⟩, -, X485, ⟨Lc485, hQ485, l485, y485, z485⟩, st485⟩ := Jvm.LawKit.callS X484 hx (y := (⟨"com/example/restate/restate/WordsHashPinLaw", "term", "([CIII)I"⟩ : MethodName)) hown (mvT hZ (hw _ (List.mem_of_getElem? (i := 7) rfl))) (mvT hZ (hw _ (List.mem_of_getElem? (i := 8) rfl))) (mvT hZ (hw _ (List.mem_of_getElem? (i := 3) rfl))) (mvT hZ (hw _ (List.mem_of_getElem? (i := 9) rfl))) (by decide) (backOf (W := 1) (rm2_3 l Z a0 hw [] b413 (0 : Int32) (Int32.ofNat (pp - 0)) k413 cs 0 (pp - 0) h479 n0 (Nat.le_trans Z0 le482) V480 (⟨own_toInt (t := 0) (by omega), own_toInt (t := pp - 0) (by omega), by omega⟩)) hZ (hw _ (List.mem_of_getElem? (i := 9) rfl)) (hw _ (List.mem_of_getElem? (i := 3) rfl)) (by decide) (by decide)) (g := (mkF m 276 #[.val (.int p1), .val (.int p2), .val (.int p3), .val (.int p4), .val (.int p5), .val (.int p6), .val (.ref b413), .val (.int 1), .val (.int (y8 &&& (32767 : Int32))), .val (.int (y9 &&& (32767 : Int32))), .val (.int (Int32.ofNat pp)), .val (.int 7), .val (.int 0), .val (.int 0), .val (.int (Int32.ofNat pp)), .val (.int (Int32.ofNat (pp - 0))), .unset, .unset] [(.int 3), (.int (Int32.ofNat (pp - 0))), (.int 0), (.ref b413), (.int (((own_term cs 0 (Int32.ofNat (pp - 0)) 0) + (own_term cs 0 (Int32.ofNat (pp - 0)) 1)) + (own_term cs 0 (Int32.ofNat (pp - 0)) 2)))])) rfl (by rw [hml]; rfl) (argsL := [(.ref b413), (.int 0), (.int (Int32.ofNat (pp - 0))), (.int 3)]) (rest := [(.int (((own_term cs 0 (Int32.ofNat (pp - 0)) 0) + (own_term cs 0 (Int32.ofNat (pp - 0)) 1)) + (own_term cs 0 (Int32.ofNat (pp - 0)) 2)))]) (lenOf pd_24 rfl) rfl (by show 2 * 0 + _ ≤ _; exact Nat.le_of_eq rfl) (hb hby at_276) (fun _ _ => ⟨rfl, q484_0, (by decide : 1 + 0 ≤ _), (by decide : 7 + 0 ≤ _)⟩)
   dsimp only [Pt.U, Pt.locs, Pt.cells, Pt.slots] at X485 l485 y485 z485 st485 hQ485
   rw [l485, y485, z485] at X485
   obtain ⟨rfl, M485, q485_0⟩ := hQ485
   have N485 := Fr.app N484 M485
   refine own_go st485 ?_
   refine own_go (B := T485.setTop (mkF m 287 #[.val (.int p1), .val (.int p2), .val (.int p3), .val (.int p4), .val (.int p5), .val (.int p6), .val (.ref b413), .val (.int 1), .val (.int (y8 &&& (32767 : Int32))), .val (.int (y9 &&& (32767 : Int32))), .val (.int (Int32.ofNat pp)), .val (.int 7), .val (.int 0), .val (.int 0), .val (.int (Int32.ofNat pp)), .val (.int (Int32.ofNat (pp - 0))), .unset, .unset] [(.int 4), (.int (Int32.ofNat (pp - 0))), (.int 0), (.ref b413), (.int ((((own_term cs 0 (Int32.ofNat (pp - 0)) 0) + (own_term cs 0 (Int32.ofNat (pp - 0)) 1)) + (own_term cs 0 (Int32.ofNat (pp - 0)) 2)) + (own_term cs 0 (Int32.ofNat (pp - 0)) 3)))])) (fun tg kt => ?_) ?_
   ·refine XS.iadd X485.here hx rfl (hb hby at_279) rfl ?_
    refine XS.aload X485.here hx rfl (hb hby at_280) rfl rfl ?_
    refine XS.iload X485.here hx rfl (hb hby at_282) rfl ?_
    refine XS.iload X485.here hx rfl (hb hby at_284) rfl ?_
    refine XS.iconst X485.here hx rfl (hb hby at_286) ?_
    exact kt
   obtain ⟨_, _, ⟨T486, L486, k486, n486⟩, -, X486, ⟨Lc486, hQ486, l486, y486, z486⟩, st486⟩ := Jvm.LawKit.callS X485 hx (y := (⟨"com/example/restate/restate/WordsHashPinLaw", "term", "([CIII)I"⟩ : MethodName)) hown (mvT hZ (hw _ (List.mem_of_getElem? (i := 7) rfl))) (mvT hZ (hw _ (List.mem_of_getElem? (i := 8) rfl))) (mvT hZ (hw _ (List.mem_of_getElem? (i := 3) rfl))) (mvT hZ (hw _ (List.mem_of_getElem? (i := 9) rfl))) (by decide) (backOf (W := 1) (rm2_4 l Z a0 hw [] b413 (0 : Int32) (Int32.ofNat (pp - 0)) k413 cs 0 (pp - 0) h479 n0 (Nat.le_trans Z0 le482) V480 (⟨own_toInt (t := 0) (by omega), own_toInt (t := pp - 0) (by omega), by omega⟩)) hZ (hw _ (List.mem_of_getElem? (i := 9) rfl)) (hw _ (List.mem_of_getElem? (i := 3) rfl)) (by decide) (by decide)) (g := (mkF m 287 #[.val (.int p1), .val (.int p2), .val (.int p3), .val (.int p4), .val (.int p5), .val (.int p6), .val (.ref b413), .val (.int 1), .val (.int (y8 &&& (32767 : Int32))), .val (.int (y9 &&& (32767 : Int32))), .val (.int (Int32.ofNat pp)), .val (.int 7), .val (.int 0), .val (.int 0), .val (.int (Int32.ofNat pp)), .val (.int (Int32.ofNat (pp - 0))), .unset, .unset] [(.int 4), (.int (Int32.ofNat (pp - 0))), (.int 0), (.ref b413), (.int ((((own_term cs 0 (Int32.ofNat (pp - 0)) 0) + (own_term cs 0 (Int32.ofNat (pp - 0)) 1)) + (own_term cs 0 (Int32.ofNat (pp - 0)) 2)) + (own_term cs 0 (Int32.ofNat (pp - 0)) 3)))])) rfl (by rw [hml]; rfl) (argsL := [(.ref b413), (.int 0), (.int (Int32.ofNat (pp - 0))), (.int 4)]) (rest := [(.int ((((own_term cs 0 (Int32.ofNat (pp - 0)) 0) + (own_term cs 0 (Int32.ofNat (pp - 0)) 1)) + (own_term cs 0 (Int32.ofNat (pp - 0)) 2)) + (own_term cs 0 (Int32.ofNat (pp - 0)) 3)))]) (lenOf pd_24 rfl) rfl (by show 2 * 0 + _ ≤ _; exact Nat.le_of_eq rfl) (hb hby at_287) (fun _ _ => ⟨rfl, q485_0, (by decide : 1 + 0 ≤ _), (by decide : 7 + 0 ≤ _)⟩)
   dsimp only [Pt.U, Pt.locs, Pt.cells, Pt.slots] at X486 l486 y486 z486 st486 hQ486
   rw [l486, y486, z486] at X486
   obtain ⟨rfl, M486, q486_0⟩ := hQ486
   have N486 := Fr.app N485 M486
   refine own_go st486 ?_
   refine own_go (B := T486.setTop (mkF m 298 #[.val (.int p1), .val (.int p2), .val (.int p3), .val (.int p4), .val (.int p5), .val (.int p6), .val (.ref b413), .val (.int 1), .val (.int (y8 &&& (32767 : Int32))), .val (.int (y9 &&& (32767 : Int32))), .val (.int (Int32.ofNat pp)), .val (.int 7), .val (.int 0), .val (.int 0), .val (.int (Int32.ofNat pp)), .val (.int (Int32.ofNat (pp - 0))), .unset, .unset] [(.int 5), (.int (Int32.ofNat (pp - 0))), (.int 0), (.ref b413), (.int (((((own_term cs 0 (Int32.ofNat (pp - 0)) 0) + (own_term cs 0 (Int32.ofNat (pp - 0)) 1)) + (own_term cs 0 (Int32.ofNat (pp - 0)) 2)) + (own_term cs 0 (Int32.ofNat (pp - 0)) 3)) + (own_term cs 0 (Int32.ofNat (pp - 0)) 4)))])) (fun tg kt => ?_) ?_
   ·refine XS.iadd X486.here hx rfl (hb hby at_290) rfl ?_
    refine XS.aload X486.here hx rfl (hb hby at_291) rfl rfl ?_
    refine XS.iload X486.here hx rfl (hb hby at_293) rfl ?_
    refine XS.iload X486.here hx rfl (hb hby at_295) rfl ?_
    refine XS.iconst X486.here hx rfl (hb hby at_297) ?_
    exact kt
   obtain ⟨_, _, ⟨T487, L487, k487, n487⟩, -, X487, ⟨Lc487, hQ487, l487, y487, z487⟩, st487⟩ := Jvm.LawKit.callS X486 hx (y := (⟨"com/example/restate/restate/WordsHashPinLaw", "term", "([CIII)I"⟩ : MethodName)) hown (mvT hZ (hw _ (List.mem_of_getElem? (i := 7) rfl))) (mvT hZ (hw _ (List.mem_of_getElem? (i := 8) rfl))) (mvT hZ (hw _ (List.mem_of_getElem? (i := 3) rfl))) (mvT hZ (hw _ (List.mem_of_getElem? (i := 9) rfl))) (by decide) (backOf (W := 1) (rm2_5 l Z a0 hw [] b413 (0 : Int32) (Int32.ofNat (pp - 0)) k413 cs 0 (pp - 0) h479 n0 (Nat.le_trans Z0 le482) V480 (⟨own_toInt (t := 0) (by omega), own_toInt (t := pp - 0) (by omega), by omega⟩)) hZ (hw _ (List.mem_of_getElem? (i := 9) rfl)) (hw _ (List.mem_of_getElem? (i := 3) rfl)) (by decide) (by decide)) (g := (mkF m 298 #[.val (.int p1), .val (.int p2), .val (.int p3), .val (.int p4), .val (.int p5), .val (.int p6), .val (.ref b413), .val (.int 1), .val (.int (y8 &&& (32767 : Int32))), .val (.int (y9 &&& (32767 : Int32))), .val (.int (Int32.ofNat pp)), .val (.int 7), .val (.int 0), .val (.int 0), .val (.int (Int32.ofNat pp)), .val (.int (Int32.ofNat (pp - 0))), .unset, .unset] [(.int 5), (.int (Int32.ofNat (pp - 0))), (.int 0), (.ref b413), (.int (((((own_term cs 0 (Int32.ofNat (pp - 0)) 0) + (own_term cs 0 (Int32.ofNat (pp - 0)) 1)) + (own_term cs 0 (Int32.ofNat (pp - 0)) 2)) + (own_term cs 0 (Int32.ofNat (pp - 0)) 3)) + (own_term cs 0 (Int32.ofNat (pp - 0)) 4)))])) rfl (by rw [hml]; rfl) (argsL := [(.ref b413), (.int 0), (.int (Int32.ofNat (pp - 0))), (.int 5)]) (rest := [(.int (((((own_term cs 0 (Int32.ofNat (pp - 0)) 0) + (own_term cs 0 (Int32.ofNat (pp - 0)) 1)) + (own_term cs 0 (Int32.ofNat (pp - 0)) 2)) + (own_term cs 0 (Int32.ofNat (pp - 0)) 3)) + (own_term cs 0 (Int32.ofNat (pp - 0)) 4)))]) (lenOf pd_24 rfl) rfl (by show 2 * 0 + _ ≤ _; exact Nat.le_of_eq rfl) (hb hby at_298) (fun _ _ => ⟨rfl, q486_0, (by decide : 1 + 0 ≤ _), (by decide : 7 + 0 ≤ _)⟩)
   dsimp only [Pt.U, Pt.locs, Pt.cells, Pt.slots] at X487 l487 y487 z487 st487 hQ487
   rw [l487, y487, z487] at X487
   obtain ⟨rfl, M487, q487_0⟩ := hQ487
   have N487 := Fr.app N486 M487
   refine own_go st487 ?_
   refine own_go (B := T487.setTop (mkF m 310 #[.val (.int p1), .val (.int p2), .val (.int p3), .val (.int p4), .val (.int p5), .val (.int p6), .val (.ref b413), .val (.int 1), .val (.int (y8 &&& (32767 : Int32))), .val (.int (y9 &&& (32767 : Int32))), .val (.int (Int32.ofNat pp)), .val (.int 7), .val (.int 0), .val (.int 0), .val (.int (Int32.ofNat pp)), .val (.int (Int32.ofNat (pp - 0))), .unset, .unset] [(.int 6), (.int (Int32.ofNat (pp - 0))), (.int 0), (.ref b413), (.int ((((((own_term cs 0 (Int32.ofNat (pp - 0)) 0) + (own_term cs 0 (Int32.ofNat (pp - 0)) 1)) + (own_term cs 0 (Int32.ofNat (pp - 0)) 2)) + (own_term cs 0 (Int32.ofNat (pp - 0)) 3)) + (own_term cs 0 (Int32.ofNat (pp - 0)) 4)) + (own_term cs 0 (Int32.ofNat (pp - 0)) 5)))])) (fun tg kt => ?_) ?_
   ·refine XS.iadd X487.here hx rfl (hb hby at_301) rfl ?_
    refine XS.aload X487.here hx rfl (hb hby at_302) rfl rfl ?_
    refine XS.iload X487.here hx rfl (hb hby at_304) rfl ?_
    refine XS.iload X487.here hx rfl (hb hby at_306) rfl ?_
    refine XS.bipush X487.here hx rfl (hb hby at_308) ?_
    exact kt
   obtain ⟨_, _, ⟨T488, L488, k488, n488⟩, -, X488, ⟨Lc488, hQ488, l488, y488, z488⟩, st488⟩ := Jvm.LawKit.callS X487 hx (y := (⟨"com/example/restate/restate/WordsHashPinLaw", "term", "([CIII)I"⟩ : MethodName)) hown (mvT hZ (hw _ (List.mem_of_getElem? (i := 7) rfl))) (mvT hZ (hw _ (List.mem_of_getElem? (i := 8) rfl))) (mvT hZ (hw _ (List.mem_of_getElem? (i := 3) rfl))) (mvT hZ (hw _ (List.mem_of_getElem? (i := 9) rfl))) (by decide) (backOf (W := 1) (rm2_6 l Z a0 hw [] b413 (0 : Int32) (Int32.ofNat (pp - 0)) k413 cs 0 (pp - 0) h479 n0 (Nat.le_trans Z0 le482) V480 (⟨own_toInt (t := 0) (by omega), own_toInt (t := pp - 0) (by omega), by omega⟩)) hZ (hw _ (List.mem_of_getElem? (i := 9) rfl)) (hw _ (List.mem_of_getElem? (i := 3) rfl)) (by decide) (by decide)) (g := (mkF m 310 #[.val (.int p1), .val (.int p2), .val (.int p3), .val (.int p4), .val (.int p5), .val (.int p6), .val (.ref b413), .val (.int 1), .val (.int (y8 &&& (32767 : Int32))), .val (.int (y9 &&& (32767 : Int32))), .val (.int (Int32.ofNat pp)), .val (.int 7), .val (.int 0), .val (.int 0), .val (.int (Int32.ofNat pp)), .val (.int (Int32.ofNat (pp - 0))), .unset, .unset] [(.int 6), (.int (Int32.ofNat (pp - 0))), (.int 0), (.ref b413), (.int ((((((own_term cs 0 (Int32.ofNat (pp - 0)) 0) + (own_term cs 0 (Int32.ofNat (pp - 0)) 1)) + (own_term cs 0 (Int32.ofNat (pp - 0)) 2)) + (own_term cs 0 (Int32.ofNat (pp - 0)) 3)) + (own_term cs 0 (Int32.ofNat (pp - 0)) 4)) + (own_term cs 0 (Int32.ofNat (pp - 0)) 5)))])) rfl (by rw [hml]; rfl) (argsL := [(.ref b413), (.int 0), (.int (Int32.ofNat (pp - 0))), (.int 6)]) (rest := [(.int ((((((own_term cs 0 (Int32.ofNat (pp - 0)) 0) + (own_term cs 0 (Int32.ofNat (pp - 0)) 1)) + (own_term cs 0 (Int32.ofNat (pp - 0)) 2)) + (own_term cs 0 (Int32.ofNat (pp - 0)) 3)) + (own_term cs 0 (Int32.ofNat (pp - 0)) 4)) + (own_term cs 0 (Int32.ofNat (pp - 0)) 5)))]) (lenOf pd_24 rfl) rfl (by show 2 * 0 + _ ≤ _; exact Nat.le_of_eq rfl) (hb hby at_310) (fun _ _ => ⟨rfl, q487_0, (by decide : 1 + 0 ≤ _), (by decide : 7 + 0 ≤ _)⟩)
   dsimp only [Pt.U, Pt.locs, Pt.cells, Pt.slots] at X488 l488 y488 z488 st488 hQ488
   rw [l488, y488, z488] at X488
   obtain ⟨rfl, M488, q488_0⟩ := hQ488
   have N488 := Fr.app N487 M488
   refine own_go st488 ?_
   refine own_go (B := T488.setTop (mkF m 316 #[.val (.int p1), .val (.int p2), .val (.int p3), .val (.int p4), .val (.int p5), .val (.int p6), .val (.ref b413), .val (.int 1), .val (.int (y8 &&& (32767 : Int32))), .val (.int (y9 &&& (32767 : Int32))), .val (.int (Int32.ofNat pp)), .val (.int 7), .val (.int 0), .val (.int 0), .val (.int (Int32.ofNat pp)), .val (.int (Int32.ofNat (pp - 0))), .val (.int (((((((own_term cs 0 (Int32.ofNat (pp - 0)) 0) + (own_term cs 0 (Int32.ofNat (pp - 0)) 1)) + (own_term cs 0 (Int32.ofNat (pp - 0)) 2)) + (own_term cs 0 (Int32.ofNat (pp - 0)) 3)) + (own_term cs 0 (Int32.ofNat (pp - 0)) 4)) + (own_term cs 0 (Int32.ofNat (pp - 0)) 5)) + (own_term cs 0 (Int32.ofNat (pp - 0)) 6))), .unset] [])) (fun tg kt => ?_) ?_
   ·refine XS.iadd X488.here hx rfl (hb hby at_313) rfl ?_
    refine XS.istore X488.here hx rfl (hb hby at_314) rfl (l' := #[.val (.int p1), .val (.int p2), .val (.int p3), .val (.int p4), .val (.int p5), .val (.int p6), .val (.ref b413), .val (.int 1), .val (.int (y8 &&& (32767 : Int32))), .val (.int (y9 &&& (32767 : Int32))), .val (.int (Int32.ofNat pp)), .val (.int 7), .val (.int 0), .val (.int 0), .val (.int (Int32.ofNat pp)), .val (.int (Int32.ofNat (pp - 0))), .val (.int (((((((own_term cs 0 (Int32.ofNat (pp - 0)) 0) + (own_term cs 0 (Int32.ofNat (pp - 0)) 1)) + (own_term cs 0 (Int32.ofNat (pp - 0)) 2)) + (own_term cs 0 (Int32.ofNat (pp - 0)) 3)) + (own_term cs 0 (Int32.ofNat (pp - 0)) 4)) + (own_term cs 0 (Int32.ofNat (pp - 0)) 5)) + (own_term cs 0 (Int32.ofNat (pp - 0)) 6))), .unset]) rfl ?_
    exact kt
   rw [show (((((((own_term cs 0 (Int32.ofNat (pp - 0)) 0) + (own_term cs 0 (Int32.ofNat (pp - 0)) 1)) + (own_term cs 0 (Int32.ofNat (pp - 0)) 2)) + (own_term cs 0 (Int32.ofNat (pp - 0)) 3)) + (own_term cs 0 (Int32.ofNat (pp - 0)) 4)) + (own_term cs 0 (Int32.ofNat (pp - 0)) 5)) + (own_term cs 0 (Int32.ofNat (pp - 0)) 6)) = (own_h cs 0 pp) from own_sum (a := 0) (b := pp) (by omega) (by omega)]
   obtain ⟨T489, h489, X489, e489, E489, A489, D489, -, st489⟩ := newO X488 hx hZ hown (hw _ (List.mem_of_getElem? (i := 16) rfl)) (hw _ (List.mem_of_getElem? (i := 17) rfl)) (hw _ (List.mem_of_getElem? (i := 18) rfl)) q488_0 (g := (mkF m 316 #[.val (.int p1), .val (.int p2), .val (.int p3), .val (.int p4), .val (.int p5), .val (.int p6), .val (.ref b413), .val (.int 1), .val (.int (y8 &&& (32767 : Int32))), .val (.int (y9 &&& (32767 : Int32))), .val (.int (Int32.ofNat pp)), .val (.int 7), .val (.int 0), .val (.int 0), .val (.int (Int32.ofNat pp)), .val (.int (Int32.ofNat (pp - 0))), .val (.int (own_h cs 0 pp)), .unset] [])) rfl (hb hby at_316) (by decide) (by decide)
   obtain ⟨b489, g489⟩ : ∃ z, z = h479.size := ⟨_, rfl⟩
   rw [← g489] at A489 D489 st489
   refine own_go st489 ?_
   have K489 : Keep h0 h489 [] := Keep.ext K479 E489
   have F489_53 : Fld Z h489 b489 "com/example/restate/restate/Words" "line" "Ljava/lang/String;" .null := D489 (Or.inr (hw _ (List.mem_of_getElem? (i := 53) rfl))) (ty := (.object "java/lang/String")) (by decide)
   have F489_117 : Fld Z h489 b489 "com/example/restate/restate/Words" "starts" "[I" .null := D489 (Or.inr (hw _ (List.mem_of_getElem? (i := 117) rfl))) (ty := (.array .int)) (by decide)
   refine own_go (B := T489.setTop (mkF m 320 #[.val (.int p1), .val (.int p2), .val (.int p3), .val (.int p4), .val (.int p5), .val (.int p6), .val (.ref b413), .val (.int 1), .val (.int (y8 &&& (32767 : Int32))), .val (.int (y9 &&& (32767 : Int32))), .val (.int (Int32.ofNat pp)), .val (.int 7), .val (.int 0), .val (.int 0), .val (.int (Int32.ofNat pp)), .val (.int (Int32.ofNat (pp - 0))), .val (.int (own_h cs 0 pp)), .unset] [(.ref b489), (.ref b489)])) (fun tg kt => ?_) ?_
   ·refine XS.dup X489.here hx rfl (hb hby at_319) rfl rfl ?_
    exact kt
   obtain ⟨T490, h490, X490, e490, E490, A490, D490, -, st490⟩ := newO X489 hx hZ hown (hw _ (List.mem_of_getElem? (i := 19) rfl)) (hw _ (List.mem_of_getElem? (i := 20) rfl)) (hw _ (List.mem_of_getElem? (i := 21) rfl)) e489 (g := (mkF m 320 #[.val (.int p1), .val (.int p2), .val (.int p3), .val (.int p4), .val (.int p5), .val (.int p6), .val (.ref b413), .val (.int 1), .val (.int (y8 &&& (32767 : Int32))), .val (.int (y9 &&& (32767 : Int32))), .val (.int (Int32.ofNat pp)), .val (.int 7), .val (.int 0), .val (.int 0), .val (.int (Int32.ofNat pp)), .val (.int (Int32.ofNat (pp - 0))), .val (.int (own_h cs 0 pp)), .unset] [(.ref b489), (.ref b489)])) rfl (hb hby at_320) (by decide) (by decide)
   obtain ⟨b490, g490⟩ : ∃ z, z = h489.size := ⟨_, rfl⟩
   rw [← g490] at A490 D490 st490
   refine own_go st490 ?_
   have K490 : Keep h0 h490 [] := Keep.ext K489 E490
   have F490_45 : Fld Z h490 b490 "java/lang/String" "coder" "B" (.int 0) := D490 (Or.inr (hw _ (List.mem_of_getElem? (i := 45) rfl))) (ty := .byte) (by decide)
   have F490_47 : Fld Z h490 b490 "java/lang/String" "value" "[B" .null := D490 (Or.inr (hw _ (List.mem_of_getElem? (i := 47) rfl))) (ty := (.array .byte)) (by decide)
   refine own_go (B := T490.setTop (mkF m 326 #[.val (.int p1), .val (.int p2), .val (.int p3), .val (.int p4), .val (.int p5), .val (.int p6), .val (.ref b413), .val (.int 1), .val (.int (y8 &&& (32767 : Int32))), .val (.int (y9 &&& (32767 : Int32))), .val (.int (Int32.ofNat pp)), .val (.int 7), .val (.int 0), .val (.int 0), .val (.int (Int32.ofNat pp)), .val (.int (Int32.ofNat (pp - 0))), .val (.int (own_h cs 0 pp)), .unset] [(.ref b413), (.ref b490), (.ref b490), (.ref b489), (.ref b489)])) (fun tg kt => ?_) ?_
   ·refine XS.dup X490.here hx rfl (hb hby at_323) rfl rfl ?_
    refine XS.aload X490.here hx rfl (hb hby at_324) rfl rfl ?_
    exact kt
   have le492 : h0.size ≤ h489.size := (Nat.le_trans (Nat.le_trans (Nat.le_trans (Nat.le_trans (Nat.le_trans (Nat.le_trans (Nat.le_trans (Nat.le_trans (Nat.le_trans E413.1 (Nat.le_of_eq (Wr.size W415).symm)) (Nat.le_of_eq (Wr.size W418).symm)) (Nat.le_of_eq (Wr.size W421).symm)) (Nat.le_of_eq (Wr.size W424).symm)) (Nat.le_of_eq (Wr.size W427).symm)) (Nat.le_of_eq (Wr.size W430).symm)) (Nat.le_of_eq (Wr.size W433).symm)) (Nat.le_of_eq (Wr.size W479).symm)) E489.1)
   have f493 : Sta Z h490 "java/lang/String" "COMPACT_STRINGS" "Z" (.int w_COMPACT_STRINGS) := (((((((((((S_COMPACT_STRINGS.ext E413).wr W415).wr W418).wr W421).wr W424).wr W427).wr W430).wr W433).wr W479).ext E489).ext E490)
   have f494 : Sta Z h490 "java/lang/StringUTF16" "$assertionsDisabled" "Z" (.int 1) := (((((((((((S__assertionsDisabled.ext E413).wr W415).wr W418).wr W421).wr W424).wr W427).wr W430).wr W433).wr W479).ext E489).ext E490)
   have f495 : Sta Z h490 "java/lang/StringUTF16" "HI_BYTE_SHIFT" "I" (.int 0) := (((((((((((S_HI_BYTE_SHIFT.ext E413).wr W415).wr W418).wr W421).wr W424).wr W427).wr W430).wr W433).wr W479).ext E489).ext E490)
   have f496 : Sta Z h490 "java/lang/StringUTF16" "LO_BYTE_SHIFT" "I" (.int 8) := (((((((((((S_LO_BYTE_SHIFT.ext E413).wr W415).wr W418).wr W421).wr W424).wr W427).wr W430).wr W433).wr W479).ext E489).ext E490)
   have f497 : Arv Z h490 b413 k413 .char (7 : Int32) (own_tab 7 cs) (.int 0) := ((V480.ext E489).ext E490)
   have le498 : h0.size ≤ h490.size := (Nat.le_trans (Nat.le_trans (Nat.le_trans (Nat.le_trans (Nat.le_trans (Nat.le_trans (Nat.le_trans (Nat.le_trans (Nat.le_trans (Nat.le_trans E413.1 (Nat.le_of_eq (Wr.size W415).symm)) (Nat.le_of_eq (Wr.size W418).symm)) (Nat.le_of_eq (Wr.size W421).symm)) (Nat.le_of_eq (Wr.size W424).symm)) (Nat.le_of_eq (Wr.size W427).symm)) (Nat.le_of_eq (Wr.size W430).symm)) (Nat.le_of_eq (Wr.size W433).symm)) (Nat.le_of_eq (Wr.size W479).symm)) E489.1) E490.1)
   obtain ⟨_, _, ⟨T491, L491, k491, n491⟩, -, X491, ⟨Lc491, hQ491, l491, y491, z491⟩, st491⟩ := X490.specialBack hx (y := (⟨"java/lang/String", "<init>", "([C)V"⟩ : MethodName)) rfl hown (mvT hZ (hw _ (List.mem_of_getElem? (i := 22) rfl))) (mvT hZ (hw _ (List.mem_of_getElem? (i := 23) rfl))) (mvT hZ (hw _ (List.mem_of_getElem? (i := 24) rfl))) (by decide) (backOf (W := 3) (rm4 l Z a0 hw [] b490 b413 w_COMPACT_STRINGS k413 cs h490 n0 (Nat.le_trans Z0 le498) A490 F490_47 F490_45 (Nat.le_trans (Nat.le_trans Z0 le492) (Nat.le_of_eq g490.symm)) f493 (N_COMPACT_STRINGS) f494 f495 f496 f497 (hC)) hZ (hw _ (List.mem_of_getElem? (i := 24) rfl)) (hw _ (List.mem_of_getElem? (i := 21) rfl)) (by decide) (by decide)) (g := (mkF m 326 #[.val (.int p1), .val (.int p2), .val (.int p3), .val (.int p4), .val (.int p5), .val (.int p6), .val (.ref b413), .val (.int 1), .val (.int (y8 &&& (32767 : Int32))), .val (.int (y9 &&& (32767 : Int32))), .val (.int (Int32.ofNat pp)), .val (.int 7), .val (.int 0), .val (.int 0), .val (.int (Int32.ofNat pp)), .val (.int (Int32.ofNat (pp - 0))), .val (.int (own_h cs 0 pp)), .unset] [(.ref b413), (.ref b490), (.ref b490), (.ref b489), (.ref b489)])) rfl (by rw [hml]; rfl) (Steps.refl _) (a := b490) (argsL := [(.ref b413)]) (rest := [(.ref b490), (.ref b489), (.ref b489)]) (lenOf pd_25 rfl) rfl (by show 2 * 0 + _ ≤ _; exact Nat.le_of_eq rfl) (hb hby at_326) (fun _ _ => ⟨rfl, e490, (by decide : 3 + 2 ≤ _), (by decide : 13 + 21 ≤ _)⟩)
   dsimp only [Pt.U, Pt.locs, Pt.cells, Pt.slots] at X491 l491 y491 z491 st491 hQ491
   rw [l491, y491, z491] at X491
   obtain ⟨bn_491, kn_491, nb_491, vb_491, rfl, M491, q491_0, q491_1, q491_2, q491_3, q491_4, q491_5, q491_6⟩ := hQ491
   have N491 := Fr.app N488 M491
   have K491 : Keep h0 T491.heap [] := Keep.trans K490 q491_0 (allS (Or.inr (Nat.le_trans le492 (Nat.le_of_eq g490.symm))) all0)
   refine own_go (fun t k => st491.trans k) ?_
   have f500 : Exa Z T491.heap b489 "com/example/restate/restate/Words" := ((A489.ext E490).keep q491_0)
   have ne501 : b489 ≠ b490 := (Nat.ne_of_lt (Nat.lt_of_lt_of_le A489.lt (Nat.le_of_eq g490.symm)))
   have f502 : Fld Z T491.heap b489 "com/example/restate/restate/Words" "line" "Ljava/lang/String;" .null := ((F489_53.ext E490).keep q491_0 (ninS ne501 nin0))
   have f503 : Fld Z T491.heap b489 "com/example/restate/restate/Words" "starts" "[I" .null := ((F489_117.ext E490).keep q491_0 (ninS ne501 nin0))
   have f504 : Sta Z T491.heap "java/lang/String" "COMPACT_STRINGS" "Z" (.int w_COMPACT_STRINGS) := (own_staKeep f493 q491_0 (own_nsS (own_nsE A490) own_ns0))
   have f505 : Sta Z T491.heap "java/lang/StringUTF16" "$assertionsDisabled" "Z" (.int 1) := (own_staKeep f494 q491_0 (own_nsS (own_nsE A490) own_ns0))
   have f506 : Sta Z T491.heap "java/lang/StringUTF16" "HI_BYTE_SHIFT" "I" (.int 0) := (own_staKeep f495 q491_0 (own_nsS (own_nsE A490) own_ns0))
   have f507 : Sta Z T491.heap "java/lang/StringUTF16" "LO_BYTE_SHIFT" "I" (.int 8) := (own_staKeep f496 q491_0 (own_nsS (own_nsE A490) own_ns0))
   have f508 : Sta Z T491.heap "jdk/internal/util/Preconditions" "SIOOBE_FORMATTER" "Ljava/util/function/BiFunction;" (own_rv w_SIOOBE_FORMATTER) := (own_staKeep (((((((((((S_SIOOBE_FORMATTER.ext E413).wr W415).wr W418).wr W421).wr W424).wr W427).wr W430).wr W433).wr W479).ext E489).ext E490) q491_0 (own_nsS (own_nsE A490) own_ns0))
   have ne509 : b489 ≠ bn_491 := (Nat.ne_of_lt (Nat.lt_of_lt_of_le (Nat.lt_of_lt_of_le A489.lt E490.1) q491_1))
   have le510 : h0.size ≤ T491.heap.size := (Nat.le_trans (Nat.le_trans (Nat.le_trans (Nat.le_trans (Nat.le_trans (Nat.le_trans (Nat.le_trans (Nat.le_trans (Nat.le_trans (Nat.le_trans (Nat.le_trans E413.1 (Nat.le_of_eq (Wr.size W415).symm)) (Nat.le_of_eq (Wr.size W418).symm)) (Nat.le_of_eq (Wr.size W421).symm)) (Nat.le_of_eq (Wr.size W424).symm)) (Nat.le_of_eq (Wr.size W427).symm)) (Nat.le_of_eq (Wr.size W430).symm)) (Nat.le_of_eq (Wr.size W433).symm)) (Nat.le_of_eq (Wr.size W479).symm)) E489.1) E490.1) q491_0.1)
   obtain ⟨_, _, ⟨T499, L499, k499, n499⟩, -, X499, ⟨Lc499, hQ499, l499, y499, z499⟩, st499⟩ := X491.specialBack hx (y := (⟨"com/example/restate/restate/Words", "<init>", "(Ljava/lang/String;)V"⟩ : MethodName)) rfl hown (mvT hZ (hw _ (List.mem_of_getElem? (i := 48) rfl))) (mvT hZ (hw _ (List.mem_of_getElem? (i := 49) rfl))) (mvT hZ (hw _ (List.mem_of_getElem? (i := 50) rfl))) (by decide) (backOf (W := 1) (rm10_1 l Z a0 hw [] b489 b490 w_COMPACT_STRINGS w_SIOOBE_FORMATTER bn_491 kn_491 (own_cf nb_491) nb_491 vb_491 cs pp T491.heap n0 (Nat.le_trans Z0 le510) f500 f502 f503 (Nat.le_trans (Nat.le_trans Z0 le482) (Nat.le_of_eq g489.symm)) f504 (by first | assumption | decide) f505 f506 f507 f508 q491_2 q491_4 q491_3 q491_5 (q491_6) (hC) (hpp) (h1s) (hno) ne501 ne509) hZ (hw _ (List.mem_of_getElem? (i := 50) rfl)) (hw _ (List.mem_of_getElem? (i := 18) rfl)) (by decide) (by decide)) (g := (mkF m 329 #[.val (.int p1), .val (.int p2), .val (.int p3), .val (.int p4), .val (.int p5), .val (.int p6), .val (.ref b413), .val (.int 1), .val (.int (y8 &&& (32767 : Int32))), .val (.int (y9 &&& (32767 : Int32))), .val (.int (Int32.ofNat pp)), .val (.int 7), .val (.int 0), .val (.int 0), .val (.int (Int32.ofNat pp)), .val (.int (Int32.ofNat (pp - 0))), .val (.int (own_h cs 0 pp)), .unset] [(.ref b490), (.ref b489), (.ref b489)])) rfl (by rw [hml]; rfl) (Steps.refl _) (a := b489) (argsL := [(.ref b490)]) (rest := [(.ref b489)]) (lenOf pd_26 rfl) rfl (by show 2 * 0 + _ ≤ _; exact Nat.le_of_eq rfl) (hb hby at_329) (fun _ _ => ⟨rfl, rfl, (by decide : 5 + 2 ≤ _), (by decide : 34 + 19 ≤ _)⟩)
   dsimp only [Pt.U, Pt.locs, Pt.cells, Pt.slots] at X499 l499 y499 z499 st499 hQ499
   rw [l499, y499, z499] at X499
   obtain ⟨sn_499, ks_499, rfl, M499, q499_0, q499_1, q499_2, q499_3, q499_4, q499_5⟩ := hQ499
   have N499 := Fr.app N491 M499
   have K499 : Keep h0 T499.heap [] := Keep.trans K491 q499_0 (allS (Or.inr (Nat.le_trans le482 (Nat.le_of_eq g489.symm))) all0)
   refine own_go (fun t k => st499.trans k) ?_
   refine own_go (B := T499.setTop (mkF m 336 #[.val (.int p1), .val (.int p2), .val (.int p3), .val (.int p4), .val (.int p5), .val (.int p6), .val (.ref b413), .val (.int 1), .val (.int (y8 &&& (32767 : Int32))), .val (.int (y9 &&& (32767 : Int32))), .val (.int (Int32.ofNat pp)), .val (.int 7), .val (.int 0), .val (.int 0), .val (.int (Int32.ofNat pp)), .val (.int (Int32.ofNat (pp - 0))), .val (.int (own_h cs 0 pp)), .val (.ref b489)] [(.ref b489)])) (fun tg kt => ?_) ?_
   ·refine XS.astore X499.here hx rfl (hb hby at_332) rfl rfl (l' := #[.val (.int p1), .val (.int p2), .val (.int p3), .val (.int p4), .val (.int p5), .val (.int p6), .val (.ref b413), .val (.int 1), .val (.int (y8 &&& (32767 : Int32))), .val (.int (y9 &&& (32767 : Int32))), .val (.int (Int32.ofNat pp)), .val (.int 7), .val (.int 0), .val (.int 0), .val (.int (Int32.ofNat pp)), .val (.int (Int32.ofNat (pp - 0))), .val (.int (own_h cs 0 pp)), .val (.ref b489)]) rfl ?_
    refine XS.aload X499.here hx rfl (hb hby at_334) rfl rfl ?_
    exact kt
   have le512 : h0.size ≤ T499.heap.size := (Nat.le_trans (Nat.le_trans (Nat.le_trans (Nat.le_trans (Nat.le_trans (Nat.le_trans (Nat.le_trans (Nat.le_trans (Nat.le_trans (Nat.le_trans (Nat.le_trans (Nat.le_trans E413.1 (Nat.le_of_eq (Wr.size W415).symm)) (Nat.le_of_eq (Wr.size W418).symm)) (Nat.le_of_eq (Wr.size W421).symm)) (Nat.le_of_eq (Wr.size W424).symm)) (Nat.le_of_eq (Wr.size W427).symm)) (Nat.le_of_eq (Wr.size W430).symm)) (Nat.le_of_eq (Wr.size W433).symm)) (Nat.le_of_eq (Wr.size W479).symm)) E489.1) E490.1) q491_0.1) q499_0.1)
   obtain ⟨cq511, kq511, q511a, q511b, q511c⟩ := isOf hZ rfl q499_2
   obtain ⟨_, _, ⟨T511, L511, k511, n511⟩, -, X511, ⟨Lc511, hQ511, l511, y511, z511⟩, st511⟩ := X499.virtualBack hx (y := (⟨"com/example/restate/restate/Words", "size", "()I"⟩ : MethodName)) (z := (⟨"com/example/restate/restate/Words", "size", "()I"⟩ : MethodName)) hown (mvT hZ (hw _ (List.mem_of_getElem? (i := 118) rfl))) (mvT hZ (hw _ (List.mem_of_getElem? (i := 119) rfl))) (notFace_of_selects (args := #[]) (mvT hZ (hw _ (List.mem_of_getElem? (i := 121) rfl)))) (mvT hZ (hw _ (List.mem_of_getElem? (i := 121) rfl))) (mvT hZ (hw _ (List.mem_of_getElem? (i := 120) rfl))) (by decide) (backOf (W := 0) (rm24_1 l Z a0 hw [] b489 sn_499 ks_499 ([(.int 0), (.int (Int32.ofNat (pp + 1))), (.int 8)]) T499.heap n0 (Nat.le_trans Z0 le512) q499_2 q499_4 q499_5) hZ (hw _ (List.mem_of_getElem? (i := 122) rfl)) (hw _ (List.mem_of_getElem? (i := 18) rfl)) (by decide) (by decide)) q511a q511c (g := (mkF m 336 #[.val (.int p1), .val (.int p2), .val (.int p3), .val (.int p4), .val (.int p5), .val (.int p6), .val (.ref b413), .val (.int 1), .val (.int (y8 &&& (32767 : Int32))), .val (.int (y9 &&& (32767 : Int32))), .val (.int (Int32.ofNat pp)), .val (.int 7), .val (.int 0), .val (.int 0), .val (.int (Int32.ofNat pp)), .val (.int (Int32.ofNat (pp - 0))), .val (.int (own_h cs 0 pp)), .val (.ref b489)] [(.ref b489)])) rfl (by rw [hml]; rfl) (Steps.refl _) (argsL := []) (rest := []) (lenOf pd_19 rfl) rfl (by show 2 * 0 + _ ≤ _; exact Nat.le_of_eq rfl) (hb hby at_336) (fun _ _ => ⟨rfl, rfl, (by decide : 7 + 0 ≤ _), (by decide : 53 + 0 ≤ _)⟩)
   dsimp only [Pt.U, Pt.locs, Pt.cells, Pt.slots] at X511 l511 y511 z511 st511 hQ511
   rw [l511, y511, z511] at X511
   obtain ⟨rfl, M511, q511_0⟩ := hQ511
   have N511 := Fr.app N499 M511
   refine own_go (fun t k => st511.trans k) ?_
   refine own_go (B := T511.setTop (mkF m 350 #[.val (.int p1), .val (.int p2), .val (.int p3), .val (.int p4), .val (.int p5), .val (.int p6), .val (.ref b413), .val (.int 1), .val (.int (y8 &&& (32767 : Int32))), .val (.int (y9 &&& (32767 : Int32))), .val (.int (Int32.ofNat pp)), .val (.int 7), .val (.int 0), .val (.int 0), .val (.int (Int32.ofNat pp)), .val (.int (Int32.ofNat (pp - 0))), .val (.int (own_h cs 0 pp)), .val (.ref b489)] [(.int 0), (.ref b489)])) (fun tg kt => ?_) ?_
   ·refine XS.iload X511.here hx rfl (hb hby at_339) rfl ?_
    refine XS.iconst X511.here hx rfl (hb hby at_341) ?_
    refine XS.iadd X511.here hx rfl (hb hby at_342) rfl ?_
    refine XS.icmpNo X511.here hx rfl (hb hby at_343) rfl (teq (by decide : (2 : Int32) = (2 : Int32))).2 ?_
    refine XS.aload X511.here hx rfl (hb hby at_346) rfl rfl ?_
    refine XS.iload X511.here hx rfl (hb hby at_348) rfl ?_
    exact kt
   have f514 : Sta Z T499.heap "java/lang/String" "COMPACT_STRINGS" "Z" (.int w_COMPACT_STRINGS) := (own_staKeep f504 q499_0 (own_nsS (own_nsE f500) own_ns0))
   have f515 : Sta Z T499.heap "java/lang/StringUTF16" "$assertionsDisabled" "Z" (.int 1) := (own_staKeep f505 q499_0 (own_nsS (own_nsE f500) own_ns0))
   have f516 : Sta Z T499.heap "java/lang/StringUTF16" "HI_BYTE_SHIFT" "I" (.int 0) := (own_staKeep f506 q499_0 (own_nsS (own_nsE f500) own_ns0))
   have f517 : Sta Z T499.heap "java/lang/StringUTF16" "LO_BYTE_SHIFT" "I" (.int 8) := (own_staKeep f507 q499_0 (own_nsS (own_nsE f500) own_ns0))
   have f518 : Sta Z T499.heap "jdk/internal/util/Preconditions" "SIOOBE_FORMATTER" "Ljava/util/function/BiFunction;" (own_rv w_SIOOBE_FORMATTER) := (own_staKeep f508 q499_0 (own_nsS (own_nsE f500) own_ns0))
   have f519 : Exa Z T499.heap b490 "java/lang/String" := (q491_2.keep q499_0)
   have f520 : Fld Z T499.heap b490 "java/lang/String" "value" "[B" (.ref bn_491) := (q491_4.keep q499_0 (ninS (Ne.symm ne501) nin0))
   have f521 : Fld Z T499.heap b490 "java/lang/String" "coder" "B" (.int (own_cf nb_491)) := (q491_3.keep q499_0 (ninS (Ne.symm ne501) nin0))
   have f522 : Arv Z T499.heap bn_491 kn_491 .byte nb_491 vb_491 (.int 0) := (q491_5.keep q499_0 (ninS (Ne.symm ne509) nin0))
   obtain ⟨cq513, kq513, q513a, q513b, q513c⟩ := isOf hZ q511_0 q499_2
   obtain ⟨_, _, ⟨T513, L513, k513, n513⟩, -, X513, ⟨Lc513, hQ513, l513, y513, z513⟩, st513⟩ := X511.virtualBack hx (y := (⟨"com/example/restate/restate/Words", "hash", "(I)I"⟩ : MethodName)) (z := (⟨"com/example/restate/restate/Words", "hash", "(I)I"⟩ : MethodName)) hown (mvT hZ (hw _ (List.mem_of_getElem? (i := 123) rfl))) (mvT hZ (hw _ (List.mem_of_getElem? (i := 124) rfl))) (notFace_of_selects (args := #[]) (mvT hZ (hw _ (List.mem_of_getElem? (i := 126) rfl)))) (mvT hZ (hw _ (List.mem_of_getElem? (i := 126) rfl))) (mvT hZ (hw _ (List.mem_of_getElem? (i := 125) rfl))) (by decide) (backOf (W := 0) (rm25 l Z a0 hw [] b489 (0 : Int32) b490 w_COMPACT_STRINGS w_SIOOBE_FORMATTER bn_491 kn_491 (own_cf nb_491) nb_491 vb_491 cs sn_499 ks_499 (3 : Int32) ([(.int 0), (.int (Int32.ofNat (pp + 1))), (.int 8)]) 0 pp T499.heap n0 (Nat.le_trans Z0 le512) f514 (N_COMPACT_STRINGS) f515 f516 f517 f518 f519 f520 f521 f522 (q491_6) (hC) q499_3 q499_4 q499_2 q499_5 (by decide) (by decide) (rfl) (rfl) (⟨by omega, by omega⟩)) hZ (hw _ (List.mem_of_getElem? (i := 127) rfl)) (hw _ (List.mem_of_getElem? (i := 18) rfl)) (by decide) (by decide)) q513a q513c (g := (mkF m 350 #[.val (.int p1), .val (.int p2), .val (.int p3), .val (.int p4), .val (.int p5), .val (.int p6), .val (.ref b413), .val (.int 1), .val (.int (y8 &&& (32767 : Int32))), .val (.int (y9 &&& (32767 : Int32))), .val (.int (Int32.ofNat pp)), .val (.int 7), .val (.int 0), .val (.int 0), .val (.int (Int32.ofNat pp)), .val (.int (Int32.ofNat (pp - 0))), .val (.int (own_h cs 0 pp)), .val (.ref b489)] [(.int 0), (.ref b489)])) rfl (by rw [hml]; rfl) (Steps.refl _) (argsL := [(.int 0)]) (rest := []) (lenOf pd_0 rfl) rfl (by show 2 * 0 + _ ≤ _; exact Nat.le_of_eq rfl) (hb hby at_350) (fun _ _ => ⟨rfl, q511_0, (by decide : 7 + 0 ≤ _), (by decide : 53 + 0 ≤ _)⟩)
   dsimp only [Pt.U, Pt.locs, Pt.cells, Pt.slots] at X513 l513 y513 z513 st513 hQ513
   rw [l513, y513, z513] at X513
   obtain ⟨rfl, M513, q513_0⟩ := hQ513
   have N513 := Fr.app N511 M513
   refine own_go (fun t k => st513.trans k) ?_
   refine own_go (B := T513.setTop (mkF m 363 #[.val (.int p1), .val (.int p2), .val (.int p3), .val (.int p4), .val (.int p5), .val (.int p6), .val (.ref b413), .val (.int 1), .val (.int (y8 &&& (32767 : Int32))), .val (.int (y9 &&& (32767 : Int32))), .val (.int (Int32.ofNat pp)), .val (.int 7), .val (.int 0), .val (.int 0), .val (.int (Int32.ofNat pp)), .val (.int (Int32.ofNat (pp - 0))), .val (.int (own_h cs 0 pp)), .val (.ref b489)] [(.int 1)])) (fun tg kt => ?_) ?_
   ·refine XS.iload X513.here hx rfl (hb hby at_353) rfl ?_
    refine XS.icmpNo X513.here hx rfl (hb hby at_355) rfl (teq (rfl : (own_h cs 0 pp) = (own_h cs 0 pp))).2 ?_
    refine XS.iconst X513.here hx rfl (hb hby at_358) ?_
    refine XS.goto X513.here hx rfl (pc0 := 359) (pc' := 363) rfl (hb hby at_359) (by decide) (by decide) ?_
    exact kt
   obtain ⟨fs, hr, hrun, hended, hW, hsame⟩ := X513.leave (v := some (.int 1)) (fun h => by rw [Bd.returns] at h; cases h)
   refine ⟨_, _, ?_, hrun, hended, _, _, rfl, ?_, ⟨_, rfl⟩, hW, hsame.mono (by decide) (by decide)⟩
   ·exact retN X513 hx (t := .boolean) Bd.returns (by simp) (hb hby at_363) hr
   ·show Q0 Z p1 p2 p3 p4 p5 p6 w_COMPACT_STRINGS w_SIOOBE_FORMATTER h0 n0 _ T513.heap _
    rw [q513_0]
    exact ⟨rfl, N513⟩
  ·rw [show ((p6 &&& (2147483647 : Int32)) % (2 : Int32)) = (1 : Int32) from hw_]
   refine own_go (B := T479.setTop (mkF m 230 #[.val (.int p1), .val (.int p2), .val (.int p3), .val (.int p4), .val (.int p5), .val (.int p6), .val (.ref b413), .val (.int 1), .val (.int (y8 &&& (32767 : Int32))), .val (.int (y9 &&& (32767 : Int32))), .val (.int (Int32.ofNat pp)), .val (.int 7), .val (.int 1), .val (.int ((Int32.ofNat pp) + (1 : Int32))), .val (.int 7), .unset, .unset, .unset] [])) (fun tg kt => ?_) ?_
   ·refine XS.istore X479.here hx rfl (hb hby at_184) rfl (l' := #[.val (.int p1), .val (.int p2), .val (.int p3), .val (.int p4), .val (.int p5), .val (.int p6), .val (.ref b413), .val (.int 1), .val (.int (y8 &&& (32767 : Int32))), .val (.int (y9 &&& (32767 : Int32))), .val (.int (Int32.ofNat pp)), .val (.int 7), .val (.int 1), .unset, .unset, .unset, .unset, .unset]) rfl ?_
    refine XS.iload X479.here hx rfl (hb hby at_186) rfl ?_
    refine XS.ifYes X479.here hx rfl (pc0 := 188) (pc' := 201) rfl (hb hby at_188) rfl ((if0 _ _).trans (feq (by decide : ¬ ((1 : Int32) = (0 : Int32)))).2) (by decide) (by decide) ?_
    refine XS.iload X479.here hx rfl (hb hby at_201) rfl ?_
    refine XS.iconst X479.here hx rfl (hb hby at_203) ?_
    refine XS.icmpNo X479.here hx rfl (hb hby at_204) rfl (teq (by decide : (1 : Int32) = (1 : Int32))).2 ?_
    refine XS.iload X479.here hx rfl (hb hby at_207) rfl ?_
    refine XS.iconst X479.here hx rfl (hb hby at_209) ?_
    refine XS.iadd X479.here hx rfl (hb hby at_210) rfl ?_
    refine XS.istore X479.here hx rfl (hb hby at_211) rfl (l' := #[.val (.int p1), .val (.int p2), .val (.int p3), .val (.int p4), .val (.int p5), .val (.int p6), .val (.ref b413), .val (.int 1), .val (.int (y8 &&& (32767 : Int32))), .val (.int (y9 &&& (32767 : Int32))), .val (.int (Int32.ofNat pp)), .val (.int 7), .val (.int 1), .val (.int ((Int32.ofNat pp) + (1 : Int32))), .unset, .unset, .unset, .unset]) rfl ?_
    refine XS.iload X479.here hx rfl (hb hby at_213) rfl ?_
    refine XS.istore X479.here hx rfl (hb hby at_215) rfl (l' := #[.val (.int p1), .val (.int p2), .val (.int p3), .val (.int p4), .val (.int p5), .val (.int p6), .val (.ref b413), .val (.int 1), .val (.int (y8 &&& (32767 : Int32))), .val (.int (y9 &&& (32767 : Int32))), .val (.int (Int32.ofNat pp)), .val (.int 7), .val (.int 1), .val (.int ((Int32.ofNat pp) + (1 : Int32))), .val (.int 7), .unset, .unset, .unset]) rfl ?_
    refine XS.goto X479.here hx rfl (pc0 := 217) (pc' := 230) rfl (hb hby at_217) (by decide) (by decide) ?_
    exact kt
   rw [show ((Int32.ofNat pp) + (1 : Int32)) = (Int32.ofNat (pp + 1)) from own_isucc _]
   refine own_go (B := T479.setTop (mkF m 237 #[.val (.int p1), .val (.int p2), .val (.int p3), .val (.int p4), .val (.int p5), .val (.int p6), .val (.ref b413), .val (.int 1), .val (.int (y8 &&& (32767 : Int32))), .val (.int (y9 &&& (32767 : Int32))), .val (.int (Int32.ofNat pp)), .val (.int 7), .val (.int 1), .val (.int (Int32.ofNat (pp + 1))), .val (.int 7), .val (.int ((7 : Int32) - (Int32.ofNat (pp + 1)))), .unset, .unset] [])) (fun tg kt => ?_) ?_
   ·refine XS.iload X479.here hx rfl (hb hby at_230) rfl ?_
    refine XS.iload X479.here hx rfl (hb hby at_232) rfl ?_
    refine XS.isub X479.here hx rfl (hb hby at_234) rfl ?_
    refine XS.istore X479.here hx rfl (hb hby at_235) rfl (l' := #[.val (.int p1), .val (.int p2), .val (.int p3), .val (.int p4), .val (.int p5), .val (.int p6), .val (.ref b413), .val (.int 1), .val (.int (y8 &&& (32767 : Int32))), .val (.int (y9 &&& (32767 : Int32))), .val (.int (Int32.ofNat pp)), .val (.int 7), .val (.int 1), .val (.int (Int32.ofNat (pp + 1))), .val (.int 7), .val (.int ((7 : Int32) - (Int32.ofNat (pp + 1)))), .unset, .unset]) rfl ?_
    exact kt
   rw [show ((7 : Int32) - (Int32.ofNat (pp + 1))) = (Int32.ofNat (7 - (pp + 1))) from own_isub (a := (pp + 1)) (b := 7) (by omega) (by omega)]
   refine own_go (B := T479.setTop (mkF m 244 #[.val (.int p1), .val (.int p2), .val (.int p3), .val (.int p4), .val (.int p5), .val (.int p6), .val (.ref b413), .val (.int 1), .val (.int (y8 &&& (32767 : Int32))), .val (.int (y9 &&& (32767 : Int32))), .val (.int (Int32.ofNat pp)), .val (.int 7), .val (.int 1), .val (.int (Int32.ofNat (pp + 1))), .val (.int 7), .val (.int (Int32.ofNat (7 - (pp + 1)))), .unset, .unset] [(.int 0), (.int (Int32.ofNat (7 - (pp + 1)))), (.int (Int32.ofNat (pp + 1))), (.ref b413)])) (fun tg kt => ?_) ?_
   ·refine XS.aload X479.here hx rfl (hb hby at_237) rfl rfl ?_
    refine XS.iload X479.here hx rfl (hb hby at_239) rfl ?_
    refine XS.iload X479.here hx rfl (hb hby at_241) rfl ?_
    refine XS.iconst X479.here hx rfl (hb hby at_243) ?_
    exact kt
   have le525 : h0.size ≤ h479.size := (Nat.le_trans (Nat.le_trans (Nat.le_trans (Nat.le_trans (Nat.le_trans (Nat.le_trans (Nat.le_trans (Nat.le_trans E413.1 (Nat.le_of_eq (Wr.size W415).symm)) (Nat.le_of_eq (Wr.size W418).symm)) (Nat.le_of_eq (Wr.size W421).symm)) (Nat.le_of_eq (Wr.size W424).symm)) (Nat.le_of_eq (Wr.size W427).symm)) (Nat.le_of_eq (Wr.size W430).symm)) (Nat.le_of_eq (Wr.size W433).symm)) (Nat.le_of_eq (Wr.size W479).symm))
   obtain ⟨_, _, ⟨T524, L524, k524, n524⟩, -, X524, ⟨Lc524, hQ524, l524, y524, z524⟩, st524⟩ := Jvm.LawKit.callS X479 hx (y := (⟨"com/example/restate/restate/WordsHashPinLaw", "term", "([CIII)I"⟩ : MethodName)) hown (mvT hZ (hw _ (List.mem_of_getElem? (i := 7) rfl))) (mvT hZ (hw _ (List.mem_of_getElem? (i := 8) rfl))) (mvT hZ (hw _ (List.mem_of_getElem? (i := 3) rfl))) (mvT hZ (hw _ (List.mem_of_getElem? (i := 9) rfl))) (by decide) (backOf (W := 0) (rm2_0 l Z a0 hw [] b413 (Int32.ofNat (pp + 1)) (Int32.ofNat (7 - (pp + 1))) k413 cs (pp + 1) (7 - (pp + 1)) h479 n0 (Nat.le_trans Z0 le525) V480 (⟨own_toInt (t := (pp + 1)) (by omega), own_toInt (t := 7 - (pp + 1)) (by omega), by omega⟩)) hZ (hw _ (List.mem_of_getElem? (i := 9) rfl)) (hw _ (List.mem_of_getElem? (i := 3) rfl)) (by decide) (by decide)) (g := (mkF m 244 #[.val (.int p1), .val (.int p2), .val (.int p3), .val (.int p4), .val (.int p5), .val (.int p6), .val (.ref b413), .val (.int 1), .val (.int (y8 &&& (32767 : Int32))), .val (.int (y9 &&& (32767 : Int32))), .val (.int (Int32.ofNat pp)), .val (.int 7), .val (.int 1), .val (.int (Int32.ofNat (pp + 1))), .val (.int 7), .val (.int (Int32.ofNat (7 - (pp + 1)))), .unset, .unset] [(.int 0), (.int (Int32.ofNat (7 - (pp + 1)))), (.int (Int32.ofNat (pp + 1))), (.ref b413)])) rfl (by rw [hml]; rfl) (argsL := [(.ref b413), (.int (Int32.ofNat (pp + 1))), (.int (Int32.ofNat (7 - (pp + 1)))), (.int 0)]) (rest := []) (lenOf pd_24 rfl) rfl (by show 2 * 0 + _ ≤ _; exact Nat.le_of_eq rfl) (hb hby at_244) (fun _ _ => ⟨rfl, e479, (by decide : 1 + 0 ≤ _), (by decide : 7 + 0 ≤ _)⟩)
   dsimp only [Pt.U, Pt.locs, Pt.cells, Pt.slots] at X524 l524 y524 z524 st524 hQ524
   rw [l524, y524, z524] at X524
   obtain ⟨rfl, M524, q524_0⟩ := hQ524
   have N524 := Fr.app N479 M524
   refine own_go st524 ?_
   refine own_go (B := T524.setTop (mkF m 254 #[.val (.int p1), .val (.int p2), .val (.int p3), .val (.int p4), .val (.int p5), .val (.int p6), .val (.ref b413), .val (.int 1), .val (.int (y8 &&& (32767 : Int32))), .val (.int (y9 &&& (32767 : Int32))), .val (.int (Int32.ofNat pp)), .val (.int 7), .val (.int 1), .val (.int (Int32.ofNat (pp + 1))), .val (.int 7), .val (.int (Int32.ofNat (7 - (pp + 1)))), .unset, .unset] [(.int 1), (.int (Int32.ofNat (7 - (pp + 1)))), (.int (Int32.ofNat (pp + 1))), (.ref b413), (.int (own_term cs (pp + 1) (Int32.ofNat (7 - (pp + 1))) 0))])) (fun tg kt => ?_) ?_
   ·refine XS.aload X524.here hx rfl (hb hby at_247) rfl rfl ?_
    refine XS.iload X524.here hx rfl (hb hby at_249) rfl ?_
    refine XS.iload X524.here hx rfl (hb hby at_251) rfl ?_
    refine XS.iconst X524.here hx rfl (hb hby at_253) ?_
    exact kt
   obtain ⟨_, _, ⟨T526, L526, k526, n526⟩, -, X526, ⟨Lc526, hQ526, l526, y526, z526⟩, st526⟩ := Jvm.LawKit.callS X524 hx (y := (⟨"com/example/restate/restate/WordsHashPinLaw", "term", "([CIII)I"⟩ : MethodName)) hown (mvT hZ (hw _ (List.mem_of_getElem? (i := 7) rfl))) (mvT hZ (hw _ (List.mem_of_getElem? (i := 8) rfl))) (mvT hZ (hw _ (List.mem_of_getElem? (i := 3) rfl))) (mvT hZ (hw _ (List.mem_of_getElem? (i := 9) rfl))) (by decide) (backOf (W := 1) (rm2_1 l Z a0 hw [] b413 (Int32.ofNat (pp + 1)) (Int32.ofNat (7 - (pp + 1))) k413 cs (pp + 1) (7 - (pp + 1)) h479 n0 (Nat.le_trans Z0 le525) V480 (⟨own_toInt (t := (pp + 1)) (by omega), own_toInt (t := 7 - (pp + 1)) (by omega), by omega⟩)) hZ (hw _ (List.mem_of_getElem? (i := 9) rfl)) (hw _ (List.mem_of_getElem? (i := 3) rfl)) (by decide) (by decide)) (g := (mkF m 254 #[.val (.int p1), .val (.int p2), .val (.int p3), .val (.int p4), .val (.int p5), .val (.int p6), .val (.ref b413), .val (.int 1), .val (.int (y8 &&& (32767 : Int32))), .val (.int (y9 &&& (32767 : Int32))), .val (.int (Int32.ofNat pp)), .val (.int 7), .val (.int 1), .val (.int (Int32.ofNat (pp + 1))), .val (.int 7), .val (.int (Int32.ofNat (7 - (pp + 1)))), .unset, .unset] [(.int 1), (.int (Int32.ofNat (7 - (pp + 1)))), (.int (Int32.ofNat (pp + 1))), (.ref b413), (.int (own_term cs (pp + 1) (Int32.ofNat (7 - (pp + 1))) 0))])) rfl (by rw [hml]; rfl) (argsL := [(.ref b413), (.int (Int32.ofNat (pp + 1))), (.int (Int32.ofNat (7 - (pp + 1)))), (.int 1)]) (rest := [(.int (own_term cs (pp + 1) (Int32.ofNat (7 - (pp + 1))) 0))]) (lenOf pd_24 rfl) rfl (by show 2 * 0 + _ ≤ _; exact Nat.le_of_eq rfl) (hb hby at_254) (fun _ _ => ⟨rfl, q524_0, (by decide : 1 + 0 ≤ _), (by decide : 7 + 0 ≤ _)⟩)
   dsimp only [Pt.U, Pt.locs, Pt.cells, Pt.slots] at X526 l526 y526 z526 st526 hQ526
   rw [l526, y526, z526] at X526
   obtain ⟨rfl, M526, q526_0⟩ := hQ526
   have N526 := Fr.app N524 M526
   refine own_go st526 ?_
   refine own_go (B := T526.setTop (mkF m 265 #[.val (.int p1), .val (.int p2), .val (.int p3), .val (.int p4), .val (.int p5), .val (.int p6), .val (.ref b413), .val (.int 1), .val (.int (y8 &&& (32767 : Int32))), .val (.int (y9 &&& (32767 : Int32))), .val (.int (Int32.ofNat pp)), .val (.int 7), .val (.int 1), .val (.int (Int32.ofNat (pp + 1))), .val (.int 7), .val (.int (Int32.ofNat (7 - (pp + 1)))), .unset, .unset] [(.int 2), (.int (Int32.ofNat (7 - (pp + 1)))), (.int (Int32.ofNat (pp + 1))), (.ref b413), (.int ((own_term cs (pp + 1) (Int32.ofNat (7 - (pp + 1))) 0) + (own_term cs (pp + 1) (Int32.ofNat (7 - (pp + 1))) 1)))])) (fun tg kt => ?_) ?_
   ·refine XS.iadd X526.here hx rfl (hb hby at_257) rfl ?_
    refine XS.aload X526.here hx rfl (hb hby at_258) rfl rfl ?_
    refine XS.iload X526.here hx rfl (hb hby at_260) rfl ?_
    refine XS.iload X526.here hx rfl (hb hby at_262) rfl ?_
    refine XS.iconst X526.here hx rfl (hb hby at_264) ?_
    exact kt
   obtain ⟨_, _, ⟨T527, L527, k527, n527⟩, -, X527, ⟨Lc527, hQ527, l527, y527, z527⟩, st527⟩ := Jvm.LawKit.callS X526 hx (y := (⟨"com/example/restate/restate/WordsHashPinLaw", "term", "([CIII)I"⟩ : MethodName)) hown (mvT hZ (hw _ (List.mem_of_getElem? (i := 7) rfl))) (mvT hZ (hw _ (List.mem_of_getElem? (i := 8) rfl))) (mvT hZ (hw _ (List.mem_of_getElem? (i := 3) rfl))) (mvT hZ (hw _ (List.mem_of_getElem? (i := 9) rfl))) (by decide) (backOf (W := 1) (rm2_2 l Z a0 hw [] b413 (Int32.ofNat (pp + 1)) (Int32.ofNat (7 - (pp + 1))) k413 cs (pp + 1) (7 - (pp + 1)) h479 n0 (Nat.le_trans Z0 le525) V480 (⟨own_toInt (t := (pp + 1)) (by omega), own_toInt (t := 7 - (pp + 1)) (by omega), by omega⟩)) hZ (hw _ (List.mem_of_getElem? (i := 9) rfl)) (hw _ (List.mem_of_getElem? (i := 3) rfl)) (by decide) (by decide)) (g := (mkF m 265 #[.val (.int p1), .val (.int p2), .val (.int p3), .val (.int p4), .val (.int p5), .val (.int p6), .val (.ref b413), .val (.int 1), .val (.int (y8 &&& (32767 : Int32))), .val (.int (y9 &&& (32767 : Int32))), .val (.int (Int32.ofNat pp)), .val (.int 7), .val (.int 1), .val (.int (Int32.ofNat (pp + 1))), .val (.int 7), .val (.int (Int32.ofNat (7 - (pp + 1)))), .unset, .unset] [(.int 2), (.int (Int32.ofNat (7 - (pp + 1)))), (.int (Int32.ofNat (pp + 1))), (.ref b413), (.int ((own_term cs (pp + 1) (Int32.ofNat (7 - (pp + 1))) 0) + (own_term cs (pp + 1) (Int32.ofNat (7 - (pp + 1))) 1)))])) rfl (by rw [hml]; rfl) (argsL := [(.ref b413), (.int (Int32.ofNat (pp + 1))), (.int (Int32.ofNat (7 - (pp + 1)))), (.int 2)]) (rest := [(.int ((own_term cs (pp + 1) (Int32.ofNat (7 - (pp + 1))) 0) + (own_term cs (pp + 1) (Int32.ofNat (7 - (pp + 1))) 1)))]) (lenOf pd_24 rfl) rfl (by show 2 * 0 + _ ≤ _; exact Nat.le_of_eq rfl) (hb hby at_265) (fun _ _ => ⟨rfl, q526_0, (by decide : 1 + 0 ≤ _), (by decide : 7 + 0 ≤ _)⟩)
   dsimp only [Pt.U, Pt.locs, Pt.cells, Pt.slots] at X527 l527 y527 z527 st527 hQ527
   rw [l527, y527, z527] at X527
   obtain ⟨rfl, M527, q527_0⟩ := hQ527
   have N527 := Fr.app N526 M527
   refine own_go st527 ?_
   refine own_go (B := T527.setTop (mkF m 276 #[.val (.int p1), .val (.int p2), .val (.int p3), .val (.int p4), .val (.int p5), .val (.int p6), .val (.ref b413), .val (.int 1), .val (.int (y8 &&& (32767 : Int32))), .val (.int (y9 &&& (32767 : Int32))), .val (.int (Int32.ofNat pp)), .val (.int 7), .val (.int 1), .val (.int (Int32.ofNat (pp + 1))), .val (.int 7), .val (.int (Int32.ofNat (7 - (pp + 1)))), .unset, .unset] [(.int 3), (.int (Int32.ofNat (7 - (pp + 1)))), (.int (Int32.ofNat (pp + 1))), (.ref b413), (.int (((own_term cs (pp + 1) (Int32.ofNat (7 - (pp + 1))) 0) + (own_term cs (pp + 1) (Int32.ofNat (7 - (pp + 1))) 1)) + (own_term cs (pp + 1) (Int32.ofNat (7 - (pp + 1))) 2)))])) (fun tg kt => ?_) ?_
   ·refine XS.iadd X527.here hx rfl (hb hby at_268) rfl ?_
    refine XS.aload X527.here hx rfl (hb hby at_269) rfl rfl ?_
    refine XS.iload X527.here hx rfl (hb hby at_271) rfl ?_
    refine XS.iload X527.here hx rfl (hb hby at_273) rfl ?_
    refine XS.iconst X527.here hx rfl (hb hby at_275) ?_
    exact kt
   obtain ⟨_, _, ⟨T528, L528, k528, n528⟩, -, X528, ⟨Lc528, hQ528, l528, y528, z528⟩, st528⟩ := Jvm.LawKit.callS X527 hx (y := (⟨"com/example/restate/restate/WordsHashPinLaw", "term", "([CIII)I"⟩ : MethodName)) hown (mvT hZ (hw _ (List.mem_of_getElem? (i := 7) rfl))) (mvT hZ (hw _ (List.mem_of_getElem? (i := 8) rfl))) (mvT hZ (hw _ (List.mem_of_getElem? (i := 3) rfl))) (mvT hZ (hw _ (List.mem_of_getElem? (i := 9) rfl))) (by decide) (backOf (W := 1) (rm2_3 l Z a0 hw [] b413 (Int32.ofNat (pp + 1)) (Int32.ofNat (7 - (pp + 1))) k413 cs (pp + 1) (7 - (pp + 1)) h479 n0 (Nat.le_trans Z0 le525) V480 (⟨own_toInt (t := (pp + 1)) (by omega), own_toInt (t := 7 - (pp + 1)) (by omega), by omega⟩)) hZ (hw _ (List.mem_of_getElem? (i := 9) rfl)) (hw _ (List.mem_of_getElem? (i := 3) rfl)) (by decide) (by decide)) (g := (mkF m 276 #[.val (.int p1), .val (.int p2), .val (.int p3), .val (.int p4), .val (.int p5), .val (.int p6), .val (.ref b413), .val (.int 1), .val (.int (y8 &&& (32767 : Int32))), .val (.int (y9 &&& (32767 : Int32))), .val (.int (Int32.ofNat pp)), .val (.int 7), .val (.int 1), .val (.int (Int32.ofNat (pp + 1))), .val (.int 7), .val (.int (Int32.ofNat (7 - (pp + 1)))), .unset, .unset] [(.int 3), (.int (Int32.ofNat (7 - (pp + 1)))), (.int (Int32.ofNat (pp + 1))), (.ref b413), (.int (((own_term cs (pp + 1) (Int32.ofNat (7 - (pp + 1))) 0) + (own_term cs (pp + 1) (Int32.ofNat (7 - (pp + 1))) 1)) + (own_term cs (pp + 1) (Int32.ofNat (7 - (pp + 1))) 2)))])) rfl (by rw [hml]; rfl) (argsL := [(.ref b413), (.int (Int32.ofNat (pp + 1))), (.int (Int32.ofNat (7 - (pp + 1)))), (.int 3)]) (rest := [(.int (((own_term cs (pp + 1) (Int32.ofNat (7 - (pp + 1))) 0) + (own_term cs (pp + 1) (Int32.ofNat (7 - (pp + 1))) 1)) + (own_term cs (pp + 1) (Int32.ofNat (7 - (pp + 1))) 2)))]) (lenOf pd_24 rfl) rfl (by show 2 * 0 + _ ≤ _; exact Nat.le_of_eq rfl) (hb hby at_276) (fun _ _ => ⟨rfl, q527_0, (by decide : 1 + 0 ≤ _), (by decide : 7 + 0 ≤ _)⟩)
   dsimp only [Pt.U, Pt.locs, Pt.cells, Pt.slots] at X528 l528 y528 z528 st528 hQ528
   rw [l528, y528, z528] at X528
   obtain ⟨rfl, M528, q528_0⟩ := hQ528
   have N528 := Fr.app N527 M528
   refine own_go st528 ?_
   refine own_go (B := T528.setTop (mkF m 287 #[.val (.int p1), .val (.int p2), .val (.int p3), .val (.int p4), .val (.int p5), .val (.int p6), .val (.ref b413), .val (.int 1), .val (.int (y8 &&& (32767 : Int32))), .val (.int (y9 &&& (32767 : Int32))), .val (.int (Int32.ofNat pp)), .val (.int 7), .val (.int 1), .val (.int (Int32.ofNat (pp + 1))), .val (.int 7), .val (.int (Int32.ofNat (7 - (pp + 1)))), .unset, .unset] [(.int 4), (.int (Int32.ofNat (7 - (pp + 1)))), (.int (Int32.ofNat (pp + 1))), (.ref b413), (.int ((((own_term cs (pp + 1) (Int32.ofNat (7 - (pp + 1))) 0) + (own_term cs (pp + 1) (Int32.ofNat (7 - (pp + 1))) 1)) + (own_term cs (pp + 1) (Int32.ofNat (7 - (pp + 1))) 2)) + (own_term cs (pp + 1) (Int32.ofNat (7 - (pp + 1))) 3)))])) (fun tg kt => ?_) ?_
   ·refine XS.iadd X528.here hx rfl (hb hby at_279) rfl ?_
    refine XS.aload X528.here hx rfl (hb hby at_280) rfl rfl ?_
    refine XS.iload X528.here hx rfl (hb hby at_282) rfl ?_
    refine XS.iload X528.here hx rfl (hb hby at_284) rfl ?_
    refine XS.iconst X528.here hx rfl (hb hby at_286) ?_
    exact kt
   obtain ⟨_, _, ⟨T529, L529, k529, n529⟩, -, X529, ⟨Lc529, hQ529, l529, y529, z529⟩, st529⟩ := Jvm.LawKit.callS X528 hx (y := (⟨"com/example/restate/restate/WordsHashPinLaw", "term", "([CIII)I"⟩ : MethodName)) hown (mvT hZ (hw _ (List.mem_of_getElem? (i := 7) rfl))) (mvT hZ (hw _ (List.mem_of_getElem? (i := 8) rfl))) (mvT hZ (hw _ (List.mem_of_getElem? (i := 3) rfl))) (mvT hZ (hw _ (List.mem_of_getElem? (i := 9) rfl))) (by decide) (backOf (W := 1) (rm2_4 l Z a0 hw [] b413 (Int32.ofNat (pp + 1)) (Int32.ofNat (7 - (pp + 1))) k413 cs (pp + 1) (7 - (pp + 1)) h479 n0 (Nat.le_trans Z0 le525) V480 (⟨own_toInt (t := (pp + 1)) (by omega), own_toInt (t := 7 - (pp + 1)) (by omega), by omega⟩)) hZ (hw _ (List.mem_of_getElem? (i := 9) rfl)) (hw _ (List.mem_of_getElem? (i := 3) rfl)) (by decide) (by decide)) (g := (mkF m 287 #[.val (.int p1), .val (.int p2), .val (.int p3), .val (.int p4), .val (.int p5), .val (.int p6), .val (.ref b413), .val (.int 1), .val (.int (y8 &&& (32767 : Int32))), .val (.int (y9 &&& (32767 : Int32))), .val (.int (Int32.ofNat pp)), .val (.int 7), .val (.int 1), .val (.int (Int32.ofNat (pp + 1))), .val (.int 7), .val (.int (Int32.ofNat (7 - (pp + 1)))), .unset, .unset] [(.int 4), (.int (Int32.ofNat (7 - (pp + 1)))), (.int (Int32.ofNat (pp + 1))), (.ref b413), (.int ((((own_term cs (pp + 1) (Int32.ofNat (7 - (pp + 1))) 0) + (own_term cs (pp + 1) (Int32.ofNat (7 - (pp + 1))) 1)) + (own_term cs (pp + 1) (Int32.ofNat (7 - (pp + 1))) 2)) + (own_term cs (pp + 1) (Int32.ofNat (7 - (pp + 1))) 3)))])) rfl (by rw [hml]; rfl) (argsL := [(.ref b413), (.int (Int32.ofNat (pp + 1))), (.int (Int32.ofNat (7 - (pp + 1)))), (.int 4)]) (rest := [(.int ((((own_term cs (pp + 1) (Int32.ofNat (7 - (pp + 1))) 0) + (own_term cs (pp + 1) (Int32.ofNat (7 - (pp + 1))) 1)) + (own_term cs (pp + 1) (Int32.ofNat (7 - (pp + 1))) 2)) + (own_term cs (pp + 1) (Int32.ofNat (7 - (pp + 1))) 3)))]) (lenOf pd_24 rfl) rfl (by show 2 * 0 + _ ≤ _; exact Nat.le_of_eq rfl) (hb hby at_287) (fun _ _ => ⟨rfl, q528_0, (by decide : 1 + 0 ≤ _), (by decide : 7 + 0 ≤ _)⟩)
   dsimp only [Pt.U, Pt.locs, Pt.cells, Pt.slots] at X529 l529 y529 z529 st529 hQ529
   rw [l529, y529, z529] at X529
   obtain ⟨rfl, M529, q529_0⟩ := hQ529
   have N529 := Fr.app N528 M529
   refine own_go st529 ?_
   refine own_go (B := T529.setTop (mkF m 298 #[.val (.int p1), .val (.int p2), .val (.int p3), .val (.int p4), .val (.int p5), .val (.int p6), .val (.ref b413), .val (.int 1), .val (.int (y8 &&& (32767 : Int32))), .val (.int (y9 &&& (32767 : Int32))), .val (.int (Int32.ofNat pp)), .val (.int 7), .val (.int 1), .val (.int (Int32.ofNat (pp + 1))), .val (.int 7), .val (.int (Int32.ofNat (7 - (pp + 1)))), .unset, .unset] [(.int 5), (.int (Int32.ofNat (7 - (pp + 1)))), (.int (Int32.ofNat (pp + 1))), (.ref b413), (.int (((((own_term cs (pp + 1) (Int32.ofNat (7 - (pp + 1))) 0) + (own_term cs (pp + 1) (Int32.ofNat (7 - (pp + 1))) 1)) + (own_term cs (pp + 1) (Int32.ofNat (7 - (pp + 1))) 2)) + (own_term cs (pp + 1) (Int32.ofNat (7 - (pp + 1))) 3)) + (own_term cs (pp + 1) (Int32.ofNat (7 - (pp + 1))) 4)))])) (fun tg kt => ?_) ?_
   ·refine XS.iadd X529.here hx rfl (hb hby at_290) rfl ?_
    refine XS.aload X529.here hx rfl (hb hby at_291) rfl rfl ?_
    refine XS.iload X529.here hx rfl (hb hby at_293) rfl ?_
    refine XS.iload X529.here hx rfl (hb hby at_295) rfl ?_
    refine XS.iconst X529.here hx rfl (hb hby at_297) ?_
    exact kt
   obtain ⟨_, _, ⟨T530, L530, k530, n530⟩, -, X530, ⟨Lc530, hQ530, l530, y530, z530⟩, st530⟩ := Jvm.LawKit.callS X529 hx (y := (⟨"com/example/restate/restate/WordsHashPinLaw", "term", "([CIII)I"⟩ : MethodName)) hown (mvT hZ (hw _ (List.mem_of_getElem? (i := 7) rfl))) (mvT hZ (hw _ (List.mem_of_getElem? (i := 8) rfl))) (mvT hZ (hw _ (List.mem_of_getElem? (i := 3) rfl))) (mvT hZ (hw _ (List.mem_of_getElem? (i := 9) rfl))) (by decide) (backOf (W := 1) (rm2_5 l Z a0 hw [] b413 (Int32.ofNat (pp + 1)) (Int32.ofNat (7 - (pp + 1))) k413 cs (pp + 1) (7 - (pp + 1)) h479 n0 (Nat.le_trans Z0 le525) V480 (⟨own_toInt (t := (pp + 1)) (by omega), own_toInt (t := 7 - (pp + 1)) (by omega), by omega⟩)) hZ (hw _ (List.mem_of_getElem? (i := 9) rfl)) (hw _ (List.mem_of_getElem? (i := 3) rfl)) (by decide) (by decide)) (g := (mkF m 298 #[.val (.int p1), .val (.int p2), .val (.int p3), .val (.int p4), .val (.int p5), .val (.int p6), .val (.ref b413), .val (.int 1), .val (.int (y8 &&& (32767 : Int32))), .val (.int (y9 &&& (32767 : Int32))), .val (.int (Int32.ofNat pp)), .val (.int 7), .val (.int 1), .val (.int (Int32.ofNat (pp + 1))), .val (.int 7), .val (.int (Int32.ofNat (7 - (pp + 1)))), .unset, .unset] [(.int 5), (.int (Int32.ofNat (7 - (pp + 1)))), (.int (Int32.ofNat (pp + 1))), (.ref b413), (.int (((((own_term cs (pp + 1) (Int32.ofNat (7 - (pp + 1))) 0) + (own_term cs (pp + 1) (Int32.ofNat (7 - (pp + 1))) 1)) + (own_term cs (pp + 1) (Int32.ofNat (7 - (pp + 1))) 2)) + (own_term cs (pp + 1) (Int32.ofNat (7 - (pp + 1))) 3)) + (own_term cs (pp + 1) (Int32.ofNat (7 - (pp + 1))) 4)))])) rfl (by rw [hml]; rfl) (argsL := [(.ref b413), (.int (Int32.ofNat (pp + 1))), (.int (Int32.ofNat (7 - (pp + 1)))), (.int 5)]) (rest := [(.int (((((own_term cs (pp + 1) (Int32.ofNat (7 - (pp + 1))) 0) + (own_term cs (pp + 1) (Int32.ofNat (7 - (pp + 1))) 1)) + (own_term cs (pp + 1) (Int32.ofNat (7 - (pp + 1))) 2)) + (own_term cs (pp + 1) (Int32.ofNat (7 - (pp + 1))) 3)) + (own_term cs (pp + 1) (Int32.ofNat (7 - (pp + 1))) 4)))]) (lenOf pd_24 rfl) rfl (by show 2 * 0 + _ ≤ _; exact Nat.le_of_eq rfl) (hb hby at_298) (fun _ _ => ⟨rfl, q529_0, (by decide : 1 + 0 ≤ _), (by decide : 7 + 0 ≤ _)⟩)
   dsimp only [Pt.U, Pt.locs, Pt.cells, Pt.slots] at X530 l530 y530 z530 st530 hQ530
   rw [l530, y530, z530] at X530
   obtain ⟨rfl, M530, q530_0⟩ := hQ530
   have N530 := Fr.app N529 M530
   refine own_go st530 ?_
   refine own_go (B := T530.setTop (mkF m 310 #[.val (.int p1), .val (.int p2), .val (.int p3), .val (.int p4), .val (.int p5), .val (.int p6), .val (.ref b413), .val (.int 1), .val (.int (y8 &&& (32767 : Int32))), .val (.int (y9 &&& (32767 : Int32))), .val (.int (Int32.ofNat pp)), .val (.int 7), .val (.int 1), .val (.int (Int32.ofNat (pp + 1))), .val (.int 7), .val (.int (Int32.ofNat (7 - (pp + 1)))), .unset, .unset] [(.int 6), (.int (Int32.ofNat (7 - (pp + 1)))), (.int (Int32.ofNat (pp + 1))), (.ref b413), (.int ((((((own_term cs (pp + 1) (Int32.ofNat (7 - (pp + 1))) 0) + (own_term cs (pp + 1) (Int32.ofNat (7 - (pp + 1))) 1)) + (own_term cs (pp + 1) (Int32.ofNat (7 - (pp + 1))) 2)) + (own_term cs (pp + 1) (Int32.ofNat (7 - (pp + 1))) 3)) + (own_term cs (pp + 1) (Int32.ofNat (7 - (pp + 1))) 4)) + (own_term cs (pp + 1) (Int32.ofNat (7 - (pp + 1))) 5)))])) (fun tg kt => ?_) ?_
   ·refine XS.iadd X530.here hx rfl (hb hby at_301) rfl ?_
    refine XS.aload X530.here hx rfl (hb hby at_302) rfl rfl ?_
    refine XS.iload X530.here hx rfl (hb hby at_304) rfl ?_
    refine XS.iload X530.here hx rfl (hb hby at_306) rfl ?_
    refine XS.bipush X530.here hx rfl (hb hby at_308) ?_
    exact kt
   obtain ⟨_, _, ⟨T531, L531, k531, n531⟩, -, X531, ⟨Lc531, hQ531, l531, y531, z531⟩, st531⟩ := Jvm.LawKit.callS X530 hx (y := (⟨"com/example/restate/restate/WordsHashPinLaw", "term", "([CIII)I"⟩ : MethodName)) hown (mvT hZ (hw _ (List.mem_of_getElem? (i := 7) rfl))) (mvT hZ (hw _ (List.mem_of_getElem? (i := 8) rfl))) (mvT hZ (hw _ (List.mem_of_getElem? (i := 3) rfl))) (mvT hZ (hw _ (List.mem_of_getElem? (i := 9) rfl))) (by decide) (backOf (W := 1) (rm2_6 l Z a0 hw [] b413 (Int32.ofNat (pp + 1)) (Int32.ofNat (7 - (pp + 1))) k413 cs (pp + 1) (7 - (pp + 1)) h479 n0 (Nat.le_trans Z0 le525) V480 (⟨own_toInt (t := (pp + 1)) (by omega), own_toInt (t := 7 - (pp + 1)) (by omega), by omega⟩)) hZ (hw _ (List.mem_of_getElem? (i := 9) rfl)) (hw _ (List.mem_of_getElem? (i := 3) rfl)) (by decide) (by decide)) (g := (mkF m 310 #[.val (.int p1), .val (.int p2), .val (.int p3), .val (.int p4), .val (.int p5), .val (.int p6), .val (.ref b413), .val (.int 1), .val (.int (y8 &&& (32767 : Int32))), .val (.int (y9 &&& (32767 : Int32))), .val (.int (Int32.ofNat pp)), .val (.int 7), .val (.int 1), .val (.int (Int32.ofNat (pp + 1))), .val (.int 7), .val (.int (Int32.ofNat (7 - (pp + 1)))), .unset, .unset] [(.int 6), (.int (Int32.ofNat (7 - (pp + 1)))), (.int (Int32.ofNat (pp + 1))), (.ref b413), (.int ((((((own_term cs (pp + 1) (Int32.ofNat (7 - (pp + 1))) 0) + (own_term cs (pp + 1) (Int32.ofNat (7 - (pp + 1))) 1)) + (own_term cs (pp + 1) (Int32.ofNat (7 - (pp + 1))) 2)) + (own_term cs (pp + 1) (Int32.ofNat (7 - (pp + 1))) 3)) + (own_term cs (pp + 1) (Int32.ofNat (7 - (pp + 1))) 4)) + (own_term cs (pp + 1) (Int32.ofNat (7 - (pp + 1))) 5)))])) rfl (by rw [hml]; rfl) (argsL := [(.ref b413), (.int (Int32.ofNat (pp + 1))), (.int (Int32.ofNat (7 - (pp + 1)))), (.int 6)]) (rest := [(.int ((((((own_term cs (pp + 1) (Int32.ofNat (7 - (pp + 1))) 0) + (own_term cs (pp + 1) (Int32.ofNat (7 - (pp + 1))) 1)) + (own_term cs (pp + 1) (Int32.ofNat (7 - (pp + 1))) 2)) + (own_term cs (pp + 1) (Int32.ofNat (7 - (pp + 1))) 3)) + (own_term cs (pp + 1) (Int32.ofNat (7 - (pp + 1))) 4)) + (own_term cs (pp + 1) (Int32.ofNat (7 - (pp + 1))) 5)))]) (lenOf pd_24 rfl) rfl (by show 2 * 0 + _ ≤ _; exact Nat.le_of_eq rfl) (hb hby at_310) (fun _ _ => ⟨rfl, q530_0, (by decide : 1 + 0 ≤ _), (by decide : 7 + 0 ≤ _)⟩)
   dsimp only [Pt.U, Pt.locs, Pt.cells, Pt.slots] at X531 l531 y531 z531 st531 hQ531
   rw [l531, y531, z531] at X531
   obtain ⟨rfl, M531, q531_0⟩ := hQ531
   have N531 := Fr.app N530 M531
   refine own_go st531 ?_
   refine own_go (B := T531.setTop (mkF m 316 #[.val (.int p1), .val (.int p2), .val (.int p3), .val (.int p4), .val (.int p5), .val (.int p6), .val (.ref b413), .val (.int 1), .val (.int (y8 &&& (32767 : Int32))), .val (.int (y9 &&& (32767 : Int32))), .val (.int (Int32.ofNat pp)), .val (.int 7), .val (.int 1), .val (.int (Int32.ofNat (pp + 1))), .val (.int 7), .val (.int (Int32.ofNat (7 - (pp + 1)))), .val (.int (((((((own_term cs (pp + 1) (Int32.ofNat (7 - (pp + 1))) 0) + (own_term cs (pp + 1) (Int32.ofNat (7 - (pp + 1))) 1)) + (own_term cs (pp + 1) (Int32.ofNat (7 - (pp + 1))) 2)) + (own_term cs (pp + 1) (Int32.ofNat (7 - (pp + 1))) 3)) + (own_term cs (pp + 1) (Int32.ofNat (7 - (pp + 1))) 4)) + (own_term cs (pp + 1) (Int32.ofNat (7 - (pp + 1))) 5)) + (own_term cs (pp + 1) (Int32.ofNat (7 - (pp + 1))) 6))), .unset] [])) (fun tg kt => ?_) ?_
   ·refine XS.iadd X531.here hx rfl (hb hby at_313) rfl ?_
    refine XS.istore X531.here hx rfl (hb hby at_314) rfl (l' := #[.val (.int p1), .val (.int p2), .val (.int p3), .val (.int p4), .val (.int p5), .val (.int p6), .val (.ref b413), .val (.int 1), .val (.int (y8 &&& (32767 : Int32))), .val (.int (y9 &&& (32767 : Int32))), .val (.int (Int32.ofNat pp)), .val (.int 7), .val (.int 1), .val (.int (Int32.ofNat (pp + 1))), .val (.int 7), .val (.int (Int32.ofNat (7 - (pp + 1)))), .val (.int (((((((own_term cs (pp + 1) (Int32.ofNat (7 - (pp + 1))) 0) + (own_term cs (pp + 1) (Int32.ofNat (7 - (pp + 1))) 1)) + (own_term cs (pp + 1) (Int32.ofNat (7 - (pp + 1))) 2)) + (own_term cs (pp + 1) (Int32.ofNat (7 - (pp + 1))) 3)) + (own_term cs (pp + 1) (Int32.ofNat (7 - (pp + 1))) 4)) + (own_term cs (pp + 1) (Int32.ofNat (7 - (pp + 1))) 5)) + (own_term cs (pp + 1) (Int32.ofNat (7 - (pp + 1))) 6))), .unset]) rfl ?_
    exact kt
   rw [show (((((((own_term cs (pp + 1) (Int32.ofNat (7 - (pp + 1))) 0) + (own_term cs (pp + 1) (Int32.ofNat (7 - (pp + 1))) 1)) + (own_term cs (pp + 1) (Int32.ofNat (7 - (pp + 1))) 2)) + (own_term cs (pp + 1) (Int32.ofNat (7 - (pp + 1))) 3)) + (own_term cs (pp + 1) (Int32.ofNat (7 - (pp + 1))) 4)) + (own_term cs (pp + 1) (Int32.ofNat (7 - (pp + 1))) 5)) + (own_term cs (pp + 1) (Int32.ofNat (7 - (pp + 1))) 6)) = (own_h cs (pp + 1) 7) from own_sum (a := (pp + 1)) (b := 7) (by omega) (by omega)]
   obtain ⟨T532, h532, X532, e532, E532, A532, D532, -, st532⟩ := newO X531 hx hZ hown (hw _ (List.mem_of_getElem? (i := 16) rfl)) (hw _ (List.mem_of_getElem? (i := 17) rfl)) (hw _ (List.mem_of_getElem? (i := 18) rfl)) q531_0 (g := (mkF m 316 #[.val (.int p1), .val (.int p2), .val (.int p3), .val (.int p4), .val (.int p5), .val (.int p6), .val (.ref b413), .val (.int 1), .val (.int (y8 &&& (32767 : Int32))), .val (.int (y9 &&& (32767 : Int32))), .val (.int (Int32.ofNat pp)), .val (.int 7), .val (.int 1), .val (.int (Int32.ofNat (pp + 1))), .val (.int 7), .val (.int (Int32.ofNat (7 - (pp + 1)))), .val (.int (own_h cs (pp + 1) 7)), .unset] [])) rfl (hb hby at_316) (by decide) (by decide)
   obtain ⟨b532, g532⟩ : ∃ z, z = h479.size := ⟨_, rfl⟩
   rw [← g532] at A532 D532 st532
   refine own_go st532 ?_
   have K532 : Keep h0 h532 [] := Keep.ext K479 E532
   have F532_53 : Fld Z h532 b532 "com/example/restate/restate/Words" "line" "Ljava/lang/String;" .null := D532 (Or.inr (hw _ (List.mem_of_getElem? (i := 53) rfl))) (ty := (.object "java/lang/String")) (by decide)
   have F532_117 : Fld Z h532 b532 "com/example/restate/restate/Words" "starts" "[I" .null := D532 (Or.inr (hw _ (List.mem_of_getElem? (i := 117) rfl))) (ty := (.array .int)) (by decide)
   refine own_go (B := T532.setTop (mkF m 320 #[.val (.int p1), .val (.int p2), .val (.int p3), .val (.int p4), .val (.int p5), .val (.int p6), .val (.ref b413), .val (.int 1), .val (.int (y8 &&& (32767 : Int32))), .val (.int (y9 &&& (32767 : Int32))), .val (.int (Int32.ofNat pp)), .val (.int 7), .val (.int 1), .val (.int (Int32.ofNat (pp + 1))), .val (.int 7), .val (.int (Int32.ofNat (7 - (pp + 1)))), .val (.int (own_h cs (pp + 1) 7)), .unset] [(.ref b532), (.ref b532)])) (fun tg kt => ?_) ?_
   ·refine XS.dup X532.here hx rfl (hb hby at_319) rfl rfl ?_
    exact kt
   obtain ⟨T533, h533, X533, e533, E533, A533, D533, -, st533⟩ := newO X532 hx hZ hown (hw _ (List.mem_of_getElem? (i := 19) rfl)) (hw _ (List.mem_of_getElem? (i := 20) rfl)) (hw _ (List.mem_of_getElem? (i := 21) rfl)) e532 (g := (mkF m 320 #[.val (.int p1), .val (.int p2), .val (.int p3), .val (.int p4), .val (.int p5), .val (.int p6), .val (.ref b413), .val (.int 1), .val (.int (y8 &&& (32767 : Int32))), .val (.int (y9 &&& (32767 : Int32))), .val (.int (Int32.ofNat pp)), .val (.int 7), .val (.int 1), .val (.int (Int32.ofNat (pp + 1))), .val (.int 7), .val (.int (Int32.ofNat (7 - (pp + 1)))), .val (.int (own_h cs (pp + 1) 7)), .unset] [(.ref b532), (.ref b532)])) rfl (hb hby at_320) (by decide) (by decide)
   obtain ⟨b533, g533⟩ : ∃ z, z = h532.size := ⟨_, rfl⟩
   rw [← g533] at A533 D533 st533
   refine own_go st533 ?_
   have K533 : Keep h0 h533 [] := Keep.ext K532 E533
   have F533_45 : Fld Z h533 b533 "java/lang/String" "coder" "B" (.int 0) := D533 (Or.inr (hw _ (List.mem_of_getElem? (i := 45) rfl))) (ty := .byte) (by decide)
   have F533_47 : Fld Z h533 b533 "java/lang/String" "value" "[B" .null := D533 (Or.inr (hw _ (List.mem_of_getElem? (i := 47) rfl))) (ty := (.array .byte)) (by decide)
   refine own_go (B := T533.setTop (mkF m 326 #[.val (.int p1), .val (.int p2), .val (.int p3), .val (.int p4), .val (.int p5), .val (.int p6), .val (.ref b413), .val (.int 1), .val (.int (y8 &&& (32767 : Int32))), .val (.int (y9 &&& (32767 : Int32))), .val (.int (Int32.ofNat pp)), .val (.int 7), .val (.int 1), .val (.int (Int32.ofNat (pp + 1))), .val (.int 7), .val (.int (Int32.ofNat (7 - (pp + 1)))), .val (.int (own_h cs (pp + 1) 7)), .unset] [(.ref b413), (.ref b533), (.ref b533), (.ref b532), (.ref b532)])) (fun tg kt => ?_) ?_
   ·refine XS.dup X533.here hx rfl (hb hby at_323) rfl rfl ?_
    refine XS.aload X533.here hx rfl (hb hby at_324) rfl rfl ?_
    exact kt
   have le535 : h0.size ≤ h532.size := (Nat.le_trans (Nat.le_trans (Nat.le_trans (Nat.le_trans (Nat.le_trans (Nat.le_trans (Nat.le_trans (Nat.le_trans (Nat.le_trans E413.1 (Nat.le_of_eq (Wr.size W415).symm)) (Nat.le_of_eq (Wr.size W418).symm)) (Nat.le_of_eq (Wr.size W421).symm)) (Nat.le_of_eq (Wr.size W424).symm)) (Nat.le_of_eq (Wr.size W427).symm)) (Nat.le_of_eq (Wr.size W430).symm)) (Nat.le_of_eq (Wr.size W433).symm)) (Nat.le_of_eq (Wr.size W479).symm)) E532.1)
   have f536 : Sta Z h533 "java/lang/String" "COMPACT_STRINGS" "Z" (.int w_COMPACT_STRINGS) := (((((((((((S_COMPACT_STRINGS.ext E413).wr W415).wr W418).wr W421).wr W424).wr W427).wr W430).wr W433).wr W479).ext E532).ext E533)
   have f537 : Sta Z h533 "java/lang/StringUTF16" "$assertionsDisabled" "Z" (.int 1) := (((((((((((S__assertionsDisabled.ext E413).wr W415).wr W418).wr W421).wr W424).wr W427).wr W430).wr W433).wr W479).ext E532).ext E533)
   have f538 : Sta Z h533 "java/lang/StringUTF16" "HI_BYTE_SHIFT" "I" (.int 0) := (((((((((((S_HI_BYTE_SHIFT.ext E413).wr W415).wr W418).wr W421).wr W424).wr W427).wr W430).wr W433).wr W479).ext E532).ext E533)
   have f539 : Sta Z h533 "java/lang/StringUTF16" "LO_BYTE_SHIFT" "I" (.int 8) := (((((((((((S_LO_BYTE_SHIFT.ext E413).wr W415).wr W418).wr W421).wr W424).wr W427).wr W430).wr W433).wr W479).ext E532).ext E533)
   have f540 : Arv Z h533 b413 k413 .char (7 : Int32) (own_tab 7 cs) (.int 0) := ((V480.ext E532).ext E533)
   have le541 : h0.size ≤ h533.size := (Nat.le_trans (Nat.le_trans (Nat.le_trans (Nat.le_trans (Nat.le_trans (Nat.le_trans (Nat.le_trans (Nat.le_trans (Nat.le_trans (Nat.le_trans E413.1 (Nat.le_of_eq (Wr.size W415).symm)) (Nat.le_of_eq (Wr.size W418).symm)) (Nat.le_of_eq (Wr.size W421).symm)) (Nat.le_of_eq (Wr.size W424).symm)) (Nat.le_of_eq (Wr.size W427).symm)) (Nat.le_of_eq (Wr.size W430).symm)) (Nat.le_of_eq (Wr.size W433).symm)) (Nat.le_of_eq (Wr.size W479).symm)) E532.1) E533.1)
   obtain ⟨_, _, ⟨T534, L534, k534, n534⟩, -, X534, ⟨Lc534, hQ534, l534, y534, z534⟩, st534⟩ := X533.specialBack hx (y := (⟨"java/lang/String", "<init>", "([C)V"⟩ : MethodName)) rfl hown (mvT hZ (hw _ (List.mem_of_getElem? (i := 22) rfl))) (mvT hZ (hw _ (List.mem_of_getElem? (i := 23) rfl))) (mvT hZ (hw _ (List.mem_of_getElem? (i := 24) rfl))) (by decide) (backOf (W := 3) (rm4 l Z a0 hw [] b533 b413 w_COMPACT_STRINGS k413 cs h533 n0 (Nat.le_trans Z0 le541) A533 F533_47 F533_45 (Nat.le_trans (Nat.le_trans Z0 le535) (Nat.le_of_eq g533.symm)) f536 (N_COMPACT_STRINGS) f537 f538 f539 f540 (hC)) hZ (hw _ (List.mem_of_getElem? (i := 24) rfl)) (hw _ (List.mem_of_getElem? (i := 21) rfl)) (by decide) (by decide)) (g := (mkF m 326 #[.val (.int p1), .val (.int p2), .val (.int p3), .val (.int p4), .val (.int p5), .val (.int p6), .val (.ref b413), .val (.int 1), .val (.int (y8 &&& (32767 : Int32))), .val (.int (y9 &&& (32767 : Int32))), .val (.int (Int32.ofNat pp)), .val (.int 7), .val (.int 1), .val (.int (Int32.ofNat (pp + 1))), .val (.int 7), .val (.int (Int32.ofNat (7 - (pp + 1)))), .val (.int (own_h cs (pp + 1) 7)), .unset] [(.ref b413), (.ref b533), (.ref b533), (.ref b532), (.ref b532)])) rfl (by rw [hml]; rfl) (Steps.refl _) (a := b533) (argsL := [(.ref b413)]) (rest := [(.ref b533), (.ref b532), (.ref b532)]) (lenOf pd_25 rfl) rfl (by show 2 * 0 + _ ≤ _; exact Nat.le_of_eq rfl) (hb hby at_326) (fun _ _ => ⟨rfl, e533, (by decide : 3 + 2 ≤ _), (by decide : 13 + 21 ≤ _)⟩)
   dsimp only [Pt.U, Pt.locs, Pt.cells, Pt.slots] at X534 l534 y534 z534 st534 hQ534
   rw [l534, y534, z534] at X534
   obtain ⟨bn_534, kn_534, nb_534, vb_534, rfl, M534, q534_0, q534_1, q534_2, q534_3, q534_4, q534_5, q534_6⟩ := hQ534
   have N534 := Fr.app N531 M534
   have K534 : Keep h0 T534.heap [] := Keep.trans K533 q534_0 (allS (Or.inr (Nat.le_trans le535 (Nat.le_of_eq g533.symm))) all0)
   refine own_go (fun t k => st534.trans k) ?_
   have f543 : Exa Z T534.heap b532 "com/example/restate/restate/Words" := ((A532.ext E533).keep q534_0)
   have ne544 : b532 ≠ b533 := (Nat.ne_of_lt (Nat.lt_of_lt_of_le A532.lt (Nat.le_of_eq g533.symm)))
   have f545 : Fld Z T534.heap b532 "com/example/restate/restate/Words" "line" "Ljava/lang/String;" .null := ((F532_53.ext E533).keep q534_0 (ninS ne544 nin0))
   have f546 : Fld Z T534.heap b532 "com/example/restate/restate/Words" "starts" "[I" .null := ((F532_117.ext E533).keep q534_0 (ninS ne544 nin0))
   have f547 : Sta Z T534.heap "java/lang/String" "COMPACT_STRINGS" "Z" (.int w_COMPACT_STRINGS) := (own_staKeep f536 q534_0 (own_nsS (own_nsE A533) own_ns0))
   have f548 : Sta Z T534.heap "java/lang/StringUTF16" "$assertionsDisabled" "Z" (.int 1) := (own_staKeep f537 q534_0 (own_nsS (own_nsE A533) own_ns0))
   have f549 : Sta Z T534.heap "java/lang/StringUTF16" "HI_BYTE_SHIFT" "I" (.int 0) := (own_staKeep f538 q534_0 (own_nsS (own_nsE A533) own_ns0))
   have f550 : Sta Z T534.heap "java/lang/StringUTF16" "LO_BYTE_SHIFT" "I" (.int 8) := (own_staKeep f539 q534_0 (own_nsS (own_nsE A533) own_ns0))
   have f551 : Sta Z T534.heap "jdk/internal/util/Preconditions" "SIOOBE_FORMATTER" "Ljava/util/function/BiFunction;" (own_rv w_SIOOBE_FORMATTER) := (own_staKeep (((((((((((S_SIOOBE_FORMATTER.ext E413).wr W415).wr W418).wr W421).wr W424).wr W427).wr W430).wr W433).wr W479).ext E532).ext E533) q534_0 (own_nsS (own_nsE A533) own_ns0))
   have ne552 : b532 ≠ bn_534 := (Nat.ne_of_lt (Nat.lt_of_lt_of_le (Nat.lt_of_lt_of_le A532.lt E533.1) q534_1))
   have le553 : h0.size ≤ T534.heap.size := (Nat.le_trans (Nat.le_trans (Nat.le_trans (Nat.le_trans (Nat.le_trans (Nat.le_trans (Nat.le_trans (Nat.le_trans (Nat.le_trans (Nat.le_trans (Nat.le_trans E413.1 (Nat.le_of_eq (Wr.size W415).symm)) (Nat.le_of_eq (Wr.size W418).symm)) (Nat.le_of_eq (Wr.size W421).symm)) (Nat.le_of_eq (Wr.size W424).symm)) (Nat.le_of_eq (Wr.size W427).symm)) (Nat.le_of_eq (Wr.size W430).symm)) (Nat.le_of_eq (Wr.size W433).symm)) (Nat.le_of_eq (Wr.size W479).symm)) E532.1) E533.1) q534_0.1)
   obtain ⟨_, _, ⟨T542, L542, k542, n542⟩, -, X542, ⟨Lc542, hQ542, l542, y542, z542⟩, st542⟩ := X534.specialBack hx (y := (⟨"com/example/restate/restate/Words", "<init>", "(Ljava/lang/String;)V"⟩ : MethodName)) rfl hown (mvT hZ (hw _ (List.mem_of_getElem? (i := 48) rfl))) (mvT hZ (hw _ (List.mem_of_getElem? (i := 49) rfl))) (mvT hZ (hw _ (List.mem_of_getElem? (i := 50) rfl))) (by decide) (backOf (W := 1) (rm10_1 l Z a0 hw [] b532 b533 w_COMPACT_STRINGS w_SIOOBE_FORMATTER bn_534 kn_534 (own_cf nb_534) nb_534 vb_534 cs pp T534.heap n0 (Nat.le_trans Z0 le553) f543 f545 f546 (Nat.le_trans (Nat.le_trans Z0 le525) (Nat.le_of_eq g532.symm)) f547 (by first | assumption | decide) f548 f549 f550 f551 q534_2 q534_4 q534_3 q534_5 (q534_6) (hC) (hpp) (h1s) (hno) ne544 ne552) hZ (hw _ (List.mem_of_getElem? (i := 50) rfl)) (hw _ (List.mem_of_getElem? (i := 18) rfl)) (by decide) (by decide)) (g := (mkF m 329 #[.val (.int p1), .val (.int p2), .val (.int p3), .val (.int p4), .val (.int p5), .val (.int p6), .val (.ref b413), .val (.int 1), .val (.int (y8 &&& (32767 : Int32))), .val (.int (y9 &&& (32767 : Int32))), .val (.int (Int32.ofNat pp)), .val (.int 7), .val (.int 1), .val (.int (Int32.ofNat (pp + 1))), .val (.int 7), .val (.int (Int32.ofNat (7 - (pp + 1)))), .val (.int (own_h cs (pp + 1) 7)), .unset] [(.ref b533), (.ref b532), (.ref b532)])) rfl (by rw [hml]; rfl) (Steps.refl _) (a := b532) (argsL := [(.ref b533)]) (rest := [(.ref b532)]) (lenOf pd_26 rfl) rfl (by show 2 * 0 + _ ≤ _; exact Nat.le_of_eq rfl) (hb hby at_329) (fun _ _ => ⟨rfl, rfl, (by decide : 5 + 2 ≤ _), (by decide : 34 + 19 ≤ _)⟩)
   dsimp only [Pt.U, Pt.locs, Pt.cells, Pt.slots] at X542 l542 y542 z542 st542 hQ542
   rw [l542, y542, z542] at X542
   obtain ⟨sn_542, ks_542, rfl, M542, q542_0, q542_1, q542_2, q542_3, q542_4, q542_5⟩ := hQ542
   have N542 := Fr.app N534 M542
   have K542 : Keep h0 T542.heap [] := Keep.trans K534 q542_0 (allS (Or.inr (Nat.le_trans le525 (Nat.le_of_eq g532.symm))) all0)
   refine own_go (fun t k => st542.trans k) ?_
   refine own_go (B := T542.setTop (mkF m 336 #[.val (.int p1), .val (.int p2), .val (.int p3), .val (.int p4), .val (.int p5), .val (.int p6), .val (.ref b413), .val (.int 1), .val (.int (y8 &&& (32767 : Int32))), .val (.int (y9 &&& (32767 : Int32))), .val (.int (Int32.ofNat pp)), .val (.int 7), .val (.int 1), .val (.int (Int32.ofNat (pp + 1))), .val (.int 7), .val (.int (Int32.ofNat (7 - (pp + 1)))), .val (.int (own_h cs (pp + 1) 7)), .val (.ref b532)] [(.ref b532)])) (fun tg kt => ?_) ?_
   ·refine XS.astore X542.here hx rfl (hb hby at_332) rfl rfl (l' := #[.val (.int p1), .val (.int p2), .val (.int p3), .val (.int p4), .val (.int p5), .val (.int p6), .val (.ref b413), .val (.int 1), .val (.int (y8 &&& (32767 : Int32))), .val (.int (y9 &&& (32767 : Int32))), .val (.int (Int32.ofNat pp)), .val (.int 7), .val (.int 1), .val (.int (Int32.ofNat (pp + 1))), .val (.int 7), .val (.int (Int32.ofNat (7 - (pp + 1)))), .val (.int (own_h cs (pp + 1) 7)), .val (.ref b532)]) rfl ?_
    refine XS.aload X542.here hx rfl (hb hby at_334) rfl rfl ?_
    exact kt
   have le555 : h0.size ≤ T542.heap.size := (Nat.le_trans (Nat.le_trans (Nat.le_trans (Nat.le_trans (Nat.le_trans (Nat.le_trans (Nat.le_trans (Nat.le_trans (Nat.le_trans (Nat.le_trans (Nat.le_trans (Nat.le_trans E413.1 (Nat.le_of_eq (Wr.size W415).symm)) (Nat.le_of_eq (Wr.size W418).symm)) (Nat.le_of_eq (Wr.size W421).symm)) (Nat.le_of_eq (Wr.size W424).symm)) (Nat.le_of_eq (Wr.size W427).symm)) (Nat.le_of_eq (Wr.size W430).symm)) (Nat.le_of_eq (Wr.size W433).symm)) (Nat.le_of_eq (Wr.size W479).symm)) E532.1) E533.1) q534_0.1) q542_0.1)
   obtain ⟨cq554, kq554, q554a, q554b, q554c⟩ := isOf hZ rfl q542_2
   obtain ⟨_, _, ⟨T554, L554, k554, n554⟩, -, X554, ⟨Lc554, hQ554, l554, y554, z554⟩, st554⟩ := X542.virtualBack hx (y := (⟨"com/example/restate/restate/Words", "size", "()I"⟩ : MethodName)) (z := (⟨"com/example/restate/restate/Words", "size", "()I"⟩ : MethodName)) hown (mvT hZ (hw _ (List.mem_of_getElem? (i := 118) rfl))) (mvT hZ (hw _ (List.mem_of_getElem? (i := 119) rfl))) (notFace_of_selects (args := #[]) (mvT hZ (hw _ (List.mem_of_getElem? (i := 121) rfl)))) (mvT hZ (hw _ (List.mem_of_getElem? (i := 121) rfl))) (mvT hZ (hw _ (List.mem_of_getElem? (i := 120) rfl))) (by decide) (backOf (W := 0) (rm24_1 l Z a0 hw [] b532 sn_542 ks_542 ([(.int 0), (.int (Int32.ofNat (pp + 1))), (.int 8)]) T542.heap n0 (Nat.le_trans Z0 le555) q542_2 q542_4 q542_5) hZ (hw _ (List.mem_of_getElem? (i := 122) rfl)) (hw _ (List.mem_of_getElem? (i := 18) rfl)) (by decide) (by decide)) q554a q554c (g := (mkF m 336 #[.val (.int p1), .val (.int p2), .val (.int p3), .val (.int p4), .val (.int p5), .val (.int p6), .val (.ref b413), .val (.int 1), .val (.int (y8 &&& (32767 : Int32))), .val (.int (y9 &&& (32767 : Int32))), .val (.int (Int32.ofNat pp)), .val (.int 7), .val (.int 1), .val (.int (Int32.ofNat (pp + 1))), .val (.int 7), .val (.int (Int32.ofNat (7 - (pp + 1)))), .val (.int (own_h cs (pp + 1) 7)), .val (.ref b532)] [(.ref b532)])) rfl (by rw [hml]; rfl) (Steps.refl _) (argsL := []) (rest := []) (lenOf pd_19 rfl) rfl (by show 2 * 0 + _ ≤ _; exact Nat.le_of_eq rfl) (hb hby at_336) (fun _ _ => ⟨rfl, rfl, (by decide : 7 + 0 ≤ _), (by decide : 53 + 0 ≤ _)⟩)
   dsimp only [Pt.U, Pt.locs, Pt.cells, Pt.slots] at X554 l554 y554 z554 st554 hQ554
   rw [l554, y554, z554] at X554
   obtain ⟨rfl, M554, q554_0⟩ := hQ554
   have N554 := Fr.app N542 M554
   refine own_go (fun t k => st554.trans k) ?_
   refine own_go (B := T554.setTop (mkF m 350 #[.val (.int p1), .val (.int p2), .val (.int p3), .val (.int p4), .val (.int p5), .val (.int p6), .val (.ref b413), .val (.int 1), .val (.int (y8 &&& (32767 : Int32))), .val (.int (y9 &&& (32767 : Int32))), .val (.int (Int32.ofNat pp)), .val (.int 7), .val (.int 1), .val (.int (Int32.ofNat (pp + 1))), .val (.int 7), .val (.int (Int32.ofNat (7 - (pp + 1)))), .val (.int (own_h cs (pp + 1) 7)), .val (.ref b532)] [(.int 1), (.ref b532)])) (fun tg kt => ?_) ?_
   ·refine XS.iload X554.here hx rfl (hb hby at_339) rfl ?_
    refine XS.iconst X554.here hx rfl (hb hby at_341) ?_
    refine XS.iadd X554.here hx rfl (hb hby at_342) rfl ?_
    refine XS.icmpNo X554.here hx rfl (hb hby at_343) rfl (teq (by decide : (2 : Int32) = (2 : Int32))).2 ?_
    refine XS.aload X554.here hx rfl (hb hby at_346) rfl rfl ?_
    refine XS.iload X554.here hx rfl (hb hby at_348) rfl ?_
    exact kt
   have f557 : Sta Z T542.heap "java/lang/String" "COMPACT_STRINGS" "Z" (.int w_COMPACT_STRINGS) := (own_staKeep f547 q542_0 (own_nsS (own_nsE f543) own_ns0))
   have f558 : Sta Z T542.heap "java/lang/StringUTF16" "$assertionsDisabled" "Z" (.int 1) := (own_staKeep f548 q542_0 (own_nsS (own_nsE f543) own_ns0))
   have f559 : Sta Z T542.heap "java/lang/StringUTF16" "HI_BYTE_SHIFT" "I" (.int 0) := (own_staKeep f549 q542_0 (own_nsS (own_nsE f543) own_ns0))
   have f560 : Sta Z T542.heap "java/lang/StringUTF16" "LO_BYTE_SHIFT" "I" (.int 8) := (own_staKeep f550 q542_0 (own_nsS (own_nsE f543) own_ns0))
   have f561 : Sta Z T542.heap "jdk/internal/util/Preconditions" "SIOOBE_FORMATTER" "Ljava/util/function/BiFunction;" (own_rv w_SIOOBE_FORMATTER) := (own_staKeep f551 q542_0 (own_nsS (own_nsE f543) own_ns0))
   have f562 : Exa Z T542.heap b533 "java/lang/String" := (q534_2.keep q542_0)
   have f563 : Fld Z T542.heap b533 "java/lang/String" "value" "[B" (.ref bn_534) := (q534_4.keep q542_0 (ninS (Ne.symm ne544) nin0))
   have f564 : Fld Z T542.heap b533 "java/lang/String" "coder" "B" (.int (own_cf nb_534)) := (q534_3.keep q542_0 (ninS (Ne.symm ne544) nin0))
   have f565 : Arv Z T542.heap bn_534 kn_534 .byte nb_534 vb_534 (.int 0) := (q534_5.keep q542_0 (ninS (Ne.symm ne552) nin0))
   obtain ⟨cq556, kq556, q556a, q556b, q556c⟩ := isOf hZ q554_0 q542_2
   obtain ⟨_, _, ⟨T556, L556, k556, n556⟩, -, X556, ⟨Lc556, hQ556, l556, y556, z556⟩, st556⟩ := X554.virtualBack hx (y := (⟨"com/example/restate/restate/Words", "hash", "(I)I"⟩ : MethodName)) (z := (⟨"com/example/restate/restate/Words", "hash", "(I)I"⟩ : MethodName)) hown (mvT hZ (hw _ (List.mem_of_getElem? (i := 123) rfl))) (mvT hZ (hw _ (List.mem_of_getElem? (i := 124) rfl))) (notFace_of_selects (args := #[]) (mvT hZ (hw _ (List.mem_of_getElem? (i := 126) rfl)))) (mvT hZ (hw _ (List.mem_of_getElem? (i := 126) rfl))) (mvT hZ (hw _ (List.mem_of_getElem? (i := 125) rfl))) (by decide) (backOf (W := 0) (rm25 l Z a0 hw [] b532 (1 : Int32) b533 w_COMPACT_STRINGS w_SIOOBE_FORMATTER bn_534 kn_534 (own_cf nb_534) nb_534 vb_534 cs sn_542 ks_542 (3 : Int32) ([(.int 0), (.int (Int32.ofNat (pp + 1))), (.int 8)]) (pp + 1) 7 T542.heap n0 (Nat.le_trans Z0 le555) f557 (N_COMPACT_STRINGS) f558 f559 f560 f561 f562 f563 f564 f565 (q534_6) (hC) q542_3 q542_4 q542_2 q542_5 (by decide) (by decide) (rfl) (rfl) (⟨by omega, by omega⟩)) hZ (hw _ (List.mem_of_getElem? (i := 127) rfl)) (hw _ (List.mem_of_getElem? (i := 18) rfl)) (by decide) (by decide)) q556a q556c (g := (mkF m 350 #[.val (.int p1), .val (.int p2), .val (.int p3), .val (.int p4), .val (.int p5), .val (.int p6), .val (.ref b413), .val (.int 1), .val (.int (y8 &&& (32767 : Int32))), .val (.int (y9 &&& (32767 : Int32))), .val (.int (Int32.ofNat pp)), .val (.int 7), .val (.int 1), .val (.int (Int32.ofNat (pp + 1))), .val (.int 7), .val (.int (Int32.ofNat (7 - (pp + 1)))), .val (.int (own_h cs (pp + 1) 7)), .val (.ref b532)] [(.int 1), (.ref b532)])) rfl (by rw [hml]; rfl) (Steps.refl _) (argsL := [(.int 1)]) (rest := []) (lenOf pd_0 rfl) rfl (by show 2 * 0 + _ ≤ _; exact Nat.le_of_eq rfl) (hb hby at_350) (fun _ _ => ⟨rfl, q554_0, (by decide : 7 + 0 ≤ _), (by decide : 53 + 0 ≤ _)⟩)
   dsimp only [Pt.U, Pt.locs, Pt.cells, Pt.slots] at X556 l556 y556 z556 st556 hQ556
   rw [l556, y556, z556] at X556
   obtain ⟨rfl, M556, q556_0⟩ := hQ556
   have N556 := Fr.app N554 M556
   refine own_go (fun t k => st556.trans k) ?_
   refine own_go (B := T556.setTop (mkF m 363 #[.val (.int p1), .val (.int p2), .val (.int p3), .val (.int p4), .val (.int p5), .val (.int p6), .val (.ref b413), .val (.int 1), .val (.int (y8 &&& (32767 : Int32))), .val (.int (y9 &&& (32767 : Int32))), .val (.int (Int32.ofNat pp)), .val (.int 7), .val (.int 1), .val (.int (Int32.ofNat (pp + 1))), .val (.int 7), .val (.int (Int32.ofNat (7 - (pp + 1)))), .val (.int (own_h cs (pp + 1) 7)), .val (.ref b532)] [(.int 1)])) (fun tg kt => ?_) ?_
   ·refine XS.iload X556.here hx rfl (hb hby at_353) rfl ?_
    refine XS.icmpNo X556.here hx rfl (hb hby at_355) rfl (teq (rfl : (own_h cs (pp + 1) 7) = (own_h cs (pp + 1) 7))).2 ?_
    refine XS.iconst X556.here hx rfl (hb hby at_358) ?_
    refine XS.goto X556.here hx rfl (pc0 := 359) (pc' := 363) rfl (hb hby at_359) (by decide) (by decide) ?_
    exact kt
   obtain ⟨fs, hr, hrun, hended, hW, hsame⟩ := X556.leave (v := some (.int 1)) (fun h => by rw [Bd.returns] at h; cases h)
   refine ⟨_, _, ?_, hrun, hended, _, _, rfl, ?_, ⟨_, rfl⟩, hW, hsame.mono (by decide) (by decide)⟩
   ·exact retN X556 hx (t := .boolean) Bd.returns (by simp) (hb hby at_363) hr
   ·show Q0 Z p1 p2 p3 p4 p5 p6 w_COMPACT_STRINGS w_SIOOBE_FORMATTER h0 n0 _ T556.heap _
    rw [q556_0]
    exact ⟨rfl, N556⟩
 ·rw [show ((p5 &&& (3 : Int32)) % (3 : Int32)) = (2 : Int32) from hk_]
  refine own_go (B := T433.setTop (mkF m 84 #[.val (.int p1), .val (.int p2), .val (.int p3), .val (.int p4), .val (.int p5), .val (.int p6), .val (.ref b413), .val (.int 2), .unset, .unset, .unset, .unset, .unset, .unset, .unset, .unset, .unset, .unset] [(.int ((p5.toUInt32 >>> ((2 : Int32) &&& 31).toUInt32).toInt32))])) (fun tg kt => ?_) ?_
  ·refine XS.iload X433.here hx rfl (hb hby at_80) rfl ?_
   refine XS.iconst X433.here hx rfl (hb hby at_82) ?_
   refine XS.iushr X433.here hx rfl (hb hby at_83) rfl ?_
   exact kt
  obtain ⟨y8, e_y8⟩ : ∃ z, z = ((p5.toUInt32 >>> ((2 : Int32) &&& 31).toUInt32).toInt32) := ⟨_, rfl⟩
  rw [← e_y8]
  refine own_go (B := T433.setTop (mkF m 95 #[.val (.int p1), .val (.int p2), .val (.int p3), .val (.int p4), .val (.int p5), .val (.int p6), .val (.ref b413), .val (.int 2), .val (.int (y8 &&& (32767 : Int32))), .unset, .unset, .unset, .unset, .unset, .unset, .unset, .unset, .unset] [(.int ((p5.toUInt32 >>> ((17 : Int32) &&& 31).toUInt32).toInt32))])) (fun tg kt => ?_) ?_
  ·refine XS.sipush X433.here hx rfl (hb hby at_84) ?_
   refine XS.iand X433.here hx rfl (hb hby at_87) rfl ?_
   refine XS.istore X433.here hx rfl (hb hby at_88) rfl (l' := #[.val (.int p1), .val (.int p2), .val (.int p3), .val (.int p4), .val (.int p5), .val (.int p6), .val (.ref b413), .val (.int 2), .val (.int (y8 &&& (32767 : Int32))), .unset, .unset, .unset, .unset, .unset, .unset, .unset, .unset, .unset]) rfl ?_
   refine XS.iload X433.here hx rfl (hb hby at_90) rfl ?_
   refine XS.bipush X433.here hx rfl (hb hby at_92) ?_
   refine XS.iushr X433.here hx rfl (hb hby at_94) rfl ?_
   exact kt
  obtain ⟨y9, e_y9⟩ : ∃ z, z = ((p5.toUInt32 >>> ((17 : Int32) &&& 31).toUInt32).toInt32) := ⟨_, rfl⟩
  rw [← e_y9]
  refine own_go (B := T433.setTop (mkF m 143 #[.val (.int p1), .val (.int p2), .val (.int p3), .val (.int p4), .val (.int p5), .val (.int p6), .val (.ref b413), .val (.int 2), .val (.int (y8 &&& (32767 : Int32))), .val (.int (y9 &&& (32767 : Int32))), .val (.int 7), .val (.int 7), .unset, .unset, .unset, .unset, .unset, .unset] [(.int ((y8 &&& (32767 : Int32)) % (6 : Int32)))])) (fun tg kt => ?_) ?_
  ·refine XS.sipush X433.here hx rfl (hb hby at_95) ?_
   refine XS.iand X433.here hx rfl (hb hby at_98) rfl ?_
   refine XS.istore X433.here hx rfl (hb hby at_99) rfl (l' := #[.val (.int p1), .val (.int p2), .val (.int p3), .val (.int p4), .val (.int p5), .val (.int p6), .val (.ref b413), .val (.int 2), .val (.int (y8 &&& (32767 : Int32))), .val (.int (y9 &&& (32767 : Int32))), .unset, .unset, .unset, .unset, .unset, .unset, .unset, .unset]) rfl ?_
   refine XS.bipush X433.here hx rfl (hb hby at_101) ?_
   refine XS.istore X433.here hx rfl (hb hby at_103) rfl (l' := #[.val (.int p1), .val (.int p2), .val (.int p3), .val (.int p4), .val (.int p5), .val (.int p6), .val (.ref b413), .val (.int 2), .val (.int (y8 &&& (32767 : Int32))), .val (.int (y9 &&& (32767 : Int32))), .val (.int 7), .unset, .unset, .unset, .unset, .unset, .unset, .unset]) rfl ?_
   refine XS.bipush X433.here hx rfl (hb hby at_105) ?_
   refine XS.istore X433.here hx rfl (hb hby at_107) rfl (l' := #[.val (.int p1), .val (.int p2), .val (.int p3), .val (.int p4), .val (.int p5), .val (.int p6), .val (.ref b413), .val (.int 2), .val (.int (y8 &&& (32767 : Int32))), .val (.int (y9 &&& (32767 : Int32))), .val (.int 7), .val (.int 7), .unset, .unset, .unset, .unset, .unset, .unset]) rfl ?_
   refine XS.iload X433.here hx rfl (hb hby at_109) rfl ?_
   refine XS.iconst X433.here hx rfl (hb hby at_111) ?_
   refine XS.icmpYes X433.here hx rfl (pc0 := 112) (pc' := 132) rfl (hb hby at_112) rfl (feq (by decide : ¬ ((2 : Int32) = (1 : Int32)))).2 (by decide) (by decide) ?_
   refine XS.iload X433.here hx rfl (hb hby at_132) rfl ?_
   refine XS.iconst X433.here hx rfl (hb hby at_134) ?_
   refine XS.icmpNo X433.here hx rfl (hb hby at_135) rfl (teq (by decide : (2 : Int32) = (2 : Int32))).2 ?_
   refine XS.iload X433.here hx rfl (hb hby at_138) rfl ?_
   refine XS.bipush X433.here hx rfl (hb hby at_140) ?_
   refine iremM X433 hx rfl (hb hby at_142) rfl (by decide) ?_
   exact kt
  obtain ⟨pp, hpp, epp⟩ := own_md (n := 6) (m := 6) (own_m15 y8) (by decide) (by decide)
  rw [show ((y8 &&& (32767 : Int32)) % (6 : Int32)) = (Int32.ofNat pp) from epp]
  refine own_go (B := T433.setTop (mkF m 158 #[.val (.int p1), .val (.int p2), .val (.int p3), .val (.int p4), .val (.int p5), .val (.int p6), .val (.ref b413), .val (.int 2), .val (.int (y8 &&& (32767 : Int32))), .val (.int (y9 &&& (32767 : Int32))), .val (.int (Int32.ofNat pp)), .val (.int 7), .unset, .unset, .unset, .unset, .unset, .unset] [(.int (((Int32.ofNat pp) + (1 : Int32)) + ((y9 &&& (32767 : Int32)) % ((6 : Int32) - (Int32.ofNat pp)))))])) (fun tg kt => ?_) ?_
  ·refine XS.istore X433.here hx rfl (hb hby at_143) rfl (l' := #[.val (.int p1), .val (.int p2), .val (.int p3), .val (.int p4), .val (.int p5), .val (.int p6), .val (.ref b413), .val (.int 2), .val (.int (y8 &&& (32767 : Int32))), .val (.int (y9 &&& (32767 : Int32))), .val (.int (Int32.ofNat pp)), .val (.int 7), .unset, .unset, .unset, .unset, .unset, .unset]) rfl ?_
   refine XS.iload X433.here hx rfl (hb hby at_145) rfl ?_
   refine XS.iconst X433.here hx rfl (hb hby at_147) ?_
   refine XS.iadd X433.here hx rfl (hb hby at_148) rfl ?_
   refine XS.iload X433.here hx rfl (hb hby at_149) rfl ?_
   refine XS.bipush X433.here hx rfl (hb hby at_151) ?_
   refine XS.iload X433.here hx rfl (hb hby at_153) rfl ?_
   refine XS.isub X433.here hx rfl (hb hby at_155) rfl ?_
   refine iremM X433 hx rfl (hb hby at_156) rfl (own_pm hpp).1 ?_
   refine XS.iadd X433.here hx rfl (hb hby at_157) rfl ?_
   exact kt
  obtain ⟨qq, hpq, eqq⟩ := own_mdq y9 hpp
  rw [show (((Int32.ofNat pp) + (1 : Int32)) + ((y9 &&& (32767 : Int32)) % ((6 : Int32) - (Int32.ofNat pp)))) = (Int32.ofNat qq) from eqq]
  refine own_go (B := T433.setTop (mkF m 166 #[.val (.int p1), .val (.int p2), .val (.int p3), .val (.int p4), .val (.int p5), .val (.int p6), .val (.ref b413), .val (.int 2), .val (.int (y8 &&& (32767 : Int32))), .val (.int (y9 &&& (32767 : Int32))), .val (.int (Int32.ofNat pp)), .val (.int (Int32.ofNat qq)), .unset, .unset, .unset, .unset, .unset, .unset] [(.int 32), (.int (Int32.ofNat pp)), (.ref b413)])) (fun tg kt => ?_) ?_
  ·refine XS.istore X433.here hx rfl (hb hby at_158) rfl (l' := #[.val (.int p1), .val (.int p2), .val (.int p3), .val (.int p4), .val (.int p5), .val (.int p6), .val (.ref b413), .val (.int 2), .val (.int (y8 &&& (32767 : Int32))), .val (.int (y9 &&& (32767 : Int32))), .val (.int (Int32.ofNat pp)), .val (.int (Int32.ofNat qq)), .unset, .unset, .unset, .unset, .unset, .unset]) rfl ?_
   refine XS.aload X433.here hx rfl (hb hby at_160) rfl rfl ?_
   refine XS.iload X433.here hx rfl (hb hby at_162) rfl ?_
   refine XS.bipush X433.here hx rfl (hb hby at_164) ?_
   exact kt
  obtain ⟨cl567, Ar567, cq567, cS567, cN567, cH567, cG567⟩ := id V434
  have hin567 := inb_of (j := (Int32.ofNat pp)) cS567 (own_ltc (k := 7) (by omega) (by decide) _ (by decide))
  obtain ⟨T567, h567, X567, e567, W567, st567⟩ := stC X433 hx hZ e433 Ar567 (j := (Int32.ofNat pp)) hin567 (g := (mkF m 166 #[.val (.int p1), .val (.int p2), .val (.int p3), .val (.int p4), .val (.int p5), .val (.int p6), .val (.ref b413), .val (.int 2), .val (.int (y8 &&& (32767 : Int32))), .val (.int (y9 &&& (32767 : Int32))), .val (.int (Int32.ofNat pp)), .val (.int (Int32.ofNat qq)), .unset, .unset, .unset, .unset, .unset, .unset] [(.int 32), (.int (Int32.ofNat pp)), (.ref b413)])) rfl rfl (hb hby at_166)
  refine own_go st567 ?_
  have V567 : Arv Z h567 b413 k413 .char (7 : Int32) (own_tab 7 (own_w1 (own_c7 p1 p2 p3 p4) pp)) (.int 0) := by have q := Arv.set Ar567 cq567 cS567 cN567 cH567 cG567 (fits_nar_char _) W567 pp (own_nat (by omega)) (by rw [own_tab_len]; omega); rw [own_tab_set _ _ (by omega)] at q; exact q
  have K567 : Keep h0 h567 [] := Keep.wr K433 W567 (Or.inr (Nat.le_of_eq g413.symm))
  have N567 := Fr.snoc X567 N433 (Nat.le_trans Z0 (Nat.le_of_eq g413.symm))
  refine own_go (B := T567.setTop (mkF m 173 #[.val (.int p1), .val (.int p2), .val (.int p3), .val (.int p4), .val (.int p5), .val (.int p6), .val (.ref b413), .val (.int 2), .val (.int (y8 &&& (32767 : Int32))), .val (.int (y9 &&& (32767 : Int32))), .val (.int (Int32.ofNat pp)), .val (.int (Int32.ofNat qq)), .unset, .unset, .unset, .unset, .unset, .unset] [(.int 32), (.int (Int32.ofNat qq)), (.ref b413)])) (fun tg kt => ?_) ?_
  ·refine XS.aload X567.here hx rfl (hb hby at_167) rfl rfl ?_
   refine XS.iload X567.here hx rfl (hb hby at_169) rfl ?_
   refine XS.bipush X567.here hx rfl (hb hby at_171) ?_
   exact kt
  obtain ⟨cl568, Ar568, cq568, cS568, cN568, cH568, cG568⟩ := id V567
  have hin568 := inb_of (j := (Int32.ofNat qq)) cS568 (own_ltc (k := 7) (by omega) (by decide) _ (by decide))
  obtain ⟨T568, h568, X568, e568, W568, st568⟩ := stC X567 hx hZ e567 Ar568 (j := (Int32.ofNat qq)) hin568 (g := (mkF m 173 #[.val (.int p1), .val (.int p2), .val (.int p3), .val (.int p4), .val (.int p5), .val (.int p6), .val (.ref b413), .val (.int 2), .val (.int (y8 &&& (32767 : Int32))), .val (.int (y9 &&& (32767 : Int32))), .val (.int (Int32.ofNat pp)), .val (.int (Int32.ofNat qq)), .unset, .unset, .unset, .unset, .unset, .unset] [(.int 32), (.int (Int32.ofNat qq)), (.ref b413)])) rfl rfl (hb hby at_173)
  refine own_go st568 ?_
  have V568 : Arv Z h568 b413 k413 .char (7 : Int32) (own_tab 7 (own_w1 (own_w1 (own_c7 p1 p2 p3 p4) pp) qq)) (.int 0) := by have q := Arv.set Ar568 cq568 cS568 cN568 cH568 cG568 (fits_nar_char _) W568 qq (own_nat (by omega)) (by rw [own_tab_len]; omega); rw [own_tab_set _ _ (by omega)] at q; exact q
  have K568 : Keep h0 h568 [] := Keep.wr K567 W568 (Or.inr (Nat.le_of_eq g413.symm))
  have N568 := Fr.snoc X568 N567 (Nat.le_trans Z0 (Nat.le_of_eq g413.symm))
  obtain ⟨cs, ecs⟩ : ∃ z, z = (own_w1 (own_w1 (own_c7 p1 p2 p3 p4) pp) qq) := ⟨_, rfl⟩
  have V569 : Arv Z h568 b413 k413 .char (7 : Int32) (own_tab 7 cs) (.int 0) := (by rw [ecs]; exact V568)
  have hC : ∀ i, i < 7 → 0 ≤ (cs i).toInt ∧ (cs i).toInt ≤ 65535 := by rw [ecs]; exact (own_w1C (own_w1C (fun i hi => (own_c7b p1 p2 p3 p4 i hi).1)))
  have h1s : cs pp = 32 := by rw [ecs, own_w1n _ (by omega)]; exact own_w1p _ _
  have h2s : cs qq = 32 := by rw [ecs]; exact own_w1p _ _
  have hno : ∀ i, i < 7 → i ≠ pp → i ≠ qq → ¬ cs i = 32 := by rw [ecs]; exact fun i hi h1 h2 => own_w1N h2 (own_w1N h1 (own_c7b p1 p2 p3 p4 i hi).2)
  refine own_go (B := T568.setTop (mkF m 184 #[.val (.int p1), .val (.int p2), .val (.int p3), .val (.int p4), .val (.int p5), .val (.int p6), .val (.ref b413), .val (.int 2), .val (.int (y8 &&& (32767 : Int32))), .val (.int (y9 &&& (32767 : Int32))), .val (.int (Int32.ofNat pp)), .val (.int (Int32.ofNat qq)), .unset, .unset, .unset, .unset, .unset, .unset] [(.int ((p6 &&& (2147483647 : Int32)) % (3 : Int32)))])) (fun tg kt => ?_) ?_
  ·refine XS.iload X568.here hx rfl (hb hby at_174) rfl ?_
   refine X568.ldcInt hx hown (mvT hZ (hw _ (List.mem_of_getElem? (i := 6) rfl))) (g := (mkF m 176 #[.val (.int p1), .val (.int p2), .val (.int p3), .val (.int p4), .val (.int p5), .val (.int p6), .val (.ref b413), .val (.int 2), .val (.int (y8 &&& (32767 : Int32))), .val (.int (y9 &&& (32767 : Int32))), .val (.int (Int32.ofNat pp)), .val (.int (Int32.ofNat qq)), .unset, .unset, .unset, .unset, .unset, .unset] [(.int p6)])) rfl (hb hby at_176) _ ?_
   refine XS.iand X568.here hx rfl (hb hby at_178) rfl ?_
   refine XS.iload X568.here hx rfl (hb hby at_179) rfl ?_
   refine XS.iconst X568.here hx rfl (hb hby at_181) ?_
   refine XS.iadd X568.here hx rfl (hb hby at_182) rfl ?_
   refine iremM X568 hx rfl (hb hby at_183) rfl (by decide) ?_
   exact kt
  rcases own_w3 p6 with hw_ | hw_ | hw_
  ·rw [show ((p6 &&& (2147483647 : Int32)) % (3 : Int32)) = (0 : Int32) from hw_]
   refine own_go (B := T568.setTop (mkF m 237 #[.val (.int p1), .val (.int p2), .val (.int p3), .val (.int p4), .val (.int p5), .val (.int p6), .val (.ref b413), .val (.int 2), .val (.int (y8 &&& (32767 : Int32))), .val (.int (y9 &&& (32767 : Int32))), .val (.int (Int32.ofNat pp)), .val (.int (Int32.ofNat qq)), .val (.int 0), .val (.int 0), .val (.int (Int32.ofNat pp)), .val (.int ((Int32.ofNat pp) - (0 : Int32))), .unset, .unset] [])) (fun tg kt => ?_) ?_
   ·refine XS.istore X568.here hx rfl (hb hby at_184) rfl (l' := #[.val (.int p1), .val (.int p2), .val (.int p3), .val (.int p4), .val (.int p5), .val (.int p6), .val (.ref b413), .val (.int 2), .val (.int (y8 &&& (32767 : Int32))), .val (.int (y9 &&& (32767 : Int32))), .val (.int (Int32.ofNat pp)), .val (.int (Int32.ofNat qq)), .val (.int 0), .unset, .unset, .unset, .unset, .unset]) rfl ?_
    refine XS.iload X568.here hx rfl (hb hby at_186) rfl ?_
    refine XS.ifNo X568.here hx rfl (hb hby at_188) rfl ((if0 _ _).trans (teq (by decide : (0 : Int32) = (0 : Int32))).2) ?_
    refine XS.iconst X568.here hx rfl (hb hby at_191) ?_
    refine XS.istore X568.here hx rfl (hb hby at_192) rfl (l' := #[.val (.int p1), .val (.int p2), .val (.int p3), .val (.int p4), .val (.int p5), .val (.int p6), .val (.ref b413), .val (.int 2), .val (.int (y8 &&& (32767 : Int32))), .val (.int (y9 &&& (32767 : Int32))), .val (.int (Int32.ofNat pp)), .val (.int (Int32.ofNat qq)), .val (.int 0), .val (.int 0), .unset, .unset, .unset, .unset]) rfl ?_
    refine XS.iload X568.here hx rfl (hb hby at_194) rfl ?_
    refine XS.istore X568.here hx rfl (hb hby at_196) rfl (l' := #[.val (.int p1), .val (.int p2), .val (.int p3), .val (.int p4), .val (.int p5), .val (.int p6), .val (.ref b413), .val (.int 2), .val (.int (y8 &&& (32767 : Int32))), .val (.int (y9 &&& (32767 : Int32))), .val (.int (Int32.ofNat pp)), .val (.int (Int32.ofNat qq)), .val (.int 0), .val (.int 0), .val (.int (Int32.ofNat pp)), .unset, .unset, .unset]) rfl ?_
    refine XS.goto X568.here hx rfl (pc0 := 198) (pc' := 230) rfl (hb hby at_198) (by decide) (by decide) ?_
    refine XS.iload X568.here hx rfl (hb hby at_230) rfl ?_
    refine XS.iload X568.here hx rfl (hb hby at_232) rfl ?_
    refine XS.isub X568.here hx rfl (hb hby at_234) rfl ?_
    refine XS.istore X568.here hx rfl (hb hby at_235) rfl (l' := #[.val (.int p1), .val (.int p2), .val (.int p3), .val (.int p4), .val (.int p5), .val (.int p6), .val (.ref b413), .val (.int 2), .val (.int (y8 &&& (32767 : Int32))), .val (.int (y9 &&& (32767 : Int32))), .val (.int (Int32.ofNat pp)), .val (.int (Int32.ofNat qq)), .val (.int 0), .val (.int 0), .val (.int (Int32.ofNat pp)), .val (.int ((Int32.ofNat pp) - (0 : Int32))), .unset, .unset]) rfl ?_
    exact kt
   rw [show ((Int32.ofNat pp) - (0 : Int32)) = (Int32.ofNat (pp - 0)) from own_isub (a := 0) (b := pp) (by omega) (by omega)]
   refine own_go (B := T568.setTop (mkF m 244 #[.val (.int p1), .val (.int p2), .val (.int p3), .val (.int p4), .val (.int p5), .val (.int p6), .val (.ref b413), .val (.int 2), .val (.int (y8 &&& (32767 : Int32))), .val (.int (y9 &&& (32767 : Int32))), .val (.int (Int32.ofNat pp)), .val (.int (Int32.ofNat qq)), .val (.int 0), .val (.int 0), .val (.int (Int32.ofNat pp)), .val (.int (Int32.ofNat (pp - 0))), .unset, .unset] [(.int 0), (.int (Int32.ofNat (pp - 0))), (.int 0), (.ref b413)])) (fun tg kt => ?_) ?_
   ·refine XS.aload X568.here hx rfl (hb hby at_237) rfl rfl ?_
    refine XS.iload X568.here hx rfl (hb hby at_239) rfl ?_
    refine XS.iload X568.here hx rfl (hb hby at_241) rfl ?_
    refine XS.iconst X568.here hx rfl (hb hby at_243) ?_
    exact kt
   have le571 : h0.size ≤ h568.size := (Nat.le_trans (Nat.le_trans (Nat.le_trans (Nat.le_trans (Nat.le_trans (Nat.le_trans (Nat.le_trans (Nat.le_trans (Nat.le_trans E413.1 (Nat.le_of_eq (Wr.size W415).symm)) (Nat.le_of_eq (Wr.size W418).symm)) (Nat.le_of_eq (Wr.size W421).symm)) (Nat.le_of_eq (Wr.size W424).symm)) (Nat.le_of_eq (Wr.size W427).symm)) (Nat.le_of_eq (Wr.size W430).symm)) (Nat.le_of_eq (Wr.size W433).symm)) (Nat.le_of_eq (Wr.size W567).symm)) (Nat.le_of_eq (Wr.size W568).symm))
   obtain ⟨_, _, ⟨T570, L570, k570, n570⟩, -, X570, ⟨Lc570, hQ570, l570, y570, z570⟩, st570⟩ := Jvm.LawKit.callS X568 hx (y := (⟨"com/example/restate/restate/WordsHashPinLaw", "term", "([CIII)I"⟩ : MethodName)) hown (mvT hZ (hw _ (List.mem_of_getElem? (i := 7) rfl))) (mvT hZ (hw _ (List.mem_of_getElem? (i := 8) rfl))) (mvT hZ (hw _ (List.mem_of_getElem? (i := 3) rfl))) (mvT hZ (hw _ (List.mem_of_getElem? (i := 9) rfl))) (by decide) (backOf (W := 0) (rm2_0 l Z a0 hw [] b413 (0 : Int32) (Int32.ofNat (pp - 0)) k413 cs 0 (pp - 0) h568 n0 (Nat.le_trans Z0 le571) V569 (⟨own_toInt (t := 0) (by omega), own_toInt (t := pp - 0) (by omega), by omega⟩)) hZ (hw _ (List.mem_of_getElem? (i := 9) rfl)) (hw _ (List.mem_of_getElem? (i := 3) rfl)) (by decide) (by decide)) (g := (mkF m 244 #[.val (.int p1), .val (.int p2), .val (.int p3), .val (.int p4), .val (.int p5), .val (.int p6), .val (.ref b413), .val (.int 2), .val (.int (y8 &&& (32767 : Int32))), .val (.int (y9 &&& (32767 : Int32))), .val (.int (Int32.ofNat pp)), .val (.int (Int32.ofNat qq)), .val (.int 0), .val (.int 0), .val (.int (Int32.ofNat pp)), .val (.int (Int32.ofNat (pp - 0))), .unset, .unset] [(.int 0), (.int (Int32.ofNat (pp - 0))), (.int 0), (.ref b413)])) rfl (by rw [hml]; rfl) (argsL := [(.ref b413), (.int 0), (.int (Int32.ofNat (pp - 0))), (.int 0)]) (rest := []) (lenOf pd_24 rfl) rfl (by show 2 * 0 + _ ≤ _; exact Nat.le_of_eq rfl) (hb hby at_244) (fun _ _ => ⟨rfl, e568, (by decide : 1 + 0 ≤ _), (by decide : 7 + 0 ≤ _)⟩)
   dsimp only [Pt.U, Pt.locs, Pt.cells, Pt.slots] at X570 l570 y570 z570 st570 hQ570
   rw [l570, y570, z570] at X570
   obtain ⟨rfl, M570, q570_0⟩ := hQ570
   have N570 := Fr.app N568 M570
   refine own_go st570 ?_
   refine own_go (B := T570.setTop (mkF m 254 #[.val (.int p1), .val (.int p2), .val (.int p3), .val (.int p4), .val (.int p5), .val (.int p6), .val (.ref b413), .val (.int 2), .val (.int (y8 &&& (32767 : Int32))), .val (.int (y9 &&& (32767 : Int32))), .val (.int (Int32.ofNat pp)), .val (.int (Int32.ofNat qq)), .val (.int 0), .val (.int 0), .val (.int (Int32.ofNat pp)), .val (.int (Int32.ofNat (pp - 0))), .unset, .unset] [(.int 1), (.int (Int32.ofNat (pp - 0))), (.int 0), (.ref b413), (.int (own_term cs 0 (Int32.ofNat (pp - 0)) 0))])) (fun tg kt => ?_) ?_
   ·refine XS.aload X570.here hx rfl (hb hby at_247) rfl rfl ?_
    refine XS.iload X570.here hx rfl (hb hby at_249) rfl ?_
    refine XS.iload X570.here hx rfl (hb hby at_251) rfl ?_
    refine XS.iconst X570.here hx rfl (hb hby at_253) ?_
    exact kt
   obtain ⟨_, _, ⟨T572, L572, k572, n572⟩, -, X572, ⟨Lc572, hQ572, l572, y572, z572⟩, st572⟩ := Jvm.LawKit.callS X570 hx (y := (⟨"com/example/restate/restate/WordsHashPinLaw", "term", "([CIII)I"⟩ : MethodName)) hown (mvT hZ (hw _ (List.mem_of_getElem? (i := 7) rfl))) (mvT hZ (hw _ (List.mem_of_getElem? (i := 8) rfl))) (mvT hZ (hw _ (List.mem_of_getElem? (i := 3) rfl))) (mvT hZ (hw _ (List.mem_of_getElem? (i := 9) rfl))) (by decide) (backOf (W := 1) (rm2_1 l Z a0 hw [] b413 (0 : Int32) (Int32.ofNat (pp - 0)) k413 cs 0 (pp - 0) h568 n0 (Nat.le_trans Z0 le571) V569 (⟨own_toInt (t := 0) (by omega), own_toInt (t := pp - 0) (by omega), by omega⟩)) hZ (hw _ (List.mem_of_getElem? (i := 9) rfl)) (hw _ (List.mem_of_getElem? (i := 3) rfl)) (by decide) (by decide)) (g := (mkF m 254 #[.val (.int p1), .val (.int p2), .val (.int p3), .val (.int p4), .val (.int p5), .val (.int p6), .val (.ref b413), .val (.int 2), .val (.int (y8 &&& (32767 : Int32))), .val (.int (y9 &&& (32767 : Int32))), .val (.int (Int32.ofNat pp)), .val (.int (Int32.ofNat qq)), .val (.int 0), .val (.int 0), .val (.int (Int32.ofNat pp)), .val (.int (Int32.ofNat (pp - 0))), .unset, .unset] [(.int 1), (.int (Int32.ofNat (pp - 0))), (.int 0), (.ref b413), (.int (own_term cs 0 (Int32.ofNat (pp - 0)) 0))])) rfl (by rw [hml]; rfl) (argsL := [(.ref b413), (.int 0), (.int (Int32.ofNat (pp - 0))), (.int 1)]) (rest := [(.int (own_term cs 0 (Int32.ofNat (pp - 0)) 0))]) (lenOf pd_24 rfl) rfl (by show 2 * 0 + _ ≤ _; exact Nat.le_of_eq rfl) (hb hby at_254) (fun _ _ => ⟨rfl, q570_0, (by decide : 1 + 0 ≤ _), (by decide : 7 + 0 ≤ _)⟩)
   dsimp only [Pt.U, Pt.locs, Pt.cells, Pt.slots] at X572 l572 y572 z572 st572 hQ572
   rw [l572, y572, z572] at X572
   obtain ⟨rfl, M572, q572_0⟩ := hQ572
   have N572 := Fr.app N570 M572
   refine own_go st572 ?_
   refine own_go (B := T572.setTop (mkF m 265 #[.val (.int p1), .val (.int p2), .val (.int p3), .val (.int p4), .val (.int p5), .val (.int p6), .val (.ref b413), .val (.int 2), .val (.int (y8 &&& (32767 : Int32))), .val (.int (y9 &&& (32767 : Int32))), .val (.int (Int32.ofNat pp)), .val (.int (Int32.ofNat qq)), .val (.int 0), .val (.int 0), .val (.int (Int32.ofNat pp)), .val (.int (Int32.ofNat (pp - 0))), .unset, .unset] [(.int 2), (.int (Int32.ofNat (pp - 0))), (.int 0), (.ref b413), (.int ((own_term cs 0 (Int32.ofNat (pp - 0)) 0) + (own_term cs 0 (Int32.ofNat (pp - 0)) 1)))])) (fun tg kt => ?_) ?_
   ·refine XS.iadd X572.here hx rfl (hb hby at_257) rfl ?_
    refine XS.aload X572.here hx rfl (hb hby at_258) rfl rfl ?_
    refine XS.iload X572.here hx rfl (hb hby at_260) rfl ?_
    refine XS.iload X572.here hx rfl (hb hby at_262) rfl ?_
    refine XS.iconst X572.here hx rfl (hb hby at_264) ?_
    exact kt
   obtain ⟨_, _, ⟨T573, L573, k573, n573⟩, -, X573, ⟨Lc573, hQ573, l573, y573, z573⟩, st573⟩ := Jvm.LawKit.callS X572 hx (y := (⟨"com/example/restate/restate/WordsHashPinLaw", "term", "([CIII)I"⟩ : MethodName)) hown (mvT hZ (hw _ (List.mem_of_getElem? (i := 7) rfl))) (mvT hZ (hw _ (List.mem_of_getElem? (i := 8) rfl))) (mvT hZ (hw _ (List.mem_of_getElem? (i := 3) rfl))) (mvT hZ (hw _ (List.mem_of_getElem? (i := 9) rfl))) (by decide) (backOf (W := 1) (rm2_2 l Z a0 hw [] b413 (0 : Int32) (Int32.ofNat (pp - 0)) k413 cs 0 (pp - 0) h568 n0 (Nat.le_trans Z0 le571) V569 (⟨own_toInt (t := 0) (by omega), own_toInt (t := pp - 0) (by omega), by omega⟩)) hZ (hw _ (List.mem_of_getElem? (i := 9) rfl)) (hw _ (List.mem_of_getElem? (i := 3) rfl)) (by decide) (by decide)) (g := (mkF m 265 #[.val (.int p1), .val (.int p2), .val (.int p3), .val (.int p4), .val (.int p5), .val (.int p6), .val (.ref b413), .val (.int 2), .val (.int (y8 &&& (32767 : Int32))), .val (.int (y9 &&& (32767 : Int32))), .val (.int (Int32.ofNat pp)), .val (.int (Int32.ofNat qq)), .val (.int 0), .val (.int 0), .val (.int (Int32.ofNat pp)), .val (.int (Int32.ofNat (pp - 0))), .unset, .unset] [(.int 2), (.int (Int32.ofNat (pp - 0))), (.int 0), (.ref b413), (.int ((own_term cs 0 (Int32.ofNat (pp - 0)) 0) + (own_term cs 0 (Int32.ofNat (pp - 0)) 1)))])) rfl (by rw [hml]; rfl) (argsL := [(.ref b413), (.int 0), (.int (Int32.ofNat (pp - 0))), (.int 2)]) (rest := [(.int ((own_term cs 0 (Int32.ofNat (pp - 0)) 0) + (own_term cs 0 (Int32.ofNat (pp - 0)) 1)))]) (lenOf pd_24 rfl) rfl (by show 2 * 0 + _ ≤ _; exact Nat.le_of_eq rfl) (hb hby at_265) (fun _ _ => ⟨rfl, q572_0, (by decide : 1 + 0 ≤ _), (by decide : 7 + 0 ≤ _)⟩)
   dsimp only [Pt.U, Pt.locs, Pt.cells, Pt.slots] at X573 l573 y573 z573 st573 hQ573
   rw [l573, y573, z573] at X573
   obtain ⟨rfl, M573, q573_0⟩ := hQ573
   have N573 := Fr.app N572 M573
   refine own_go st573 ?_
   refine own_go (B := T573.setTop (mkF m 276 #[.val (.int p1), .val (.int p2), .val (.int p3), .val (.int p4), .val (.int p5), .val (.int p6), .val (.ref b413), .val (.int 2), .val (.int (y8 &&& (32767 : Int32))), .val (.int (y9 &&& (32767 : Int32))), .val (.int (Int32.ofNat pp)), .val (.int (Int32.ofNat qq)), .val (.int 0), .val (.int 0), .val (.int (Int32.ofNat pp)), .val (.int (Int32.ofNat (pp - 0))), .unset, .unset] [(.int 3), (.int (Int32.ofNat (pp - 0))), (.int 0), (.ref b413), (.int (((own_term cs 0 (Int32.ofNat (pp - 0)) 0) + (own_term cs 0 (Int32.ofNat (pp - 0)) 1)) + (own_term cs 0 (Int32.ofNat (pp - 0)) 2)))])) (fun tg kt => ?_) ?_
   ·refine XS.iadd X573.here hx rfl (hb hby at_268) rfl ?_
    refine XS.aload X573.here hx rfl (hb hby at_269) rfl rfl ?_
    refine XS.iload X573.here hx rfl (hb hby at_271) rfl ?_
    refine XS.iload X573.here hx rfl (hb hby at_273) rfl ?_
    refine XS.iconst X573.here hx rfl (hb hby at_275) ?_
    exact kt
   obtain ⟨_, _, ⟨T574, L574, k574, n574⟩, -, X574, ⟨Lc574, hQ574, l574, y574, z574⟩, st574⟩ := Jvm.LawKit.callS X573 hx (y := (⟨"com/example/restate/restate/WordsHashPinLaw", "term", "([CIII)I"⟩ : MethodName)) hown (mvT hZ (hw _ (List.mem_of_getElem? (i := 7) rfl))) (mvT hZ (hw _ (List.mem_of_getElem? (i := 8) rfl))) (mvT hZ (hw _ (List.mem_of_getElem? (i := 3) rfl))) (mvT hZ (hw _ (List.mem_of_getElem? (i := 9) rfl))) (by decide) (backOf (W := 1) (rm2_3 l Z a0 hw [] b413 (0 : Int32) (Int32.ofNat (pp - 0)) k413 cs 0 (pp - 0) h568 n0 (Nat.le_trans Z0 le571) V569 (⟨own_toInt (t := 0) (by omega), own_toInt (t := pp - 0) (by omega), by omega⟩)) hZ (hw _ (List.mem_of_getElem? (i := 9) rfl)) (hw _ (List.mem_of_getElem? (i := 3) rfl)) (by decide) (by decide)) (g := (mkF m 276 #[.val (.int p1), .val (.int p2), .val (.int p3), .val (.int p4), .val (.int p5), .val (.int p6), .val (.ref b413), .val (.int 2), .val (.int (y8 &&& (32767 : Int32))), .val (.int (y9 &&& (32767 : Int32))), .val (.int (Int32.ofNat pp)), .val (.int (Int32.ofNat qq)), .val (.int 0), .val (.int 0), .val (.int (Int32.ofNat pp)), .val (.int (Int32.ofNat (pp - 0))), .unset, .unset] [(.int 3), (.int (Int32.ofNat (pp - 0))), (.int 0), (.ref b413), (.int (((own_term cs 0 (Int32.ofNat (pp - 0)) 0) + (own_term cs 0 (Int32.ofNat (pp - 0)) 1)) + (own_term cs 0 (Int32.ofNat (pp - 0)) 2)))])) rfl (by rw [hml]; rfl) (argsL := [(.ref b413), (.int 0), (.int (Int32.ofNat (pp - 0))), (.int 3)]) (rest := [(.int (((own_term cs 0 (Int32.ofNat (pp - 0)) 0) + (own_term cs 0 (Int32.ofNat (pp - 0)) 1)) + (own_term cs 0 (Int32.ofNat (pp - 0)) 2)))]) (lenOf pd_24 rfl) rfl (by show 2 * 0 + _ ≤ _; exact Nat.le_of_eq rfl) (hb hby at_276) (fun _ _ => ⟨rfl, q573_0, (by decide : 1 + 0 ≤ _), (by decide : 7 + 0 ≤ _)⟩)
   dsimp only [Pt.U, Pt.locs, Pt.cells, Pt.slots] at X574 l574 y574 z574 st574 hQ574
   rw [l574, y574, z574] at X574
   obtain ⟨rfl, M574, q574_0⟩ := hQ574
   have N574 := Fr.app N573 M574
   refine own_go st574 ?_
   refine own_go (B := T574.setTop (mkF m 287 #[.val (.int p1), .val (.int p2), .val (.int p3), .val (.int p4), .val (.int p5), .val (.int p6), .val (.ref b413), .val (.int 2), .val (.int (y8 &&& (32767 : Int32))), .val (.int (y9 &&& (32767 : Int32))), .val (.int (Int32.ofNat pp)), .val (.int (Int32.ofNat qq)), .val (.int 0), .val (.int 0), .val (.int (Int32.ofNat pp)), .val (.int (Int32.ofNat (pp - 0))), .unset, .unset] [(.int 4), (.int (Int32.ofNat (pp - 0))), (.int 0), (.ref b413), (.int ((((own_term cs 0 (Int32.ofNat (pp - 0)) 0) + (own_term cs 0 (Int32.ofNat (pp - 0)) 1)) + (own_term cs 0 (Int32.ofNat (pp - 0)) 2)) + (own_term cs 0 (Int32.ofNat (pp - 0)) 3)))])) (fun tg kt => ?_) ?_
   ·refine XS.iadd X574.here hx rfl (hb hby at_279) rfl ?_
    refine XS.aload X574.here hx rfl (hb hby at_280) rfl rfl ?_
    refine XS.iload X574.here hx rfl (hb hby at_282) rfl ?_
    refine XS.iload X574.here hx rfl (hb hby at_284) rfl ?_
    refine XS.iconst X574.here hx rfl (hb hby at_286) ?_
    exact kt
   obtain ⟨_, _, ⟨T575, L575, k575, n575⟩, -, X575, ⟨Lc575, hQ575, l575, y575, z575⟩, st575⟩ := Jvm.LawKit.callS X574 hx (y := (⟨"com/example/restate/restate/WordsHashPinLaw", "term", "([CIII)I"⟩ : MethodName)) hown (mvT hZ (hw _ (List.mem_of_getElem? (i := 7) rfl))) (mvT hZ (hw _ (List.mem_of_getElem? (i := 8) rfl))) (mvT hZ (hw _ (List.mem_of_getElem? (i := 3) rfl))) (mvT hZ (hw _ (List.mem_of_getElem? (i := 9) rfl))) (by decide) (backOf (W := 1) (rm2_4 l Z a0 hw [] b413 (0 : Int32) (Int32.ofNat (pp - 0)) k413 cs 0 (pp - 0) h568 n0 (Nat.le_trans Z0 le571) V569 (⟨own_toInt (t := 0) (by omega), own_toInt (t := pp - 0) (by omega), by omega⟩)) hZ (hw _ (List.mem_of_getElem? (i := 9) rfl)) (hw _ (List.mem_of_getElem? (i := 3) rfl)) (by decide) (by decide)) (g := (mkF m 287 #[.val (.int p1), .val (.int p2), .val (.int p3), .val (.int p4), .val (.int p5), .val (.int p6), .val (.ref b413), .val (.int 2), .val (.int (y8 &&& (32767 : Int32))), .val (.int (y9 &&& (32767 : Int32))), .val (.int (Int32.ofNat pp)), .val (.int (Int32.ofNat qq)), .val (.int 0), .val (.int 0), .val (.int (Int32.ofNat pp)), .val (.int (Int32.ofNat (pp - 0))), .unset, .unset] [(.int 4), (.int (Int32.ofNat (pp - 0))), (.int 0), (.ref b413), (.int ((((own_term cs 0 (Int32.ofNat (pp - 0)) 0) + (own_term cs 0 (Int32.ofNat (pp - 0)) 1)) + (own_term cs 0 (Int32.ofNat (pp - 0)) 2)) + (own_term cs 0 (Int32.ofNat (pp - 0)) 3)))])) rfl (by rw [hml]; rfl) (argsL := [(.ref b413), (.int 0), (.int (Int32.ofNat (pp - 0))), (.int 4)]) (rest := [(.int ((((own_term cs 0 (Int32.ofNat (pp - 0)) 0) + (own_term cs 0 (Int32.ofNat (pp - 0)) 1)) + (own_term cs 0 (Int32.ofNat (pp - 0)) 2)) + (own_term cs 0 (Int32.ofNat (pp - 0)) 3)))]) (lenOf pd_24 rfl) rfl (by show 2 * 0 + _ ≤ _; exact Nat.le_of_eq rfl) (hb hby at_287) (fun _ _ => ⟨rfl, q574_0, (by decide : 1 + 0 ≤ _), (by decide : 7 + 0 ≤ _)⟩)
   dsimp only [Pt.U, Pt.locs, Pt.cells, Pt.slots] at X575 l575 y575 z575 st575 hQ575
   rw [l575, y575, z575] at X575
   obtain ⟨rfl, M575, q575_0⟩ := hQ575
   have N575 := Fr.app N574 M575
   refine own_go st575 ?_
   refine own_go (B := T575.setTop (mkF m 298 #[.val (.int p1), .val (.int p2), .val (.int p3), .val (.int p4), .val (.int p5), .val (.int p6), .val (.ref b413), .val (.int 2), .val (.int (y8 &&& (32767 : Int32))), .val (.int (y9 &&& (32767 : Int32))), .val (.int (Int32.ofNat pp)), .val (.int (Int32.ofNat qq)), .val (.int 0), .val (.int 0), .val (.int (Int32.ofNat pp)), .val (.int (Int32.ofNat (pp - 0))), .unset, .unset] [(.int 5), (.int (Int32.ofNat (pp - 0))), (.int 0), (.ref b413), (.int (((((own_term cs 0 (Int32.ofNat (pp - 0)) 0) + (own_term cs 0 (Int32.ofNat (pp - 0)) 1)) + (own_term cs 0 (Int32.ofNat (pp - 0)) 2)) + (own_term cs 0 (Int32.ofNat (pp - 0)) 3)) + (own_term cs 0 (Int32.ofNat (pp - 0)) 4)))])) (fun tg kt => ?_) ?_
   ·refine XS.iadd X575.here hx rfl (hb hby at_290) rfl ?_
    refine XS.aload X575.here hx rfl (hb hby at_291) rfl rfl ?_
    refine XS.iload X575.here hx rfl (hb hby at_293) rfl ?_
    refine XS.iload X575.here hx rfl (hb hby at_295) rfl ?_
    refine XS.iconst X575.here hx rfl (hb hby at_297) ?_
    exact kt
   obtain ⟨_, _, ⟨T576, L576, k576, n576⟩, -, X576, ⟨Lc576, hQ576, l576, y576, z576⟩, st576⟩ := Jvm.LawKit.callS X575 hx (y := (⟨"com/example/restate/restate/WordsHashPinLaw", "term", "([CIII)I"⟩ : MethodName)) hown (mvT hZ (hw _ (List.mem_of_getElem? (i := 7) rfl))) (mvT hZ (hw _ (List.mem_of_getElem? (i := 8) rfl))) (mvT hZ (hw _ (List.mem_of_getElem? (i := 3) rfl))) (mvT hZ (hw _ (List.mem_of_getElem? (i := 9) rfl))) (by decide) (backOf (W := 1) (rm2_5 l Z a0 hw [] b413 (0 : Int32) (Int32.ofNat (pp - 0)) k413 cs 0 (pp - 0) h568 n0 (Nat.le_trans Z0 le571) V569 (⟨own_toInt (t := 0) (by omega), own_toInt (t := pp - 0) (by omega), by omega⟩)) hZ (hw _ (List.mem_of_getElem? (i := 9) rfl)) (hw _ (List.mem_of_getElem? (i := 3) rfl)) (by decide) (by decide)) (g := (mkF m 298 #[.val (.int p1), .val (.int p2), .val (.int p3), .val (.int p4), .val (.int p5), .val (.int p6), .val (.ref b413), .val (.int 2), .val (.int (y8 &&& (32767 : Int32))), .val (.int (y9 &&& (32767 : Int32))), .val (.int (Int32.ofNat pp)), .val (.int (Int32.ofNat qq)), .val (.int 0), .val (.int 0), .val (.int (Int32.ofNat pp)), .val (.int (Int32.ofNat (pp - 0))), .unset, .unset] [(.int 5), (.int (Int32.ofNat (pp - 0))), (.int 0), (.ref b413), (.int (((((own_term cs 0 (Int32.ofNat (pp - 0)) 0) + (own_term cs 0 (Int32.ofNat (pp - 0)) 1)) + (own_term cs 0 (Int32.ofNat (pp - 0)) 2)) + (own_term cs 0 (Int32.ofNat (pp - 0)) 3)) + (own_term cs 0 (Int32.ofNat (pp - 0)) 4)))])) rfl (by rw [hml]; rfl) (argsL := [(.ref b413), (.int 0), (.int (Int32.ofNat (pp - 0))), (.int 5)]) (rest := [(.int (((((own_term cs 0 (Int32.ofNat (pp - 0)) 0) + (own_term cs 0 (Int32.ofNat (pp - 0)) 1)) + (own_term cs 0 (Int32.ofNat (pp - 0)) 2)) + (own_term cs 0 (Int32.ofNat (pp - 0)) 3)) + (own_term cs 0 (Int32.ofNat (pp - 0)) 4)))]) (lenOf pd_24 rfl) rfl (by show 2 * 0 + _ ≤ _; exact Nat.le_of_eq rfl) (hb hby at_298) (fun _ _ => ⟨rfl, q575_0, (by decide : 1 + 0 ≤ _), (by decide : 7 + 0 ≤ _)⟩)
   dsimp only [Pt.U, Pt.locs, Pt.cells, Pt.slots] at X576 l576 y576 z576 st576 hQ576
   rw [l576, y576, z576] at X576
   obtain ⟨rfl, M576, q576_0⟩ := hQ576
   have N576 := Fr.app N575 M576
   refine own_go st576 ?_
   refine own_go (B := T576.setTop (mkF m 310 #[.val (.int p1), .val (.int p2), .val (.int p3), .val (.int p4), .val (.int p5), .val (.int p6), .val (.ref b413), .val (.int 2), .val (.int (y8 &&& (32767 : Int32))), .val (.int (y9 &&& (32767 : Int32))), .val (.int (Int32.ofNat pp)), .val (.int (Int32.ofNat qq)), .val (.int 0), .val (.int 0), .val (.int (Int32.ofNat pp)), .val (.int (Int32.ofNat (pp - 0))), .unset, .unset] [(.int 6), (.int (Int32.ofNat (pp - 0))), (.int 0), (.ref b413), (.int ((((((own_term cs 0 (Int32.ofNat (pp - 0)) 0) + (own_term cs 0 (Int32.ofNat (pp - 0)) 1)) + (own_term cs 0 (Int32.ofNat (pp - 0)) 2)) + (own_term cs 0 (Int32.ofNat (pp - 0)) 3)) + (own_term cs 0 (Int32.ofNat (pp - 0)) 4)) + (own_term cs 0 (Int32.ofNat (pp - 0)) 5)))])) (fun tg kt => ?_) ?_
   ·refine XS.iadd X576.here hx rfl (hb hby at_301) rfl ?_
    refine XS.aload X576.here hx rfl (hb hby at_302) rfl rfl ?_
    refine XS.iload X576.here hx rfl (hb hby at_304) rfl ?_
    refine XS.iload X576.here hx rfl (hb hby at_306) rfl ?_
    refine XS.bipush X576.here hx rfl (hb hby at_308) ?_
    exact kt
   obtain ⟨_, _, ⟨T577, L577, k577, n577⟩, -, X577, ⟨Lc577, hQ577, l577, y577, z577⟩, st577⟩ := Jvm.LawKit.callS X576 hx (y := (⟨"com/example/restate/restate/WordsHashPinLaw", "term", "([CIII)I"⟩ : MethodName)) hown (mvT hZ (hw _ (List.mem_of_getElem? (i := 7) rfl))) (mvT hZ (hw _ (List.mem_of_getElem? (i := 8) rfl))) (mvT hZ (hw _ (List.mem_of_getElem? (i := 3) rfl))) (mvT hZ (hw _ (List.mem_of_getElem? (i := 9) rfl))) (by decide) (backOf (W := 1) (rm2_6 l Z a0 hw [] b413 (0 : Int32) (Int32.ofNat (pp - 0)) k413 cs 0 (pp - 0) h568 n0 (Nat.le_trans Z0 le571) V569 (⟨own_toInt (t := 0) (by omega), own_toInt (t := pp - 0) (by omega), by omega⟩)) hZ (hw _ (List.mem_of_getElem? (i := 9) rfl)) (hw _ (List.mem_of_getElem? (i := 3) rfl)) (by decide) (by decide)) (g := (mkF m 310 #[.val (.int p1), .val (.int p2), .val (.int p3), .val (.int p4), .val (.int p5), .val (.int p6), .val (.ref b413), .val (.int 2), .val (.int (y8 &&& (32767 : Int32))), .val (.int (y9 &&& (32767 : Int32))), .val (.int (Int32.ofNat pp)), .val (.int (Int32.ofNat qq)), .val (.int 0), .val (.int 0), .val (.int (Int32.ofNat pp)), .val (.int (Int32.ofNat (pp - 0))), .unset, .unset] [(.int 6), (.int (Int32.ofNat (pp - 0))), (.int 0), (.ref b413), (.int ((((((own_term cs 0 (Int32.ofNat (pp - 0)) 0) + (own_term cs 0 (Int32.ofNat (pp - 0)) 1)) + (own_term cs 0 (Int32.ofNat (pp - 0)) 2)) + (own_term cs 0 (Int32.ofNat (pp - 0)) 3)) + (own_term cs 0 (Int32.ofNat (pp - 0)) 4)) + (own_term cs 0 (Int32.ofNat (pp - 0)) 5)))])) rfl (by rw [hml]; rfl) (argsL := [(.ref b413), (.int 0), (.int (Int32.ofNat (pp - 0))), (.int 6)]) (rest := [(.int ((((((own_term cs 0 (Int32.ofNat (pp - 0)) 0) + (own_term cs 0 (Int32.ofNat (pp - 0)) 1)) + (own_term cs 0 (Int32.ofNat (pp - 0)) 2)) + (own_term cs 0 (Int32.ofNat (pp - 0)) 3)) + (own_term cs 0 (Int32.ofNat (pp - 0)) 4)) + (own_term cs 0 (Int32.ofNat (pp - 0)) 5)))]) (lenOf pd_24 rfl) rfl (by show 2 * 0 + _ ≤ _; exact Nat.le_of_eq rfl) (hb hby at_310) (fun _ _ => ⟨rfl, q576_0, (by decide : 1 + 0 ≤ _), (by decide : 7 + 0 ≤ _)⟩)
   dsimp only [Pt.U, Pt.locs, Pt.cells, Pt.slots] at X577 l577 y577 z577 st577 hQ577
   rw [l577, y577, z577] at X577
   obtain ⟨rfl, M577, q577_0⟩ := hQ577
   have N577 := Fr.app N576 M577
   refine own_go st577 ?_
   refine own_go (B := T577.setTop (mkF m 316 #[.val (.int p1), .val (.int p2), .val (.int p3), .val (.int p4), .val (.int p5), .val (.int p6), .val (.ref b413), .val (.int 2), .val (.int (y8 &&& (32767 : Int32))), .val (.int (y9 &&& (32767 : Int32))), .val (.int (Int32.ofNat pp)), .val (.int (Int32.ofNat qq)), .val (.int 0), .val (.int 0), .val (.int (Int32.ofNat pp)), .val (.int (Int32.ofNat (pp - 0))), .val (.int (((((((own_term cs 0 (Int32.ofNat (pp - 0)) 0) + (own_term cs 0 (Int32.ofNat (pp - 0)) 1)) + (own_term cs 0 (Int32.ofNat (pp - 0)) 2)) + (own_term cs 0 (Int32.ofNat (pp - 0)) 3)) + (own_term cs 0 (Int32.ofNat (pp - 0)) 4)) + (own_term cs 0 (Int32.ofNat (pp - 0)) 5)) + (own_term cs 0 (Int32.ofNat (pp - 0)) 6))), .unset] [])) (fun tg kt => ?_) ?_
   ·refine XS.iadd X577.here hx rfl (hb hby at_313) rfl ?_
    refine XS.istore X577.here hx rfl (hb hby at_314) rfl (l' := #[.val (.int p1), .val (.int p2), .val (.int p3), .val (.int p4), .val (.int p5), .val (.int p6), .val (.ref b413), .val (.int 2), .val (.int (y8 &&& (32767 : Int32))), .val (.int (y9 &&& (32767 : Int32))), .val (.int (Int32.ofNat pp)), .val (.int (Int32.ofNat qq)), .val (.int 0), .val (.int 0), .val (.int (Int32.ofNat pp)), .val (.int (Int32.ofNat (pp - 0))), .val (.int (((((((own_term cs 0 (Int32.ofNat (pp - 0)) 0) + (own_term cs 0 (Int32.ofNat (pp - 0)) 1)) + (own_term cs 0 (Int32.ofNat (pp - 0)) 2)) + (own_term cs 0 (Int32.ofNat (pp - 0)) 3)) + (own_term cs 0 (Int32.ofNat (pp - 0)) 4)) + (own_term cs 0 (Int32.ofNat (pp - 0)) 5)) + (own_term cs 0 (Int32.ofNat (pp - 0)) 6))), .unset]) rfl ?_
    exact kt
   rw [show (((((((own_term cs 0 (Int32.ofNat (pp - 0)) 0) + (own_term cs 0 (Int32.ofNat (pp - 0)) 1)) + (own_term cs 0 (Int32.ofNat (pp - 0)) 2)) + (own_term cs 0 (Int32.ofNat (pp - 0)) 3)) + (own_term cs 0 (Int32.ofNat (pp - 0)) 4)) + (own_term cs 0 (Int32.ofNat (pp - 0)) 5)) + (own_term cs 0 (Int32.ofNat (pp - 0)) 6)) = (own_h cs 0 pp) from own_sum (a := 0) (b := pp) (by omega) (by omega)]
   obtain ⟨T578, h578, X578, e578, E578, A578, D578, -, st578⟩ := newO X577 hx hZ hown (hw _ (List.mem_of_getElem? (i := 16) rfl)) (hw _ (List.mem_of_getElem? (i := 17) rfl)) (hw _ (List.mem_of_getElem? (i := 18) rfl)) q577_0 (g := (mkF m 316 #[.val (.int p1), .val (.int p2), .val (.int p3), .val (.int p4), .val (.int p5), .val (.int p6), .val (.ref b413), .val (.int 2), .val (.int (y8 &&& (32767 : Int32))), .val (.int (y9 &&& (32767 : Int32))), .val (.int (Int32.ofNat pp)), .val (.int (Int32.ofNat qq)), .val (.int 0), .val (.int 0), .val (.int (Int32.ofNat pp)), .val (.int (Int32.ofNat (pp - 0))), .val (.int (own_h cs 0 pp)), .unset] [])) rfl (hb hby at_316) (by decide) (by decide)
   obtain ⟨b578, g578⟩ : ∃ z, z = h568.size := ⟨_, rfl⟩
   rw [← g578] at A578 D578 st578
   refine own_go st578 ?_
   have K578 : Keep h0 h578 [] := Keep.ext K568 E578
   have F578_53 : Fld Z h578 b578 "com/example/restate/restate/Words" "line" "Ljava/lang/String;" .null := D578 (Or.inr (hw _ (List.mem_of_getElem? (i := 53) rfl))) (ty := (.object "java/lang/String")) (by decide)
   have F578_117 : Fld Z h578 b578 "com/example/restate/restate/Words" "starts" "[I" .null := D578 (Or.inr (hw _ (List.mem_of_getElem? (i := 117) rfl))) (ty := (.array .int)) (by decide)
   refine own_go (B := T578.setTop (mkF m 320 #[.val (.int p1), .val (.int p2), .val (.int p3), .val (.int p4), .val (.int p5), .val (.int p6), .val (.ref b413), .val (.int 2), .val (.int (y8 &&& (32767 : Int32))), .val (.int (y9 &&& (32767 : Int32))), .val (.int (Int32.ofNat pp)), .val (.int (Int32.ofNat qq)), .val (.int 0), .val (.int 0), .val (.int (Int32.ofNat pp)), .val (.int (Int32.ofNat (pp - 0))), .val (.int (own_h cs 0 pp)), .unset] [(.ref b578), (.ref b578)])) (fun tg kt => ?_) ?_
   ·refine XS.dup X578.here hx rfl (hb hby at_319) rfl rfl ?_
    exact kt
   obtain ⟨T579, h579, X579, e579, E579, A579, D579, -, st579⟩ := newO X578 hx hZ hown (hw _ (List.mem_of_getElem? (i := 19) rfl)) (hw _ (List.mem_of_getElem? (i := 20) rfl)) (hw _ (List.mem_of_getElem? (i := 21) rfl)) e578 (g := (mkF m 320 #[.val (.int p1), .val (.int p2), .val (.int p3), .val (.int p4), .val (.int p5), .val (.int p6), .val (.ref b413), .val (.int 2), .val (.int (y8 &&& (32767 : Int32))), .val (.int (y9 &&& (32767 : Int32))), .val (.int (Int32.ofNat pp)), .val (.int (Int32.ofNat qq)), .val (.int 0), .val (.int 0), .val (.int (Int32.ofNat pp)), .val (.int (Int32.ofNat (pp - 0))), .val (.int (own_h cs 0 pp)), .unset] [(.ref b578), (.ref b578)])) rfl (hb hby at_320) (by decide) (by decide)
   obtain ⟨b579, g579⟩ : ∃ z, z = h578.size := ⟨_, rfl⟩
   rw [← g579] at A579 D579 st579
   refine own_go st579 ?_
   have K579 : Keep h0 h579 [] := Keep.ext K578 E579
   have F579_45 : Fld Z h579 b579 "java/lang/String" "coder" "B" (.int 0) := D579 (Or.inr (hw _ (List.mem_of_getElem? (i := 45) rfl))) (ty := .byte) (by decide)
   have F579_47 : Fld Z h579 b579 "java/lang/String" "value" "[B" .null := D579 (Or.inr (hw _ (List.mem_of_getElem? (i := 47) rfl))) (ty := (.array .byte)) (by decide)
   refine own_go (B := T579.setTop (mkF m 326 #[.val (.int p1), .val (.int p2), .val (.int p3), .val (.int p4), .val (.int p5), .val (.int p6), .val (.ref b413), .val (.int 2), .val (.int (y8 &&& (32767 : Int32))), .val (.int (y9 &&& (32767 : Int32))), .val (.int (Int32.ofNat pp)), .val (.int (Int32.ofNat qq)), .val (.int 0), .val (.int 0), .val (.int (Int32.ofNat pp)), .val (.int (Int32.ofNat (pp - 0))), .val (.int (own_h cs 0 pp)), .unset] [(.ref b413), (.ref b579), (.ref b579), (.ref b578), (.ref b578)])) (fun tg kt => ?_) ?_
   ·refine XS.dup X579.here hx rfl (hb hby at_323) rfl rfl ?_
    refine XS.aload X579.here hx rfl (hb hby at_324) rfl rfl ?_
    exact kt
   have le581 : h0.size ≤ h578.size := (Nat.le_trans (Nat.le_trans (Nat.le_trans (Nat.le_trans (Nat.le_trans (Nat.le_trans (Nat.le_trans (Nat.le_trans (Nat.le_trans (Nat.le_trans E413.1 (Nat.le_of_eq (Wr.size W415).symm)) (Nat.le_of_eq (Wr.size W418).symm)) (Nat.le_of_eq (Wr.size W421).symm)) (Nat.le_of_eq (Wr.size W424).symm)) (Nat.le_of_eq (Wr.size W427).symm)) (Nat.le_of_eq (Wr.size W430).symm)) (Nat.le_of_eq (Wr.size W433).symm)) (Nat.le_of_eq (Wr.size W567).symm)) (Nat.le_of_eq (Wr.size W568).symm)) E578.1)
   have f582 : Sta Z h579 "java/lang/String" "COMPACT_STRINGS" "Z" (.int w_COMPACT_STRINGS) := ((((((((((((S_COMPACT_STRINGS.ext E413).wr W415).wr W418).wr W421).wr W424).wr W427).wr W430).wr W433).wr W567).wr W568).ext E578).ext E579)
   have f583 : Sta Z h579 "java/lang/StringUTF16" "$assertionsDisabled" "Z" (.int 1) := ((((((((((((S__assertionsDisabled.ext E413).wr W415).wr W418).wr W421).wr W424).wr W427).wr W430).wr W433).wr W567).wr W568).ext E578).ext E579)
   have f584 : Sta Z h579 "java/lang/StringUTF16" "HI_BYTE_SHIFT" "I" (.int 0) := ((((((((((((S_HI_BYTE_SHIFT.ext E413).wr W415).wr W418).wr W421).wr W424).wr W427).wr W430).wr W433).wr W567).wr W568).ext E578).ext E579)
   have f585 : Sta Z h579 "java/lang/StringUTF16" "LO_BYTE_SHIFT" "I" (.int 8) := ((((((((((((S_LO_BYTE_SHIFT.ext E413).wr W415).wr W418).wr W421).wr W424).wr W427).wr W430).wr W433).wr W567).wr W568).ext E578).ext E579)
   have f586 : Arv Z h579 b413 k413 .char (7 : Int32) (own_tab 7 cs) (.int 0) := ((V569.ext E578).ext E579)
   have le587 : h0.size ≤ h579.size := (Nat.le_trans (Nat.le_trans (Nat.le_trans (Nat.le_trans (Nat.le_trans (Nat.le_trans (Nat.le_trans (Nat.le_trans (Nat.le_trans (Nat.le_trans (Nat.le_trans E413.1 (Nat.le_of_eq (Wr.size W415).symm)) (Nat.le_of_eq (Wr.size W418).symm)) (Nat.le_of_eq (Wr.size W421).symm)) (Nat.le_of_eq (Wr.size W424).symm)) (Nat.le_of_eq (Wr.size W427).symm)) (Nat.le_of_eq (Wr.size W430).symm)) (Nat.le_of_eq (Wr.size W433).symm)) (Nat.le_of_eq (Wr.size W567).symm)) (Nat.le_of_eq (Wr.size W568).symm)) E578.1) E579.1)
   obtain ⟨_, _, ⟨T580, L580, k580, n580⟩, -, X580, ⟨Lc580, hQ580, l580, y580, z580⟩, st580⟩ := X579.specialBack hx (y := (⟨"java/lang/String", "<init>", "([C)V"⟩ : MethodName)) rfl hown (mvT hZ (hw _ (List.mem_of_getElem? (i := 22) rfl))) (mvT hZ (hw _ (List.mem_of_getElem? (i := 23) rfl))) (mvT hZ (hw _ (List.mem_of_getElem? (i := 24) rfl))) (by decide) (backOf (W := 3) (rm4 l Z a0 hw [] b579 b413 w_COMPACT_STRINGS k413 cs h579 n0 (Nat.le_trans Z0 le587) A579 F579_47 F579_45 (Nat.le_trans (Nat.le_trans Z0 le581) (Nat.le_of_eq g579.symm)) f582 (N_COMPACT_STRINGS) f583 f584 f585 f586 (hC)) hZ (hw _ (List.mem_of_getElem? (i := 24) rfl)) (hw _ (List.mem_of_getElem? (i := 21) rfl)) (by decide) (by decide)) (g := (mkF m 326 #[.val (.int p1), .val (.int p2), .val (.int p3), .val (.int p4), .val (.int p5), .val (.int p6), .val (.ref b413), .val (.int 2), .val (.int (y8 &&& (32767 : Int32))), .val (.int (y9 &&& (32767 : Int32))), .val (.int (Int32.ofNat pp)), .val (.int (Int32.ofNat qq)), .val (.int 0), .val (.int 0), .val (.int (Int32.ofNat pp)), .val (.int (Int32.ofNat (pp - 0))), .val (.int (own_h cs 0 pp)), .unset] [(.ref b413), (.ref b579), (.ref b579), (.ref b578), (.ref b578)])) rfl (by rw [hml]; rfl) (Steps.refl _) (a := b579) (argsL := [(.ref b413)]) (rest := [(.ref b579), (.ref b578), (.ref b578)]) (lenOf pd_25 rfl) rfl (by show 2 * 0 + _ ≤ _; exact Nat.le_of_eq rfl) (hb hby at_326) (fun _ _ => ⟨rfl, e579, (by decide : 3 + 2 ≤ _), (by decide : 13 + 21 ≤ _)⟩)
   dsimp only [Pt.U, Pt.locs, Pt.cells, Pt.slots] at X580 l580 y580 z580 st580 hQ580
   rw [l580, y580, z580] at X580
   obtain ⟨bn_580, kn_580, nb_580, vb_580, rfl, M580, q580_0, q580_1, q580_2, q580_3, q580_4, q580_5, q580_6⟩ := hQ580
   have N580 := Fr.app N577 M580
   have K580 : Keep h0 T580.heap [] := Keep.trans K579 q580_0 (allS (Or.inr (Nat.le_trans le581 (Nat.le_of_eq g579.symm))) all0)
   refine own_go (fun t k => st580.trans k) ?_
   have f589 : Exa Z T580.heap b578 "com/example/restate/restate/Words" := ((A578.ext E579).keep q580_0)
   have ne590 : b578 ≠ b579 := (Nat.ne_of_lt (Nat.lt_of_lt_of_le A578.lt (Nat.le_of_eq g579.symm)))
   have f591 : Fld Z T580.heap b578 "com/example/restate/restate/Words" "line" "Ljava/lang/String;" .null := ((F578_53.ext E579).keep q580_0 (ninS ne590 nin0))
   have f592 : Fld Z T580.heap b578 "com/example/restate/restate/Words" "starts" "[I" .null := ((F578_117.ext E579).keep q580_0 (ninS ne590 nin0))
   have f593 : Sta Z T580.heap "java/lang/String" "COMPACT_STRINGS" "Z" (.int w_COMPACT_STRINGS) := (own_staKeep f582 q580_0 (own_nsS (own_nsE A579) own_ns0))
   have f594 : Sta Z T580.heap "java/lang/StringUTF16" "$assertionsDisabled" "Z" (.int 1) := (own_staKeep f583 q580_0 (own_nsS (own_nsE A579) own_ns0))
   have f595 : Sta Z T580.heap "java/lang/StringUTF16" "HI_BYTE_SHIFT" "I" (.int 0) := (own_staKeep f584 q580_0 (own_nsS (own_nsE A579) own_ns0))
   have f596 : Sta Z T580.heap "java/lang/StringUTF16" "LO_BYTE_SHIFT" "I" (.int 8) := (own_staKeep f585 q580_0 (own_nsS (own_nsE A579) own_ns0))
   have f597 : Sta Z T580.heap "jdk/internal/util/Preconditions" "SIOOBE_FORMATTER" "Ljava/util/function/BiFunction;" (own_rv w_SIOOBE_FORMATTER) := (own_staKeep ((((((((((((S_SIOOBE_FORMATTER.ext E413).wr W415).wr W418).wr W421).wr W424).wr W427).wr W430).wr W433).wr W567).wr W568).ext E578).ext E579) q580_0 (own_nsS (own_nsE A579) own_ns0))
   have ne598 : b578 ≠ bn_580 := (Nat.ne_of_lt (Nat.lt_of_lt_of_le (Nat.lt_of_lt_of_le A578.lt E579.1) q580_1))
   have le599 : h0.size ≤ T580.heap.size := (Nat.le_trans (Nat.le_trans (Nat.le_trans (Nat.le_trans (Nat.le_trans (Nat.le_trans (Nat.le_trans (Nat.le_trans (Nat.le_trans (Nat.le_trans (Nat.le_trans (Nat.le_trans E413.1 (Nat.le_of_eq (Wr.size W415).symm)) (Nat.le_of_eq (Wr.size W418).symm)) (Nat.le_of_eq (Wr.size W421).symm)) (Nat.le_of_eq (Wr.size W424).symm)) (Nat.le_of_eq (Wr.size W427).symm)) (Nat.le_of_eq (Wr.size W430).symm)) (Nat.le_of_eq (Wr.size W433).symm)) (Nat.le_of_eq (Wr.size W567).symm)) (Nat.le_of_eq (Wr.size W568).symm)) E578.1) E579.1) q580_0.1)
   obtain ⟨_, _, ⟨T588, L588, k588, n588⟩, -, X588, ⟨Lc588, hQ588, l588, y588, z588⟩, st588⟩ := X580.specialBack hx (y := (⟨"com/example/restate/restate/Words", "<init>", "(Ljava/lang/String;)V"⟩ : MethodName)) rfl hown (mvT hZ (hw _ (List.mem_of_getElem? (i := 48) rfl))) (mvT hZ (hw _ (List.mem_of_getElem? (i := 49) rfl))) (mvT hZ (hw _ (List.mem_of_getElem? (i := 50) rfl))) (by decide) (backOf (W := 1) (rm10_2 l Z a0 hw [] b578 b579 w_COMPACT_STRINGS w_SIOOBE_FORMATTER bn_580 kn_580 (own_cf nb_580) nb_580 vb_580 cs pp qq T580.heap n0 (Nat.le_trans Z0 le599) f589 f591 f592 (Nat.le_trans (Nat.le_trans Z0 le571) (Nat.le_of_eq g578.symm)) f593 (by first | assumption | decide) f594 f595 f596 f597 q580_2 q580_4 q580_3 q580_5 (q580_6) (hC) (hpq) (h1s) (h2s) (hno) ne590 ne598) hZ (hw _ (List.mem_of_getElem? (i := 50) rfl)) (hw _ (List.mem_of_getElem? (i := 18) rfl)) (by decide) (by decide)) (g := (mkF m 329 #[.val (.int p1), .val (.int p2), .val (.int p3), .val (.int p4), .val (.int p5), .val (.int p6), .val (.ref b413), .val (.int 2), .val (.int (y8 &&& (32767 : Int32))), .val (.int (y9 &&& (32767 : Int32))), .val (.int (Int32.ofNat pp)), .val (.int (Int32.ofNat qq)), .val (.int 0), .val (.int 0), .val (.int (Int32.ofNat pp)), .val (.int (Int32.ofNat (pp - 0))), .val (.int (own_h cs 0 pp)), .unset] [(.ref b579), (.ref b578), (.ref b578)])) rfl (by rw [hml]; rfl) (Steps.refl _) (a := b578) (argsL := [(.ref b579)]) (rest := [(.ref b578)]) (lenOf pd_26 rfl) rfl (by show 2 * 0 + _ ≤ _; exact Nat.le_of_eq rfl) (hb hby at_329) (fun _ _ => ⟨rfl, rfl, (by decide : 5 + 2 ≤ _), (by decide : 34 + 20 ≤ _)⟩)
   dsimp only [Pt.U, Pt.locs, Pt.cells, Pt.slots] at X588 l588 y588 z588 st588 hQ588
   rw [l588, y588, z588] at X588
   obtain ⟨sn_588, ks_588, rfl, M588, q588_0, q588_1, q588_2, q588_3, q588_4, q588_5⟩ := hQ588
   have N588 := Fr.app N580 M588
   have K588 : Keep h0 T588.heap [] := Keep.trans K580 q588_0 (allS (Or.inr (Nat.le_trans le571 (Nat.le_of_eq g578.symm))) all0)
   refine own_go (fun t k => st588.trans k) ?_
   refine own_go (B := T588.setTop (mkF m 336 #[.val (.int p1), .val (.int p2), .val (.int p3), .val (.int p4), .val (.int p5), .val (.int p6), .val (.ref b413), .val (.int 2), .val (.int (y8 &&& (32767 : Int32))), .val (.int (y9 &&& (32767 : Int32))), .val (.int (Int32.ofNat pp)), .val (.int (Int32.ofNat qq)), .val (.int 0), .val (.int 0), .val (.int (Int32.ofNat pp)), .val (.int (Int32.ofNat (pp - 0))), .val (.int (own_h cs 0 pp)), .val (.ref b578)] [(.ref b578)])) (fun tg kt => ?_) ?_
   ·refine XS.astore X588.here hx rfl (hb hby at_332) rfl rfl (l' := #[.val (.int p1), .val (.int p2), .val (.int p3), .val (.int p4), .val (.int p5), .val (.int p6), .val (.ref b413), .val (.int 2), .val (.int (y8 &&& (32767 : Int32))), .val (.int (y9 &&& (32767 : Int32))), .val (.int (Int32.ofNat pp)), .val (.int (Int32.ofNat qq)), .val (.int 0), .val (.int 0), .val (.int (Int32.ofNat pp)), .val (.int (Int32.ofNat (pp - 0))), .val (.int (own_h cs 0 pp)), .val (.ref b578)]) rfl ?_
    refine XS.aload X588.here hx rfl (hb hby at_334) rfl rfl ?_
    exact kt
   have le601 : h0.size ≤ T588.heap.size := (Nat.le_trans (Nat.le_trans (Nat.le_trans (Nat.le_trans (Nat.le_trans (Nat.le_trans (Nat.le_trans (Nat.le_trans (Nat.le_trans (Nat.le_trans (Nat.le_trans (Nat.le_trans (Nat.le_trans E413.1 (Nat.le_of_eq (Wr.size W415).symm)) (Nat.le_of_eq (Wr.size W418).symm)) (Nat.le_of_eq (Wr.size W421).symm)) (Nat.le_of_eq (Wr.size W424).symm)) (Nat.le_of_eq (Wr.size W427).symm)) (Nat.le_of_eq (Wr.size W430).symm)) (Nat.le_of_eq (Wr.size W433).symm)) (Nat.le_of_eq (Wr.size W567).symm)) (Nat.le_of_eq (Wr.size W568).symm)) E578.1) E579.1) q580_0.1) q588_0.1)
   obtain ⟨cq600, kq600, q600a, q600b, q600c⟩ := isOf hZ rfl q588_2
   obtain ⟨_, _, ⟨T600, L600, k600, n600⟩, -, X600, ⟨Lc600, hQ600, l600, y600, z600⟩, st600⟩ := X588.virtualBack hx (y := (⟨"com/example/restate/restate/Words", "size", "()I"⟩ : MethodName)) (z := (⟨"com/example/restate/restate/Words", "size", "()I"⟩ : MethodName)) hown (mvT hZ (hw _ (List.mem_of_getElem? (i := 118) rfl))) (mvT hZ (hw _ (List.mem_of_getElem? (i := 119) rfl))) (notFace_of_selects (args := #[]) (mvT hZ (hw _ (List.mem_of_getElem? (i := 121) rfl)))) (mvT hZ (hw _ (List.mem_of_getElem? (i := 121) rfl))) (mvT hZ (hw _ (List.mem_of_getElem? (i := 120) rfl))) (by decide) (backOf (W := 0) (rm24_2 l Z a0 hw [] b578 sn_588 ks_588 ([(.int 0), (.int (Int32.ofNat (pp + 1))), (.int (Int32.ofNat (qq + 1))), (.int 8)]) T588.heap n0 (Nat.le_trans Z0 le601) q588_2 q588_4 q588_5) hZ (hw _ (List.mem_of_getElem? (i := 122) rfl)) (hw _ (List.mem_of_getElem? (i := 18) rfl)) (by decide) (by decide)) q600a q600c (g := (mkF m 336 #[.val (.int p1), .val (.int p2), .val (.int p3), .val (.int p4), .val (.int p5), .val (.int p6), .val (.ref b413), .val (.int 2), .val (.int (y8 &&& (32767 : Int32))), .val (.int (y9 &&& (32767 : Int32))), .val (.int (Int32.ofNat pp)), .val (.int (Int32.ofNat qq)), .val (.int 0), .val (.int 0), .val (.int (Int32.ofNat pp)), .val (.int (Int32.ofNat (pp - 0))), .val (.int (own_h cs 0 pp)), .val (.ref b578)] [(.ref b578)])) rfl (by rw [hml]; rfl) (Steps.refl _) (argsL := []) (rest := []) (lenOf pd_19 rfl) rfl (by show 2 * 0 + _ ≤ _; exact Nat.le_of_eq rfl) (hb hby at_336) (fun _ _ => ⟨rfl, rfl, (by decide : 7 + 0 ≤ _), (by decide : 54 + 0 ≤ _)⟩)
   dsimp only [Pt.U, Pt.locs, Pt.cells, Pt.slots] at X600 l600 y600 z600 st600 hQ600
   rw [l600, y600, z600] at X600
   obtain ⟨rfl, M600, q600_0⟩ := hQ600
   have N600 := Fr.app N588 M600
   refine own_go (fun t k => st600.trans k) ?_
   refine own_go (B := T600.setTop (mkF m 350 #[.val (.int p1), .val (.int p2), .val (.int p3), .val (.int p4), .val (.int p5), .val (.int p6), .val (.ref b413), .val (.int 2), .val (.int (y8 &&& (32767 : Int32))), .val (.int (y9 &&& (32767 : Int32))), .val (.int (Int32.ofNat pp)), .val (.int (Int32.ofNat qq)), .val (.int 0), .val (.int 0), .val (.int (Int32.ofNat pp)), .val (.int (Int32.ofNat (pp - 0))), .val (.int (own_h cs 0 pp)), .val (.ref b578)] [(.int 0), (.ref b578)])) (fun tg kt => ?_) ?_
   ·refine XS.iload X600.here hx rfl (hb hby at_339) rfl ?_
    refine XS.iconst X600.here hx rfl (hb hby at_341) ?_
    refine XS.iadd X600.here hx rfl (hb hby at_342) rfl ?_
    refine XS.icmpNo X600.here hx rfl (hb hby at_343) rfl (teq (by decide : (3 : Int32) = (3 : Int32))).2 ?_
    refine XS.aload X600.here hx rfl (hb hby at_346) rfl rfl ?_
    refine XS.iload X600.here hx rfl (hb hby at_348) rfl ?_
    exact kt
   have f603 : Sta Z T588.heap "java/lang/String" "COMPACT_STRINGS" "Z" (.int w_COMPACT_STRINGS) := (own_staKeep f593 q588_0 (own_nsS (own_nsE f589) own_ns0))
   have f604 : Sta Z T588.heap "java/lang/StringUTF16" "$assertionsDisabled" "Z" (.int 1) := (own_staKeep f594 q588_0 (own_nsS (own_nsE f589) own_ns0))
   have f605 : Sta Z T588.heap "java/lang/StringUTF16" "HI_BYTE_SHIFT" "I" (.int 0) := (own_staKeep f595 q588_0 (own_nsS (own_nsE f589) own_ns0))
   have f606 : Sta Z T588.heap "java/lang/StringUTF16" "LO_BYTE_SHIFT" "I" (.int 8) := (own_staKeep f596 q588_0 (own_nsS (own_nsE f589) own_ns0))
   have f607 : Sta Z T588.heap "jdk/internal/util/Preconditions" "SIOOBE_FORMATTER" "Ljava/util/function/BiFunction;" (own_rv w_SIOOBE_FORMATTER) := (own_staKeep f597 q588_0 (own_nsS (own_nsE f589) own_ns0))
   have f608 : Exa Z T588.heap b579 "java/lang/String" := (q580_2.keep q588_0)
   have f609 : Fld Z T588.heap b579 "java/lang/String" "value" "[B" (.ref bn_580) := (q580_4.keep q588_0 (ninS (Ne.symm ne590) nin0))
   have f610 : Fld Z T588.heap b579 "java/lang/String" "coder" "B" (.int (own_cf nb_580)) := (q580_3.keep q588_0 (ninS (Ne.symm ne590) nin0))
   have f611 : Arv Z T588.heap bn_580 kn_580 .byte nb_580 vb_580 (.int 0) := (q580_5.keep q588_0 (ninS (Ne.symm ne598) nin0))
   obtain ⟨cq602, kq602, q602a, q602b, q602c⟩ := isOf hZ q600_0 q588_2
   obtain ⟨_, _, ⟨T602, L602, k602, n602⟩, -, X602, ⟨Lc602, hQ602, l602, y602, z602⟩, st602⟩ := X600.virtualBack hx (y := (⟨"com/example/restate/restate/Words", "hash", "(I)I"⟩ : MethodName)) (z := (⟨"com/example/restate/restate/Words", "hash", "(I)I"⟩ : MethodName)) hown (mvT hZ (hw _ (List.mem_of_getElem? (i := 123) rfl))) (mvT hZ (hw _ (List.mem_of_getElem? (i := 124) rfl))) (notFace_of_selects (args := #[]) (mvT hZ (hw _ (List.mem_of_getElem? (i := 126) rfl)))) (mvT hZ (hw _ (List.mem_of_getElem? (i := 126) rfl))) (mvT hZ (hw _ (List.mem_of_getElem? (i := 125) rfl))) (by decide) (backOf (W := 0) (rm25 l Z a0 hw [] b578 (0 : Int32) b579 w_COMPACT_STRINGS w_SIOOBE_FORMATTER bn_580 kn_580 (own_cf nb_580) nb_580 vb_580 cs sn_588 ks_588 (4 : Int32) ([(.int 0), (.int (Int32.ofNat (pp + 1))), (.int (Int32.ofNat (qq + 1))), (.int 8)]) 0 pp T588.heap n0 (Nat.le_trans Z0 le601) f603 (N_COMPACT_STRINGS) f604 f605 f606 f607 f608 f609 f610 f611 (q580_6) (hC) q588_3 q588_4 q588_2 q588_5 (by decide) (by decide) (rfl) (rfl) (⟨by omega, by omega⟩)) hZ (hw _ (List.mem_of_getElem? (i := 127) rfl)) (hw _ (List.mem_of_getElem? (i := 18) rfl)) (by decide) (by decide)) q602a q602c (g := (mkF m 350 #[.val (.int p1), .val (.int p2), .val (.int p3), .val (.int p4), .val (.int p5), .val (.int p6), .val (.ref b413), .val (.int 2), .val (.int (y8 &&& (32767 : Int32))), .val (.int (y9 &&& (32767 : Int32))), .val (.int (Int32.ofNat pp)), .val (.int (Int32.ofNat qq)), .val (.int 0), .val (.int 0), .val (.int (Int32.ofNat pp)), .val (.int (Int32.ofNat (pp - 0))), .val (.int (own_h cs 0 pp)), .val (.ref b578)] [(.int 0), (.ref b578)])) rfl (by rw [hml]; rfl) (Steps.refl _) (argsL := [(.int 0)]) (rest := []) (lenOf pd_0 rfl) rfl (by show 2 * 0 + _ ≤ _; exact Nat.le_of_eq rfl) (hb hby at_350) (fun _ _ => ⟨rfl, q600_0, (by decide : 7 + 0 ≤ _), (by decide : 54 + 0 ≤ _)⟩)
   dsimp only [Pt.U, Pt.locs, Pt.cells, Pt.slots] at X602 l602 y602 z602 st602 hQ602
   rw [l602, y602, z602] at X602
   obtain ⟨rfl, M602, q602_0⟩ := hQ602
   have N602 := Fr.app N600 M602
   refine own_go (fun t k => st602.trans k) ?_
   refine own_go (B := T602.setTop (mkF m 363 #[.val (.int p1), .val (.int p2), .val (.int p3), .val (.int p4), .val (.int p5), .val (.int p6), .val (.ref b413), .val (.int 2), .val (.int (y8 &&& (32767 : Int32))), .val (.int (y9 &&& (32767 : Int32))), .val (.int (Int32.ofNat pp)), .val (.int (Int32.ofNat qq)), .val (.int 0), .val (.int 0), .val (.int (Int32.ofNat pp)), .val (.int (Int32.ofNat (pp - 0))), .val (.int (own_h cs 0 pp)), .val (.ref b578)] [(.int 1)])) (fun tg kt => ?_) ?_
   ·refine XS.iload X602.here hx rfl (hb hby at_353) rfl ?_
    refine XS.icmpNo X602.here hx rfl (hb hby at_355) rfl (teq (rfl : (own_h cs 0 pp) = (own_h cs 0 pp))).2 ?_
    refine XS.iconst X602.here hx rfl (hb hby at_358) ?_
    refine XS.goto X602.here hx rfl (pc0 := 359) (pc' := 363) rfl (hb hby at_359) (by decide) (by decide) ?_
    exact kt
   obtain ⟨fs, hr, hrun, hended, hW, hsame⟩ := X602.leave (v := some (.int 1)) (fun h => by rw [Bd.returns] at h; cases h)
   refine ⟨_, _, ?_, hrun, hended, _, _, rfl, ?_, ⟨_, rfl⟩, hW, hsame.mono (by decide) (by decide)⟩
   ·exact retN X602 hx (t := .boolean) Bd.returns (by simp) (hb hby at_363) hr
   ·show Q0 Z p1 p2 p3 p4 p5 p6 w_COMPACT_STRINGS w_SIOOBE_FORMATTER h0 n0 _ T602.heap _
    rw [q602_0]
    exact ⟨rfl, N602⟩
  ·rw [show ((p6 &&& (2147483647 : Int32)) % (3 : Int32)) = (1 : Int32) from hw_]
   refine own_go (B := T568.setTop (mkF m 230 #[.val (.int p1), .val (.int p2), .val (.int p3), .val (.int p4), .val (.int p5), .val (.int p6), .val (.ref b413), .val (.int 2), .val (.int (y8 &&& (32767 : Int32))), .val (.int (y9 &&& (32767 : Int32))), .val (.int (Int32.ofNat pp)), .val (.int (Int32.ofNat qq)), .val (.int 1), .val (.int ((Int32.ofNat pp) + (1 : Int32))), .val (.int (Int32.ofNat qq)), .unset, .unset, .unset] [])) (fun tg kt => ?_) ?_
   ·refine XS.istore X568.here hx rfl (hb hby at_184) rfl (l' := #[.val (.int p1), .val (.int p2), .val (.int p3), .val (.int p4), .val (.int p5), .val (.int p6), .val (.ref b413), .val (.int 2), .val (.int (y8 &&& (32767 : Int32))), .val (.int (y9 &&& (32767 : Int32))), .val (.int (Int32.ofNat pp)), .val (.int (Int32.ofNat qq)), .val (.int 1), .unset, .unset, .unset, .unset, .unset]) rfl ?_
    refine XS.iload X568.here hx rfl (hb hby at_186) rfl ?_
    refine XS.ifYes X568.here hx rfl (pc0 := 188) (pc' := 201) rfl (hb hby at_188) rfl ((if0 _ _).trans (feq (by decide : ¬ ((1 : Int32) = (0 : Int32)))).2) (by decide) (by decide) ?_
    refine XS.iload X568.here hx rfl (hb hby at_201) rfl ?_
    refine XS.iconst X568.here hx rfl (hb hby at_203) ?_
    refine XS.icmpNo X568.here hx rfl (hb hby at_204) rfl (teq (by decide : (1 : Int32) = (1 : Int32))).2 ?_
    refine XS.iload X568.here hx rfl (hb hby at_207) rfl ?_
    refine XS.iconst X568.here hx rfl (hb hby at_209) ?_
    refine XS.iadd X568.here hx rfl (hb hby at_210) rfl ?_
    refine XS.istore X568.here hx rfl (hb hby at_211) rfl (l' := #[.val (.int p1), .val (.int p2), .val (.int p3), .val (.int p4), .val (.int p5), .val (.int p6), .val (.ref b413), .val (.int 2), .val (.int (y8 &&& (32767 : Int32))), .val (.int (y9 &&& (32767 : Int32))), .val (.int (Int32.ofNat pp)), .val (.int (Int32.ofNat qq)), .val (.int 1), .val (.int ((Int32.ofNat pp) + (1 : Int32))), .unset, .unset, .unset, .unset]) rfl ?_
    refine XS.iload X568.here hx rfl (hb hby at_213) rfl ?_
    refine XS.istore X568.here hx rfl (hb hby at_215) rfl (l' := #[.val (.int p1), .val (.int p2), .val (.int p3), .val (.int p4), .val (.int p5), .val (.int p6), .val (.ref b413), .val (.int 2), .val (.int (y8 &&& (32767 : Int32))), .val (.int (y9 &&& (32767 : Int32))), .val (.int (Int32.ofNat pp)), .val (.int (Int32.ofNat qq)), .val (.int 1), .val (.int ((Int32.ofNat pp) + (1 : Int32))), .val (.int (Int32.ofNat qq)), .unset, .unset, .unset]) rfl ?_
    refine XS.goto X568.here hx rfl (pc0 := 217) (pc' := 230) rfl (hb hby at_217) (by decide) (by decide) ?_
    exact kt
   rw [show ((Int32.ofNat pp) + (1 : Int32)) = (Int32.ofNat (pp + 1)) from own_isucc _]
   refine own_go (B := T568.setTop (mkF m 237 #[.val (.int p1), .val (.int p2), .val (.int p3), .val (.int p4), .val (.int p5), .val (.int p6), .val (.ref b413), .val (.int 2), .val (.int (y8 &&& (32767 : Int32))), .val (.int (y9 &&& (32767 : Int32))), .val (.int (Int32.ofNat pp)), .val (.int (Int32.ofNat qq)), .val (.int 1), .val (.int (Int32.ofNat (pp + 1))), .val (.int (Int32.ofNat qq)), .val (.int ((Int32.ofNat qq) - (Int32.ofNat (pp + 1)))), .unset, .unset] [])) (fun tg kt => ?_) ?_
   ·refine XS.iload X568.here hx rfl (hb hby at_230) rfl ?_
    refine XS.iload X568.here hx rfl (hb hby at_232) rfl ?_
    refine XS.isub X568.here hx rfl (hb hby at_234) rfl ?_
    refine XS.istore X568.here hx rfl (hb hby at_235) rfl (l' := #[.val (.int p1), .val (.int p2), .val (.int p3), .val (.int p4), .val (.int p5), .val (.int p6), .val (.ref b413), .val (.int 2), .val (.int (y8 &&& (32767 : Int32))), .val (.int (y9 &&& (32767 : Int32))), .val (.int (Int32.ofNat pp)), .val (.int (Int32.ofNat qq)), .val (.int 1), .val (.int (Int32.ofNat (pp + 1))), .val (.int (Int32.ofNat qq)), .val (.int ((Int32.ofNat qq) - (Int32.ofNat (pp + 1)))), .unset, .unset]) rfl ?_
    exact kt
   rw [show ((Int32.ofNat qq) - (Int32.ofNat (pp + 1))) = (Int32.ofNat (qq - (pp + 1))) from own_isub (a := (pp + 1)) (b := qq) (by omega) (by omega)]
   refine own_go (B := T568.setTop (mkF m 244 #[.val (.int p1), .val (.int p2), .val (.int p3), .val (.int p4), .val (.int p5), .val (.int p6), .val (.ref b413), .val (.int 2), .val (.int (y8 &&& (32767 : Int32))), .val (.int (y9 &&& (32767 : Int32))), .val (.int (Int32.ofNat pp)), .val (.int (Int32.ofNat qq)), .val (.int 1), .val (.int (Int32.ofNat (pp + 1))), .val (.int (Int32.ofNat qq)), .val (.int (Int32.ofNat (qq - (pp + 1)))), .unset, .unset] [(.int 0), (.int (Int32.ofNat (qq - (pp + 1)))), (.int (Int32.ofNat (pp + 1))), (.ref b413)])) (fun tg kt => ?_) ?_
   ·refine XS.aload X568.here hx rfl (hb hby at_237) rfl rfl ?_
    refine XS.iload X568.here hx rfl (hb hby at_239) rfl ?_
    refine XS.iload X568.here hx rfl (hb hby at_241) rfl ?_
    refine XS.iconst X568.here hx rfl (hb hby at_243) ?_
    exact kt
   have le614 : h0.size ≤ h568.size := (Nat.le_trans (Nat.le_trans (Nat.le_trans (Nat.le_trans (Nat.le_trans (Nat.le_trans (Nat.le_trans (Nat.le_trans (Nat.le_trans E413.1 (Nat.le_of_eq (Wr.size W415).symm)) (Nat.le_of_eq (Wr.size W418).symm)) (Nat.le_of_eq (Wr.size W421).symm)) (Nat.le_of_eq (Wr.size W424).symm)) (Nat.le_of_eq (Wr.size W427).symm)) (Nat.le_of_eq (Wr.size W430).symm)) (Nat.le_of_eq (Wr.size W433).symm)) (Nat.le_of_eq (Wr.size W567).symm)) (Nat.le_of_eq (Wr.size W568).symm))
   obtain ⟨_, _, ⟨T613, L613, k613, n613⟩, -, X613, ⟨Lc613, hQ613, l613, y613, z613⟩, st613⟩ := Jvm.LawKit.callS X568 hx (y := (⟨"com/example/restate/restate/WordsHashPinLaw", "term", "([CIII)I"⟩ : MethodName)) hown (mvT hZ (hw _ (List.mem_of_getElem? (i := 7) rfl))) (mvT hZ (hw _ (List.mem_of_getElem? (i := 8) rfl))) (mvT hZ (hw _ (List.mem_of_getElem? (i := 3) rfl))) (mvT hZ (hw _ (List.mem_of_getElem? (i := 9) rfl))) (by decide) (backOf (W := 0) (rm2_0 l Z a0 hw [] b413 (Int32.ofNat (pp + 1)) (Int32.ofNat (qq - (pp + 1))) k413 cs (pp + 1) (qq - (pp + 1)) h568 n0 (Nat.le_trans Z0 le614) V569 (⟨own_toInt (t := (pp + 1)) (by omega), own_toInt (t := qq - (pp + 1)) (by omega), by omega⟩)) hZ (hw _ (List.mem_of_getElem? (i := 9) rfl)) (hw _ (List.mem_of_getElem? (i := 3) rfl)) (by decide) (by decide)) (g := (mkF m 244 #[.val (.int p1), .val (.int p2), .val (.int p3), .val (.int p4), .val (.int p5), .val (.int p6), .val (.ref b413), .val (.int 2), .val (.int (y8 &&& (32767 : Int32))), .val (.int (y9 &&& (32767 : Int32))), .val (.int (Int32.ofNat pp)), .val (.int (Int32.ofNat qq)), .val (.int 1), .val (.int (Int32.ofNat (pp + 1))), .val (.int (Int32.ofNat qq)), .val (.int (Int32.ofNat (qq - (pp + 1)))), .unset, .unset] [(.int 0), (.int (Int32.ofNat (qq - (pp + 1)))), (.int (Int32.ofNat (pp + 1))), (.ref b413)])) rfl (by rw [hml]; rfl) (argsL := [(.ref b413), (.int (Int32.ofNat (pp + 1))), (.int (Int32.ofNat (qq - (pp + 1)))), (.int 0)]) (rest := []) (lenOf pd_24 rfl) rfl (by show 2 * 0 + _ ≤ _; exact Nat.le_of_eq rfl) (hb hby at_244) (fun _ _ => ⟨rfl, e568, (by decide : 1 + 0 ≤ _), (by decide : 7 + 0 ≤ _)⟩)
   dsimp only [Pt.U, Pt.locs, Pt.cells, Pt.slots] at X613 l613 y613 z613 st613 hQ613
   rw [l613, y613, z613] at X613
   obtain ⟨rfl, M613, q613_0⟩ := hQ613
   have N613 := Fr.app N568 M613
   refine own_go st613 ?_
   refine own_go (B := T613.setTop (mkF m 254 #[.val (.int p1), .val (.int p2), .val (.int p3), .val (.int p4), .val (.int p5), .val (.int p6), .val (.ref b413), .val (.int 2), .val (.int (y8 &&& (32767 : Int32))), .val (.int (y9 &&& (32767 : Int32))), .val (.int (Int32.ofNat pp)), .val (.int (Int32.ofNat qq)), .val (.int 1), .val (.int (Int32.ofNat (pp + 1))), .val (.int (Int32.ofNat qq)), .val (.int (Int32.ofNat (qq - (pp + 1)))), .unset, .unset] [(.int 1), (.int (Int32.ofNat (qq - (pp + 1)))), (.int (Int32.ofNat (pp + 1))), (.ref b413), (.int (own_term cs (pp + 1) (Int32.ofNat (qq - (pp + 1))) 0))])) (fun tg kt => ?_) ?_
   ·refine XS.aload X613.here hx rfl (hb hby at_247) rfl rfl ?_
    refine XS.iload X613.here hx rfl (hb hby at_249) rfl ?_
    refine XS.iload X613.here hx rfl (hb hby at_251) rfl ?_
    refine XS.iconst X613.here hx rfl (hb hby at_253) ?_
    exact kt
   obtain ⟨_, _, ⟨T615, L615, k615, n615⟩, -, X615, ⟨Lc615, hQ615, l615, y615, z615⟩, st615⟩ := Jvm.LawKit.callS X613 hx (y := (⟨"com/example/restate/restate/WordsHashPinLaw", "term", "([CIII)I"⟩ : MethodName)) hown (mvT hZ (hw _ (List.mem_of_getElem? (i := 7) rfl))) (mvT hZ (hw _ (List.mem_of_getElem? (i := 8) rfl))) (mvT hZ (hw _ (List.mem_of_getElem? (i := 3) rfl))) (mvT hZ (hw _ (List.mem_of_getElem? (i := 9) rfl))) (by decide) (backOf (W := 1) (rm2_1 l Z a0 hw [] b413 (Int32.ofNat (pp + 1)) (Int32.ofNat (qq - (pp + 1))) k413 cs (pp + 1) (qq - (pp + 1)) h568 n0 (Nat.le_trans Z0 le614) V569 (⟨own_toInt (t := (pp + 1)) (by omega), own_toInt (t := qq - (pp + 1)) (by omega), by omega⟩)) hZ (hw _ (List.mem_of_getElem? (i := 9) rfl)) (hw _ (List.mem_of_getElem? (i := 3) rfl)) (by decide) (by decide)) (g := (mkF m 254 #[.val (.int p1), .val (.int p2), .val (.int p3), .val (.int p4), .val (.int p5), .val (.int p6), .val (.ref b413), .val (.int 2), .val (.int (y8 &&& (32767 : Int32))), .val (.int (y9 &&& (32767 : Int32))), .val (.int (Int32.ofNat pp)), .val (.int (Int32.ofNat qq)), .val (.int 1), .val (.int (Int32.ofNat (pp + 1))), .val (.int (Int32.ofNat qq)), .val (.int (Int32.ofNat (qq - (pp + 1)))), .unset, .unset] [(.int 1), (.int (Int32.ofNat (qq - (pp + 1)))), (.int (Int32.ofNat (pp + 1))), (.ref b413), (.int (own_term cs (pp + 1) (Int32.ofNat (qq - (pp + 1))) 0))])) rfl (by rw [hml]; rfl) (argsL := [(.ref b413), (.int (Int32.ofNat (pp + 1))), (.int (Int32.ofNat (qq - (pp + 1)))), (.int 1)]) (rest := [(.int (own_term cs (pp + 1) (Int32.ofNat (qq - (pp + 1))) 0))]) (lenOf pd_24 rfl) rfl (by show 2 * 0 + _ ≤ _; exact Nat.le_of_eq rfl) (hb hby at_254) (fun _ _ => ⟨rfl, q613_0, (by decide : 1 + 0 ≤ _), (by decide : 7 + 0 ≤ _)⟩)
   dsimp only [Pt.U, Pt.locs, Pt.cells, Pt.slots] at X615 l615 y615 z615 st615 hQ615
   rw [l615, y615, z615] at X615
   obtain ⟨rfl, M615, q615_0⟩ := hQ615
   have N615 := Fr.app N613 M615
   refine own_go st615 ?_
   refine own_go (B := T615.setTop (mkF m 265 #[.val (.int p1), .val (.int p2), .val (.int p3), .val (.int p4), .val (.int p5), .val (.int p6), .val (.ref b413), .val (.int 2), .val (.int (y8 &&& (32767 : Int32))), .val (.int (y9 &&& (32767 : Int32))), .val (.int (Int32.ofNat pp)), .val (.int (Int32.ofNat qq)), .val (.int 1), .val (.int (Int32.ofNat (pp + 1))), .val (.int (Int32.ofNat qq)), .val (.int (Int32.ofNat (qq - (pp + 1)))), .unset, .unset] [(.int 2), (.int (Int32.ofNat (qq - (pp + 1)))), (.int (Int32.ofNat (pp + 1))), (.ref b413), (.int ((own_term cs (pp + 1) (Int32.ofNat (qq - (pp + 1))) 0) + (own_term cs (pp + 1) (Int32.ofNat (qq - (pp + 1))) 1)))])) (fun tg kt => ?_) ?_
   ·refine XS.iadd X615.here hx rfl (hb hby at_257) rfl ?_
    refine XS.aload X615.here hx rfl (hb hby at_258) rfl rfl ?_
    refine XS.iload X615.here hx rfl (hb hby at_260) rfl ?_
    refine XS.iload X615.here hx rfl (hb hby at_262) rfl ?_
    refine XS.iconst X615.here hx rfl (hb hby at_264) ?_
    exact kt
   obtain ⟨_, _, ⟨T616, L616, k616, n616⟩, -, X616, ⟨Lc616, hQ616, l616, y616, z616⟩, st616⟩ := Jvm.LawKit.callS X615 hx (y := (⟨"com/example/restate/restate/WordsHashPinLaw", "term", "([CIII)I"⟩ : MethodName)) hown (mvT hZ (hw _ (List.mem_of_getElem? (i := 7) rfl))) (mvT hZ (hw _ (List.mem_of_getElem? (i := 8) rfl))) (mvT hZ (hw _ (List.mem_of_getElem? (i := 3) rfl))) (mvT hZ (hw _ (List.mem_of_getElem? (i := 9) rfl))) (by decide) (backOf (W := 1) (rm2_2 l Z a0 hw [] b413 (Int32.ofNat (pp + 1)) (Int32.ofNat (qq - (pp + 1))) k413 cs (pp + 1) (qq - (pp + 1)) h568 n0 (Nat.le_trans Z0 le614) V569 (⟨own_toInt (t := (pp + 1)) (by omega), own_toInt (t := qq - (pp + 1)) (by omega), by omega⟩)) hZ (hw _ (List.mem_of_getElem? (i := 9) rfl)) (hw _ (List.mem_of_getElem? (i := 3) rfl)) (by decide) (by decide)) (g := (mkF m 265 #[.val (.int p1), .val (.int p2), .val (.int p3), .val (.int p4), .val (.int p5), .val (.int p6), .val (.ref b413), .val (.int 2), .val (.int (y8 &&& (32767 : Int32))), .val (.int (y9 &&& (32767 : Int32))), .val (.int (Int32.ofNat pp)), .val (.int (Int32.ofNat qq)), .val (.int 1), .val (.int (Int32.ofNat (pp + 1))), .val (.int (Int32.ofNat qq)), .val (.int (Int32.ofNat (qq - (pp + 1)))), .unset, .unset] [(.int 2), (.int (Int32.ofNat (qq - (pp + 1)))), (.int (Int32.ofNat (pp + 1))), (.ref b413), (.int ((own_term cs (pp + 1) (Int32.ofNat (qq - (pp + 1))) 0) + (own_term cs (pp + 1) (Int32.ofNat (qq - (pp + 1))) 1)))])) rfl (by rw [hml]; rfl) (argsL := [(.ref b413), (.int (Int32.ofNat (pp + 1))), (.int (Int32.ofNat (qq - (pp + 1)))), (.int 2)]) (rest := [(.int ((own_term cs (pp + 1) (Int32.ofNat (qq - (pp + 1))) 0) + (own_term cs (pp + 1) (Int32.ofNat (qq - (pp + 1))) 1)))]) (lenOf pd_24 rfl) rfl (by show 2 * 0 + _ ≤ _; exact Nat.le_of_eq rfl) (hb hby at_265) (fun _ _ => ⟨rfl, q615_0, (by decide : 1 + 0 ≤ _), (by decide : 7 + 0 ≤ _)⟩)
   dsimp only [Pt.U, Pt.locs, Pt.cells, Pt.slots] at X616 l616 y616 z616 st616 hQ616
   rw [l616, y616, z616] at X616
   obtain ⟨rfl, M616, q616_0⟩ := hQ616
   have N616 := Fr.app N615 M616
   refine own_go st616 ?_
   refine own_go (B := T616.setTop (mkF m 276 #[.val (.int p1), .val (.int p2), .val (.int p3), .val (.int p4), .val (.int p5), .val (.int p6), .val (.ref b413), .val (.int 2), .val (.int (y8 &&& (32767 : Int32))), .val (.int (y9 &&& (32767 : Int32))), .val (.int (Int32.ofNat pp)), .val (.int (Int32.ofNat qq)), .val (.int 1), .val (.int (Int32.ofNat (pp + 1))), .val (.int (Int32.ofNat qq)), .val (.int (Int32.ofNat (qq - (pp + 1)))), .unset, .unset] [(.int 3), (.int (Int32.ofNat (qq - (pp + 1)))), (.int (Int32.ofNat (pp + 1))), (.ref b413), (.int (((own_term cs (pp + 1) (Int32.ofNat (qq - (pp + 1))) 0) + (own_term cs (pp + 1) (Int32.ofNat (qq - (pp + 1))) 1)) + (own_term cs (pp + 1) (Int32.ofNat (qq - (pp + 1))) 2)))])) (fun tg kt => ?_) ?_
   ·refine XS.iadd X616.here hx rfl (hb hby at_268) rfl ?_
    refine XS.aload X616.here hx rfl (hb hby at_269) rfl rfl ?_
    refine XS.iload X616.here hx rfl (hb hby at_271) rfl ?_
    refine XS.iload X616.here hx rfl (hb hby at_273) rfl ?_
    refine XS.iconst X616.here hx rfl (hb hby at_275) ?_
    exact kt
   obtain ⟨_, _, ⟨T617, L617, k617, n617⟩, -, X617, ⟨Lc617, hQ617, l617, y617, z617⟩, st617⟩ := Jvm.LawKit.callS X616 hx (y := (⟨"com/example/restate/restate/WordsHashPinLaw", "term", "([CIII)I"⟩ : MethodName)) hown (mvT hZ (hw _ (List.mem_of_getElem? (i := 7) rfl))) (mvT hZ (hw _ (List.mem_of_getElem? (i := 8) rfl))) (mvT hZ (hw _ (List.mem_of_getElem? (i := 3) rfl))) (mvT hZ (hw _ (List.mem_of_getElem? (i := 9) rfl))) (by decide) (backOf (W := 1) (rm2_3 l Z a0 hw [] b413 (Int32.ofNat (pp + 1)) (Int32.ofNat (qq - (pp + 1))) k413 cs (pp + 1) (qq - (pp + 1)) h568 n0 (Nat.le_trans Z0 le614) V569 (⟨own_toInt (t := (pp + 1)) (by omega), own_toInt (t := qq - (pp + 1)) (by omega), by omega⟩)) hZ (hw _ (List.mem_of_getElem? (i := 9) rfl)) (hw _ (List.mem_of_getElem? (i := 3) rfl)) (by decide) (by decide)) (g := (mkF m 276 #[.val (.int p1), .val (.int p2), .val (.int p3), .val (.int p4), .val (.int p5), .val (.int p6), .val (.ref b413), .val (.int 2), .val (.int (y8 &&& (32767 : Int32))), .val (.int (y9 &&& (32767 : Int32))), .val (.int (Int32.ofNat pp)), .val (.int (Int32.ofNat qq)), .val (.int 1), .val (.int (Int32.ofNat (pp + 1))), .val (.int (Int32.ofNat qq)), .val (.int (Int32.ofNat (qq - (pp + 1)))), .unset, .unset] [(.int 3), (.int (Int32.ofNat (qq - (pp + 1)))), (.int (Int32.ofNat (pp + 1))), (.ref b413), (.int (((own_term cs (pp + 1) (Int32.ofNat (qq - (pp + 1))) 0) + (own_term cs (pp + 1) (Int32.ofNat (qq - (pp + 1))) 1)) + (own_term cs (pp + 1) (Int32.ofNat (qq - (pp + 1))) 2)))])) rfl (by rw [hml]; rfl) (argsL := [(.ref b413), (.int (Int32.ofNat (pp + 1))), (.int (Int32.ofNat (qq - (pp + 1)))), (.int 3)]) (rest := [(.int (((own_term cs (pp + 1) (Int32.ofNat (qq - (pp + 1))) 0) + (own_term cs (pp + 1) (Int32.ofNat (qq - (pp + 1))) 1)) + (own_term cs (pp + 1) (Int32.ofNat (qq - (pp + 1))) 2)))]) (lenOf pd_24 rfl) rfl (by show 2 * 0 + _ ≤ _; exact Nat.le_of_eq rfl) (hb hby at_276) (fun _ _ => ⟨rfl, q616_0, (by decide : 1 + 0 ≤ _), (by decide : 7 + 0 ≤ _)⟩)
   dsimp only [Pt.U, Pt.locs, Pt.cells, Pt.slots] at X617 l617 y617 z617 st617 hQ617
   rw [l617, y617, z617] at X617
   obtain ⟨rfl, M617, q617_0⟩ := hQ617
   have N617 := Fr.app N616 M617
   refine own_go st617 ?_
   refine own_go (B := T617.setTop (mkF m 287 #[.val (.int p1), .val (.int p2), .val (.int p3), .val (.int p4), .val (.int p5), .val (.int p6), .val (.ref b413), .val (.int 2), .val (.int (y8 &&& (32767 : Int32))), .val (.int (y9 &&& (32767 : Int32))), .val (.int (Int32.ofNat pp)), .val (.int (Int32.ofNat qq)), .val (.int 1), .val (.int (Int32.ofNat (pp + 1))), .val (.int (Int32.ofNat qq)), .val (.int (Int32.ofNat (qq - (pp + 1)))), .unset, .unset] [(.int 4), (.int (Int32.ofNat (qq - (pp + 1)))), (.int (Int32.ofNat (pp + 1))), (.ref b413), (.int ((((own_term cs (pp + 1) (Int32.ofNat (qq - (pp + 1))) 0) + (own_term cs (pp + 1) (Int32.ofNat (qq - (pp + 1))) 1)) + (own_term cs (pp + 1) (Int32.ofNat (qq - (pp + 1))) 2)) + (own_term cs (pp + 1) (Int32.ofNat (qq - (pp + 1))) 3)))])) (fun tg kt => ?_) ?_
   ·refine XS.iadd X617.here hx rfl (hb hby at_279) rfl ?_
    refine XS.aload X617.here hx rfl (hb hby at_280) rfl rfl ?_
    refine XS.iload X617.here hx rfl (hb hby at_282) rfl ?_
    refine XS.iload X617.here hx rfl (hb hby at_284) rfl ?_
    refine XS.iconst X617.here hx rfl (hb hby at_286) ?_
    exact kt
   obtain ⟨_, _, ⟨T618, L618, k618, n618⟩, -, X618, ⟨Lc618, hQ618, l618, y618, z618⟩, st618⟩ := Jvm.LawKit.callS X617 hx (y := (⟨"com/example/restate/restate/WordsHashPinLaw", "term", "([CIII)I"⟩ : MethodName)) hown (mvT hZ (hw _ (List.mem_of_getElem? (i := 7) rfl))) (mvT hZ (hw _ (List.mem_of_getElem? (i := 8) rfl))) (mvT hZ (hw _ (List.mem_of_getElem? (i := 3) rfl))) (mvT hZ (hw _ (List.mem_of_getElem? (i := 9) rfl))) (by decide) (backOf (W := 1) (rm2_4 l Z a0 hw [] b413 (Int32.ofNat (pp + 1)) (Int32.ofNat (qq - (pp + 1))) k413 cs (pp + 1) (qq - (pp + 1)) h568 n0 (Nat.le_trans Z0 le614) V569 (⟨own_toInt (t := (pp + 1)) (by omega), own_toInt (t := qq - (pp + 1)) (by omega), by omega⟩)) hZ (hw _ (List.mem_of_getElem? (i := 9) rfl)) (hw _ (List.mem_of_getElem? (i := 3) rfl)) (by decide) (by decide)) (g := (mkF m 287 #[.val (.int p1), .val (.int p2), .val (.int p3), .val (.int p4), .val (.int p5), .val (.int p6), .val (.ref b413), .val (.int 2), .val (.int (y8 &&& (32767 : Int32))), .val (.int (y9 &&& (32767 : Int32))), .val (.int (Int32.ofNat pp)), .val (.int (Int32.ofNat qq)), .val (.int 1), .val (.int (Int32.ofNat (pp + 1))), .val (.int (Int32.ofNat qq)), .val (.int (Int32.ofNat (qq - (pp + 1)))), .unset, .unset] [(.int 4), (.int (Int32.ofNat (qq - (pp + 1)))), (.int (Int32.ofNat (pp + 1))), (.ref b413), (.int ((((own_term cs (pp + 1) (Int32.ofNat (qq - (pp + 1))) 0) + (own_term cs (pp + 1) (Int32.ofNat (qq - (pp + 1))) 1)) + (own_term cs (pp + 1) (Int32.ofNat (qq - (pp + 1))) 2)) + (own_term cs (pp + 1) (Int32.ofNat (qq - (pp + 1))) 3)))])) rfl (by rw [hml]; rfl) (argsL := [(.ref b413), (.int (Int32.ofNat (pp + 1))), (.int (Int32.ofNat (qq - (pp + 1)))), (.int 4)]) (rest := [(.int ((((own_term cs (pp + 1) (Int32.ofNat (qq - (pp + 1))) 0) + (own_term cs (pp + 1) (Int32.ofNat (qq - (pp + 1))) 1)) + (own_term cs (pp + 1) (Int32.ofNat (qq - (pp + 1))) 2)) + (own_term cs (pp + 1) (Int32.ofNat (qq - (pp + 1))) 3)))]) (lenOf pd_24 rfl) rfl (by show 2 * 0 + _ ≤ _; exact Nat.le_of_eq rfl) (hb hby at_287) (fun _ _ => ⟨rfl, q617_0, (by decide : 1 + 0 ≤ _), (by decide : 7 + 0 ≤ _)⟩)
   dsimp only [Pt.U, Pt.locs, Pt.cells, Pt.slots] at X618 l618 y618 z618 st618 hQ618
   rw [l618, y618, z618] at X618
   obtain ⟨rfl, M618, q618_0⟩ := hQ618
   have N618 := Fr.app N617 M618
   refine own_go st618 ?_
   refine own_go (B := T618.setTop (mkF m 298 #[.val (.int p1), .val (.int p2), .val (.int p3), .val (.int p4), .val (.int p5), .val (.int p6), .val (.ref b413), .val (.int 2), .val (.int (y8 &&& (32767 : Int32))), .val (.int (y9 &&& (32767 : Int32))), .val (.int (Int32.ofNat pp)), .val (.int (Int32.ofNat qq)), .val (.int 1), .val (.int (Int32.ofNat (pp + 1))), .val (.int (Int32.ofNat qq)), .val (.int (Int32.ofNat (qq - (pp + 1)))), .unset, .unset] [(.int 5), (.int (Int32.ofNat (qq - (pp + 1)))), (.int (Int32.ofNat (pp + 1))), (.ref b413), (.int (((((own_term cs (pp + 1) (Int32.ofNat (qq - (pp + 1))) 0) + (own_term cs (pp + 1) (Int32.ofNat (qq - (pp + 1))) 1)) + (own_term cs (pp + 1) (Int32.ofNat (qq - (pp + 1))) 2)) + (own_term cs (pp + 1) (Int32.ofNat (qq - (pp + 1))) 3)) + (own_term cs (pp + 1) (Int32.ofNat (qq - (pp + 1))) 4)))])) (fun tg kt => ?_) ?_
   ·refine XS.iadd X618.here hx rfl (hb hby at_290) rfl ?_
    refine XS.aload X618.here hx rfl (hb hby at_291) rfl rfl ?_
    refine XS.iload X618.here hx rfl (hb hby at_293) rfl ?_
    refine XS.iload X618.here hx rfl (hb hby at_295) rfl ?_
    refine XS.iconst X618.here hx rfl (hb hby at_297) ?_
    exact kt
   obtain ⟨_, _, ⟨T619, L619, k619, n619⟩, -, X619, ⟨Lc619, hQ619, l619, y619, z619⟩, st619⟩ := Jvm.LawKit.callS X618 hx (y := (⟨"com/example/restate/restate/WordsHashPinLaw", "term", "([CIII)I"⟩ : MethodName)) hown (mvT hZ (hw _ (List.mem_of_getElem? (i := 7) rfl))) (mvT hZ (hw _ (List.mem_of_getElem? (i := 8) rfl))) (mvT hZ (hw _ (List.mem_of_getElem? (i := 3) rfl))) (mvT hZ (hw _ (List.mem_of_getElem? (i := 9) rfl))) (by decide) (backOf (W := 1) (rm2_5 l Z a0 hw [] b413 (Int32.ofNat (pp + 1)) (Int32.ofNat (qq - (pp + 1))) k413 cs (pp + 1) (qq - (pp + 1)) h568 n0 (Nat.le_trans Z0 le614) V569 (⟨own_toInt (t := (pp + 1)) (by omega), own_toInt (t := qq - (pp + 1)) (by omega), by omega⟩)) hZ (hw _ (List.mem_of_getElem? (i := 9) rfl)) (hw _ (List.mem_of_getElem? (i := 3) rfl)) (by decide) (by decide)) (g := (mkF m 298 #[.val (.int p1), .val (.int p2), .val (.int p3), .val (.int p4), .val (.int p5), .val (.int p6), .val (.ref b413), .val (.int 2), .val (.int (y8 &&& (32767 : Int32))), .val (.int (y9 &&& (32767 : Int32))), .val (.int (Int32.ofNat pp)), .val (.int (Int32.ofNat qq)), .val (.int 1), .val (.int (Int32.ofNat (pp + 1))), .val (.int (Int32.ofNat qq)), .val (.int (Int32.ofNat (qq - (pp + 1)))), .unset, .unset] [(.int 5), (.int (Int32.ofNat (qq - (pp + 1)))), (.int (Int32.ofNat (pp + 1))), (.ref b413), (.int (((((own_term cs (pp + 1) (Int32.ofNat (qq - (pp + 1))) 0) + (own_term cs (pp + 1) (Int32.ofNat (qq - (pp + 1))) 1)) + (own_term cs (pp + 1) (Int32.ofNat (qq - (pp + 1))) 2)) + (own_term cs (pp + 1) (Int32.ofNat (qq - (pp + 1))) 3)) + (own_term cs (pp + 1) (Int32.ofNat (qq - (pp + 1))) 4)))])) rfl (by rw [hml]; rfl) (argsL := [(.ref b413), (.int (Int32.ofNat (pp + 1))), (.int (Int32.ofNat (qq - (pp + 1)))), (.int 5)]) (rest := [(.int (((((own_term cs (pp + 1) (Int32.ofNat (qq - (pp + 1))) 0) + (own_term cs (pp + 1) (Int32.ofNat (qq - (pp + 1))) 1)) + (own_term cs (pp + 1) (Int32.ofNat (qq - (pp + 1))) 2)) + (own_term cs (pp + 1) (Int32.ofNat (qq - (pp + 1))) 3)) + (own_term cs (pp + 1) (Int32.ofNat (qq - (pp + 1))) 4)))]) (lenOf pd_24 rfl) rfl (by show 2 * 0 + _ ≤ _; exact Nat.le_of_eq rfl) (hb hby at_298) (fun _ _ => ⟨rfl, q618_0, (by decide : 1 + 0 ≤ _), (by decide : 7 + 0 ≤ _)⟩)
   dsimp only [Pt.U, Pt.locs, Pt.cells, Pt.slots] at X619 l619 y619 z619 st619 hQ619
   rw [l619, y619, z619] at X619
   obtain ⟨rfl, M619, q619_0⟩ := hQ619
   have N619 := Fr.app N618 M619
   refine own_go st619 ?_
   refine own_go (B := T619.setTop (mkF m 310 #[.val (.int p1), .val (.int p2), .val (.int p3), .val (.int p4), .val (.int p5), .val (.int p6), .val (.ref b413), .val (.int 2), .val (.int (y8 &&& (32767 : Int32))), .val (.int (y9 &&& (32767 : Int32))), .val (.int (Int32.ofNat pp)), .val (.int (Int32.ofNat qq)), .val (.int 1), .val (.int (Int32.ofNat (pp + 1))), .val (.int (Int32.ofNat qq)), .val (.int (Int32.ofNat (qq - (pp + 1)))), .unset, .unset] [(.int 6), (.int (Int32.ofNat (qq - (pp + 1)))), (.int (Int32.ofNat (pp + 1))), (.ref b413), (.int ((((((own_term cs (pp + 1) (Int32.ofNat (qq - (pp + 1))) 0) + (own_term cs (pp + 1) (Int32.ofNat (qq - (pp + 1))) 1)) + (own_term cs (pp + 1) (Int32.ofNat (qq - (pp + 1))) 2)) + (own_term cs (pp + 1) (Int32.ofNat (qq - (pp + 1))) 3)) + (own_term cs (pp + 1) (Int32.ofNat (qq - (pp + 1))) 4)) + (own_term cs (pp + 1) (Int32.ofNat (qq - (pp + 1))) 5)))])) (fun tg kt => ?_) ?_
   ·refine XS.iadd X619.here hx rfl (hb hby at_301) rfl ?_
    refine XS.aload X619.here hx rfl (hb hby at_302) rfl rfl ?_
    refine XS.iload X619.here hx rfl (hb hby at_304) rfl ?_
    refine XS.iload X619.here hx rfl (hb hby at_306) rfl ?_
    refine XS.bipush X619.here hx rfl (hb hby at_308) ?_
    exact kt
   obtain ⟨_, _, ⟨T620, L620, k620, n620⟩, -, X620, ⟨Lc620, hQ620, l620, y620, z620⟩, st620⟩ := Jvm.LawKit.callS X619 hx (y := (⟨"com/example/restate/restate/WordsHashPinLaw", "term", "([CIII)I"⟩ : MethodName)) hown (mvT hZ (hw _ (List.mem_of_getElem? (i := 7) rfl))) (mvT hZ (hw _ (List.mem_of_getElem? (i := 8) rfl))) (mvT hZ (hw _ (List.mem_of_getElem? (i := 3) rfl))) (mvT hZ (hw _ (List.mem_of_getElem? (i := 9) rfl))) (by decide) (backOf (W := 1) (rm2_6 l Z a0 hw [] b413 (Int32.ofNat (pp + 1)) (Int32.ofNat (qq - (pp + 1))) k413 cs (pp + 1) (qq - (pp + 1)) h568 n0 (Nat.le_trans Z0 le614) V569 (⟨own_toInt (t := (pp + 1)) (by omega), own_toInt (t := qq - (pp + 1)) (by omega), by omega⟩)) hZ (hw _ (List.mem_of_getElem? (i := 9) rfl)) (hw _ (List.mem_of_getElem? (i := 3) rfl)) (by decide) (by decide)) (g := (mkF m 310 #[.val (.int p1), .val (.int p2), .val (.int p3), .val (.int p4), .val (.int p5), .val (.int p6), .val (.ref b413), .val (.int 2), .val (.int (y8 &&& (32767 : Int32))), .val (.int (y9 &&& (32767 : Int32))), .val (.int (Int32.ofNat pp)), .val (.int (Int32.ofNat qq)), .val (.int 1), .val (.int (Int32.ofNat (pp + 1))), .val (.int (Int32.ofNat qq)), .val (.int (Int32.ofNat (qq - (pp + 1)))), .unset, .unset] [(.int 6), (.int (Int32.ofNat (qq - (pp + 1)))), (.int (Int32.ofNat (pp + 1))), (.ref b413), (.int ((((((own_term cs (pp + 1) (Int32.ofNat (qq - (pp + 1))) 0) + (own_term cs (pp + 1) (Int32.ofNat (qq - (pp + 1))) 1)) + (own_term cs (pp + 1) (Int32.ofNat (qq - (pp + 1))) 2)) + (own_term cs (pp + 1) (Int32.ofNat (qq - (pp + 1))) 3)) + (own_term cs (pp + 1) (Int32.ofNat (qq - (pp + 1))) 4)) + (own_term cs (pp + 1) (Int32.ofNat (qq - (pp + 1))) 5)))])) rfl (by rw [hml]; rfl) (argsL := [(.ref b413), (.int (Int32.ofNat (pp + 1))), (.int (Int32.ofNat (qq - (pp + 1)))), (.int 6)]) (rest := [(.int ((((((own_term cs (pp + 1) (Int32.ofNat (qq - (pp + 1))) 0) + (own_term cs (pp + 1) (Int32.ofNat (qq - (pp + 1))) 1)) + (own_term cs (pp + 1) (Int32.ofNat (qq - (pp + 1))) 2)) + (own_term cs (pp + 1) (Int32.ofNat (qq - (pp + 1))) 3)) + (own_term cs (pp + 1) (Int32.ofNat (qq - (pp + 1))) 4)) + (own_term cs (pp + 1) (Int32.ofNat (qq - (pp + 1))) 5)))]) (lenOf pd_24 rfl) rfl (by show 2 * 0 + _ ≤ _; exact Nat.le_of_eq rfl) (hb hby at_310) (fun _ _ => ⟨rfl, q619_0, (by decide : 1 + 0 ≤ _), (by decide : 7 + 0 ≤ _)⟩)
   dsimp only [Pt.U, Pt.locs, Pt.cells, Pt.slots] at X620 l620 y620 z620 st620 hQ620
   rw [l620, y620, z620] at X620
   obtain ⟨rfl, M620, q620_0⟩ := hQ620
   have N620 := Fr.app N619 M620
   refine own_go st620 ?_
   refine own_go (B := T620.setTop (mkF m 316 #[.val (.int p1), .val (.int p2), .val (.int p3), .val (.int p4), .val (.int p5), .val (.int p6), .val (.ref b413), .val (.int 2), .val (.int (y8 &&& (32767 : Int32))), .val (.int (y9 &&& (32767 : Int32))), .val (.int (Int32.ofNat pp)), .val (.int (Int32.ofNat qq)), .val (.int 1), .val (.int (Int32.ofNat (pp + 1))), .val (.int (Int32.ofNat qq)), .val (.int (Int32.ofNat (qq - (pp + 1)))), .val (.int (((((((own_term cs (pp + 1) (Int32.ofNat (qq - (pp + 1))) 0) + (own_term cs (pp + 1) (Int32.ofNat (qq - (pp + 1))) 1)) + (own_term cs (pp + 1) (Int32.ofNat (qq - (pp + 1))) 2)) + (own_term cs (pp + 1) (Int32.ofNat (qq - (pp + 1))) 3)) + (own_term cs (pp + 1) (Int32.ofNat (qq - (pp + 1))) 4)) + (own_term cs (pp + 1) (Int32.ofNat (qq - (pp + 1))) 5)) + (own_term cs (pp + 1) (Int32.ofNat (qq - (pp + 1))) 6))), .unset] [])) (fun tg kt => ?_) ?_
   ·refine XS.iadd X620.here hx rfl (hb hby at_313) rfl ?_
    refine XS.istore X620.here hx rfl (hb hby at_314) rfl (l' := #[.val (.int p1), .val (.int p2), .val (.int p3), .val (.int p4), .val (.int p5), .val (.int p6), .val (.ref b413), .val (.int 2), .val (.int (y8 &&& (32767 : Int32))), .val (.int (y9 &&& (32767 : Int32))), .val (.int (Int32.ofNat pp)), .val (.int (Int32.ofNat qq)), .val (.int 1), .val (.int (Int32.ofNat (pp + 1))), .val (.int (Int32.ofNat qq)), .val (.int (Int32.ofNat (qq - (pp + 1)))), .val (.int (((((((own_term cs (pp + 1) (Int32.ofNat (qq - (pp + 1))) 0) + (own_term cs (pp + 1) (Int32.ofNat (qq - (pp + 1))) 1)) + (own_term cs (pp + 1) (Int32.ofNat (qq - (pp + 1))) 2)) + (own_term cs (pp + 1) (Int32.ofNat (qq - (pp + 1))) 3)) + (own_term cs (pp + 1) (Int32.ofNat (qq - (pp + 1))) 4)) + (own_term cs (pp + 1) (Int32.ofNat (qq - (pp + 1))) 5)) + (own_term cs (pp + 1) (Int32.ofNat (qq - (pp + 1))) 6))), .unset]) rfl ?_
    exact kt
   rw [show (((((((own_term cs (pp + 1) (Int32.ofNat (qq - (pp + 1))) 0) + (own_term cs (pp + 1) (Int32.ofNat (qq - (pp + 1))) 1)) + (own_term cs (pp + 1) (Int32.ofNat (qq - (pp + 1))) 2)) + (own_term cs (pp + 1) (Int32.ofNat (qq - (pp + 1))) 3)) + (own_term cs (pp + 1) (Int32.ofNat (qq - (pp + 1))) 4)) + (own_term cs (pp + 1) (Int32.ofNat (qq - (pp + 1))) 5)) + (own_term cs (pp + 1) (Int32.ofNat (qq - (pp + 1))) 6)) = (own_h cs (pp + 1) qq) from own_sum (a := (pp + 1)) (b := qq) (by omega) (by omega)]
   obtain ⟨T621, h621, X621, e621, E621, A621, D621, -, st621⟩ := newO X620 hx hZ hown (hw _ (List.mem_of_getElem? (i := 16) rfl)) (hw _ (List.mem_of_getElem? (i := 17) rfl)) (hw _ (List.mem_of_getElem? (i := 18) rfl)) q620_0 (g := (mkF m 316 #[.val (.int p1), .val (.int p2), .val (.int p3), .val (.int p4), .val (.int p5), .val (.int p6), .val (.ref b413), .val (.int 2), .val (.int (y8 &&& (32767 : Int32))), .val (.int (y9 &&& (32767 : Int32))), .val (.int (Int32.ofNat pp)), .val (.int (Int32.ofNat qq)), .val (.int 1), .val (.int (Int32.ofNat (pp + 1))), .val (.int (Int32.ofNat qq)), .val (.int (Int32.ofNat (qq - (pp + 1)))), .val (.int (own_h cs (pp + 1) qq)), .unset] [])) rfl (hb hby at_316) (by decide) (by decide)
   obtain ⟨b621, g621⟩ : ∃ z, z = h568.size := ⟨_, rfl⟩
   rw [← g621] at A621 D621 st621
   refine own_go st621 ?_
   have K621 : Keep h0 h621 [] := Keep.ext K568 E621
   have F621_53 : Fld Z h621 b621 "com/example/restate/restate/Words" "line" "Ljava/lang/String;" .null := D621 (Or.inr (hw _ (List.mem_of_getElem? (i := 53) rfl))) (ty := (.object "java/lang/String")) (by decide)
   have F621_117 : Fld Z h621 b621 "com/example/restate/restate/Words" "starts" "[I" .null := D621 (Or.inr (hw _ (List.mem_of_getElem? (i := 117) rfl))) (ty := (.array .int)) (by decide)
   refine own_go (B := T621.setTop (mkF m 320 #[.val (.int p1), .val (.int p2), .val (.int p3), .val (.int p4), .val (.int p5), .val (.int p6), .val (.ref b413), .val (.int 2), .val (.int (y8 &&& (32767 : Int32))), .val (.int (y9 &&& (32767 : Int32))), .val (.int (Int32.ofNat pp)), .val (.int (Int32.ofNat qq)), .val (.int 1), .val (.int (Int32.ofNat (pp + 1))), .val (.int (Int32.ofNat qq)), .val (.int (Int32.ofNat (qq - (pp + 1)))), .val (.int (own_h cs (pp + 1) qq)), .unset] [(.ref b621), (.ref b621)])) (fun tg kt => ?_) ?_
   ·refine XS.dup X621.here hx rfl (hb hby at_319) rfl rfl ?_
    exact kt
   obtain ⟨T622, h622, X622, e622, E622, A622, D622, -, st622⟩ := newO X621 hx hZ hown (hw _ (List.mem_of_getElem? (i := 19) rfl)) (hw _ (List.mem_of_getElem? (i := 20) rfl)) (hw _ (List.mem_of_getElem? (i := 21) rfl)) e621 (g := (mkF m 320 #[.val (.int p1), .val (.int p2), .val (.int p3), .val (.int p4), .val (.int p5), .val (.int p6), .val (.ref b413), .val (.int 2), .val (.int (y8 &&& (32767 : Int32))), .val (.int (y9 &&& (32767 : Int32))), .val (.int (Int32.ofNat pp)), .val (.int (Int32.ofNat qq)), .val (.int 1), .val (.int (Int32.ofNat (pp + 1))), .val (.int (Int32.ofNat qq)), .val (.int (Int32.ofNat (qq - (pp + 1)))), .val (.int (own_h cs (pp + 1) qq)), .unset] [(.ref b621), (.ref b621)])) rfl (hb hby at_320) (by decide) (by decide)
   obtain ⟨b622, g622⟩ : ∃ z, z = h621.size := ⟨_, rfl⟩
   rw [← g622] at A622 D622 st622
   refine own_go st622 ?_
   have K622 : Keep h0 h622 [] := Keep.ext K621 E622
   have F622_45 : Fld Z h622 b622 "java/lang/String" "coder" "B" (.int 0) := D622 (Or.inr (hw _ (List.mem_of_getElem? (i := 45) rfl))) (ty := .byte) (by decide)
   have F622_47 : Fld Z h622 b622 "java/lang/String" "value" "[B" .null := D622 (Or.inr (hw _ (List.mem_of_getElem? (i := 47) rfl))) (ty := (.array .byte)) (by decide)
   refine own_go (B := T622.setTop (mkF m 326 #[.val (.int p1), .val (.int p2), .val (.int p3), .val (.int p4), .val (.int p5), .val (.int p6), .val (.ref b413), .val (.int 2), .val (.int (y8 &&& (32767 : Int32))), .val (.int (y9 &&& (32767 : Int32))), .val (.int (Int32.ofNat pp)), .val (.int (Int32.ofNat qq)), .val (.int 1), .val (.int (Int32.ofNat (pp + 1))), .val (.int (Int32.ofNat qq)), .val (.int (Int32.ofNat (qq - (pp + 1)))), .val (.int (own_h cs (pp + 1) qq)), .unset] [(.ref b413), (.ref b622), (.ref b622), (.ref b621), (.ref b621)])) (fun tg kt => ?_) ?_
   ·refine XS.dup X622.here hx rfl (hb hby at_323) rfl rfl ?_
    refine XS.aload X622.here hx rfl (hb hby at_324) rfl rfl ?_
    exact kt
   have le624 : h0.size ≤ h621.size := (Nat.le_trans (Nat.le_trans (Nat.le_trans (Nat.le_trans (Nat.le_trans (Nat.le_trans (Nat.le_trans (Nat.le_trans (Nat.le_trans (Nat.le_trans E413.1 (Nat.le_of_eq (Wr.size W415).symm)) (Nat.le_of_eq (Wr.size W418).symm)) (Nat.le_of_eq (Wr.size W421).symm)) (Nat.le_of_eq (Wr.size W424).symm)) (Nat.le_of_eq (Wr.size W427).symm)) (Nat.le_of_eq (Wr.size W430).symm)) (Nat.le_of_eq (Wr.size W433).symm)) (Nat.le_of_eq (Wr.size W567).symm)) (Nat.le_of_eq (Wr.size W568).symm)) E621.1)
   have f625 : Sta Z h622 "java/lang/String" "COMPACT_STRINGS" "Z" (.int w_COMPACT_STRINGS) := ((((((((((((S_COMPACT_STRINGS.ext E413).wr W415).wr W418).wr W421).wr W424).wr W427).wr W430).wr W433).wr W567).wr W568).ext E621).ext E622)
   have f626 : Sta Z h622 "java/lang/StringUTF16" "$assertionsDisabled" "Z" (.int 1) := ((((((((((((S__assertionsDisabled.ext E413).wr W415).wr W418).wr W421).wr W424).wr W427).wr W430).wr W433).wr W567).wr W568).ext E621).ext E622)
   have f627 : Sta Z h622 "java/lang/StringUTF16" "HI_BYTE_SHIFT" "I" (.int 0) := ((((((((((((S_HI_BYTE_SHIFT.ext E413).wr W415).wr W418).wr W421).wr W424).wr W427).wr W430).wr W433).wr W567).wr W568).ext E621).ext E622)
   have f628 : Sta Z h622 "java/lang/StringUTF16" "LO_BYTE_SHIFT" "I" (.int 8) := ((((((((((((S_LO_BYTE_SHIFT.ext E413).wr W415).wr W418).wr W421).wr W424).wr W427).wr W430).wr W433).wr W567).wr W568).ext E621).ext E622)
   have f629 : Arv Z h622 b413 k413 .char (7 : Int32) (own_tab 7 cs) (.int 0) := ((V569.ext E621).ext E622)
   have le630 : h0.size ≤ h622.size := (Nat.le_trans (Nat.le_trans (Nat.le_trans (Nat.le_trans (Nat.le_trans (Nat.le_trans (Nat.le_trans (Nat.le_trans (Nat.le_trans (Nat.le_trans (Nat.le_trans E413.1 (Nat.le_of_eq (Wr.size W415).symm)) (Nat.le_of_eq (Wr.size W418).symm)) (Nat.le_of_eq (Wr.size W421).symm)) (Nat.le_of_eq (Wr.size W424).symm)) (Nat.le_of_eq (Wr.size W427).symm)) (Nat.le_of_eq (Wr.size W430).symm)) (Nat.le_of_eq (Wr.size W433).symm)) (Nat.le_of_eq (Wr.size W567).symm)) (Nat.le_of_eq (Wr.size W568).symm)) E621.1) E622.1)
   obtain ⟨_, _, ⟨T623, L623, k623, n623⟩, -, X623, ⟨Lc623, hQ623, l623, y623, z623⟩, st623⟩ := X622.specialBack hx (y := (⟨"java/lang/String", "<init>", "([C)V"⟩ : MethodName)) rfl hown (mvT hZ (hw _ (List.mem_of_getElem? (i := 22) rfl))) (mvT hZ (hw _ (List.mem_of_getElem? (i := 23) rfl))) (mvT hZ (hw _ (List.mem_of_getElem? (i := 24) rfl))) (by decide) (backOf (W := 3) (rm4 l Z a0 hw [] b622 b413 w_COMPACT_STRINGS k413 cs h622 n0 (Nat.le_trans Z0 le630) A622 F622_47 F622_45 (Nat.le_trans (Nat.le_trans Z0 le624) (Nat.le_of_eq g622.symm)) f625 (N_COMPACT_STRINGS) f626 f627 f628 f629 (hC)) hZ (hw _ (List.mem_of_getElem? (i := 24) rfl)) (hw _ (List.mem_of_getElem? (i := 21) rfl)) (by decide) (by decide)) (g := (mkF m 326 #[.val (.int p1), .val (.int p2), .val (.int p3), .val (.int p4), .val (.int p5), .val (.int p6), .val (.ref b413), .val (.int 2), .val (.int (y8 &&& (32767 : Int32))), .val (.int (y9 &&& (32767 : Int32))), .val (.int (Int32.ofNat pp)), .val (.int (Int32.ofNat qq)), .val (.int 1), .val (.int (Int32.ofNat (pp + 1))), .val (.int (Int32.ofNat qq)), .val (.int (Int32.ofNat (qq - (pp + 1)))), .val (.int (own_h cs (pp + 1) qq)), .unset] [(.ref b413), (.ref b622), (.ref b622), (.ref b621), (.ref b621)])) rfl (by rw [hml]; rfl) (Steps.refl _) (a := b622) (argsL := [(.ref b413)]) (rest := [(.ref b622), (.ref b621), (.ref b621)]) (lenOf pd_25 rfl) rfl (by show 2 * 0 + _ ≤ _; exact Nat.le_of_eq rfl) (hb hby at_326) (fun _ _ => ⟨rfl, e622, (by decide : 3 + 2 ≤ _), (by decide : 13 + 21 ≤ _)⟩)
   dsimp only [Pt.U, Pt.locs, Pt.cells, Pt.slots] at X623 l623 y623 z623 st623 hQ623
   rw [l623, y623, z623] at X623
   obtain ⟨bn_623, kn_623, nb_623, vb_623, rfl, M623, q623_0, q623_1, q623_2, q623_3, q623_4, q623_5, q623_6⟩ := hQ623
   have N623 := Fr.app N620 M623
   have K623 : Keep h0 T623.heap [] := Keep.trans K622 q623_0 (allS (Or.inr (Nat.le_trans le624 (Nat.le_of_eq g622.symm))) all0)
   refine own_go (fun t k => st623.trans k) ?_
   have f632 : Exa Z T623.heap b621 "com/example/restate/restate/Words" := ((A621.ext E622).keep q623_0)
   have ne633 : b621 ≠ b622 := (Nat.ne_of_lt (Nat.lt_of_lt_of_le A621.lt (Nat.le_of_eq g622.symm)))
   have f634 : Fld Z T623.heap b621 "com/example/restate/restate/Words" "line" "Ljava/lang/String;" .null := ((F621_53.ext E622).keep q623_0 (ninS ne633 nin0))
   have f635 : Fld Z T623.heap b621 "com/example/restate/restate/Words" "starts" "[I" .null := ((F621_117.ext E622).keep q623_0 (ninS ne633 nin0))
   have f636 : Sta Z T623.heap "java/lang/String" "COMPACT_STRINGS" "Z" (.int w_COMPACT_STRINGS) := (own_staKeep f625 q623_0 (own_nsS (own_nsE A622) own_ns0))
   have f637 : Sta Z T623.heap "java/lang/StringUTF16" "$assertionsDisabled" "Z" (.int 1) := (own_staKeep f626 q623_0 (own_nsS (own_nsE A622) own_ns0))
   have f638 : Sta Z T623.heap "java/lang/StringUTF16" "HI_BYTE_SHIFT" "I" (.int 0) := (own_staKeep f627 q623_0 (own_nsS (own_nsE A622) own_ns0))
   have f639 : Sta Z T623.heap "java/lang/StringUTF16" "LO_BYTE_SHIFT" "I" (.int 8) := (own_staKeep f628 q623_0 (own_nsS (own_nsE A622) own_ns0))
   have f640 : Sta Z T623.heap "jdk/internal/util/Preconditions" "SIOOBE_FORMATTER" "Ljava/util/function/BiFunction;" (own_rv w_SIOOBE_FORMATTER) := (own_staKeep ((((((((((((S_SIOOBE_FORMATTER.ext E413).wr W415).wr W418).wr W421).wr W424).wr W427).wr W430).wr W433).wr W567).wr W568).ext E621).ext E622) q623_0 (own_nsS (own_nsE A622) own_ns0))
   have ne641 : b621 ≠ bn_623 := (Nat.ne_of_lt (Nat.lt_of_lt_of_le (Nat.lt_of_lt_of_le A621.lt E622.1) q623_1))
   have le642 : h0.size ≤ T623.heap.size := (Nat.le_trans (Nat.le_trans (Nat.le_trans (Nat.le_trans (Nat.le_trans (Nat.le_trans (Nat.le_trans (Nat.le_trans (Nat.le_trans (Nat.le_trans (Nat.le_trans (Nat.le_trans E413.1 (Nat.le_of_eq (Wr.size W415).symm)) (Nat.le_of_eq (Wr.size W418).symm)) (Nat.le_of_eq (Wr.size W421).symm)) (Nat.le_of_eq (Wr.size W424).symm)) (Nat.le_of_eq (Wr.size W427).symm)) (Nat.le_of_eq (Wr.size W430).symm)) (Nat.le_of_eq (Wr.size W433).symm)) (Nat.le_of_eq (Wr.size W567).symm)) (Nat.le_of_eq (Wr.size W568).symm)) E621.1) E622.1) q623_0.1)
   obtain ⟨_, _, ⟨T631, L631, k631, n631⟩, -, X631, ⟨Lc631, hQ631, l631, y631, z631⟩, st631⟩ := X623.specialBack hx (y := (⟨"com/example/restate/restate/Words", "<init>", "(Ljava/lang/String;)V"⟩ : MethodName)) rfl hown (mvT hZ (hw _ (List.mem_of_getElem? (i := 48) rfl))) (mvT hZ (hw _ (List.mem_of_getElem? (i := 49) rfl))) (mvT hZ (hw _ (List.mem_of_getElem? (i := 50) rfl))) (by decide) (backOf (W := 1) (rm10_2 l Z a0 hw [] b621 b622 w_COMPACT_STRINGS w_SIOOBE_FORMATTER bn_623 kn_623 (own_cf nb_623) nb_623 vb_623 cs pp qq T623.heap n0 (Nat.le_trans Z0 le642) f632 f634 f635 (Nat.le_trans (Nat.le_trans Z0 le614) (Nat.le_of_eq g621.symm)) f636 (by first | assumption | decide) f637 f638 f639 f640 q623_2 q623_4 q623_3 q623_5 (q623_6) (hC) (hpq) (h1s) (h2s) (hno) ne633 ne641) hZ (hw _ (List.mem_of_getElem? (i := 50) rfl)) (hw _ (List.mem_of_getElem? (i := 18) rfl)) (by decide) (by decide)) (g := (mkF m 329 #[.val (.int p1), .val (.int p2), .val (.int p3), .val (.int p4), .val (.int p5), .val (.int p6), .val (.ref b413), .val (.int 2), .val (.int (y8 &&& (32767 : Int32))), .val (.int (y9 &&& (32767 : Int32))), .val (.int (Int32.ofNat pp)), .val (.int (Int32.ofNat qq)), .val (.int 1), .val (.int (Int32.ofNat (pp + 1))), .val (.int (Int32.ofNat qq)), .val (.int (Int32.ofNat (qq - (pp + 1)))), .val (.int (own_h cs (pp + 1) qq)), .unset] [(.ref b622), (.ref b621), (.ref b621)])) rfl (by rw [hml]; rfl) (Steps.refl _) (a := b621) (argsL := [(.ref b622)]) (rest := [(.ref b621)]) (lenOf pd_26 rfl) rfl (by show 2 * 0 + _ ≤ _; exact Nat.le_of_eq rfl) (hb hby at_329) (fun _ _ => ⟨rfl, rfl, (by decide : 5 + 2 ≤ _), (by decide : 34 + 20 ≤ _)⟩)
   dsimp only [Pt.U, Pt.locs, Pt.cells, Pt.slots] at X631 l631 y631 z631 st631 hQ631
   rw [l631, y631, z631] at X631
   obtain ⟨sn_631, ks_631, rfl, M631, q631_0, q631_1, q631_2, q631_3, q631_4, q631_5⟩ := hQ631
   have N631 := Fr.app N623 M631
   have K631 : Keep h0 T631.heap [] := Keep.trans K623 q631_0 (allS (Or.inr (Nat.le_trans le614 (Nat.le_of_eq g621.symm))) all0)
   refine own_go (fun t k => st631.trans k) ?_
   refine own_go (B := T631.setTop (mkF m 336 #[.val (.int p1), .val (.int p2), .val (.int p3), .val (.int p4), .val (.int p5), .val (.int p6), .val (.ref b413), .val (.int 2), .val (.int (y8 &&& (32767 : Int32))), .val (.int (y9 &&& (32767 : Int32))), .val (.int (Int32.ofNat pp)), .val (.int (Int32.ofNat qq)), .val (.int 1), .val (.int (Int32.ofNat (pp + 1))), .val (.int (Int32.ofNat qq)), .val (.int (Int32.ofNat (qq - (pp + 1)))), .val (.int (own_h cs (pp + 1) qq)), .val (.ref b621)] [(.ref b621)])) (fun tg kt => ?_) ?_
   ·refine XS.astore X631.here hx rfl (hb hby at_332) rfl rfl (l' := #[.val (.int p1), .val (.int p2), .val (.int p3), .val (.int p4), .val (.int p5), .val (.int p6), .val (.ref b413), .val (.int 2), .val (.int (y8 &&& (32767 : Int32))), .val (.int (y9 &&& (32767 : Int32))), .val (.int (Int32.ofNat pp)), .val (.int (Int32.ofNat qq)), .val (.int 1), .val (.int (Int32.ofNat (pp + 1))), .val (.int (Int32.ofNat qq)), .val (.int (Int32.ofNat (qq - (pp + 1)))), .val (.int (own_h cs (pp + 1) qq)), .val (.ref b621)]) rfl ?_
    refine XS.aload X631.here hx rfl (hb hby at_334) rfl rfl ?_
    exact kt
   have le644 : h0.size ≤ T631.heap.size := (Nat.le_trans (Nat.le_trans (Nat.le_trans (Nat.le_trans (Nat.le_trans (Nat.le_trans (Nat.le_trans (Nat.le_trans (Nat.le_trans (Nat.le_trans (Nat.le_trans (Nat.le_trans (Nat.le_trans E413.1 (Nat.le_of_eq (Wr.size W415).symm)) (Nat.le_of_eq (Wr.size W418).symm)) (Nat.le_of_eq (Wr.size W421).symm)) (Nat.le_of_eq (Wr.size W424).symm)) (Nat.le_of_eq (Wr.size W427).symm)) (Nat.le_of_eq (Wr.size W430).symm)) (Nat.le_of_eq (Wr.size W433).symm)) (Nat.le_of_eq (Wr.size W567).symm)) (Nat.le_of_eq (Wr.size W568).symm)) E621.1) E622.1) q623_0.1) q631_0.1)
   obtain ⟨cq643, kq643, q643a, q643b, q643c⟩ := isOf hZ rfl q631_2
   obtain ⟨_, _, ⟨T643, L643, k643, n643⟩, -, X643, ⟨Lc643, hQ643, l643, y643, z643⟩, st643⟩ := X631.virtualBack hx (y := (⟨"com/example/restate/restate/Words", "size", "()I"⟩ : MethodName)) (z := (⟨"com/example/restate/restate/Words", "size", "()I"⟩ : MethodName)) hown (mvT hZ (hw _ (List.mem_of_getElem? (i := 118) rfl))) (mvT hZ (hw _ (List.mem_of_getElem? (i := 119) rfl))) (notFace_of_selects (args := #[]) (mvT hZ (hw _ (List.mem_of_getElem? (i := 121) rfl)))) (mvT hZ (hw _ (List.mem_of_getElem? (i := 121) rfl))) (mvT hZ (hw _ (List.mem_of_getElem? (i := 120) rfl))) (by decide) (backOf (W := 0) (rm24_2 l Z a0 hw [] b621 sn_631 ks_631 ([(.int 0), (.int (Int32.ofNat (pp + 1))), (.int (Int32.ofNat (qq + 1))), (.int 8)]) T631.heap n0 (Nat.le_trans Z0 le644) q631_2 q631_4 q631_5) hZ (hw _ (List.mem_of_getElem? (i := 122) rfl)) (hw _ (List.mem_of_getElem? (i := 18) rfl)) (by decide) (by decide)) q643a q643c (g := (mkF m 336 #[.val (.int p1), .val (.int p2), .val (.int p3), .val (.int p4), .val (.int p5), .val (.int p6), .val (.ref b413), .val (.int 2), .val (.int (y8 &&& (32767 : Int32))), .val (.int (y9 &&& (32767 : Int32))), .val (.int (Int32.ofNat pp)), .val (.int (Int32.ofNat qq)), .val (.int 1), .val (.int (Int32.ofNat (pp + 1))), .val (.int (Int32.ofNat qq)), .val (.int (Int32.ofNat (qq - (pp + 1)))), .val (.int (own_h cs (pp + 1) qq)), .val (.ref b621)] [(.ref b621)])) rfl (by rw [hml]; rfl) (Steps.refl _) (argsL := []) (rest := []) (lenOf pd_19 rfl) rfl (by show 2 * 0 + _ ≤ _; exact Nat.le_of_eq rfl) (hb hby at_336) (fun _ _ => ⟨rfl, rfl, (by decide : 7 + 0 ≤ _), (by decide : 54 + 0 ≤ _)⟩)
   dsimp only [Pt.U, Pt.locs, Pt.cells, Pt.slots] at X643 l643 y643 z643 st643 hQ643
   rw [l643, y643, z643] at X643
   obtain ⟨rfl, M643, q643_0⟩ := hQ643
   have N643 := Fr.app N631 M643
   refine own_go (fun t k => st643.trans k) ?_
   refine own_go (B := T643.setTop (mkF m 350 #[.val (.int p1), .val (.int p2), .val (.int p3), .val (.int p4), .val (.int p5), .val (.int p6), .val (.ref b413), .val (.int 2), .val (.int (y8 &&& (32767 : Int32))), .val (.int (y9 &&& (32767 : Int32))), .val (.int (Int32.ofNat pp)), .val (.int (Int32.ofNat qq)), .val (.int 1), .val (.int (Int32.ofNat (pp + 1))), .val (.int (Int32.ofNat qq)), .val (.int (Int32.ofNat (qq - (pp + 1)))), .val (.int (own_h cs (pp + 1) qq)), .val (.ref b621)] [(.int 1), (.ref b621)])) (fun tg kt => ?_) ?_
   ·refine XS.iload X643.here hx rfl (hb hby at_339) rfl ?_
    refine XS.iconst X643.here hx rfl (hb hby at_341) ?_
    refine XS.iadd X643.here hx rfl (hb hby at_342) rfl ?_
    refine XS.icmpNo X643.here hx rfl (hb hby at_343) rfl (teq (by decide : (3 : Int32) = (3 : Int32))).2 ?_
    refine XS.aload X643.here hx rfl (hb hby at_346) rfl rfl ?_
    refine XS.iload X643.here hx rfl (hb hby at_348) rfl ?_
    exact kt
   have f646 : Sta Z T631.heap "java/lang/String" "COMPACT_STRINGS" "Z" (.int w_COMPACT_STRINGS) := (own_staKeep f636 q631_0 (own_nsS (own_nsE f632) own_ns0))
   have f647 : Sta Z T631.heap "java/lang/StringUTF16" "$assertionsDisabled" "Z" (.int 1) := (own_staKeep f637 q631_0 (own_nsS (own_nsE f632) own_ns0))
   have f648 : Sta Z T631.heap "java/lang/StringUTF16" "HI_BYTE_SHIFT" "I" (.int 0) := (own_staKeep f638 q631_0 (own_nsS (own_nsE f632) own_ns0))
   have f649 : Sta Z T631.heap "java/lang/StringUTF16" "LO_BYTE_SHIFT" "I" (.int 8) := (own_staKeep f639 q631_0 (own_nsS (own_nsE f632) own_ns0))
   have f650 : Sta Z T631.heap "jdk/internal/util/Preconditions" "SIOOBE_FORMATTER" "Ljava/util/function/BiFunction;" (own_rv w_SIOOBE_FORMATTER) := (own_staKeep f640 q631_0 (own_nsS (own_nsE f632) own_ns0))
   have f651 : Exa Z T631.heap b622 "java/lang/String" := (q623_2.keep q631_0)
   have f652 : Fld Z T631.heap b622 "java/lang/String" "value" "[B" (.ref bn_623) := (q623_4.keep q631_0 (ninS (Ne.symm ne633) nin0))
   have f653 : Fld Z T631.heap b622 "java/lang/String" "coder" "B" (.int (own_cf nb_623)) := (q623_3.keep q631_0 (ninS (Ne.symm ne633) nin0))
   have f654 : Arv Z T631.heap bn_623 kn_623 .byte nb_623 vb_623 (.int 0) := (q623_5.keep q631_0 (ninS (Ne.symm ne641) nin0))
   obtain ⟨cq645, kq645, q645a, q645b, q645c⟩ := isOf hZ q643_0 q631_2
   obtain ⟨_, _, ⟨T645, L645, k645, n645⟩, -, X645, ⟨Lc645, hQ645, l645, y645, z645⟩, st645⟩ := X643.virtualBack hx (y := (⟨"com/example/restate/restate/Words", "hash", "(I)I"⟩ : MethodName)) (z := (⟨"com/example/restate/restate/Words", "hash", "(I)I"⟩ : MethodName)) hown (mvT hZ (hw _ (List.mem_of_getElem? (i := 123) rfl))) (mvT hZ (hw _ (List.mem_of_getElem? (i := 124) rfl))) (notFace_of_selects (args := #[]) (mvT hZ (hw _ (List.mem_of_getElem? (i := 126) rfl)))) (mvT hZ (hw _ (List.mem_of_getElem? (i := 126) rfl))) (mvT hZ (hw _ (List.mem_of_getElem? (i := 125) rfl))) (by decide) (backOf (W := 0) (rm25 l Z a0 hw [] b621 (1 : Int32) b622 w_COMPACT_STRINGS w_SIOOBE_FORMATTER bn_623 kn_623 (own_cf nb_623) nb_623 vb_623 cs sn_631 ks_631 (4 : Int32) ([(.int 0), (.int (Int32.ofNat (pp + 1))), (.int (Int32.ofNat (qq + 1))), (.int 8)]) (pp + 1) qq T631.heap n0 (Nat.le_trans Z0 le644) f646 (N_COMPACT_STRINGS) f647 f648 f649 f650 f651 f652 f653 f654 (q623_6) (hC) q631_3 q631_4 q631_2 q631_5 (by decide) (by decide) (rfl) (rfl) (⟨by omega, by omega⟩)) hZ (hw _ (List.mem_of_getElem? (i := 127) rfl)) (hw _ (List.mem_of_getElem? (i := 18) rfl)) (by decide) (by decide)) q645a q645c (g := (mkF m 350 #[.val (.int p1), .val (.int p2), .val (.int p3), .val (.int p4), .val (.int p5), .val (.int p6), .val (.ref b413), .val (.int 2), .val (.int (y8 &&& (32767 : Int32))), .val (.int (y9 &&& (32767 : Int32))), .val (.int (Int32.ofNat pp)), .val (.int (Int32.ofNat qq)), .val (.int 1), .val (.int (Int32.ofNat (pp + 1))), .val (.int (Int32.ofNat qq)), .val (.int (Int32.ofNat (qq - (pp + 1)))), .val (.int (own_h cs (pp + 1) qq)), .val (.ref b621)] [(.int 1), (.ref b621)])) rfl (by rw [hml]; rfl) (Steps.refl _) (argsL := [(.int 1)]) (rest := []) (lenOf pd_0 rfl) rfl (by show 2 * 0 + _ ≤ _; exact Nat.le_of_eq rfl) (hb hby at_350) (fun _ _ => ⟨rfl, q643_0, (by decide : 7 + 0 ≤ _), (by decide : 54 + 0 ≤ _)⟩)
   dsimp only [Pt.U, Pt.locs, Pt.cells, Pt.slots] at X645 l645 y645 z645 st645 hQ645
   rw [l645, y645, z645] at X645
   obtain ⟨rfl, M645, q645_0⟩ := hQ645
   have N645 := Fr.app N643 M645
   refine own_go (fun t k => st645.trans k) ?_
   refine own_go (B := T645.setTop (mkF m 363 #[.val (.int p1), .val (.int p2), .val (.int p3), .val (.int p4), .val (.int p5), .val (.int p6), .val (.ref b413), .val (.int 2), .val (.int (y8 &&& (32767 : Int32))), .val (.int (y9 &&& (32767 : Int32))), .val (.int (Int32.ofNat pp)), .val (.int (Int32.ofNat qq)), .val (.int 1), .val (.int (Int32.ofNat (pp + 1))), .val (.int (Int32.ofNat qq)), .val (.int (Int32.ofNat (qq - (pp + 1)))), .val (.int (own_h cs (pp + 1) qq)), .val (.ref b621)] [(.int 1)])) (fun tg kt => ?_) ?_
   ·refine XS.iload X645.here hx rfl (hb hby at_353) rfl ?_
    refine XS.icmpNo X645.here hx rfl (hb hby at_355) rfl (teq (rfl : (own_h cs (pp + 1) qq) = (own_h cs (pp + 1) qq))).2 ?_
    refine XS.iconst X645.here hx rfl (hb hby at_358) ?_
    refine XS.goto X645.here hx rfl (pc0 := 359) (pc' := 363) rfl (hb hby at_359) (by decide) (by decide) ?_
    exact kt
   obtain ⟨fs, hr, hrun, hended, hW, hsame⟩ := X645.leave (v := some (.int 1)) (fun h => by rw [Bd.returns] at h; cases h)
   refine ⟨_, _, ?_, hrun, hended, _, _, rfl, ?_, ⟨_, rfl⟩, hW, hsame.mono (by decide) (by decide)⟩
   ·exact retN X645 hx (t := .boolean) Bd.returns (by simp) (hb hby at_363) hr
   ·show Q0 Z p1 p2 p3 p4 p5 p6 w_COMPACT_STRINGS w_SIOOBE_FORMATTER h0 n0 _ T645.heap _
    rw [q645_0]
    exact ⟨rfl, N645⟩
  ·rw [show ((p6 &&& (2147483647 : Int32)) % (3 : Int32)) = (2 : Int32) from hw_]
   refine own_go (B := T568.setTop (mkF m 230 #[.val (.int p1), .val (.int p2), .val (.int p3), .val (.int p4), .val (.int p5), .val (.int p6), .val (.ref b413), .val (.int 2), .val (.int (y8 &&& (32767 : Int32))), .val (.int (y9 &&& (32767 : Int32))), .val (.int (Int32.ofNat pp)), .val (.int (Int32.ofNat qq)), .val (.int 2), .val (.int ((Int32.ofNat qq) + (1 : Int32))), .val (.int 7), .unset, .unset, .unset] [])) (fun tg kt => ?_) ?_
   ·refine XS.istore X568.here hx rfl (hb hby at_184) rfl (l' := #[.val (.int p1), .val (.int p2), .val (.int p3), .val (.int p4), .val (.int p5), .val (.int p6), .val (.ref b413), .val (.int 2), .val (.int (y8 &&& (32767 : Int32))), .val (.int (y9 &&& (32767 : Int32))), .val (.int (Int32.ofNat pp)), .val (.int (Int32.ofNat qq)), .val (.int 2), .unset, .unset, .unset, .unset, .unset]) rfl ?_
    refine XS.iload X568.here hx rfl (hb hby at_186) rfl ?_
    refine XS.ifYes X568.here hx rfl (pc0 := 188) (pc' := 201) rfl (hb hby at_188) rfl ((if0 _ _).trans (feq (by decide : ¬ ((2 : Int32) = (0 : Int32)))).2) (by decide) (by decide) ?_
    refine XS.iload X568.here hx rfl (hb hby at_201) rfl ?_
    refine XS.iconst X568.here hx rfl (hb hby at_203) ?_
    refine XS.icmpYes X568.here hx rfl (pc0 := 204) (pc' := 220) rfl (hb hby at_204) rfl (feq (by decide : ¬ ((2 : Int32) = (1 : Int32)))).2 (by decide) (by decide) ?_
    refine XS.iload X568.here hx rfl (hb hby at_220) rfl ?_
    refine XS.iconst X568.here hx rfl (hb hby at_222) ?_
    refine XS.iadd X568.here hx rfl (hb hby at_223) rfl ?_
    refine XS.istore X568.here hx rfl (hb hby at_224) rfl (l' := #[.val (.int p1), .val (.int p2), .val (.int p3), .val (.int p4), .val (.int p5), .val (.int p6), .val (.ref b413), .val (.int 2), .val (.int (y8 &&& (32767 : Int32))), .val (.int (y9 &&& (32767 : Int32))), .val (.int (Int32.ofNat pp)), .val (.int (Int32.ofNat qq)), .val (.int 2), .val (.int ((Int32.ofNat qq) + (1 : Int32))), .unset, .unset, .unset, .unset]) rfl ?_
    refine XS.bipush X568.here hx rfl (hb hby at_226) ?_
    refine XS.istore X568.here hx rfl (hb hby at_228) rfl (l' := #[.val (.int p1), .val (.int p2), .val (.int p3), .val (.int p4), .val (.int p5), .val (.int p6), .val (.ref b413), .val (.int 2), .val (.int (y8 &&& (32767 : Int32))), .val (.int (y9 &&& (32767 : Int32))), .val (.int (Int32.ofNat pp)), .val (.int (Int32.ofNat qq)), .val (.int 2), .val (.int ((Int32.ofNat qq) + (1 : Int32))), .val (.int 7), .unset, .unset, .unset]) rfl ?_
    exact kt
   rw [show ((Int32.ofNat qq) + (1 : Int32)) = (Int32.ofNat (qq + 1)) from own_isucc _]
   refine own_go (B := T568.setTop (mkF m 237 #[.val (.int p1), .val (.int p2), .val (.int p3), .val (.int p4), .val (.int p5), .val (.int p6), .val (.ref b413), .val (.int 2), .val (.int (y8 &&& (32767 : Int32))), .val (.int (y9 &&& (32767 : Int32))), .val (.int (Int32.ofNat pp)), .val (.int (Int32.ofNat qq)), .val (.int 2), .val (.int (Int32.ofNat (qq + 1))), .val (.int 7), .val (.int ((7 : Int32) - (Int32.ofNat (qq + 1)))), .unset, .unset] [])) (fun tg kt => ?_) ?_
   ·refine XS.iload X568.here hx rfl (hb hby at_230) rfl ?_
    refine XS.iload X568.here hx rfl (hb hby at_232) rfl ?_
    refine XS.isub X568.here hx rfl (hb hby at_234) rfl ?_
    refine XS.istore X568.here hx rfl (hb hby at_235) rfl (l' := #[.val (.int p1), .val (.int p2), .val (.int p3), .val (.int p4), .val (.int p5), .val (.int p6), .val (.ref b413), .val (.int 2), .val (.int (y8 &&& (32767 : Int32))), .val (.int (y9 &&& (32767 : Int32))), .val (.int (Int32.ofNat pp)), .val (.int (Int32.ofNat qq)), .val (.int 2), .val (.int (Int32.ofNat (qq + 1))), .val (.int 7), .val (.int ((7 : Int32) - (Int32.ofNat (qq + 1)))), .unset, .unset]) rfl ?_
    exact kt
   rw [show ((7 : Int32) - (Int32.ofNat (qq + 1))) = (Int32.ofNat (7 - (qq + 1))) from own_isub (a := (qq + 1)) (b := 7) (by omega) (by omega)]
   refine own_go (B := T568.setTop (mkF m 244 #[.val (.int p1), .val (.int p2), .val (.int p3), .val (.int p4), .val (.int p5), .val (.int p6), .val (.ref b413), .val (.int 2), .val (.int (y8 &&& (32767 : Int32))), .val (.int (y9 &&& (32767 : Int32))), .val (.int (Int32.ofNat pp)), .val (.int (Int32.ofNat qq)), .val (.int 2), .val (.int (Int32.ofNat (qq + 1))), .val (.int 7), .val (.int (Int32.ofNat (7 - (qq + 1)))), .unset, .unset] [(.int 0), (.int (Int32.ofNat (7 - (qq + 1)))), (.int (Int32.ofNat (qq + 1))), (.ref b413)])) (fun tg kt => ?_) ?_
   ·refine XS.aload X568.here hx rfl (hb hby at_237) rfl rfl ?_
    refine XS.iload X568.here hx rfl (hb hby at_239) rfl ?_
    refine XS.iload X568.here hx rfl (hb hby at_241) rfl ?_
    refine XS.iconst X568.here hx rfl (hb hby at_243) ?_
    exact kt
   have le657 : h0.size ≤ h568.size := (Nat.le_trans (Nat.le_trans (Nat.le_trans (Nat.le_trans (Nat.le_trans (Nat.le_trans (Nat.le_trans (Nat.le_trans (Nat.le_trans E413.1 (Nat.le_of_eq (Wr.size W415).symm)) (Nat.le_of_eq (Wr.size W418).symm)) (Nat.le_of_eq (Wr.size W421).symm)) (Nat.le_of_eq (Wr.size W424).symm)) (Nat.le_of_eq (Wr.size W427).symm)) (Nat.le_of_eq (Wr.size W430).symm)) (Nat.le_of_eq (Wr.size W433).symm)) (Nat.le_of_eq (Wr.size W567).symm)) (Nat.le_of_eq (Wr.size W568).symm))
   obtain ⟨_, _, ⟨T656, L656, k656, n656⟩, -, X656, ⟨Lc656, hQ656, l656, y656, z656⟩, st656⟩ := Jvm.LawKit.callS X568 hx (y := (⟨"com/example/restate/restate/WordsHashPinLaw", "term", "([CIII)I"⟩ : MethodName)) hown (mvT hZ (hw _ (List.mem_of_getElem? (i := 7) rfl))) (mvT hZ (hw _ (List.mem_of_getElem? (i := 8) rfl))) (mvT hZ (hw _ (List.mem_of_getElem? (i := 3) rfl))) (mvT hZ (hw _ (List.mem_of_getElem? (i := 9) rfl))) (by decide) (backOf (W := 0) (rm2_0 l Z a0 hw [] b413 (Int32.ofNat (qq + 1)) (Int32.ofNat (7 - (qq + 1))) k413 cs (qq + 1) (7 - (qq + 1)) h568 n0 (Nat.le_trans Z0 le657) V569 (⟨own_toInt (t := (qq + 1)) (by omega), own_toInt (t := 7 - (qq + 1)) (by omega), by omega⟩)) hZ (hw _ (List.mem_of_getElem? (i := 9) rfl)) (hw _ (List.mem_of_getElem? (i := 3) rfl)) (by decide) (by decide)) (g := (mkF m 244 #[.val (.int p1), .val (.int p2), .val (.int p3), .val (.int p4), .val (.int p5), .val (.int p6), .val (.ref b413), .val (.int 2), .val (.int (y8 &&& (32767 : Int32))), .val (.int (y9 &&& (32767 : Int32))), .val (.int (Int32.ofNat pp)), .val (.int (Int32.ofNat qq)), .val (.int 2), .val (.int (Int32.ofNat (qq + 1))), .val (.int 7), .val (.int (Int32.ofNat (7 - (qq + 1)))), .unset, .unset] [(.int 0), (.int (Int32.ofNat (7 - (qq + 1)))), (.int (Int32.ofNat (qq + 1))), (.ref b413)])) rfl (by rw [hml]; rfl) (argsL := [(.ref b413), (.int (Int32.ofNat (qq + 1))), (.int (Int32.ofNat (7 - (qq + 1)))), (.int 0)]) (rest := []) (lenOf pd_24 rfl) rfl (by show 2 * 0 + _ ≤ _; exact Nat.le_of_eq rfl) (hb hby at_244) (fun _ _ => ⟨rfl, e568, (by decide : 1 + 0 ≤ _), (by decide : 7 + 0 ≤ _)⟩)
   dsimp only [Pt.U, Pt.locs, Pt.cells, Pt.slots] at X656 l656 y656 z656 st656 hQ656
   rw [l656, y656, z656] at X656
   obtain ⟨rfl, M656, q656_0⟩ := hQ656
   have N656 := Fr.app N568 M656
   refine own_go st656 ?_
   refine own_go (B := T656.setTop (mkF m 254 #[.val (.int p1), .val (.int p2), .val (.int p3), .val (.int p4), .val (.int p5), .val (.int p6), .val (.ref b413), .val (.int 2), .val (.int (y8 &&& (32767 : Int32))), .val (.int (y9 &&& (32767 : Int32))), .val (.int (Int32.ofNat pp)), .val (.int (Int32.ofNat qq)), .val (.int 2), .val (.int (Int32.ofNat (qq + 1))), .val (.int 7), .val (.int (Int32.ofNat (7 - (qq + 1)))), .unset, .unset] [(.int 1), (.int (Int32.ofNat (7 - (qq + 1)))), (.int (Int32.ofNat (qq + 1))), (.ref b413), (.int (own_term cs (qq + 1) (Int32.ofNat (7 - (qq + 1))) 0))])) (fun tg kt => ?_) ?_
   ·refine XS.aload X656.here hx rfl (hb hby at_247) rfl rfl ?_
    refine XS.iload X656.here hx rfl (hb hby at_249) rfl ?_
    refine XS.iload X656.here hx rfl (hb hby at_251) rfl ?_
    refine XS.iconst X656.here hx rfl (hb hby at_253) ?_
    exact kt
   obtain ⟨_, _, ⟨T658, L658, k658, n658⟩, -, X658, ⟨Lc658, hQ658, l658, y658, z658⟩, st658⟩ := Jvm.LawKit.callS X656 hx (y := (⟨"com/example/restate/restate/WordsHashPinLaw", "term", "([CIII)I"⟩ : MethodName)) hown (mvT hZ (hw _ (List.mem_of_getElem? (i := 7) rfl))) (mvT hZ (hw _ (List.mem_of_getElem? (i := 8) rfl))) (mvT hZ (hw _ (List.mem_of_getElem? (i := 3) rfl))) (mvT hZ (hw _ (List.mem_of_getElem? (i := 9) rfl))) (by decide) (backOf (W := 1) (rm2_1 l Z a0 hw [] b413 (Int32.ofNat (qq + 1)) (Int32.ofNat (7 - (qq + 1))) k413 cs (qq + 1) (7 - (qq + 1)) h568 n0 (Nat.le_trans Z0 le657) V569 (⟨own_toInt (t := (qq + 1)) (by omega), own_toInt (t := 7 - (qq + 1)) (by omega), by omega⟩)) hZ (hw _ (List.mem_of_getElem? (i := 9) rfl)) (hw _ (List.mem_of_getElem? (i := 3) rfl)) (by decide) (by decide)) (g := (mkF m 254 #[.val (.int p1), .val (.int p2), .val (.int p3), .val (.int p4), .val (.int p5), .val (.int p6), .val (.ref b413), .val (.int 2), .val (.int (y8 &&& (32767 : Int32))), .val (.int (y9 &&& (32767 : Int32))), .val (.int (Int32.ofNat pp)), .val (.int (Int32.ofNat qq)), .val (.int 2), .val (.int (Int32.ofNat (qq + 1))), .val (.int 7), .val (.int (Int32.ofNat (7 - (qq + 1)))), .unset, .unset] [(.int 1), (.int (Int32.ofNat (7 - (qq + 1)))), (.int (Int32.ofNat (qq + 1))), (.ref b413), (.int (own_term cs (qq + 1) (Int32.ofNat (7 - (qq + 1))) 0))])) rfl (by rw [hml]; rfl) (argsL := [(.ref b413), (.int (Int32.ofNat (qq + 1))), (.int (Int32.ofNat (7 - (qq + 1)))), (.int 1)]) (rest := [(.int (own_term cs (qq + 1) (Int32.ofNat (7 - (qq + 1))) 0))]) (lenOf pd_24 rfl) rfl (by show 2 * 0 + _ ≤ _; exact Nat.le_of_eq rfl) (hb hby at_254) (fun _ _ => ⟨rfl, q656_0, (by decide : 1 + 0 ≤ _), (by decide : 7 + 0 ≤ _)⟩)
   dsimp only [Pt.U, Pt.locs, Pt.cells, Pt.slots] at X658 l658 y658 z658 st658 hQ658
   rw [l658, y658, z658] at X658
   obtain ⟨rfl, M658, q658_0⟩ := hQ658
   have N658 := Fr.app N656 M658
   refine own_go st658 ?_
   refine own_go (B := T658.setTop (mkF m 265 #[.val (.int p1), .val (.int p2), .val (.int p3), .val (.int p4), .val (.int p5), .val (.int p6), .val (.ref b413), .val (.int 2), .val (.int (y8 &&& (32767 : Int32))), .val (.int (y9 &&& (32767 : Int32))), .val (.int (Int32.ofNat pp)), .val (.int (Int32.ofNat qq)), .val (.int 2), .val (.int (Int32.ofNat (qq + 1))), .val (.int 7), .val (.int (Int32.ofNat (7 - (qq + 1)))), .unset, .unset] [(.int 2), (.int (Int32.ofNat (7 - (qq + 1)))), (.int (Int32.ofNat (qq + 1))), (.ref b413), (.int ((own_term cs (qq + 1) (Int32.ofNat (7 - (qq + 1))) 0) + (own_term cs (qq + 1) (Int32.ofNat (7 - (qq + 1))) 1)))])) (fun tg kt => ?_) ?_
   ·refine XS.iadd X658.here hx rfl (hb hby at_257) rfl ?_
    refine XS.aload X658.here hx rfl (hb hby at_258) rfl rfl ?_
    refine XS.iload X658.here hx rfl (hb hby at_260) rfl ?_
    refine XS.iload X658.here hx rfl (hb hby at_262) rfl ?_
    refine XS.iconst X658.here hx rfl (hb hby at_264) ?_
    exact kt
   obtain ⟨_, _, ⟨T659, L659, k659, n659⟩, -, X659, ⟨Lc659, hQ659, l659, y659, z659⟩, st659⟩ := Jvm.LawKit.callS X658 hx (y := (⟨"com/example/restate/restate/WordsHashPinLaw", "term", "([CIII)I"⟩ : MethodName)) hown (mvT hZ (hw _ (List.mem_of_getElem? (i := 7) rfl))) (mvT hZ (hw _ (List.mem_of_getElem? (i := 8) rfl))) (mvT hZ (hw _ (List.mem_of_getElem? (i := 3) rfl))) (mvT hZ (hw _ (List.mem_of_getElem? (i := 9) rfl))) (by decide) (backOf (W := 1) (rm2_2 l Z a0 hw [] b413 (Int32.ofNat (qq + 1)) (Int32.ofNat (7 - (qq + 1))) k413 cs (qq + 1) (7 - (qq + 1)) h568 n0 (Nat.le_trans Z0 le657) V569 (⟨own_toInt (t := (qq + 1)) (by omega), own_toInt (t := 7 - (qq + 1)) (by omega), by omega⟩)) hZ (hw _ (List.mem_of_getElem? (i := 9) rfl)) (hw _ (List.mem_of_getElem? (i := 3) rfl)) (by decide) (by decide)) (g := (mkF m 265 #[.val (.int p1), .val (.int p2), .val (.int p3), .val (.int p4), .val (.int p5), .val (.int p6), .val (.ref b413), .val (.int 2), .val (.int (y8 &&& (32767 : Int32))), .val (.int (y9 &&& (32767 : Int32))), .val (.int (Int32.ofNat pp)), .val (.int (Int32.ofNat qq)), .val (.int 2), .val (.int (Int32.ofNat (qq + 1))), .val (.int 7), .val (.int (Int32.ofNat (7 - (qq + 1)))), .unset, .unset] [(.int 2), (.int (Int32.ofNat (7 - (qq + 1)))), (.int (Int32.ofNat (qq + 1))), (.ref b413), (.int ((own_term cs (qq + 1) (Int32.ofNat (7 - (qq + 1))) 0) + (own_term cs (qq + 1) (Int32.ofNat (7 - (qq + 1))) 1)))])) rfl (by rw [hml]; rfl) (argsL := [(.ref b413), (.int (Int32.ofNat (qq + 1))), (.int (Int32.ofNat (7 - (qq + 1)))), (.int 2)]) (rest := [(.int ((own_term cs (qq + 1) (Int32.ofNat (7 - (qq + 1))) 0) + (own_term cs (qq + 1) (Int32.ofNat (7 - (qq + 1))) 1)))]) (lenOf pd_24 rfl) rfl (by show 2 * 0 + _ ≤ _; exact Nat.le_of_eq rfl) (hb hby at_265) (fun _ _ => ⟨rfl, q658_0, (by decide : 1 + 0 ≤ _), (by decide : 7 + 0 ≤ _)⟩)
   dsimp only [Pt.U, Pt.locs, Pt.cells, Pt.slots] at X659 l659 y659 z659 st659 hQ659
   rw [l659, y659, z659] at X659
   obtain ⟨rfl, M659, q659_0⟩ := hQ659
   have N659 := Fr.app N658 M659
   refine own_go st659 ?_
   refine own_go (B := T659.setTop (mkF m 276 #[.val (.int p1), .val (.int p2), .val (.int p3), .val (.int p4), .val (.int p5), .val (.int p6), .val (.ref b413), .val (.int 2), .val (.int (y8 &&& (32767 : Int32))), .val (.int (y9 &&& (32767 : Int32))), .val (.int (Int32.ofNat pp)), .val (.int (Int32.ofNat qq)), .val (.int 2), .val (.int (Int32.ofNat (qq + 1))), .val (.int 7), .val (.int (Int32.ofNat (7 - (qq + 1)))), .unset, .unset] [(.int 3), (.int (Int32.ofNat (7 - (qq + 1)))), (.int (Int32.ofNat (qq + 1))), (.ref b413), (.int (((own_term cs (qq + 1) (Int32.ofNat (7 - (qq + 1))) 0) + (own_term cs (qq + 1) (Int32.ofNat (7 - (qq + 1))) 1)) + (own_term cs (qq + 1) (Int32.ofNat (7 - (qq + 1))) 2)))])) (fun tg kt => ?_) ?_
   ·refine XS.iadd X659.here hx rfl (hb hby at_268) rfl ?_
    refine XS.aload X659.here hx rfl (hb hby at_269) rfl rfl ?_
    refine XS.iload X659.here hx rfl (hb hby at_271) rfl ?_
    refine XS.iload X659.here hx rfl (hb hby at_273) rfl ?_
    refine XS.iconst X659.here hx rfl (hb hby at_275) ?_
    exact kt
   obtain ⟨_, _, ⟨T660, L660, k660, n660⟩, -, X660, ⟨Lc660, hQ660, l660, y660, z660⟩, st660⟩ := Jvm.LawKit.callS X659 hx (y := (⟨"com/example/restate/restate/WordsHashPinLaw", "term", "([CIII)I"⟩ : MethodName)) hown (mvT hZ (hw _ (List.mem_of_getElem? (i := 7) rfl))) (mvT hZ (hw _ (List.mem_of_getElem? (i := 8) rfl))) (mvT hZ (hw _ (List.mem_of_getElem? (i := 3) rfl))) (mvT hZ (hw _ (List.mem_of_getElem? (i := 9) rfl))) (by decide) (backOf (W := 1) (rm2_3 l Z a0 hw [] b413 (Int32.ofNat (qq + 1)) (Int32.ofNat (7 - (qq + 1))) k413 cs (qq + 1) (7 - (qq + 1)) h568 n0 (Nat.le_trans Z0 le657) V569 (⟨own_toInt (t := (qq + 1)) (by omega), own_toInt (t := 7 - (qq + 1)) (by omega), by omega⟩)) hZ (hw _ (List.mem_of_getElem? (i := 9) rfl)) (hw _ (List.mem_of_getElem? (i := 3) rfl)) (by decide) (by decide)) (g := (mkF m 276 #[.val (.int p1), .val (.int p2), .val (.int p3), .val (.int p4), .val (.int p5), .val (.int p6), .val (.ref b413), .val (.int 2), .val (.int (y8 &&& (32767 : Int32))), .val (.int (y9 &&& (32767 : Int32))), .val (.int (Int32.ofNat pp)), .val (.int (Int32.ofNat qq)), .val (.int 2), .val (.int (Int32.ofNat (qq + 1))), .val (.int 7), .val (.int (Int32.ofNat (7 - (qq + 1)))), .unset, .unset] [(.int 3), (.int (Int32.ofNat (7 - (qq + 1)))), (.int (Int32.ofNat (qq + 1))), (.ref b413), (.int (((own_term cs (qq + 1) (Int32.ofNat (7 - (qq + 1))) 0) + (own_term cs (qq + 1) (Int32.ofNat (7 - (qq + 1))) 1)) + (own_term cs (qq + 1) (Int32.ofNat (7 - (qq + 1))) 2)))])) rfl (by rw [hml]; rfl) (argsL := [(.ref b413), (.int (Int32.ofNat (qq + 1))), (.int (Int32.ofNat (7 - (qq + 1)))), (.int 3)]) (rest := [(.int (((own_term cs (qq + 1) (Int32.ofNat (7 - (qq + 1))) 0) + (own_term cs (qq + 1) (Int32.ofNat (7 - (qq + 1))) 1)) + (own_term cs (qq + 1) (Int32.ofNat (7 - (qq + 1))) 2)))]) (lenOf pd_24 rfl) rfl (by show 2 * 0 + _ ≤ _; exact Nat.le_of_eq rfl) (hb hby at_276) (fun _ _ => ⟨rfl, q659_0, (by decide : 1 + 0 ≤ _), (by decide : 7 + 0 ≤ _)⟩)
   dsimp only [Pt.U, Pt.locs, Pt.cells, Pt.slots] at X660 l660 y660 z660 st660 hQ660
   rw [l660, y660, z660] at X660
   obtain ⟨rfl, M660, q660_0⟩ := hQ660
   have N660 := Fr.app N659 M660
   refine own_go st660 ?_
   refine own_go (B := T660.setTop (mkF m 287 #[.val (.int p1), .val (.int p2), .val (.int p3), .val (.int p4), .val (.int p5), .val (.int p6), .val (.ref b413), .val (.int 2), .val (.int (y8 &&& (32767 : Int32))), .val (.int (y9 &&& (32767 : Int32))), .val (.int (Int32.ofNat pp)), .val (.int (Int32.ofNat qq)), .val (.int 2), .val (.int (Int32.ofNat (qq + 1))), .val (.int 7), .val (.int (Int32.ofNat (7 - (qq + 1)))), .unset, .unset] [(.int 4), (.int (Int32.ofNat (7 - (qq + 1)))), (.int (Int32.ofNat (qq + 1))), (.ref b413), (.int ((((own_term cs (qq + 1) (Int32.ofNat (7 - (qq + 1))) 0) + (own_term cs (qq + 1) (Int32.ofNat (7 - (qq + 1))) 1)) + (own_term cs (qq + 1) (Int32.ofNat (7 - (qq + 1))) 2)) + (own_term cs (qq + 1) (Int32.ofNat (7 - (qq + 1))) 3)))])) (fun tg kt => ?_) ?_
   ·refine XS.iadd X660.here hx rfl (hb hby at_279) rfl ?_
    refine XS.aload X660.here hx rfl (hb hby at_280) rfl rfl ?_
    refine XS.iload X660.here hx rfl (hb hby at_282) rfl ?_
    refine XS.iload X660.here hx rfl (hb hby at_284) rfl ?_
    refine XS.iconst X660.here hx rfl (hb hby at_286) ?_
    exact kt
   obtain ⟨_, _, ⟨T661, L661, k661, n661⟩, -, X661, ⟨Lc661, hQ661, l661, y661, z661⟩, st661⟩ := Jvm.LawKit.callS X660 hx (y := (⟨"com/example/restate/restate/WordsHashPinLaw", "term", "([CIII)I"⟩ : MethodName)) hown (mvT hZ (hw _ (List.mem_of_getElem? (i := 7) rfl))) (mvT hZ (hw _ (List.mem_of_getElem? (i := 8) rfl))) (mvT hZ (hw _ (List.mem_of_getElem? (i := 3) rfl))) (mvT hZ (hw _ (List.mem_of_getElem? (i := 9) rfl))) (by decide) (backOf (W := 1) (rm2_4 l Z a0 hw [] b413 (Int32.ofNat (qq + 1)) (Int32.ofNat (7 - (qq + 1))) k413 cs (qq + 1) (7 - (qq + 1)) h568 n0 (Nat.le_trans Z0 le657) V569 (⟨own_toInt (t := (qq + 1)) (by omega), own_toInt (t := 7 - (qq + 1)) (by omega), by omega⟩)) hZ (hw _ (List.mem_of_getElem? (i := 9) rfl)) (hw _ (List.mem_of_getElem? (i := 3) rfl)) (by decide) (by decide)) (g := (mkF m 287 #[.val (.int p1), .val (.int p2), .val (.int p3), .val (.int p4), .val (.int p5), .val (.int p6), .val (.ref b413), .val (.int 2), .val (.int (y8 &&& (32767 : Int32))), .val (.int (y9 &&& (32767 : Int32))), .val (.int (Int32.ofNat pp)), .val (.int (Int32.ofNat qq)), .val (.int 2), .val (.int (Int32.ofNat (qq + 1))), .val (.int 7), .val (.int (Int32.ofNat (7 - (qq + 1)))), .unset, .unset] [(.int 4), (.int (Int32.ofNat (7 - (qq + 1)))), (.int (Int32.ofNat (qq + 1))), (.ref b413), (.int ((((own_term cs (qq + 1) (Int32.ofNat (7 - (qq + 1))) 0) + (own_term cs (qq + 1) (Int32.ofNat (7 - (qq + 1))) 1)) + (own_term cs (qq + 1) (Int32.ofNat (7 - (qq + 1))) 2)) + (own_term cs (qq + 1) (Int32.ofNat (7 - (qq + 1))) 3)))])) rfl (by rw [hml]; rfl) (argsL := [(.ref b413), (.int (Int32.ofNat (qq + 1))), (.int (Int32.ofNat (7 - (qq + 1)))), (.int 4)]) (rest := [(.int ((((own_term cs (qq + 1) (Int32.ofNat (7 - (qq + 1))) 0) + (own_term cs (qq + 1) (Int32.ofNat (7 - (qq + 1))) 1)) + (own_term cs (qq + 1) (Int32.ofNat (7 - (qq + 1))) 2)) + (own_term cs (qq + 1) (Int32.ofNat (7 - (qq + 1))) 3)))]) (lenOf pd_24 rfl) rfl (by show 2 * 0 + _ ≤ _; exact Nat.le_of_eq rfl) (hb hby at_287) (fun _ _ => ⟨rfl, q660_0, (by decide : 1 + 0 ≤ _), (by decide : 7 + 0 ≤ _)⟩)
   dsimp only [Pt.U, Pt.locs, Pt.cells, Pt.slots] at X661 l661 y661 z661 st661 hQ661
   rw [l661, y661, z661] at X661
   obtain ⟨rfl, M661, q661_0⟩ := hQ661
   have N661 := Fr.app N660 M661
   refine own_go st661 ?_
   refine own_go (B := T661.setTop (mkF m 298 #[.val (.int p1), .val (.int p2), .val (.int p3), .val (.int p4), .val (.int p5), .val (.int p6), .val (.ref b413), .val (.int 2), .val (.int (y8 &&& (32767 : Int32))), .val (.int (y9 &&& (32767 : Int32))), .val (.int (Int32.ofNat pp)), .val (.int (Int32.ofNat qq)), .val (.int 2), .val (.int (Int32.ofNat (qq + 1))), .val (.int 7), .val (.int (Int32.ofNat (7 - (qq + 1)))), .unset, .unset] [(.int 5), (.int (Int32.ofNat (7 - (qq + 1)))), (.int (Int32.ofNat (qq + 1))), (.ref b413), (.int (((((own_term cs (qq + 1) (Int32.ofNat (7 - (qq + 1))) 0) + (own_term cs (qq + 1) (Int32.ofNat (7 - (qq + 1))) 1)) + (own_term cs (qq + 1) (Int32.ofNat (7 - (qq + 1))) 2)) + (own_term cs (qq + 1) (Int32.ofNat (7 - (qq + 1))) 3)) + (own_term cs (qq + 1) (Int32.ofNat (7 - (qq + 1))) 4)))])) (fun tg kt => ?_) ?_
   ·refine XS.iadd X661.here hx rfl (hb hby at_290) rfl ?_
    refine XS.aload X661.here hx rfl (hb hby at_291) rfl rfl ?_
    refine XS.iload X661.here hx rfl (hb hby at_293) rfl ?_
    refine XS.iload X661.here hx rfl (hb hby at_295) rfl ?_
    refine XS.iconst X661.here hx rfl (hb hby at_297) ?_
    exact kt
   obtain ⟨_, _, ⟨T662, L662, k662, n662⟩, -, X662, ⟨Lc662, hQ662, l662, y662, z662⟩, st662⟩ := Jvm.LawKit.callS X661 hx (y := (⟨"com/example/restate/restate/WordsHashPinLaw", "term", "([CIII)I"⟩ : MethodName)) hown (mvT hZ (hw _ (List.mem_of_getElem? (i := 7) rfl))) (mvT hZ (hw _ (List.mem_of_getElem? (i := 8) rfl))) (mvT hZ (hw _ (List.mem_of_getElem? (i := 3) rfl))) (mvT hZ (hw _ (List.mem_of_getElem? (i := 9) rfl))) (by decide) (backOf (W := 1) (rm2_5 l Z a0 hw [] b413 (Int32.ofNat (qq + 1)) (Int32.ofNat (7 - (qq + 1))) k413 cs (qq + 1) (7 - (qq + 1)) h568 n0 (Nat.le_trans Z0 le657) V569 (⟨own_toInt (t := (qq + 1)) (by omega), own_toInt (t := 7 - (qq + 1)) (by omega), by omega⟩)) hZ (hw _ (List.mem_of_getElem? (i := 9) rfl)) (hw _ (List.mem_of_getElem? (i := 3) rfl)) (by decide) (by decide)) (g := (mkF m 298 #[.val (.int p1), .val (.int p2), .val (.int p3), .val (.int p4), .val (.int p5), .val (.int p6), .val (.ref b413), .val (.int 2), .val (.int (y8 &&& (32767 : Int32))), .val (.int (y9 &&& (32767 : Int32))), .val (.int (Int32.ofNat pp)), .val (.int (Int32.ofNat qq)), .val (.int 2), .val (.int (Int32.ofNat (qq + 1))), .val (.int 7), .val (.int (Int32.ofNat (7 - (qq + 1)))), .unset, .unset] [(.int 5), (.int (Int32.ofNat (7 - (qq + 1)))), (.int (Int32.ofNat (qq + 1))), (.ref b413), (.int (((((own_term cs (qq + 1) (Int32.ofNat (7 - (qq + 1))) 0) + (own_term cs (qq + 1) (Int32.ofNat (7 - (qq + 1))) 1)) + (own_term cs (qq + 1) (Int32.ofNat (7 - (qq + 1))) 2)) + (own_term cs (qq + 1) (Int32.ofNat (7 - (qq + 1))) 3)) + (own_term cs (qq + 1) (Int32.ofNat (7 - (qq + 1))) 4)))])) rfl (by rw [hml]; rfl) (argsL := [(.ref b413), (.int (Int32.ofNat (qq + 1))), (.int (Int32.ofNat (7 - (qq + 1)))), (.int 5)]) (rest := [(.int (((((own_term cs (qq + 1) (Int32.ofNat (7 - (qq + 1))) 0) + (own_term cs (qq + 1) (Int32.ofNat (7 - (qq + 1))) 1)) + (own_term cs (qq + 1) (Int32.ofNat (7 - (qq + 1))) 2)) + (own_term cs (qq + 1) (Int32.ofNat (7 - (qq + 1))) 3)) + (own_term cs (qq + 1) (Int32.ofNat (7 - (qq + 1))) 4)))]) (lenOf pd_24 rfl) rfl (by show 2 * 0 + _ ≤ _; exact Nat.le_of_eq rfl) (hb hby at_298) (fun _ _ => ⟨rfl, q661_0, (by decide : 1 + 0 ≤ _), (by decide : 7 + 0 ≤ _)⟩)
   dsimp only [Pt.U, Pt.locs, Pt.cells, Pt.slots] at X662 l662 y662 z662 st662 hQ662
   rw [l662, y662, z662] at X662
   obtain ⟨rfl, M662, q662_0⟩ := hQ662
   have N662 := Fr.app N661 M662
   refine own_go st662 ?_
   refine own_go (B := T662.setTop (mkF m 310 #[.val (.int p1), .val (.int p2), .val (.int p3), .val (.int p4), .val (.int p5), .val (.int p6), .val (.ref b413), .val (.int 2), .val (.int (y8 &&& (32767 : Int32))), .val (.int (y9 &&& (32767 : Int32))), .val (.int (Int32.ofNat pp)), .val (.int (Int32.ofNat qq)), .val (.int 2), .val (.int (Int32.ofNat (qq + 1))), .val (.int 7), .val (.int (Int32.ofNat (7 - (qq + 1)))), .unset, .unset] [(.int 6), (.int (Int32.ofNat (7 - (qq + 1)))), (.int (Int32.ofNat (qq + 1))), (.ref b413), (.int ((((((own_term cs (qq + 1) (Int32.ofNat (7 - (qq + 1))) 0) + (own_term cs (qq + 1) (Int32.ofNat (7 - (qq + 1))) 1)) + (own_term cs (qq + 1) (Int32.ofNat (7 - (qq + 1))) 2)) + (own_term cs (qq + 1) (Int32.ofNat (7 - (qq + 1))) 3)) + (own_term cs (qq + 1) (Int32.ofNat (7 - (qq + 1))) 4)) + (own_term cs (qq + 1) (Int32.ofNat (7 - (qq + 1))) 5)))])) (fun tg kt => ?_) ?_
   ·refine XS.iadd X662.here hx rfl (hb hby at_301) rfl ?_
    refine XS.aload X662.here hx rfl (hb hby at_302) rfl rfl ?_
    refine XS.iload X662.here hx rfl (hb hby at_304) rfl ?_
    refine XS.iload X662.here hx rfl (hb hby at_306) rfl ?_
    refine XS.bipush X662.here hx rfl (hb hby at_308) ?_
    exact kt
   obtain ⟨_, _, ⟨T663, L663, k663, n663⟩, -, X663, ⟨Lc663, hQ663, l663, y663, z663⟩, st663⟩ := Jvm.LawKit.callS X662 hx (y := (⟨"com/example/restate/restate/WordsHashPinLaw", "term", "([CIII)I"⟩ : MethodName)) hown (mvT hZ (hw _ (List.mem_of_getElem? (i := 7) rfl))) (mvT hZ (hw _ (List.mem_of_getElem? (i := 8) rfl))) (mvT hZ (hw _ (List.mem_of_getElem? (i := 3) rfl))) (mvT hZ (hw _ (List.mem_of_getElem? (i := 9) rfl))) (by decide) (backOf (W := 1) (rm2_6 l Z a0 hw [] b413 (Int32.ofNat (qq + 1)) (Int32.ofNat (7 - (qq + 1))) k413 cs (qq + 1) (7 - (qq + 1)) h568 n0 (Nat.le_trans Z0 le657) V569 (⟨own_toInt (t := (qq + 1)) (by omega), own_toInt (t := 7 - (qq + 1)) (by omega), by omega⟩)) hZ (hw _ (List.mem_of_getElem? (i := 9) rfl)) (hw _ (List.mem_of_getElem? (i := 3) rfl)) (by decide) (by decide)) (g := (mkF m 310 #[.val (.int p1), .val (.int p2), .val (.int p3), .val (.int p4), .val (.int p5), .val (.int p6), .val (.ref b413), .val (.int 2), .val (.int (y8 &&& (32767 : Int32))), .val (.int (y9 &&& (32767 : Int32))), .val (.int (Int32.ofNat pp)), .val (.int (Int32.ofNat qq)), .val (.int 2), .val (.int (Int32.ofNat (qq + 1))), .val (.int 7), .val (.int (Int32.ofNat (7 - (qq + 1)))), .unset, .unset] [(.int 6), (.int (Int32.ofNat (7 - (qq + 1)))), (.int (Int32.ofNat (qq + 1))), (.ref b413), (.int ((((((own_term cs (qq + 1) (Int32.ofNat (7 - (qq + 1))) 0) + (own_term cs (qq + 1) (Int32.ofNat (7 - (qq + 1))) 1)) + (own_term cs (qq + 1) (Int32.ofNat (7 - (qq + 1))) 2)) + (own_term cs (qq + 1) (Int32.ofNat (7 - (qq + 1))) 3)) + (own_term cs (qq + 1) (Int32.ofNat (7 - (qq + 1))) 4)) + (own_term cs (qq + 1) (Int32.ofNat (7 - (qq + 1))) 5)))])) rfl (by rw [hml]; rfl) (argsL := [(.ref b413), (.int (Int32.ofNat (qq + 1))), (.int (Int32.ofNat (7 - (qq + 1)))), (.int 6)]) (rest := [(.int ((((((own_term cs (qq + 1) (Int32.ofNat (7 - (qq + 1))) 0) + (own_term cs (qq + 1) (Int32.ofNat (7 - (qq + 1))) 1)) + (own_term cs (qq + 1) (Int32.ofNat (7 - (qq + 1))) 2)) + (own_term cs (qq + 1) (Int32.ofNat (7 - (qq + 1))) 3)) + (own_term cs (qq + 1) (Int32.ofNat (7 - (qq + 1))) 4)) + (own_term cs (qq + 1) (Int32.ofNat (7 - (qq + 1))) 5)))]) (lenOf pd_24 rfl) rfl (by show 2 * 0 + _ ≤ _; exact Nat.le_of_eq rfl) (hb hby at_310) (fun _ _ => ⟨rfl, q662_0, (by decide : 1 + 0 ≤ _), (by decide : 7 + 0 ≤ _)⟩)
   dsimp only [Pt.U, Pt.locs, Pt.cells, Pt.slots] at X663 l663 y663 z663 st663 hQ663
   rw [l663, y663, z663] at X663
   obtain ⟨rfl, M663, q663_0⟩ := hQ663
   have N663 := Fr.app N662 M663
   refine own_go st663 ?_
   refine own_go (B := T663.setTop (mkF m 316 #[.val (.int p1), .val (.int p2), .val (.int p3), .val (.int p4), .val (.int p5), .val (.int p6), .val (.ref b413), .val (.int 2), .val (.int (y8 &&& (32767 : Int32))), .val (.int (y9 &&& (32767 : Int32))), .val (.int (Int32.ofNat pp)), .val (.int (Int32.ofNat qq)), .val (.int 2), .val (.int (Int32.ofNat (qq + 1))), .val (.int 7), .val (.int (Int32.ofNat (7 - (qq + 1)))), .val (.int (((((((own_term cs (qq + 1) (Int32.ofNat (7 - (qq + 1))) 0) + (own_term cs (qq + 1) (Int32.ofNat (7 - (qq + 1))) 1)) + (own_term cs (qq + 1) (Int32.ofNat (7 - (qq + 1))) 2)) + (own_term cs (qq + 1) (Int32.ofNat (7 - (qq + 1))) 3)) + (own_term cs (qq + 1) (Int32.ofNat (7 - (qq + 1))) 4)) + (own_term cs (qq + 1) (Int32.ofNat (7 - (qq + 1))) 5)) + (own_term cs (qq + 1) (Int32.ofNat (7 - (qq + 1))) 6))), .unset] [])) (fun tg kt => ?_) ?_
   ·refine XS.iadd X663.here hx rfl (hb hby at_313) rfl ?_
    refine XS.istore X663.here hx rfl (hb hby at_314) rfl (l' := #[.val (.int p1), .val (.int p2), .val (.int p3), .val (.int p4), .val (.int p5), .val (.int p6), .val (.ref b413), .val (.int 2), .val (.int (y8 &&& (32767 : Int32))), .val (.int (y9 &&& (32767 : Int32))), .val (.int (Int32.ofNat pp)), .val (.int (Int32.ofNat qq)), .val (.int 2), .val (.int (Int32.ofNat (qq + 1))), .val (.int 7), .val (.int (Int32.ofNat (7 - (qq + 1)))), .val (.int (((((((own_term cs (qq + 1) (Int32.ofNat (7 - (qq + 1))) 0) + (own_term cs (qq + 1) (Int32.ofNat (7 - (qq + 1))) 1)) + (own_term cs (qq + 1) (Int32.ofNat (7 - (qq + 1))) 2)) + (own_term cs (qq + 1) (Int32.ofNat (7 - (qq + 1))) 3)) + (own_term cs (qq + 1) (Int32.ofNat (7 - (qq + 1))) 4)) + (own_term cs (qq + 1) (Int32.ofNat (7 - (qq + 1))) 5)) + (own_term cs (qq + 1) (Int32.ofNat (7 - (qq + 1))) 6))), .unset]) rfl ?_
    exact kt
   rw [show (((((((own_term cs (qq + 1) (Int32.ofNat (7 - (qq + 1))) 0) + (own_term cs (qq + 1) (Int32.ofNat (7 - (qq + 1))) 1)) + (own_term cs (qq + 1) (Int32.ofNat (7 - (qq + 1))) 2)) + (own_term cs (qq + 1) (Int32.ofNat (7 - (qq + 1))) 3)) + (own_term cs (qq + 1) (Int32.ofNat (7 - (qq + 1))) 4)) + (own_term cs (qq + 1) (Int32.ofNat (7 - (qq + 1))) 5)) + (own_term cs (qq + 1) (Int32.ofNat (7 - (qq + 1))) 6)) = (own_h cs (qq + 1) 7) from own_sum (a := (qq + 1)) (b := 7) (by omega) (by omega)]
   obtain ⟨T664, h664, X664, e664, E664, A664, D664, -, st664⟩ := newO X663 hx hZ hown (hw _ (List.mem_of_getElem? (i := 16) rfl)) (hw _ (List.mem_of_getElem? (i := 17) rfl)) (hw _ (List.mem_of_getElem? (i := 18) rfl)) q663_0 (g := (mkF m 316 #[.val (.int p1), .val (.int p2), .val (.int p3), .val (.int p4), .val (.int p5), .val (.int p6), .val (.ref b413), .val (.int 2), .val (.int (y8 &&& (32767 : Int32))), .val (.int (y9 &&& (32767 : Int32))), .val (.int (Int32.ofNat pp)), .val (.int (Int32.ofNat qq)), .val (.int 2), .val (.int (Int32.ofNat (qq + 1))), .val (.int 7), .val (.int (Int32.ofNat (7 - (qq + 1)))), .val (.int (own_h cs (qq + 1) 7)), .unset] [])) rfl (hb hby at_316) (by decide) (by decide)
   obtain ⟨b664, g664⟩ : ∃ z, z = h568.size := ⟨_, rfl⟩
   rw [← g664] at A664 D664 st664
   refine own_go st664 ?_
   have K664 : Keep h0 h664 [] := Keep.ext K568 E664
   have F664_53 : Fld Z h664 b664 "com/example/restate/restate/Words" "line" "Ljava/lang/String;" .null := D664 (Or.inr (hw _ (List.mem_of_getElem? (i := 53) rfl))) (ty := (.object "java/lang/String")) (by decide)
   have F664_117 : Fld Z h664 b664 "com/example/restate/restate/Words" "starts" "[I" .null := D664 (Or.inr (hw _ (List.mem_of_getElem? (i := 117) rfl))) (ty := (.array .int)) (by decide)
   refine own_go (B := T664.setTop (mkF m 320 #[.val (.int p1), .val (.int p2), .val (.int p3), .val (.int p4), .val (.int p5), .val (.int p6), .val (.ref b413), .val (.int 2), .val (.int (y8 &&& (32767 : Int32))), .val (.int (y9 &&& (32767 : Int32))), .val (.int (Int32.ofNat pp)), .val (.int (Int32.ofNat qq)), .val (.int 2), .val (.int (Int32.ofNat (qq + 1))), .val (.int 7), .val (.int (Int32.ofNat (7 - (qq + 1)))), .val (.int (own_h cs (qq + 1) 7)), .unset] [(.ref b664), (.ref b664)])) (fun tg kt => ?_) ?_
   ·refine XS.dup X664.here hx rfl (hb hby at_319) rfl rfl ?_
    exact kt
   obtain ⟨T665, h665, X665, e665, E665, A665, D665, -, st665⟩ := newO X664 hx hZ hown (hw _ (List.mem_of_getElem? (i := 19) rfl)) (hw _ (List.mem_of_getElem? (i := 20) rfl)) (hw _ (List.mem_of_getElem? (i := 21) rfl)) e664 (g := (mkF m 320 #[.val (.int p1), .val (.int p2), .val (.int p3), .val (.int p4), .val (.int p5), .val (.int p6), .val (.ref b413), .val (.int 2), .val (.int (y8 &&& (32767 : Int32))), .val (.int (y9 &&& (32767 : Int32))), .val (.int (Int32.ofNat pp)), .val (.int (Int32.ofNat qq)), .val (.int 2), .val (.int (Int32.ofNat (qq + 1))), .val (.int 7), .val (.int (Int32.ofNat (7 - (qq + 1)))), .val (.int (own_h cs (qq + 1) 7)), .unset] [(.ref b664), (.ref b664)])) rfl (hb hby at_320) (by decide) (by decide)
   obtain ⟨b665, g665⟩ : ∃ z, z = h664.size := ⟨_, rfl⟩
   rw [← g665] at A665 D665 st665
   refine own_go st665 ?_
   have K665 : Keep h0 h665 [] := Keep.ext K664 E665
   have F665_45 : Fld Z h665 b665 "java/lang/String" "coder" "B" (.int 0) := D665 (Or.inr (hw _ (List.mem_of_getElem? (i := 45) rfl))) (ty := .byte) (by decide)
   have F665_47 : Fld Z h665 b665 "java/lang/String" "value" "[B" .null := D665 (Or.inr (hw _ (List.mem_of_getElem? (i := 47) rfl))) (ty := (.array .byte)) (by decide)
   refine own_go (B := T665.setTop (mkF m 326 #[.val (.int p1), .val (.int p2), .val (.int p3), .val (.int p4), .val (.int p5), .val (.int p6), .val (.ref b413), .val (.int 2), .val (.int (y8 &&& (32767 : Int32))), .val (.int (y9 &&& (32767 : Int32))), .val (.int (Int32.ofNat pp)), .val (.int (Int32.ofNat qq)), .val (.int 2), .val (.int (Int32.ofNat (qq + 1))), .val (.int 7), .val (.int (Int32.ofNat (7 - (qq + 1)))), .val (.int (own_h cs (qq + 1) 7)), .unset] [(.ref b413), (.ref b665), (.ref b665), (.ref b664), (.ref b664)])) (fun tg kt => ?_) ?_
   ·refine XS.dup X665.here hx rfl (hb hby at_323) rfl rfl ?_
    refine XS.aload X665.here hx rfl (hb hby at_324) rfl rfl ?_
    exact kt
   have le667 : h0.size ≤ h664.size := (Nat.le_trans (Nat.le_trans (Nat.le_trans (Nat.le_trans (Nat.le_trans (Nat.le_trans (Nat.le_trans (Nat.le_trans (Nat.le_trans (Nat.le_trans E413.1 (Nat.le_of_eq (Wr.size W415).symm)) (Nat.le_of_eq (Wr.size W418).symm)) (Nat.le_of_eq (Wr.size W421).symm)) (Nat.le_of_eq (Wr.size W424).symm)) (Nat.le_of_eq (Wr.size W427).symm)) (Nat.le_of_eq (Wr.size W430).symm)) (Nat.le_of_eq (Wr.size W433).symm)) (Nat.le_of_eq (Wr.size W567).symm)) (Nat.le_of_eq (Wr.size W568).symm)) E664.1)
   have f668 : Sta Z h665 "java/lang/String" "COMPACT_STRINGS" "Z" (.int w_COMPACT_STRINGS) := ((((((((((((S_COMPACT_STRINGS.ext E413).wr W415).wr W418).wr W421).wr W424).wr W427).wr W430).wr W433).wr W567).wr W568).ext E664).ext E665)
   have f669 : Sta Z h665 "java/lang/StringUTF16" "$assertionsDisabled" "Z" (.int 1) := ((((((((((((S__assertionsDisabled.ext E413).wr W415).wr W418).wr W421).wr W424).wr W427).wr W430).wr W433).wr W567).wr W568).ext E664).ext E665)
   have f670 : Sta Z h665 "java/lang/StringUTF16" "HI_BYTE_SHIFT" "I" (.int 0) := ((((((((((((S_HI_BYTE_SHIFT.ext E413).wr W415).wr W418).wr W421).wr W424).wr W427).wr W430).wr W433).wr W567).wr W568).ext E664).ext E665)
   have f671 : Sta Z h665 "java/lang/StringUTF16" "LO_BYTE_SHIFT" "I" (.int 8) := ((((((((((((S_LO_BYTE_SHIFT.ext E413).wr W415).wr W418).wr W421).wr W424).wr W427).wr W430).wr W433).wr W567).wr W568).ext E664).ext E665)
   have f672 : Arv Z h665 b413 k413 .char (7 : Int32) (own_tab 7 cs) (.int 0) := ((V569.ext E664).ext E665)
   have le673 : h0.size ≤ h665.size := (Nat.le_trans (Nat.le_trans (Nat.le_trans (Nat.le_trans (Nat.le_trans (Nat.le_trans (Nat.le_trans (Nat.le_trans (Nat.le_trans (Nat.le_trans (Nat.le_trans E413.1 (Nat.le_of_eq (Wr.size W415).symm)) (Nat.le_of_eq (Wr.size W418).symm)) (Nat.le_of_eq (Wr.size W421).symm)) (Nat.le_of_eq (Wr.size W424).symm)) (Nat.le_of_eq (Wr.size W427).symm)) (Nat.le_of_eq (Wr.size W430).symm)) (Nat.le_of_eq (Wr.size W433).symm)) (Nat.le_of_eq (Wr.size W567).symm)) (Nat.le_of_eq (Wr.size W568).symm)) E664.1) E665.1)
   obtain ⟨_, _, ⟨T666, L666, k666, n666⟩, -, X666, ⟨Lc666, hQ666, l666, y666, z666⟩, st666⟩ := X665.specialBack hx (y := (⟨"java/lang/String", "<init>", "([C)V"⟩ : MethodName)) rfl hown (mvT hZ (hw _ (List.mem_of_getElem? (i := 22) rfl))) (mvT hZ (hw _ (List.mem_of_getElem? (i := 23) rfl))) (mvT hZ (hw _ (List.mem_of_getElem? (i := 24) rfl))) (by decide) (backOf (W := 3) (rm4 l Z a0 hw [] b665 b413 w_COMPACT_STRINGS k413 cs h665 n0 (Nat.le_trans Z0 le673) A665 F665_47 F665_45 (Nat.le_trans (Nat.le_trans Z0 le667) (Nat.le_of_eq g665.symm)) f668 (N_COMPACT_STRINGS) f669 f670 f671 f672 (hC)) hZ (hw _ (List.mem_of_getElem? (i := 24) rfl)) (hw _ (List.mem_of_getElem? (i := 21) rfl)) (by decide) (by decide)) (g := (mkF m 326 #[.val (.int p1), .val (.int p2), .val (.int p3), .val (.int p4), .val (.int p5), .val (.int p6), .val (.ref b413), .val (.int 2), .val (.int (y8 &&& (32767 : Int32))), .val (.int (y9 &&& (32767 : Int32))), .val (.int (Int32.ofNat pp)), .val (.int (Int32.ofNat qq)), .val (.int 2), .val (.int (Int32.ofNat (qq + 1))), .val (.int 7), .val (.int (Int32.ofNat (7 - (qq + 1)))), .val (.int (own_h cs (qq + 1) 7)), .unset] [(.ref b413), (.ref b665), (.ref b665), (.ref b664), (.ref b664)])) rfl (by rw [hml]; rfl) (Steps.refl _) (a := b665) (argsL := [(.ref b413)]) (rest := [(.ref b665), (.ref b664), (.ref b664)]) (lenOf pd_25 rfl) rfl (by show 2 * 0 + _ ≤ _; exact Nat.le_of_eq rfl) (hb hby at_326) (fun _ _ => ⟨rfl, e665, (by decide : 3 + 2 ≤ _), (by decide : 13 + 21 ≤ _)⟩)
   dsimp only [Pt.U, Pt.locs, Pt.cells, Pt.slots] at X666 l666 y666 z666 st666 hQ666
   rw [l666, y666, z666] at X666
   obtain ⟨bn_666, kn_666, nb_666, vb_666, rfl, M666, q666_0, q666_1, q666_2, q666_3, q666_4, q666_5, q666_6⟩ := hQ666
   have N666 := Fr.app N663 M666
   have K666 : Keep h0 T666.heap [] := Keep.trans K665 q666_0 (allS (Or.inr (Nat.le_trans le667 (Nat.le_of_eq g665.symm))) all0)
   refine own_go (fun t k => st666.trans k) ?_
   have f675 : Exa Z T666.heap b664 "com/example/restate/restate/Words" := ((A664.ext E665).keep q666_0)
   have ne676 : b664 ≠ b665 := (Nat.ne_of_lt (Nat.lt_of_lt_of_le A664.lt (Nat.le_of_eq g665.symm)))
   have f677 : Fld Z T666.heap b664 "com/example/restate/restate/Words" "line" "Ljava/lang/String;" .null := ((F664_53.ext E665).keep q666_0 (ninS ne676 nin0))
   have f678 : Fld Z T666.heap b664 "com/example/restate/restate/Words" "starts" "[I" .null := ((F664_117.ext E665).keep q666_0 (ninS ne676 nin0))
   have f679 : Sta Z T666.heap "java/lang/String" "COMPACT_STRINGS" "Z" (.int w_COMPACT_STRINGS) := (own_staKeep f668 q666_0 (own_nsS (own_nsE A665) own_ns0))
   have f680 : Sta Z T666.heap "java/lang/StringUTF16" "$assertionsDisabled" "Z" (.int 1) := (own_staKeep f669 q666_0 (own_nsS (own_nsE A665) own_ns0))
   have f681 : Sta Z T666.heap "java/lang/StringUTF16" "HI_BYTE_SHIFT" "I" (.int 0) := (own_staKeep f670 q666_0 (own_nsS (own_nsE A665) own_ns0))
   have f682 : Sta Z T666.heap "java/lang/StringUTF16" "LO_BYTE_SHIFT" "I" (.int 8) := (own_staKeep f671 q666_0 (own_nsS (own_nsE A665) own_ns0))
   have f683 : Sta Z T666.heap "jdk/internal/util/Preconditions" "SIOOBE_FORMATTER" "Ljava/util/function/BiFunction;" (own_rv w_SIOOBE_FORMATTER) := (own_staKeep ((((((((((((S_SIOOBE_FORMATTER.ext E413).wr W415).wr W418).wr W421).wr W424).wr W427).wr W430).wr W433).wr W567).wr W568).ext E664).ext E665) q666_0 (own_nsS (own_nsE A665) own_ns0))
   have ne684 : b664 ≠ bn_666 := (Nat.ne_of_lt (Nat.lt_of_lt_of_le (Nat.lt_of_lt_of_le A664.lt E665.1) q666_1))
   have le685 : h0.size ≤ T666.heap.size := (Nat.le_trans (Nat.le_trans (Nat.le_trans (Nat.le_trans (Nat.le_trans (Nat.le_trans (Nat.le_trans (Nat.le_trans (Nat.le_trans (Nat.le_trans (Nat.le_trans (Nat.le_trans E413.1 (Nat.le_of_eq (Wr.size W415).symm)) (Nat.le_of_eq (Wr.size W418).symm)) (Nat.le_of_eq (Wr.size W421).symm)) (Nat.le_of_eq (Wr.size W424).symm)) (Nat.le_of_eq (Wr.size W427).symm)) (Nat.le_of_eq (Wr.size W430).symm)) (Nat.le_of_eq (Wr.size W433).symm)) (Nat.le_of_eq (Wr.size W567).symm)) (Nat.le_of_eq (Wr.size W568).symm)) E664.1) E665.1) q666_0.1)
   obtain ⟨_, _, ⟨T674, L674, k674, n674⟩, -, X674, ⟨Lc674, hQ674, l674, y674, z674⟩, st674⟩ := X666.specialBack hx (y := (⟨"com/example/restate/restate/Words", "<init>", "(Ljava/lang/String;)V"⟩ : MethodName)) rfl hown (mvT hZ (hw _ (List.mem_of_getElem? (i := 48) rfl))) (mvT hZ (hw _ (List.mem_of_getElem? (i := 49) rfl))) (mvT hZ (hw _ (List.mem_of_getElem? (i := 50) rfl))) (by decide) (backOf (W := 1) (rm10_2 l Z a0 hw [] b664 b665 w_COMPACT_STRINGS w_SIOOBE_FORMATTER bn_666 kn_666 (own_cf nb_666) nb_666 vb_666 cs pp qq T666.heap n0 (Nat.le_trans Z0 le685) f675 f677 f678 (Nat.le_trans (Nat.le_trans Z0 le657) (Nat.le_of_eq g664.symm)) f679 (by first | assumption | decide) f680 f681 f682 f683 q666_2 q666_4 q666_3 q666_5 (q666_6) (hC) (hpq) (h1s) (h2s) (hno) ne676 ne684) hZ (hw _ (List.mem_of_getElem? (i := 50) rfl)) (hw _ (List.mem_of_getElem? (i := 18) rfl)) (by decide) (by decide)) (g := (mkF m 329 #[.val (.int p1), .val (.int p2), .val (.int p3), .val (.int p4), .val (.int p5), .val (.int p6), .val (.ref b413), .val (.int 2), .val (.int (y8 &&& (32767 : Int32))), .val (.int (y9 &&& (32767 : Int32))), .val (.int (Int32.ofNat pp)), .val (.int (Int32.ofNat qq)), .val (.int 2), .val (.int (Int32.ofNat (qq + 1))), .val (.int 7), .val (.int (Int32.ofNat (7 - (qq + 1)))), .val (.int (own_h cs (qq + 1) 7)), .unset] [(.ref b665), (.ref b664), (.ref b664)])) rfl (by rw [hml]; rfl) (Steps.refl _) (a := b664) (argsL := [(.ref b665)]) (rest := [(.ref b664)]) (lenOf pd_26 rfl) rfl (by show 2 * 0 + _ ≤ _; exact Nat.le_of_eq rfl) (hb hby at_329) (fun _ _ => ⟨rfl, rfl, (by decide : 5 + 2 ≤ _), (by decide : 34 + 20 ≤ _)⟩)
   dsimp only [Pt.U, Pt.locs, Pt.cells, Pt.slots] at X674 l674 y674 z674 st674 hQ674
   rw [l674, y674, z674] at X674
   obtain ⟨sn_674, ks_674, rfl, M674, q674_0, q674_1, q674_2, q674_3, q674_4, q674_5⟩ := hQ674
   have N674 := Fr.app N666 M674
   have K674 : Keep h0 T674.heap [] := Keep.trans K666 q674_0 (allS (Or.inr (Nat.le_trans le657 (Nat.le_of_eq g664.symm))) all0)
   refine own_go (fun t k => st674.trans k) ?_
   refine own_go (B := T674.setTop (mkF m 336 #[.val (.int p1), .val (.int p2), .val (.int p3), .val (.int p4), .val (.int p5), .val (.int p6), .val (.ref b413), .val (.int 2), .val (.int (y8 &&& (32767 : Int32))), .val (.int (y9 &&& (32767 : Int32))), .val (.int (Int32.ofNat pp)), .val (.int (Int32.ofNat qq)), .val (.int 2), .val (.int (Int32.ofNat (qq + 1))), .val (.int 7), .val (.int (Int32.ofNat (7 - (qq + 1)))), .val (.int (own_h cs (qq + 1) 7)), .val (.ref b664)] [(.ref b664)])) (fun tg kt => ?_) ?_
   ·refine XS.astore X674.here hx rfl (hb hby at_332) rfl rfl (l' := #[.val (.int p1), .val (.int p2), .val (.int p3), .val (.int p4), .val (.int p5), .val (.int p6), .val (.ref b413), .val (.int 2), .val (.int (y8 &&& (32767 : Int32))), .val (.int (y9 &&& (32767 : Int32))), .val (.int (Int32.ofNat pp)), .val (.int (Int32.ofNat qq)), .val (.int 2), .val (.int (Int32.ofNat (qq + 1))), .val (.int 7), .val (.int (Int32.ofNat (7 - (qq + 1)))), .val (.int (own_h cs (qq + 1) 7)), .val (.ref b664)]) rfl ?_
    refine XS.aload X674.here hx rfl (hb hby at_334) rfl rfl ?_
    exact kt
   have le687 : h0.size ≤ T674.heap.size := (Nat.le_trans (Nat.le_trans (Nat.le_trans (Nat.le_trans (Nat.le_trans (Nat.le_trans (Nat.le_trans (Nat.le_trans (Nat.le_trans (Nat.le_trans (Nat.le_trans (Nat.le_trans (Nat.le_trans E413.1 (Nat.le_of_eq (Wr.size W415).symm)) (Nat.le_of_eq (Wr.size W418).symm)) (Nat.le_of_eq (Wr.size W421).symm)) (Nat.le_of_eq (Wr.size W424).symm)) (Nat.le_of_eq (Wr.size W427).symm)) (Nat.le_of_eq (Wr.size W430).symm)) (Nat.le_of_eq (Wr.size W433).symm)) (Nat.le_of_eq (Wr.size W567).symm)) (Nat.le_of_eq (Wr.size W568).symm)) E664.1) E665.1) q666_0.1) q674_0.1)
   obtain ⟨cq686, kq686, q686a, q686b, q686c⟩ := isOf hZ rfl q674_2
   obtain ⟨_, _, ⟨T686, L686, k686, n686⟩, -, X686, ⟨Lc686, hQ686, l686, y686, z686⟩, st686⟩ := X674.virtualBack hx (y := (⟨"com/example/restate/restate/Words", "size", "()I"⟩ : MethodName)) (z := (⟨"com/example/restate/restate/Words", "size", "()I"⟩ : MethodName)) hown (mvT hZ (hw _ (List.mem_of_getElem? (i := 118) rfl))) (mvT hZ (hw _ (List.mem_of_getElem? (i := 119) rfl))) (notFace_of_selects (args := #[]) (mvT hZ (hw _ (List.mem_of_getElem? (i := 121) rfl)))) (mvT hZ (hw _ (List.mem_of_getElem? (i := 121) rfl))) (mvT hZ (hw _ (List.mem_of_getElem? (i := 120) rfl))) (by decide) (backOf (W := 0) (rm24_2 l Z a0 hw [] b664 sn_674 ks_674 ([(.int 0), (.int (Int32.ofNat (pp + 1))), (.int (Int32.ofNat (qq + 1))), (.int 8)]) T674.heap n0 (Nat.le_trans Z0 le687) q674_2 q674_4 q674_5) hZ (hw _ (List.mem_of_getElem? (i := 122) rfl)) (hw _ (List.mem_of_getElem? (i := 18) rfl)) (by decide) (by decide)) q686a q686c (g := (mkF m 336 #[.val (.int p1), .val (.int p2), .val (.int p3), .val (.int p4), .val (.int p5), .val (.int p6), .val (.ref b413), .val (.int 2), .val (.int (y8 &&& (32767 : Int32))), .val (.int (y9 &&& (32767 : Int32))), .val (.int (Int32.ofNat pp)), .val (.int (Int32.ofNat qq)), .val (.int 2), .val (.int (Int32.ofNat (qq + 1))), .val (.int 7), .val (.int (Int32.ofNat (7 - (qq + 1)))), .val (.int (own_h cs (qq + 1) 7)), .val (.ref b664)] [(.ref b664)])) rfl (by rw [hml]; rfl) (Steps.refl _) (argsL := []) (rest := []) (lenOf pd_19 rfl) rfl (by show 2 * 0 + _ ≤ _; exact Nat.le_of_eq rfl) (hb hby at_336) (fun _ _ => ⟨rfl, rfl, (by decide : 7 + 0 ≤ _), (by decide : 54 + 0 ≤ _)⟩)
   dsimp only [Pt.U, Pt.locs, Pt.cells, Pt.slots] at X686 l686 y686 z686 st686 hQ686
   rw [l686, y686, z686] at X686
   obtain ⟨rfl, M686, q686_0⟩ := hQ686
   have N686 := Fr.app N674 M686
   refine own_go (fun t k => st686.trans k) ?_
   refine own_go (B := T686.setTop (mkF m 350 #[.val (.int p1), .val (.int p2), .val (.int p3), .val (.int p4), .val (.int p5), .val (.int p6), .val (.ref b413), .val (.int 2), .val (.int (y8 &&& (32767 : Int32))), .val (.int (y9 &&& (32767 : Int32))), .val (.int (Int32.ofNat pp)), .val (.int (Int32.ofNat qq)), .val (.int 2), .val (.int (Int32.ofNat (qq + 1))), .val (.int 7), .val (.int (Int32.ofNat (7 - (qq + 1)))), .val (.int (own_h cs (qq + 1) 7)), .val (.ref b664)] [(.int 2), (.ref b664)])) (fun tg kt => ?_) ?_
   ·refine XS.iload X686.here hx rfl (hb hby at_339) rfl ?_
    refine XS.iconst X686.here hx rfl (hb hby at_341) ?_
    refine XS.iadd X686.here hx rfl (hb hby at_342) rfl ?_
    refine XS.icmpNo X686.here hx rfl (hb hby at_343) rfl (teq (by decide : (3 : Int32) = (3 : Int32))).2 ?_
    refine XS.aload X686.here hx rfl (hb hby at_346) rfl rfl ?_
    refine XS.iload X686.here hx rfl (hb hby at_348) rfl ?_
    exact kt
   have f689 : Sta Z T674.heap "java/lang/String" "COMPACT_STRINGS" "Z" (.int w_COMPACT_STRINGS) := (own_staKeep f679 q674_0 (own_nsS (own_nsE f675) own_ns0))
   have f690 : Sta Z T674.heap "java/lang/StringUTF16" "$assertionsDisabled" "Z" (.int 1) := (own_staKeep f680 q674_0 (own_nsS (own_nsE f675) own_ns0))
   have f691 : Sta Z T674.heap "java/lang/StringUTF16" "HI_BYTE_SHIFT" "I" (.int 0) := (own_staKeep f681 q674_0 (own_nsS (own_nsE f675) own_ns0))
   have f692 : Sta Z T674.heap "java/lang/StringUTF16" "LO_BYTE_SHIFT" "I" (.int 8) := (own_staKeep f682 q674_0 (own_nsS (own_nsE f675) own_ns0))
   have f693 : Sta Z T674.heap "jdk/internal/util/Preconditions" "SIOOBE_FORMATTER" "Ljava/util/function/BiFunction;" (own_rv w_SIOOBE_FORMATTER) := (own_staKeep f683 q674_0 (own_nsS (own_nsE f675) own_ns0))
   have f694 : Exa Z T674.heap b665 "java/lang/String" := (q666_2.keep q674_0)
   have f695 : Fld Z T674.heap b665 "java/lang/String" "value" "[B" (.ref bn_666) := (q666_4.keep q674_0 (ninS (Ne.symm ne676) nin0))
   have f696 : Fld Z T674.heap b665 "java/lang/String" "coder" "B" (.int (own_cf nb_666)) := (q666_3.keep q674_0 (ninS (Ne.symm ne676) nin0))
   have f697 : Arv Z T674.heap bn_666 kn_666 .byte nb_666 vb_666 (.int 0) := (q666_5.keep q674_0 (ninS (Ne.symm ne684) nin0))
   obtain ⟨cq688, kq688, q688a, q688b, q688c⟩ := isOf hZ q686_0 q674_2
   obtain ⟨_, _, ⟨T688, L688, k688, n688⟩, -, X688, ⟨Lc688, hQ688, l688, y688, z688⟩, st688⟩ := X686.virtualBack hx (y := (⟨"com/example/restate/restate/Words", "hash", "(I)I"⟩ : MethodName)) (z := (⟨"com/example/restate/restate/Words", "hash", "(I)I"⟩ : MethodName)) hown (mvT hZ (hw _ (List.mem_of_getElem? (i := 123) rfl))) (mvT hZ (hw _ (List.mem_of_getElem? (i := 124) rfl))) (notFace_of_selects (args := #[]) (mvT hZ (hw _ (List.mem_of_getElem? (i := 126) rfl)))) (mvT hZ (hw _ (List.mem_of_getElem? (i := 126) rfl))) (mvT hZ (hw _ (List.mem_of_getElem? (i := 125) rfl))) (by decide) (backOf (W := 0) (rm25 l Z a0 hw [] b664 (2 : Int32) b665 w_COMPACT_STRINGS w_SIOOBE_FORMATTER bn_666 kn_666 (own_cf nb_666) nb_666 vb_666 cs sn_674 ks_674 (4 : Int32) ([(.int 0), (.int (Int32.ofNat (pp + 1))), (.int (Int32.ofNat (qq + 1))), (.int 8)]) (qq + 1) 7 T674.heap n0 (Nat.le_trans Z0 le687) f689 (N_COMPACT_STRINGS) f690 f691 f692 f693 f694 f695 f696 f697 (q666_6) (hC) q674_3 q674_4 q674_2 q674_5 (by decide) (by decide) (rfl) (rfl) (⟨by omega, by omega⟩)) hZ (hw _ (List.mem_of_getElem? (i := 127) rfl)) (hw _ (List.mem_of_getElem? (i := 18) rfl)) (by decide) (by decide)) q688a q688c (g := (mkF m 350 #[.val (.int p1), .val (.int p2), .val (.int p3), .val (.int p4), .val (.int p5), .val (.int p6), .val (.ref b413), .val (.int 2), .val (.int (y8 &&& (32767 : Int32))), .val (.int (y9 &&& (32767 : Int32))), .val (.int (Int32.ofNat pp)), .val (.int (Int32.ofNat qq)), .val (.int 2), .val (.int (Int32.ofNat (qq + 1))), .val (.int 7), .val (.int (Int32.ofNat (7 - (qq + 1)))), .val (.int (own_h cs (qq + 1) 7)), .val (.ref b664)] [(.int 2), (.ref b664)])) rfl (by rw [hml]; rfl) (Steps.refl _) (argsL := [(.int 2)]) (rest := []) (lenOf pd_0 rfl) rfl (by show 2 * 0 + _ ≤ _; exact Nat.le_of_eq rfl) (hb hby at_350) (fun _ _ => ⟨rfl, q686_0, (by decide : 7 + 0 ≤ _), (by decide : 54 + 0 ≤ _)⟩)
   dsimp only [Pt.U, Pt.locs, Pt.cells, Pt.slots] at X688 l688 y688 z688 st688 hQ688
   rw [l688, y688, z688] at X688
   obtain ⟨rfl, M688, q688_0⟩ := hQ688
   have N688 := Fr.app N686 M688
   refine own_go (fun t k => st688.trans k) ?_
   refine own_go (B := T688.setTop (mkF m 363 #[.val (.int p1), .val (.int p2), .val (.int p3), .val (.int p4), .val (.int p5), .val (.int p6), .val (.ref b413), .val (.int 2), .val (.int (y8 &&& (32767 : Int32))), .val (.int (y9 &&& (32767 : Int32))), .val (.int (Int32.ofNat pp)), .val (.int (Int32.ofNat qq)), .val (.int 2), .val (.int (Int32.ofNat (qq + 1))), .val (.int 7), .val (.int (Int32.ofNat (7 - (qq + 1)))), .val (.int (own_h cs (qq + 1) 7)), .val (.ref b664)] [(.int 1)])) (fun tg kt => ?_) ?_
   ·refine XS.iload X688.here hx rfl (hb hby at_353) rfl ?_
    refine XS.icmpNo X688.here hx rfl (hb hby at_355) rfl (teq (rfl : (own_h cs (qq + 1) 7) = (own_h cs (qq + 1) 7))).2 ?_
    refine XS.iconst X688.here hx rfl (hb hby at_358) ?_
    refine XS.goto X688.here hx rfl (pc0 := 359) (pc' := 363) rfl (hb hby at_359) (by decide) (by decide) ?_
    exact kt
   obtain ⟨fs, hr, hrun, hended, hW, hsame⟩ := X688.leave (v := some (.int 1)) (fun h => by rw [Bd.returns] at h; cases h)
   refine ⟨_, _, ?_, hrun, hended, _, _, rfl, ?_, ⟨_, rfl⟩, hW, hsame.mono (by decide) (by decide)⟩
   ·exact retN X688 hx (t := .boolean) Bd.returns (by simp) (hb hby at_363) hr
   ·show Q0 Z p1 p2 p3 p4 p5 p6 w_COMPACT_STRINGS w_SIOOBE_FORMATTER h0 n0 _ T688.heap _
    rw [q688_0]
    exact ⟨rfl, N688⟩
set_option maxRecDepth 65536 in
set_option maxHeartbeats 40000000 in
theorem comes_1 {Post : Tables → Env → Array Value → State → Outcome → State → Prop} (hpost : ∀ tb e args s v u, (limb_1_1.after args s (.returned v) u = true ∧ limb_1_2.after args s (.returned v) u = true ∧ True) → FrameEnd s (.returned v) u (Jvm.fieldLocs frame_1_writes args s ++ Jvm.arrayLocs frame_1_arrays args s ++ Jvm.staticLocs frame_1_statics s) 24 192 → Post tb e args s (.returned v) u) :
  ArmFor flags0 classFile x code maxLocals ret World_1 tables_1 room_1 Calls_1 rest_1 Pre_1 Post := by
 intro l hfl _ _ p e ha hc hk s m args below hf hA hF happ hP
 obtain ⟨hcalls, hrest, hpre⟩ := hP
 obtain ⟨-, -, -, hnamed, -, -, -, hat⟩ := (Spec.applies_iff hf).mp happ
 obtain ⟨hg, hn⟩ := and_e (Cond.before_iff.mp (show (Jvm.Cond.and given_1 narrow_1).before args s = true from hpre))
 obtain ⟨g0, hg0⟩ := and_e hg
 obtain ⟨g1, hg1⟩ := and_e hg0
 obtain ⟨g2, hg2⟩ := and_e hg1
 obtain ⟨g3, hg3⟩ := and_e hg2
 obtain ⟨g4, hg4⟩ := and_e hg3
 obtain ⟨g5, hg5⟩ := and_e hg4
 obtain ⟨w0, w1, w2, w3, w4, w5, rfl⟩ : ∃ w0 w1 w2 w3 w4 w5 : Value, args = #[w0, w1, w2, w3, w4, w5] := by
  have hs : args.size = 6 := by simpa [Cond.value, given_1] using g0
  obtain ⟨L⟩ := args
  match L, hs with
  | [w0, w1, w2, w3, w4, w5], _ => exact ⟨w0, w1, w2, w3, w4, w5, rfl⟩
 have hw := fun d (hd : d ∈ tables_1) => atoms_spec (ws := Jvm.Cond.code x code maxLocals ret :: tables_1) hat d (List.mem_cons_of_mem _ hd)
 obtain ⟨hsets, hown0⟩ := atoms_of _ (rest_1_c_eq ▸ (show rest_1_c.before _ s = true from hrest))
 obtain ⟨i0, ei0⟩ := is_v g1
 obtain rfl : w0 = (.int i0) := Option.some.inj ei0
 obtain ⟨i1, ei1⟩ := is_v g2
 obtain rfl : w1 = (.int i1) := Option.some.inj ei1
 obtain ⟨i2, ei2⟩ := is_v g3
 obtain rfl : w2 = (.int i2) := Option.some.inj ei2
 obtain ⟨i3, ei3⟩ := is_v g4
 obtain rfl : w3 = (.int i3) := Option.some.inj ei3
 obtain ⟨i4, ei4⟩ := is_v g5
 obtain rfl : w4 = (.int i4) := Option.some.inj ei4
 obtain ⟨i5, ei5⟩ := is_v hg5
 obtain rfl : w5 = (.int i5) := Option.some.inj ei5
 obtain ⟨w_COMPACT_STRINGS, ev_COMPACT_STRINGS⟩ := is_v (Cond.before_iff.mp (hsets _ (List.mem_of_getElem? (i := 1) rfl)))
 have S_COMPACT_STRINGS := Sta.start ev_COMPACT_STRINGS (Or.inl (hsets _ (List.mem_of_getElem? (i := 0) rfl)))
 obtain ⟨w_SIOOBE_FORMATTER, ev_SIOOBE_FORMATTER⟩ := own_refStart (Cond.before_iff.mp (hsets _ (List.mem_of_getElem? (i := 8) rfl)))
 have S_SIOOBE_FORMATTER := Sta.start ev_SIOOBE_FORMATTER (Or.inl (hsets _ (List.mem_of_getElem? (i := 7) rfl)))
 have ev__assertionsDisabled := own_eqStart (Term.int_eval _) (Cond.before_iff.mp (hsets _ (List.mem_of_getElem? (i := 12) rfl)))
 have S__assertionsDisabled := Sta.start ev__assertionsDisabled (Or.inl (hsets _ (List.mem_of_getElem? (i := 11) rfl)))
 have ev_HI_BYTE_SHIFT := own_eqStart (Term.int_eval _) (Cond.before_iff.mp (hsets _ (List.mem_of_getElem? (i := 15) rfl)))
 have S_HI_BYTE_SHIFT := Sta.start ev_HI_BYTE_SHIFT (Or.inl (hsets _ (List.mem_of_getElem? (i := 14) rfl)))
 have ev_LO_BYTE_SHIFT := own_eqStart (Term.int_eval _) (Cond.before_iff.mp (hsets _ (List.mem_of_getElem? (i := 18) rfl)))
 have S_LO_BYTE_SHIFT := Sta.start ev_LO_BYTE_SHIFT (Or.inl (hsets _ (List.mem_of_getElem? (i := 17) rfl)))
 have N_COMPACT_STRINGS : ¬ w_COMPACT_STRINGS = (0 : Int32) := own_neStart ev_COMPACT_STRINGS (Cond.before_iff.mp (hsets _ (List.mem_of_getElem? (i := 2) rfl)))
 obtain ⟨n, o, h1, h2, h3, _, L, rfl, ⟨rfl, N⟩, hq⟩ := rm0 l s _ hw tables_1 i0 i1 i2 i3 i4 i5 w_COMPACT_STRINGS w_SIOOBE_FORMATTER s.heap s.heap.size (Nat.le_refl _) S_COMPACT_STRINGS S_SIOOBE_FORMATTER S__assertionsDisabled S_HI_BYTE_SHIFT S_LO_BYTE_SHIFT N_COMPACT_STRINGS p e ha hc hk s m _ below hf ((Spec.applies_iff_loose hf).mp happ).1 ⟨rfl, State.Warmed39.refl s, rfl⟩ trivial
 refine ⟨n, _, h1, h2, h3, hpost _ _ _ _ _ _ ⟨Cond.after_iff.mpr rfl, Cond.after_iff.mpr (eq_i res_at (Term.int_eval (1)) rfl), trivial⟩ ⟨hq.1, hq.2.1, (hq.2.2.sift fun y hy => Or.inr (N y hy)).mono (by decide) (by decide)⟩⟩
theorem main_1_1 : Claimed_1_1 := comes_1 fun _ _ _ _ _ _ h hF => ⟨h.1, hF⟩
theorem main_1_2 : Claimed_1_2 := comes_1 fun _ _ _ _ _ _ h hF => ⟨h.2.1, hF⟩
end Jvm.Pilot.@@N@@
namespace Jvm.Pilot.@@N@@
open Jvm Jvm.ClassFile Sem Op Lib Jvm.Free Jvm.Stand Jvm.Pilot.@@N@@.Jvm.D
/-! MADE BY PROGRAM (witnessworld.py) out of the Statement's table words and the real class files: 31 classes; the members and pool entries that the words name. The judged class is class 1, her method 1. -/
namespace start1
open Jvm.ClassFile
def u (s : String) : CpInfo := .utf8 (stringToUtf16 s)
/-- a pool by its gaps: so many unusable entries, then the entry; so many at the end -/
def gap : Nat → List CpInfo → List CpInfo
  | 0, r => r
  | n + 1, r => .unusable :: gap n r
def poolList (es : List (Nat × CpInfo)) (last : Nat) : List CpInfo := es.foldr (fun e r => gap e.1 (e.2 :: r)) (gap last [])
def pool (es : List (Nat × CpInfo)) (last : Nat) : Array CpInfo := ⟨poolList es last⟩
def fileOf (pool : Array CpInfo) (this : Nat) (attrs : Array Attribute := #[]) (ms : Array MethodInfo := #[]) (fl : Nat := 33) (sup : Nat := 0) (ifs : Array Nat := #[]) (fds : Array FieldInfo := #[]) : ClassFile where
  minorVersion := 0
  majorVersion := 65
  constantPool := pool
  accessFlags := fl
  thisClass := this
  superClass := sup
  interfaces := ifs
  fields := fds
  methods := ms
  attributes := attrs
def plain (name : String) (sup : Option ClassId) : Class where
  name := name
  kind := .ordinary
  loader := none
  accessFlags := 33
  super := sup
  interfaces := #[]
  cf := none
  fields := #[]
  methods := #[]
  instanceTypes := #[]
  staticTypes := #[]
  resolved := #[]
  callSites := []
  init := .initialized
  statics := none
  mirror := none

def pool0 : Array CpInfo := pool [(5, u "<init>"), (0, u "()V"), (1, .class_ 10), (1, u "java/lang/Object")] 113

def k0c0 : Code := { maxStack := 0, maxLocals := 1, code := object_method_1_code, exceptionTable := #[], attributes := #[] }
def k0m0 : Method := { name := "<init>", desc := "()V", sig := { parameters := [], returnType := none }, accessFlags := 1, code := some k0c0 }
/-- java/lang/Object -/
def k0 : Class := { plain "java/lang/Object" none with
  accessFlags := 33
  interfaces := #[]
  cf := some (fileOf pool0 8 #[] #[{ accessFlags := 1, nameIndex := 5, descriptorIndex := 6, attributes := #[] }] 33 0 #[] #[])
  fields := #[]
  methods := #[k0m0]
  instanceTypes := #[]
  staticTypes := #[]
  resolved := Array.replicate 124 none
  statics := none }

def pool1 : Array CpInfo := pool [(2, .class_ 4), (1, u "java/lang/Object"), (0, u "<init>"), (0, u "()V"), (0, .methodref 8 9), (0, .class_ 10), (0, .nameAndType 11 12), (0, u "com/example/restate/restate/WordsHashPinLaw"), (0, u "chr"), (0, u "(I)C"), (0, .integer 2147483647), (0, .methodref 8 15), (0, .nameAndType 16 17), (0, u "term"), (0, u "([CIII)I"), (0, .class_ 19), (0, u "com/example/restate/restate/Words"), (0, .class_ 21), (0, u "java/lang/String"), (0, .methodref 20 23), (0, .nameAndType 5 24), (0, u "([C)V"), (0, .methodref 18 26), (0, .nameAndType 5 27), (0, u "(Ljava/lang/String;)V"), (0, .methodref 18 29), (0, .nameAndType 30 31), (0, u "size"), (0, u "()I"), (0, .methodref 18 33), (0, .nameAndType 34 35), (0, u "hash"), (0, u "(I)I"), (0, .integer 65535), (0, .methodref 8 38), (0, .nameAndType 39 35), (0, u "pow31"), (0, .integer 923521), (0, .integer 28629151), (0, .integer 887503681), (2, u "law"), (0, u "(IIIIII)Z")] 5

def k1m0 : Method := { name := "<init>", desc := "()V", sig := { parameters := [], returnType := none }, accessFlags := 1, code := none }
def k1c1 : Code := { maxStack := 5, maxLocals := 18, code := code, exceptionTable := #[], attributes := #[] }
def k1m1 : Method := { name := "law", desc := "(IIIIII)Z", sig := { parameters := [.int, .int, .int, .int, .int, .int], returnType := some .boolean }, accessFlags := 9, code := some k1c1 }
def k1c2 : Code := { maxStack := 2, maxLocals := 2, code := method_3_code, exceptionTable := #[], attributes := #[] }
def k1m2 : Method := { name := "chr", desc := "(I)C", sig := { parameters := [.int], returnType := some .char }, accessFlags := 10, code := some k1c2 }
def k1c3 : Code := { maxStack := 3, maxLocals := 4, code := method_4_code, exceptionTable := #[], attributes := #[] }
def k1m3 : Method := { name := "term", desc := "([CIII)I", sig := { parameters := [(.array .char), .int, .int, .int], returnType := some .int }, accessFlags := 10, code := some k1c3 }
def k1c4 : Code := { maxStack := 2, maxLocals := 1, code := method_5_code, exceptionTable := #[], attributes := #[] }
def k1m4 : Method := { name := "pow31", desc := "(I)I", sig := { parameters := [.int], returnType := some .int }, accessFlags := 10, code := some k1c4 }
/-- com/example/restate/restate/WordsHashPinLaw -/
def k1 : Class := { plain "com/example/restate/restate/WordsHashPinLaw" (some 0) with
  accessFlags := 49
  interfaces := #[]
  cf := some (fileOf pool1 8 #[] #[{ accessFlags := 1, nameIndex := 5, descriptorIndex := 6, attributes := #[] }, { accessFlags := 9, nameIndex := 45, descriptorIndex := 46, attributes := #[] }, { accessFlags := 10, nameIndex := 11, descriptorIndex := 12, attributes := #[] }, { accessFlags := 10, nameIndex := 16, descriptorIndex := 17, attributes := #[] }, { accessFlags := 10, nameIndex := 39, descriptorIndex := 35, attributes := #[] }] 49 2 #[] #[])
  fields := #[]
  methods := #[k1m0, k1m1, k1m2, k1m3, k1m4]
  instanceTypes := #[]
  staticTypes := #[]
  resolved := Array.replicate 52 none
  statics := none }

def pool2 : Array CpInfo := pool [(1, .methodref 2 3), (0, .class_ 4), (0, .nameAndType 5 6), (0, u "java/lang/Object"), (0, u "<init>"), (0, u "()V"), (0, .fieldref 8 9), (0, .class_ 10), (0, .nameAndType 11 12), (0, u "com/example/restate/restate/Words"), (0, u "line"), (0, u "Ljava/lang/String;"), (0, .methodref 14 15), (0, .class_ 16), (0, .nameAndType 17 18), (0, u "java/lang/String"), (0, u "isEmpty"), (0, u "()Z"), (0, .methodref 20 21), (0, .class_ 22), (0, .nameAndType 23 24), (0, u "com/example/restate/restate/TextLines"), (0, u "starts"), (0, u "(Ljava/lang/String;C)[I"), (0, .fieldref 8 26), (0, .nameAndType 23 27), (0, u "[I"), (0, .methodref 14 29), (0, .nameAndType 30 31), (0, u "charAt"), (0, u "(I)C"), (3, u "(I)I"), (8, u "(Ljava/lang/String;)V"), (4, u "size"), (0, u "()I"), (0, u "hash")] 5

def k2c0 : Code := { maxStack := 5, maxLocals := 2, code := prog_113_method_1_code, exceptionTable := #[], attributes := #[] }
def k2m0 : Method := { name := "<init>", desc := "(Ljava/lang/String;)V", sig := { parameters := [(.object "java/lang/String")], returnType := none }, accessFlags := 0, code := some k2c0 }
def k2c1 : Code := { maxStack := 2, maxLocals := 1, code := prog_113_method_2_code, exceptionTable := #[], attributes := #[] }
def k2m1 : Method := { name := "size", desc := "()I", sig := { parameters := [], returnType := some .int }, accessFlags := 0, code := some k2c1 }
def k2c2 : Code := { maxStack := 4, maxLocals := 4, code := prog_113_method_3_code, exceptionTable := #[], attributes := #[] }
def k2m2 : Method := { name := "hash", desc := "(I)I", sig := { parameters := [.int], returnType := some .int }, accessFlags := 0, code := some k2c2 }
/-- com/example/restate/restate/Words -/
def k2 : Class := { plain "com/example/restate/restate/Words" (some 0) with
  accessFlags := 32
  interfaces := #[]
  cf := some (fileOf pool2 8 #[] #[{ accessFlags := 0, nameIndex := 5, descriptorIndex := 44, attributes := #[] }, { accessFlags := 0, nameIndex := 49, descriptorIndex := 50, attributes := #[] }, { accessFlags := 0, nameIndex := 51, descriptorIndex := 35, attributes := #[] }] 32 2 #[] #[{ accessFlags := 18, nameIndex := 11, descriptorIndex := 12, attributes := #[] }, { accessFlags := 18, nameIndex := 23, descriptorIndex := 27, attributes := #[] }])
  fields := #[{ name := "line", type := (.object "java/lang/String"), accessFlags := 18, slot := 0, constantValue := 0 }, { name := "starts", type := (.array .int), accessFlags := 18, slot := 1, constantValue := 0 }]
  methods := #[k2m0, k2m1, k2m2]
  instanceTypes := #[(.object "java/lang/String"), (.array .int)]
  staticTypes := #[]
  resolved := Array.replicate 57 none
  statics := none }

def pool3 : Array CpInfo := pool [(1, .class_ 2), (0, u "java/io/Serializable"), (0, .class_ 4), (0, u "java/lang/Object")] 2

/-- java/io/Serializable -/
def k3 : Class := { plain "java/io/Serializable" (some 0) with
  accessFlags := 1537
  interfaces := #[]
  cf := some (fileOf pool3 1 #[] #[] 1537 3 #[] #[])
  fields := #[]
  methods := #[]
  instanceTypes := #[]
  staticTypes := #[]
  resolved := Array.replicate 7 none
  statics := none }

def pool4 : Array CpInfo := pool [(1, .class_ 2), (0, u "java/lang/Comparable"), (0, .class_ 4), (0, u "java/lang/Object")] 7

/-- java/lang/Comparable -/
def k4 : Class := { plain "java/lang/Comparable" (some 0) with
  accessFlags := 1537
  interfaces := #[]
  cf := some (fileOf pool4 1 #[] #[] 1537 3 #[] #[])
  fields := #[]
  methods := #[]
  instanceTypes := #[]
  staticTypes := #[]
  resolved := Array.replicate 12 none
  statics := none }

def pool5 : Array CpInfo := pool [(2, .class_ 4), (1, u "java/lang/CharSequence"), (42, .class_ 48), (0, u "java/lang/CharSequence$1CodePointIterator"), (10, .class_ 60), (0, u "java/lang/CharSequence$1CharIterator"), (5, .class_ 67), (0, u "java/lang/Object")] 63

/-- java/lang/CharSequence -/
def k5 : Class := { plain "java/lang/CharSequence" (some 0) with
  accessFlags := 1537
  interfaces := #[]
  cf := some (fileOf pool5 2 #[.nestMembers #[47, 59]] #[] 1537 66 #[] #[])
  fields := #[]
  methods := #[]
  instanceTypes := #[]
  staticTypes := #[]
  resolved := Array.replicate 131 none
  statics := none }

def pool6 : Array CpInfo := pool [(1, .class_ 2), (0, u "java/lang/constant/Constable"), (0, .class_ 4), (0, u "java/lang/Object")] 6

/-- java/lang/constant/Constable -/
def k6 : Class := { plain "java/lang/constant/Constable" (some 0) with
  accessFlags := 1537
  interfaces := #[]
  cf := some (fileOf pool6 1 #[] #[] 1537 3 #[] #[])
  fields := #[]
  methods := #[]
  instanceTypes := #[]
  staticTypes := #[]
  resolved := Array.replicate 11 none
  statics := none }

def pool7 : Array CpInfo := pool [(1, .class_ 2), (0, u "java/lang/constant/ConstantDesc"), (0, .class_ 4), (0, u "java/lang/Object")] 32

/-- java/lang/constant/ConstantDesc -/
def k7 : Class := { plain "java/lang/constant/ConstantDesc" (some 0) with
  accessFlags := 1537
  interfaces := #[]
  cf := some (fileOf pool7 1 #[] #[] 1537 3 #[] #[])
  fields := #[]
  methods := #[]
  instanceTypes := #[]
  staticTypes := #[]
  resolved := Array.replicate 37 none
  statics := none }

def pool8 : Array CpInfo := pool [(1, .methodref 2 3), (0, .class_ 4), (0, .nameAndType 5 6), (0, u "java/lang/Object"), (0, u "<init>"), (0, u "()V"), (2, .fieldref 10 11), (0, .class_ 12), (0, .nameAndType 13 14), (0, u "java/lang/String"), (0, u "value"), (0, u "[B"), (0, .fieldref 10 16), (0, .nameAndType 17 18), (0, u "coder"), (0, u "B"), (2, u "hash"), (0, u "I"), (2, u "hashIsZero"), (0, u "Z"), (0, .methodref 10 28), (0, .nameAndType 5 29), (0, u "([CIILjava/lang/Void;)V"), (8, .fieldref 10 39), (0, .nameAndType 40 26), (0, u "COMPACT_STRINGS"), (1, .class_ 44), (1, u "java/lang/StringUTF16"), (0, u "compress"), (1, .methodref 42 48), (0, .nameAndType 49 50), (0, u "coderFromArrayLen"), (0, u "([BI)B"), (56, .class_ 109), (1, u "java/lang/StringLatin1"), (32, u "()Z"), (34, .methodref 42 178), (0, .nameAndType 45 179), (0, u "([CII)[B"), (154, u "()I"), (0, .methodref 10 336), (0, .nameAndType 17 337), (0, u "()B"), (25, u "([BI)C"), (27, u "(II)V"), (35, u "(I)C"), (64, .methodref 10 493), (0, .nameAndType 494 142), (0, u "isLatin1"), (0, .methodref 107 496), (0, .nameAndType 497 363), (0, u "charAt"), (0, .methodref 42 496), (2, u "checkIndex"), (3, .methodref 10 506), (0, .nameAndType 507 334), (0, u "length"), (5, u "checkFromToIndex"), (9, u "checkBoundsBeginEnd"), (0, u "(III)V"), (50, .class_ 576), (0, u "java/lang/CharSequence"), (22, u "CASE_INSENSITIVE_ORDER"), (0, u "Ljava/util/Comparator;"), (32, .methodref 10 634), (0, .nameAndType 635 636), (0, u "indexOf"), (0, u "(II)I"), (0, .methodref 107 638), (0, .nameAndType 635 639), (0, u "([BIII)I"), (0, .methodref 42 638), (51, u "isEmpty"), (72, u "(I)I"), (244, u "([C)V"), (42, .fieldref 1054 1055), (0, .class_ 1056), (0, .nameAndType 1057 1058), (0, u "jdk/internal/util/Preconditions"), (0, u "SIOOBE_FORMATTER"), (0, u "Ljava/util/function/BiFunction;"), (0, .methodref 1054 1060), (0, .nameAndType 501 1061), (0, u "(IILjava/util/function/BiFunction;)I"), (0, .methodref 1054 1063), (0, .nameAndType 513 1064), (0, u "(IIILjava/util/function/BiFunction;)I"), (36, u "serialPersistentFields"), (0, u "[Ljava/io/ObjectStreamField;"), (0, .class_ 1104), (0, u "java/lang/String$CaseInsensitiveComparator"), (1, .class_ 1107), (0, u "java/io/Serializable"), (0, .class_ 1109), (0, u "java/lang/Comparable"), (0, .class_ 1111), (0, u "java/lang/constant/Constable"), (0, .class_ 1113), (0, u "java/lang/constant/ConstantDesc"), (2, u "serialVersionUID"), (0, u "J"), (3, u "REPL"), (0, u "C"), (2, u "LATIN1"), (1, u "UTF16")] 323

def k8m0 : Method := { name := "<init>", desc := "()V", sig := { parameters := [], returnType := none }, accessFlags := 1, code := none }
def k8c1 : Code := { maxStack := 5, maxLocals := 2, code := jdk_42_method_3_code, exceptionTable := #[], attributes := #[] }
def k8m1 : Method := { name := "<init>", desc := "([C)V", sig := { parameters := [(.array .char)], returnType := none }, accessFlags := 1, code := some k8c1 }
def k8c2 : Code := { maxStack := 2, maxLocals := 1, code := jdk_42_method_54_code, exceptionTable := #[], attributes := #[] }
def k8m2 : Method := { name := "length", desc := "()I", sig := { parameters := [], returnType := some .int }, accessFlags := 1, code := some k8c2 }
def k8c3 : Code := { maxStack := 1, maxLocals := 1, code := jdk_42_method_55_code, exceptionTable := #[], attributes := #[] }
def k8m3 : Method := { name := "isEmpty", desc := "()Z", sig := { parameters := [], returnType := some .boolean }, accessFlags := 1, code := some k8c3 }
def k8c4 : Code := { maxStack := 2, maxLocals := 2, code := jdk_42_method_56_code, exceptionTable := #[], attributes := #[] }
def k8m4 : Method := { name := "charAt", desc := "(I)C", sig := { parameters := [.int], returnType := some .char }, accessFlags := 1, code := some k8c4 }
def k8c5 : Code := { maxStack := 3, maxLocals := 2, code := jdk_42_method_79_code, exceptionTable := #[], attributes := #[] }
def k8m5 : Method := { name := "indexOf", desc := "(I)I", sig := { parameters := [.int], returnType := some .int }, accessFlags := 1, code := some k8c5 }
def k8c6 : Code := { maxStack := 4, maxLocals := 3, code := jdk_42_method_80_code, exceptionTable := #[], attributes := #[] }
def k8m6 : Method := { name := "indexOf", desc := "(II)I", sig := { parameters := [.int, .int], returnType := some .int }, accessFlags := 1, code := some k8c6 }
def k8c7 : Code := { maxStack := 4, maxLocals := 6, code := jdk_42_method_149_code, exceptionTable := #[], attributes := #[] }
def k8m7 : Method := { name := "<init>", desc := "([CIILjava/lang/Void;)V", sig := { parameters := [(.array .char), .int, .int, (.object "java/lang/Void")], returnType := none }, accessFlags := 2, code := some k8c7 }
def k8c8 : Code := { maxStack := 1, maxLocals := 1, code := jdk_42_method_152_code, exceptionTable := #[], attributes := #[] }
def k8m8 : Method := { name := "coder", desc := "()B", sig := { parameters := [], returnType := some .byte }, accessFlags := 0, code := some k8c8 }
def k8c9 : Code := { maxStack := 1, maxLocals := 1, code := jdk_42_method_154_code, exceptionTable := #[], attributes := #[] }
def k8m9 : Method := { name := "isLatin1", desc := "()Z", sig := { parameters := [], returnType := some .boolean }, accessFlags := 0, code := some k8c9 }
def k8c10 : Code := { maxStack := 3, maxLocals := 2, code := jdk_42_method_155_code, exceptionTable := #[], attributes := #[] }
def k8m10 : Method := { name := "checkIndex", desc := "(II)V", sig := { parameters := [.int, .int], returnType := none }, accessFlags := 8, code := some k8c10 }
def k8c11 : Code := { maxStack := 4, maxLocals := 3, code := jdk_42_method_158_code, exceptionTable := #[], attributes := #[] }
def k8m11 : Method := { name := "checkBoundsBeginEnd", desc := "(III)V", sig := { parameters := [.int, .int, .int], returnType := none }, accessFlags := 8, code := some k8c11 }
/-- java/lang/String -/
def k8 : Class := { plain "java/lang/String" (some 0) with
  accessFlags := 49
  interfaces := #[3, 4, 5, 6, 7]
  cf := some (fileOf pool8 10 #[.nestMembers #[1103]] #[{ accessFlags := 1, nameIndex := 5, descriptorIndex := 6, attributes := #[] }, { accessFlags := 1, nameIndex := 5, descriptorIndex := 1010, attributes := #[] }, { accessFlags := 1, nameIndex := 507, descriptorIndex := 334, attributes := #[] }, { accessFlags := 1, nameIndex := 692, descriptorIndex := 142, attributes := #[] }, { accessFlags := 1, nameIndex := 497, descriptorIndex := 427, attributes := #[] }, { accessFlags := 1, nameIndex := 635, descriptorIndex := 765, attributes := #[] }, { accessFlags := 1, nameIndex := 635, descriptorIndex := 636, attributes := #[] }, { accessFlags := 2, nameIndex := 5, descriptorIndex := 29, attributes := #[] }, { accessFlags := 0, nameIndex := 17, descriptorIndex := 337, attributes := #[] }, { accessFlags := 0, nameIndex := 494, descriptorIndex := 142, attributes := #[] }, { accessFlags := 8, nameIndex := 501, descriptorIndex := 391, attributes := #[] }, { accessFlags := 8, nameIndex := 523, descriptorIndex := 524, attributes := #[] }] 49 2 #[1106, 1108, 575, 1110, 1112] #[{ accessFlags := 18, nameIndex := 13, descriptorIndex := 14, attributes := #[] }, { accessFlags := 18, nameIndex := 17, descriptorIndex := 18, attributes := #[] }, { accessFlags := 2, nameIndex := 21, descriptorIndex := 22, attributes := #[] }, { accessFlags := 2, nameIndex := 25, descriptorIndex := 26, attributes := #[] }, { accessFlags := 26, nameIndex := 1116, descriptorIndex := 1117, attributes := #[] }, { accessFlags := 24, nameIndex := 40, descriptorIndex := 26, attributes := #[] }, { accessFlags := 26, nameIndex := 1101, descriptorIndex := 1102, attributes := #[] }, { accessFlags := 26, nameIndex := 1121, descriptorIndex := 1122, attributes := #[] }, { accessFlags := 25, nameIndex := 599, descriptorIndex := 600, attributes := #[] }, { accessFlags := 24, nameIndex := 1125, descriptorIndex := 18, attributes := #[] }, { accessFlags := 24, nameIndex := 1127, descriptorIndex := 18, attributes := #[] }])
  fields := #[{ name := "value", type := (.array .byte), accessFlags := 18, slot := 0, constantValue := 0 }, { name := "coder", type := .byte, accessFlags := 18, slot := 1, constantValue := 0 }, { name := "hash", type := .int, accessFlags := 2, slot := 2, constantValue := 0 }, { name := "hashIsZero", type := .boolean, accessFlags := 2, slot := 3, constantValue := 0 }, { name := "serialVersionUID", type := .long, accessFlags := 26, slot := 0, constantValue := 0 }, { name := "COMPACT_STRINGS", type := .boolean, accessFlags := 24, slot := 1, constantValue := 0 }, { name := "serialPersistentFields", type := (.array (.object "java/io/ObjectStreamField")), accessFlags := 26, slot := 2, constantValue := 0 }, { name := "REPL", type := .char, accessFlags := 26, slot := 3, constantValue := 0 }, { name := "CASE_INSENSITIVE_ORDER", type := (.object "java/util/Comparator"), accessFlags := 25, slot := 4, constantValue := 0 }, { name := "LATIN1", type := .byte, accessFlags := 24, slot := 5, constantValue := 0 }, { name := "UTF16", type := .byte, accessFlags := 24, slot := 6, constantValue := 0 }]
  methods := #[k8m0, k8m1, k8m2, k8m3, k8m4, k8m5, k8m6, k8m7, k8m8, k8m9, k8m10, k8m11]
  instanceTypes := #[(.array .byte), .byte, .int, .boolean]
  staticTypes := #[.long, .boolean, (.array (.object "java/io/ObjectStreamField")), .char, (.object "java/util/Comparator"), .byte, .byte]
  resolved := Array.replicate 1451 none
  statics := some 0 }

def pool9 : Array CpInfo := pool [(3, .class_ 4), (0, u "java/lang/String"), (1, .class_ 8), (1, u "java/lang/Object"), (0, u "<init>"), (0, u "()V"), (0, .methodref 12 13), (0, .class_ 14), (0, .nameAndType 15 16), (0, u "java/lang/StringUTF16"), (0, u "newBytesLength"), (0, u "(I)I"), (3, .integer 1073741823), (23, .fieldref 12 45), (0, .nameAndType 46 47), (0, u "$assertionsDisabled"), (0, u "Z"), (0, .methodref 12 49), (0, .nameAndType 50 51), (0, u "length"), (0, u "([B)I"), (7, .fieldref 12 60), (0, .nameAndType 61 62), (0, u "HI_BYTE_SHIFT"), (0, u "I"), (0, .fieldref 12 64), (0, .nameAndType 65 62), (0, u "LO_BYTE_SHIFT"), (1, .methodref 12 68), (0, .nameAndType 69 70), (0, u "checkIndex"), (0, u "(I[B)V"), (0, .methodref 12 72), (0, .nameAndType 73 74), (0, u "getChar"), (0, u "([BI)C"), (21, .methodref 12 97), (0, .nameAndType 98 99), (0, u "checkBoundsBeginEnd"), (0, u "(II[B)V"), (7, .methodref 12 108), (0, .nameAndType 109 110), (0, u "newBytesFor"), (0, u "(I)[B"), (0, .methodref 12 112), (0, .nameAndType 113 114), (0, u "putChar"), (0, u "([BII)V"), (0, .methodref 12 116), (0, .nameAndType 117 118), (0, u "compress"), (0, u "([CI[BII)I"), (0, .methodref 12 120), (0, .nameAndType 121 122), (0, u "toBytes"), (0, u "([CII)[B"), (60, .methodref 184 185), (0, .class_ 186), (0, .nameAndType 187 188), (0, u "java/lang/Math"), (0, u "min"), (0, u "(II)I"), (35, .methodref 184 225), (0, .nameAndType 226 188), (0, u "max"), (0, .integer 65536), (0, .methodref 12 229), (0, .nameAndType 230 231), (0, u "indexOfChar"), (0, u "([BIII)I"), (9, .methodref 3 242), (0, .nameAndType 98 243), (0, u "(III)V"), (0, .methodref 12 245), (0, .nameAndType 246 231), (0, u "indexOfCharUnsafe"), (14, u "coderFromArrayLen"), (0, u "([BI)B"), (5, u "indexOf"), (100, .class_ 371), (1, u "java/lang/StringUTF16$LinesSpliterator"), (20, u "charAt"), (21, .methodref 3 415), (0, .nameAndType 69 416), (0, u "(II)V"), (13, u "MAX_LENGTH"), (196, .class_ 628), (0, u "java/lang/StringUTF16$CodePointsSpliterator"), (0, .class_ 630), (0, u "java/lang/StringUTF16$CharsSpliterator")] 4

def k9m0 : Method := { name := "<init>", desc := "()V", sig := { parameters := [], returnType := none }, accessFlags := 0, code := none }
def k9c1 : Code := { maxStack := 1, maxLocals := 1, code := jdk_52_method_2_code, exceptionTable := #[], attributes := #[] }
def k9m1 : Method := { name := "newBytesFor", desc := "(I)[B", sig := { parameters := [.int], returnType := some (.array .byte) }, accessFlags := 9, code := some k9c1 }
def k9c2 : Code := { maxStack := 4, maxLocals := 1, code := jdk_52_method_3_code, exceptionTable := #[], attributes := #[] }
def k9m2 : Method := { name := "newBytesLength", desc := "(I)I", sig := { parameters := [.int], returnType := some .int }, accessFlags := 9, code := some k9c2 }
def k9c3 : Code := { maxStack := 4, maxLocals := 3, code := jdk_52_method_4_code, exceptionTable := #[], attributes := #[] }
def k9m3 : Method := { name := "putChar", desc := "([BII)V", sig := { parameters := [(.array .byte), .int, .int], returnType := none }, accessFlags := 8, code := some k9c3 }
def k9c4 : Code := { maxStack := 3, maxLocals := 2, code := jdk_52_method_5_code, exceptionTable := #[], attributes := #[] }
def k9m4 : Method := { name := "getChar", desc := "([BI)C", sig := { parameters := [(.array .byte), .int], returnType := some .char }, accessFlags := 8, code := some k9c4 }
def k9c5 : Code := { maxStack := 2, maxLocals := 1, code := jdk_52_method_6_code, exceptionTable := #[], attributes := #[] }
def k9m5 : Method := { name := "length", desc := "([B)I", sig := { parameters := [(.array .byte)], returnType := some .int }, accessFlags := 9, code := some k9c5 }
def k9c6 : Code := { maxStack := 4, maxLocals := 5, code := jdk_52_method_14_code, exceptionTable := #[], attributes := #[] }
def k9m6 : Method := { name := "toBytes", desc := "([CII)[B", sig := { parameters := [(.array .char), .int, .int], returnType := some (.array .byte) }, accessFlags := 9, code := some k9c6 }
def k9c7 : Code := { maxStack := 2, maxLocals := 2, code := jdk_52_method_15_code, exceptionTable := #[], attributes := #[] }
def k9m7 : Method := { name := "coderFromArrayLen", desc := "([BI)B", sig := { parameters := [(.array .byte), .int], returnType := some .byte }, accessFlags := 8, code := some k9c7 }
def k9c8 : Code := { maxStack := 5, maxLocals := 6, code := jdk_52_method_16_code, exceptionTable := #[], attributes := #[] }
def k9m8 : Method := { name := "compress", desc := "([CII)[B", sig := { parameters := [(.array .char), .int, .int], returnType := some (.array .byte) }, accessFlags := 9, code := some k9c8 }
def k9c9 : Code := { maxStack := 3, maxLocals := 7, code := jdk_52_method_21_code, exceptionTable := #[], attributes := #[] }
def k9m9 : Method := { name := "compress", desc := "([CI[BII)I", sig := { parameters := [(.array .char), .int, (.array .byte), .int, .int], returnType := some .int }, accessFlags := 9, code := some k9c9 }
def k9c10 : Code := { maxStack := 4, maxLocals := 4, code := jdk_52_method_40_code, exceptionTable := #[], attributes := #[] }
def k9m10 : Method := { name := "indexOf", desc := "([BIII)I", sig := { parameters := [(.array .byte), .int, .int, .int], returnType := some .int }, accessFlags := 9, code := some k9c10 }
def k9c11 : Code := { maxStack := 4, maxLocals := 4, code := jdk_52_method_47_code, exceptionTable := #[], attributes := #[] }
def k9m11 : Method := { name := "indexOfChar", desc := "([BIII)I", sig := { parameters := [(.array .byte), .int, .int, .int], returnType := some .int }, accessFlags := 10, code := some k9c11 }
def k9c12 : Code := { maxStack := 2, maxLocals := 5, code := jdk_52_method_48_code, exceptionTable := #[], attributes := #[] }
def k9m12 : Method := { name := "indexOfCharUnsafe", desc := "([BIII)I", sig := { parameters := [(.array .byte), .int, .int, .int], returnType := some .int }, accessFlags := 10, code := some k9c12 }
def k9c13 : Code := { maxStack := 2, maxLocals := 2, code := jdk_52_method_83_code, exceptionTable := #[], attributes := #[] }
def k9m13 : Method := { name := "charAt", desc := "([BI)C", sig := { parameters := [(.array .byte), .int], returnType := some .char }, accessFlags := 9, code := some k9c13 }
def k9c14 : Code := { maxStack := 2, maxLocals := 2, code := jdk_52_method_91_code, exceptionTable := #[], attributes := #[] }
def k9m14 : Method := { name := "checkIndex", desc := "(I[B)V", sig := { parameters := [.int, (.array .byte)], returnType := none }, accessFlags := 9, code := some k9c14 }
def k9c15 : Code := { maxStack := 3, maxLocals := 3, code := jdk_52_method_93_code, exceptionTable := #[], attributes := #[] }
def k9m15 : Method := { name := "checkBoundsBeginEnd", desc := "(II[B)V", sig := { parameters := [.int, .int, (.array .byte)], returnType := none }, accessFlags := 9, code := some k9c15 }
/-- java/lang/StringUTF16 -/
def k9 : Class := { plain "java/lang/StringUTF16" (some 0) with
  accessFlags := 48
  interfaces := #[]
  cf := some (fileOf pool9 12 #[.nestMembers #[627, 629, 369]] #[{ accessFlags := 0, nameIndex := 9, descriptorIndex := 10, attributes := #[] }, { accessFlags := 9, nameIndex := 109, descriptorIndex := 110, attributes := #[] }, { accessFlags := 9, nameIndex := 15, descriptorIndex := 16, attributes := #[] }, { accessFlags := 8, nameIndex := 113, descriptorIndex := 114, attributes := #[] }, { accessFlags := 8, nameIndex := 73, descriptorIndex := 74, attributes := #[] }, { accessFlags := 9, nameIndex := 50, descriptorIndex := 51, attributes := #[] }, { accessFlags := 9, nameIndex := 121, descriptorIndex := 122, attributes := #[] }, { accessFlags := 8, nameIndex := 261, descriptorIndex := 262, attributes := #[] }, { accessFlags := 9, nameIndex := 117, descriptorIndex := 122, attributes := #[] }, { accessFlags := 9, nameIndex := 117, descriptorIndex := 118, attributes := #[] }, { accessFlags := 9, nameIndex := 268, descriptorIndex := 231, attributes := #[] }, { accessFlags := 10, nameIndex := 230, descriptorIndex := 231, attributes := #[] }, { accessFlags := 10, nameIndex := 246, descriptorIndex := 231, attributes := #[] }, { accessFlags := 9, nameIndex := 392, descriptorIndex := 74, attributes := #[] }, { accessFlags := 9, nameIndex := 69, descriptorIndex := 70, attributes := #[] }, { accessFlags := 9, nameIndex := 98, descriptorIndex := 99, attributes := #[] }] 48 6 #[] #[{ accessFlags := 26, nameIndex := 61, descriptorIndex := 62, attributes := #[] }, { accessFlags := 26, nameIndex := 65, descriptorIndex := 62, attributes := #[] }, { accessFlags := 24, nameIndex := 430, descriptorIndex := 62, attributes := #[] }, { accessFlags := 4120, nameIndex := 46, descriptorIndex := 47, attributes := #[] }])
  fields := #[{ name := "HI_BYTE_SHIFT", type := .int, accessFlags := 26, slot := 0, constantValue := 0 }, { name := "LO_BYTE_SHIFT", type := .int, accessFlags := 26, slot := 1, constantValue := 0 }, { name := "MAX_LENGTH", type := .int, accessFlags := 24, slot := 2, constantValue := 0 }, { name := "$assertionsDisabled", type := .boolean, accessFlags := 4120, slot := 3, constantValue := 0 }]
  methods := #[k9m0, k9m1, k9m2, k9m3, k9m4, k9m5, k9m6, k9m7, k9m8, k9m9, k9m10, k9m11, k9m12, k9m13, k9m14, k9m15]
  instanceTypes := #[]
  staticTypes := #[.int, .int, .int, .boolean]
  resolved := Array.replicate 635 none
  statics := some 1 }

def pool10 : Array CpInfo := pool [(8, .class_ 10), (1, u "java/lang/Iterable"), (24, .class_ 36), (0, u "java/lang/Object")] 25

/-- java/lang/Iterable -/
def k10 : Class := { plain "java/lang/Iterable" (some 0) with
  accessFlags := 1537
  interfaces := #[]
  cf := some (fileOf pool10 8 #[] #[] 1537 35 #[] #[])
  fields := #[]
  methods := #[]
  instanceTypes := #[]
  staticTypes := #[]
  resolved := Array.replicate 62 none
  statics := none }

def pool11 : Array CpInfo := pool [(10, .class_ 12), (1, u "java/util/Collection"), (47, .class_ 61), (0, u "java/lang/Object"), (0, .class_ 63), (0, u "java/lang/Iterable")] 51

/-- java/util/Collection -/
def k11 : Class := { plain "java/util/Collection" (some 0) with
  accessFlags := 1537
  interfaces := #[10]
  cf := some (fileOf pool11 10 #[] #[] 1537 60 #[62] #[])
  fields := #[]
  methods := #[]
  instanceTypes := #[]
  staticTypes := #[]
  resolved := Array.replicate 115 none
  statics := none }

def pool12 : Array CpInfo := pool [(2, .class_ 4), (1, u "java/lang/Object"), (0, u "<init>"), (0, u "()V"), (1, .class_ 10), (1, u "java/util/AbstractCollection"), (66, .class_ 78), (0, u "java/util/Collection")] 81

def k12m0 : Method := { name := "<init>", desc := "()V", sig := { parameters := [], returnType := none }, accessFlags := 4, code := none }
/-- java/util/AbstractCollection -/
def k12 : Class := { plain "java/util/AbstractCollection" (some 0) with
  accessFlags := 1057
  interfaces := #[11]
  cf := some (fileOf pool12 8 #[] #[{ accessFlags := 4, nameIndex := 5, descriptorIndex := 6, attributes := #[] }] 1057 2 #[77] #[])
  fields := #[]
  methods := #[k12m0]
  instanceTypes := #[]
  staticTypes := #[]
  resolved := Array.replicate 160 none
  statics := none }

def pool13 : Array CpInfo := pool [(8, .class_ 10), (1, u "java/util/SequencedCollection"), (15, .class_ 27), (0, u "java/lang/Object"), (0, .class_ 29), (0, u "java/util/Collection")] 27

/-- java/util/SequencedCollection -/
def k13 : Class := { plain "java/util/SequencedCollection" (some 0) with
  accessFlags := 1537
  interfaces := #[11]
  cf := some (fileOf pool13 8 #[] #[] 1537 26 #[28] #[])
  fields := #[]
  methods := #[]
  instanceTypes := #[]
  staticTypes := #[]
  resolved := Array.replicate 57 none
  statics := none }

def pool14 : Array CpInfo := pool [(8, .class_ 10), (1, u "java/util/List"), (92, .class_ 104), (0, u "java/lang/Object"), (15, .class_ 121), (0, u "java/util/SequencedCollection")] 129

/-- java/util/List -/
def k14 : Class := { plain "java/util/List" (some 0) with
  accessFlags := 1537
  interfaces := #[13]
  cf := some (fileOf pool14 8 #[] #[] 1537 103 #[120] #[])
  fields := #[]
  methods := #[]
  instanceTypes := #[]
  staticTypes := #[]
  resolved := Array.replicate 251 none
  statics := none }

def pool15 : Array CpInfo := pool [(2, .class_ 4), (1, u "java/util/AbstractCollection"), (0, u "<init>"), (0, u "()V"), (1, .class_ 10), (1, u "java/util/AbstractList"), (0, u "modCount"), (0, u "I"), (64, .class_ 78), (0, u "java/util/AbstractList$Itr"), (3, .class_ 83), (0, u "java/util/AbstractList$ListItr"), (9, .class_ 94), (0, u "java/util/AbstractList$RandomAccessSubList"), (3, .class_ 99), (0, u "java/util/AbstractList$SubList"), (33, .class_ 134), (0, u "java/util/List"), (73, .class_ 209), (0, u "java/util/AbstractList$SubList$1"), (0, .class_ 211), (0, u "java/util/AbstractList$RandomAccessSpliterator")] 6

def k15m0 : Method := { name := "<init>", desc := "()V", sig := { parameters := [], returnType := none }, accessFlags := 4, code := none }
/-- java/util/AbstractList -/
def k15 : Class := { plain "java/util/AbstractList" (some 12) with
  accessFlags := 1057
  interfaces := #[14]
  cf := some (fileOf pool15 8 #[.nestMembers #[93, 98, 208, 210, 82, 77]] #[{ accessFlags := 4, nameIndex := 5, descriptorIndex := 6, attributes := #[] }] 1057 2 #[133] #[{ accessFlags := 132, nameIndex := 11, descriptorIndex := 12, attributes := #[] }])
  fields := #[{ name := "modCount", type := .int, accessFlags := 132, slot := 0, constantValue := 0 }]
  methods := #[k15m0]
  instanceTypes := #[.int]
  staticTypes := #[]
  resolved := Array.replicate 218 none
  statics := none }

def pool16 : Array CpInfo := pool [(1, .class_ 2), (0, u "java/util/RandomAccess"), (0, .class_ 4), (0, u "java/lang/Object")] 2

/-- java/util/RandomAccess -/
def k16 : Class := { plain "java/util/RandomAccess" (some 0) with
  accessFlags := 1537
  interfaces := #[]
  cf := some (fileOf pool16 1 #[] #[] 1537 3 #[] #[])
  fields := #[]
  methods := #[]
  instanceTypes := #[]
  staticTypes := #[]
  resolved := Array.replicate 7 none
  statics := none }

def pool17 : Array CpInfo := pool [(2, .class_ 4), (1, u "java/util/AbstractList"), (3, .class_ 10), (1, u "com/example/restate/restate/TextLines"), (0, u "text"), (0, u "Ljava/lang/String;"), (2, u "starts"), (0, u "(Ljava/lang/String;C)[I"), (2, u "[I"), (0, .methodref 21 22), (0, .class_ 23), (0, .nameAndType 24 25), (0, u "java/lang/String"), (0, u "indexOf"), (0, u "(I)I"), (0, .methodref 27 28), (0, .class_ 29), (0, .nameAndType 30 31), (0, u "java/util/Arrays"), (0, u "copyOf"), (0, u "([II)[I"), (0, .methodref 21 33), (0, .nameAndType 24 34), (0, u "(II)I"), (0, .methodref 21 36), (0, .nameAndType 37 38), (0, u "length"), (0, u "()I"), (20, .class_ 60), (0, u "java/util/RandomAccess")] 11

def k17c0 : Code := { maxStack := 4, maxLocals := 5, code := prog_98_method_2_code, exceptionTable := #[], attributes := #[] }
def k17m0 : Method := { name := "starts", desc := "(Ljava/lang/String;C)[I", sig := { parameters := [(.object "java/lang/String"), .char], returnType := some (.array .int) }, accessFlags := 8, code := some k17c0 }
/-- com/example/restate/restate/TextLines -/
def k17 : Class := { plain "com/example/restate/restate/TextLines" (some 15) with
  accessFlags := 32
  interfaces := #[16]
  cf := some (fileOf pool17 8 #[] #[{ accessFlags := 8, nameIndex := 15, descriptorIndex := 16, attributes := #[] }] 32 2 #[59] #[{ accessFlags := 18, nameIndex := 11, descriptorIndex := 12, attributes := #[] }, { accessFlags := 18, nameIndex := 15, descriptorIndex := 19, attributes := #[] }])
  fields := #[{ name := "text", type := (.object "java/lang/String"), accessFlags := 18, slot := 1, constantValue := 0 }, { name := "starts", type := (.array .int), accessFlags := 18, slot := 2, constantValue := 0 }]
  methods := #[k17m0]
  instanceTypes := #[.int, (.object "java/lang/String"), (.array .int)]
  staticTypes := #[]
  resolved := Array.replicate 72 none
  statics := none }

def pool18 : Array CpInfo := pool [(1, .class_ 2), (0, u "java/lang/String"), (1, .class_ 6), (1, u "java/lang/Object"), (0, u "<init>"), (0, u "()V"), (0, .methodref 1 10), (0, .nameAndType 11 12), (0, u "checkIndex"), (0, u "(II)V"), (1, .class_ 16), (1, u "java/lang/StringLatin1"), (21, .methodref 39 40), (0, .class_ 41), (0, .nameAndType 42 43), (0, u "java/lang/Math"), (0, u "min"), (0, u "(II)I"), (9, u "([BI)C"), (34, .methodref 14 89), (0, .nameAndType 90 91), (0, u "canEncode"), (0, u "(I)Z"), (0, .methodref 39 93), (0, .nameAndType 94 43), (0, u "max"), (0, .methodref 14 96), (0, .nameAndType 97 98), (0, u "indexOfChar"), (0, u "([BIII)I"), (2, u "indexOf"), (19, u "$assertionsDisabled"), (0, u "Z"), (98, .class_ 223), (1, u "java/lang/StringLatin1$LinesSpliterator"), (28, u "charAt"), (137, .class_ 391), (0, u "java/lang/StringLatin1$CharsSpliterator")] 3

def k18m0 : Method := { name := "<init>", desc := "()V", sig := { parameters := [], returnType := none }, accessFlags := 0, code := none }
def k18c1 : Code := { maxStack := 2, maxLocals := 2, code := jdk_43_method_2_code, exceptionTable := #[], attributes := #[] }
def k18m1 : Method := { name := "charAt", desc := "([BI)C", sig := { parameters := [(.array .byte), .int], returnType := some .char }, accessFlags := 9, code := some k18c1 }
def k18c2 : Code := { maxStack := 2, maxLocals := 1, code := jdk_43_method_4_code, exceptionTable := #[], attributes := #[] }
def k18m2 : Method := { name := "canEncode", desc := "(I)Z", sig := { parameters := [.int], returnType := some .boolean }, accessFlags := 9, code := some k18c2 }
def k18c3 : Code := { maxStack := 4, maxLocals := 4, code := jdk_43_method_22_code, exceptionTable := #[], attributes := #[] }
def k18m3 : Method := { name := "indexOf", desc := "([BIII)I", sig := { parameters := [(.array .byte), .int, .int, .int], returnType := some .int }, accessFlags := 9, code := some k18c3 }
def k18c4 : Code := { maxStack := 2, maxLocals := 6, code := jdk_43_method_23_code, exceptionTable := #[], attributes := #[] }
def k18m4 : Method := { name := "indexOfChar", desc := "([BIII)I", sig := { parameters := [(.array .byte), .int, .int, .int], returnType := some .int }, accessFlags := 10, code := some k18c4 }
/-- java/lang/StringLatin1 -/
def k18 : Class := { plain "java/lang/StringLatin1" (some 0) with
  accessFlags := 48
  interfaces := #[]
  cf := some (fileOf pool18 14 #[.nestMembers #[390, 221]] #[{ accessFlags := 0, nameIndex := 7, descriptorIndex := 8, attributes := #[] }, { accessFlags := 9, nameIndex := 252, descriptorIndex := 53, attributes := #[] }, { accessFlags := 9, nameIndex := 90, descriptorIndex := 91, attributes := #[] }, { accessFlags := 9, nameIndex := 101, descriptorIndex := 98, attributes := #[] }, { accessFlags := 10, nameIndex := 97, descriptorIndex := 98, attributes := #[] }] 48 4 #[] #[{ accessFlags := 4120, nameIndex := 121, descriptorIndex := 122, attributes := #[] }])
  fields := #[{ name := "$assertionsDisabled", type := .boolean, accessFlags := 4120, slot := 0, constantValue := 0 }]
  methods := #[k18m0, k18m1, k18m2, k18m3, k18m4]
  instanceTypes := #[]
  staticTypes := #[.boolean]
  resolved := Array.replicate 395 none
  statics := none }

def pool19 : Array CpInfo := pool [(1, .class_ 2), (0, u "java/lang/Math"), (1, .class_ 6), (1, u "java/lang/Object"), (0, u "<init>"), (0, u "()V"), (89, .class_ 100), (1, u "java/lang/Math$RandomNumberGeneratorHolder"), (71, u "negativeZeroFloatBits"), (0, u "J"), (2, u "negativeZeroDoubleBits"), (21, u "max"), (2, u "min"), (43, u "$assertionsDisabled"), (0, u "Z"), (88, u "(II)I"), (2, u "twoToTheDoubleScaleDown"), (0, u "D"), (4, u "twoToTheDoubleScaleUp"), (9, u "E"), (3, u "PI"), (2, u "TAU"), (2, u "DEGREES_TO_RADIANS"), (0, u "RADIANS_TO_DEGREES")] 94

def k19m0 : Method := { name := "<init>", desc := "()V", sig := { parameters := [], returnType := none }, accessFlags := 2, code := none }
def k19c1 : Code := { maxStack := 2, maxLocals := 2, code := jdk_29_method_65_code, exceptionTable := #[], attributes := #[] }
def k19m1 : Method := { name := "max", desc := "(II)I", sig := { parameters := [.int, .int], returnType := some .int }, accessFlags := 9, code := some k19c1 }
def k19c2 : Code := { maxStack := 2, maxLocals := 2, code := jdk_29_method_69_code, exceptionTable := #[], attributes := #[] }
def k19m2 : Method := { name := "min", desc := "(II)I", sig := { parameters := [.int, .int], returnType := some .int }, accessFlags := 9, code := some k19c2 }
/-- java/lang/Math -/
def k19 : Class := { plain "java/lang/Math" (some 0) with
  accessFlags := 49
  interfaces := #[]
  cf := some (fileOf pool19 1 #[.nestMembers #[98]] #[{ accessFlags := 2, nameIndex := 7, descriptorIndex := 8, attributes := #[] }, { accessFlags := 9, nameIndex := 198, descriptorIndex := 335, attributes := #[] }, { accessFlags := 9, nameIndex := 201, descriptorIndex := 335, attributes := #[] }] 49 4 #[] #[{ accessFlags := 25, nameIndex := 354, descriptorIndex := 339, attributes := #[] }, { accessFlags := 25, nameIndex := 358, descriptorIndex := 339, attributes := #[] }, { accessFlags := 25, nameIndex := 361, descriptorIndex := 339, attributes := #[] }, { accessFlags := 26, nameIndex := 364, descriptorIndex := 339, attributes := #[] }, { accessFlags := 26, nameIndex := 365, descriptorIndex := 339, attributes := #[] }, { accessFlags := 26, nameIndex := 172, descriptorIndex := 173, attributes := #[] }, { accessFlags := 26, nameIndex := 176, descriptorIndex := 173, attributes := #[] }, { accessFlags := 8, nameIndex := 344, descriptorIndex := 339, attributes := #[] }, { accessFlags := 8, nameIndex := 338, descriptorIndex := 339, attributes := #[] }, { accessFlags := 4120, nameIndex := 245, descriptorIndex := 246, attributes := #[] }])
  fields := #[{ name := "E", type := .double, accessFlags := 25, slot := 0, constantValue := 0 }, { name := "PI", type := .double, accessFlags := 25, slot := 1, constantValue := 0 }, { name := "TAU", type := .double, accessFlags := 25, slot := 2, constantValue := 0 }, { name := "DEGREES_TO_RADIANS", type := .double, accessFlags := 26, slot := 3, constantValue := 0 }, { name := "RADIANS_TO_DEGREES", type := .double, accessFlags := 26, slot := 4, constantValue := 0 }, { name := "negativeZeroFloatBits", type := .long, accessFlags := 26, slot := 5, constantValue := 0 }, { name := "negativeZeroDoubleBits", type := .long, accessFlags := 26, slot := 6, constantValue := 0 }, { name := "twoToTheDoubleScaleUp", type := .double, accessFlags := 8, slot := 7, constantValue := 0 }, { name := "twoToTheDoubleScaleDown", type := .double, accessFlags := 8, slot := 8, constantValue := 0 }, { name := "$assertionsDisabled", type := .boolean, accessFlags := 4120, slot := 9, constantValue := 0 }]
  methods := #[k19m0, k19m1, k19m2]
  instanceTypes := #[]
  staticTypes := #[.double, .double, .double, .double, .double, .long, .long, .double, .double, .boolean]
  resolved := Array.replicate 460 none
  statics := none }

def pool20 : Array CpInfo := pool [(2, .class_ 4), (1, u "java/lang/Object"), (0, u "<init>"), (0, u "()V"), (7, .class_ 16), (1, u "java/util/Arrays"), (57, .class_ 76), (1, u "java/util/Arrays$NaturalOrder"), (36, .class_ 115), (1, u "java/util/Arrays$LegacyMergeSort"), (1, u "Z"), (32, .methodref 151 152), (0, .class_ 153), (0, .nameAndType 154 155), (0, u "java/lang/System"), (0, u "arraycopy"), (0, u "(Ljava/lang/Object;ILjava/lang/Object;II)V"), (146, u "copyOf"), (1, .methodref 305 306), (0, .class_ 307), (0, .nameAndType 308 309), (0, u "java/lang/Math"), (0, u "min"), (0, u "(II)I"), (65, .class_ 376), (0, u "java/util/Arrays$ArrayList"), (68, u "$assertionsDisabled"), (269, u "MIN_ARRAY_SORT_GRAN"), (0, u "I"), (2, u "INSERTIONSORT_THRESHOLD"), (151, u "([II)[I"), (103, .class_ 976), (0, u "java/util/Arrays$ArrayItr")] 52

def k20m0 : Method := { name := "<init>", desc := "()V", sig := { parameters := [], returnType := none }, accessFlags := 2, code := none }
def k20c1 : Code := { maxStack := 6, maxLocals := 3, code := jdk_65_method_123_code, exceptionTable := #[], attributes := #[] }
def k20m1 : Method := { name := "copyOf", desc := "([II)[I", sig := { parameters := [(.array .int), .int], returnType := some (.array .int) }, accessFlags := 9, code := some k20c1 }
/-- java/util/Arrays -/
def k20 : Class := { plain "java/util/Arrays" (some 0) with
  accessFlags := 49
  interfaces := #[]
  cf := some (fileOf pool20 14 #[.nestMembers #[975, 375, 113, 74]] #[{ accessFlags := 2, nameIndex := 5, descriptorIndex := 6, attributes := #[] }, { accessFlags := 9, nameIndex := 302, descriptorIndex := 871, attributes := #[] }] 49 2 #[] #[{ accessFlags := 26, nameIndex := 715, descriptorIndex := 716, attributes := #[] }, { accessFlags := 26, nameIndex := 719, descriptorIndex := 716, attributes := #[] }, { accessFlags := 4120, nameIndex := 445, descriptorIndex := 117, attributes := #[] }])
  fields := #[{ name := "MIN_ARRAY_SORT_GRAN", type := .int, accessFlags := 26, slot := 0, constantValue := 0 }, { name := "INSERTIONSORT_THRESHOLD", type := .int, accessFlags := 26, slot := 1, constantValue := 0 }, { name := "$assertionsDisabled", type := .boolean, accessFlags := 4120, slot := 2, constantValue := 0 }]
  methods := #[k20m0, k20m1]
  instanceTypes := #[]
  staticTypes := #[.int, .int, .boolean]
  resolved := Array.replicate 1029 none
  statics := none }

def pool21 : Array CpInfo := pool [(2, .class_ 4), (1, u "java/lang/Object"), (0, u "<init>"), (0, u "()V"), (1, .class_ 10), (1, u "java/lang/System"), (0, u "allowSecurityManager"), (0, u "I"), (16, u "cons"), (0, u "Ljava/io/Console;"), (77, .class_ 110), (1, u "java/lang/System$CallersHolder"), (43, u "initialErrStream"), (0, u "Ljava/io/PrintStream;"), (19, u "security"), (0, u "Ljava/lang/SecurityManager;"), (31, .class_ 209), (0, u "java/lang/System$1"), (7, u "props"), (0, u "Ljava/util/Properties;"), (2, u "lineSeparator"), (0, u "Ljava/lang/String;"), (96, .class_ 321), (1, u "java/lang/System$LoggerFinder"), (5, .class_ 328), (0, u "java/lang/System$Logger"), (67, u "err"), (2, u "out"), (91, u "notSupportedJnuEncoding"), (15, u "in"), (17, u "initialIn"), (0, u "Ljava/io/InputStream;"), (35, u "bootLayer"), (0, u "Ljava/lang/ModuleLayer;"), (99, .class_ 664), (0, u "java/lang/System$2"), (9, u "NEVER"), (2, u "MAYBE"), (49, u "arraycopy"), (0, u "(Ljava/lang/Object;ILjava/lang/Object;II)V"), (72, .class_ 802), (0, u "java/lang/System$Logger$Level")] 31

def k21m0 : Method := { name := "<init>", desc := "()V", sig := { parameters := [], returnType := none }, accessFlags := 2, code := none }
def k21m1 : Method := { name := "arraycopy", desc := "(Ljava/lang/Object;ILjava/lang/Object;II)V", sig := { parameters := [(.object "java/lang/Object"), .int, (.object "java/lang/Object"), .int, .int], returnType := none }, accessFlags := 265, code := none }
/-- java/lang/System -/
def k21 : Class := { plain "java/lang/System" (some 0) with
  accessFlags := 49
  interfaces := #[]
  cf := some (fileOf pool21 8 #[.nestMembers #[319, 327, 801, 108, 663, 208]] #[{ accessFlags := 2, nameIndex := 5, descriptorIndex := 6, attributes := #[] }, { accessFlags := 265, nameIndex := 727, descriptorIndex := 728, attributes := #[] }] 49 2 #[] #[{ accessFlags := 25, nameIndex := 507, descriptorIndex := 526, attributes := #[] }, { accessFlags := 25, nameIndex := 399, descriptorIndex := 155, attributes := #[] }, { accessFlags := 25, nameIndex := 396, descriptorIndex := 155, attributes := #[] }, { accessFlags := 10, nameIndex := 525, descriptorIndex := 526, attributes := #[] }, { accessFlags := 26, nameIndex := 674, descriptorIndex := 12, attributes := #[] }, { accessFlags := 26, nameIndex := 677, descriptorIndex := 12, attributes := #[] }, { accessFlags := 10, nameIndex := 11, descriptorIndex := 12, attributes := #[] }, { accessFlags := 74, nameIndex := 175, descriptorIndex := 176, attributes := #[] }, { accessFlags := 10, nameIndex := 491, descriptorIndex := 222, attributes := #[] }, { accessFlags := 74, nameIndex := 29, descriptorIndex := 30, attributes := #[] }, { accessFlags := 74, nameIndex := 154, descriptorIndex := 155, attributes := #[] }, { accessFlags := 10, nameIndex := 217, descriptorIndex := 218, attributes := #[] }, { accessFlags := 10, nameIndex := 221, descriptorIndex := 222, attributes := #[] }, { accessFlags := 8, nameIndex := 562, descriptorIndex := 563, attributes := #[] }])
  fields := #[{ name := "in", type := (.object "java/io/InputStream"), accessFlags := 25, slot := 0, constantValue := 0 }, { name := "out", type := (.object "java/io/PrintStream"), accessFlags := 25, slot := 1, constantValue := 0 }, { name := "err", type := (.object "java/io/PrintStream"), accessFlags := 25, slot := 2, constantValue := 0 }, { name := "initialIn", type := (.object "java/io/InputStream"), accessFlags := 10, slot := 3, constantValue := 0 }, { name := "NEVER", type := .int, accessFlags := 26, slot := 4, constantValue := 0 }, { name := "MAYBE", type := .int, accessFlags := 26, slot := 5, constantValue := 0 }, { name := "allowSecurityManager", type := .int, accessFlags := 10, slot := 6, constantValue := 0 }, { name := "security", type := (.object "java/lang/SecurityManager"), accessFlags := 74, slot := 7, constantValue := 0 }, { name := "notSupportedJnuEncoding", type := (.object "java/lang/String"), accessFlags := 10, slot := 8, constantValue := 0 }, { name := "cons", type := (.object "java/io/Console"), accessFlags := 74, slot := 9, constantValue := 0 }, { name := "initialErrStream", type := (.object "java/io/PrintStream"), accessFlags := 74, slot := 10, constantValue := 0 }, { name := "props", type := (.object "java/util/Properties"), accessFlags := 10, slot := 11, constantValue := 0 }, { name := "lineSeparator", type := (.object "java/lang/String"), accessFlags := 10, slot := 12, constantValue := 0 }, { name := "bootLayer", type := (.object "java/lang/ModuleLayer"), accessFlags := 8, slot := 13, constantValue := 0 }]
  methods := #[k21m0, k21m1]
  instanceTypes := #[]
  staticTypes := #[(.object "java/io/InputStream"), (.object "java/io/PrintStream"), (.object "java/io/PrintStream"), (.object "java/io/InputStream"), .int, .int, .int, (.object "java/lang/SecurityManager"), (.object "java/lang/String"), (.object "java/io/Console"), (.object "java/io/PrintStream"), (.object "java/util/Properties"), (.object "java/lang/String"), (.object "java/lang/ModuleLayer")]
  resolved := Array.replicate 834 none
  statics := none }

def pool22 : Array CpInfo := pool [(2, .class_ 4), (1, u "java/lang/Object"), (0, u "<init>"), (0, u "()V"), (17, .class_ 26), (1, u "jdk/internal/util/Preconditions"), (6, u "checkIndex"), (13, u "checkFromToIndex"), (7, .class_ 56), (0, u "jdk/internal/util/Preconditions$4"), (57, .class_ 115), (0, u "jdk/internal/util/Preconditions$1"), (7, u "SIOOBE_FORMATTER"), (0, u "Ljava/util/function/BiFunction;"), (0, .class_ 126), (0, u "jdk/internal/util/Preconditions$2"), (3, u "AIOOBE_FORMATTER"), (0, .class_ 132), (0, u "jdk/internal/util/Preconditions$3"), (3, u "IOOBE_FORMATTER"), (41, u "(IILjava/util/function/BiFunction;)I"), (4, u "(IIILjava/util/function/BiFunction;)I")] 10

def k22m0 : Method := { name := "<init>", desc := "()V", sig := { parameters := [], returnType := none }, accessFlags := 1, code := none }
def k22c1 : Code := { maxStack := 3, maxLocals := 3, code := jdk_41_method_11_code, exceptionTable := #[], attributes := #[] }
def k22m1 : Method := { name := "checkIndex", desc := "(IILjava/util/function/BiFunction;)I", sig := { parameters := [.int, .int, (.object "java/util/function/BiFunction")], returnType := some .int }, accessFlags := 9, code := some k22c1 }
def k22c2 : Code := { maxStack := 4, maxLocals := 4, code := jdk_41_method_12_code, exceptionTable := #[], attributes := #[] }
def k22m2 : Method := { name := "checkFromToIndex", desc := "(IIILjava/util/function/BiFunction;)I", sig := { parameters := [.int, .int, .int, (.object "java/util/function/BiFunction")], returnType := some .int }, accessFlags := 9, code := some k22c2 }
/-- jdk/internal/util/Preconditions -/
def k22 : Class := { plain "jdk/internal/util/Preconditions" (some 0) with
  accessFlags := 33
  interfaces := #[]
  cf := some (fileOf pool22 24 #[.nestMembers #[55, 131, 125, 114]] #[{ accessFlags := 1, nameIndex := 5, descriptorIndex := 6, attributes := #[] }, { accessFlags := 9, nameIndex := 33, descriptorIndex := 178, attributes := #[] }, { accessFlags := 9, nameIndex := 47, descriptorIndex := 183, attributes := #[] }] 33 2 #[] #[{ accessFlags := 25, nameIndex := 123, descriptorIndex := 124, attributes := #[] }, { accessFlags := 25, nameIndex := 130, descriptorIndex := 124, attributes := #[] }, { accessFlags := 25, nameIndex := 136, descriptorIndex := 124, attributes := #[] }])
  fields := #[{ name := "SIOOBE_FORMATTER", type := (.object "java/util/function/BiFunction"), accessFlags := 25, slot := 0, constantValue := 0 }, { name := "AIOOBE_FORMATTER", type := (.object "java/util/function/BiFunction"), accessFlags := 25, slot := 1, constantValue := 0 }, { name := "IOOBE_FORMATTER", type := (.object "java/util/function/BiFunction"), accessFlags := 25, slot := 2, constantValue := 0 }]
  methods := #[k22m0, k22m1, k22m2]
  instanceTypes := #[]
  staticTypes := #[(.object "java/util/function/BiFunction"), (.object "java/util/function/BiFunction"), (.object "java/util/function/BiFunction")]
  resolved := Array.replicate 194 none
  statics := some 2 }

def pool23 : Array CpInfo := pool [(9, u "<init>"), (6, .class_ 18), (1, u "java/lang/Object"), (0, u "()V"), (1, .class_ 23), (1, u "jdk/internal/util/ArraysSupport"), (0, u "LOG2_ARRAY_LONG_INDEX_SCALE"), (0, u "I"), (2, u "U"), (0, u "Ljdk/internal/misc/Unsafe;"), (8, u "BIG_ENDIAN"), (0, u "Z"), (8, u "LOG2_BYTE_BIT_SIZE"), (4, u "LOG2_ARRAY_INT_INDEX_SCALE"), (54, u "JLA"), (0, u "Ljdk/internal/access/JavaLangAccess;"), (11, u "LOG2_ARRAY_BOOLEAN_INDEX_SCALE"), (9, u "LOG2_ARRAY_BYTE_INDEX_SCALE"), (5, u "LOG2_ARRAY_CHAR_INDEX_SCALE"), (5, u "LOG2_ARRAY_SHORT_INDEX_SCALE"), (18, u "LOG2_ARRAY_FLOAT_INDEX_SCALE"), (24, u "LOG2_ARRAY_DOUBLE_INDEX_SCALE"), (89, u "T_BOOLEAN"), (2, u "T_CHAR"), (1, u "T_FLOAT"), (1, u "T_DOUBLE"), (1, u "T_BYTE"), (1, u "T_SHORT"), (1, u "T_INT"), (1, u "T_LONG"), (1, u "SOFT_MAX_ARRAY_LENGTH")] 83

def k23m0 : Method := { name := "<init>", desc := "()V", sig := { parameters := [], returnType := none }, accessFlags := 2, code := none }
/-- jdk/internal/util/ArraysSupport -/
def k23 : Class := { plain "jdk/internal/util/ArraysSupport" (some 0) with
  accessFlags := 33
  interfaces := #[]
  cf := some (fileOf pool23 21 #[] #[{ accessFlags := 2, nameIndex := 9, descriptorIndex := 19, attributes := #[] }] 33 16 #[] #[{ accessFlags := 24, nameIndex := 28, descriptorIndex := 29, attributes := #[] }, { accessFlags := 26, nameIndex := 38, descriptorIndex := 39, attributes := #[] }, { accessFlags := 25, nameIndex := 121, descriptorIndex := 25, attributes := #[] }, { accessFlags := 25, nameIndex := 131, descriptorIndex := 25, attributes := #[] }, { accessFlags := 25, nameIndex := 137, descriptorIndex := 25, attributes := #[] }, { accessFlags := 25, nameIndex := 143, descriptorIndex := 25, attributes := #[] }, { accessFlags := 25, nameIndex := 53, descriptorIndex := 25, attributes := #[] }, { accessFlags := 25, nameIndex := 24, descriptorIndex := 25, attributes := #[] }, { accessFlags := 25, nameIndex := 162, descriptorIndex := 25, attributes := #[] }, { accessFlags := 25, nameIndex := 187, descriptorIndex := 25, attributes := #[] }, { accessFlags := 26, nameIndex := 48, descriptorIndex := 25, attributes := #[] }, { accessFlags := 25, nameIndex := 277, descriptorIndex := 25, attributes := #[] }, { accessFlags := 25, nameIndex := 280, descriptorIndex := 25, attributes := #[] }, { accessFlags := 25, nameIndex := 282, descriptorIndex := 25, attributes := #[] }, { accessFlags := 25, nameIndex := 284, descriptorIndex := 25, attributes := #[] }, { accessFlags := 25, nameIndex := 286, descriptorIndex := 25, attributes := #[] }, { accessFlags := 25, nameIndex := 288, descriptorIndex := 25, attributes := #[] }, { accessFlags := 25, nameIndex := 290, descriptorIndex := 25, attributes := #[] }, { accessFlags := 25, nameIndex := 292, descriptorIndex := 25, attributes := #[] }, { accessFlags := 26, nameIndex := 108, descriptorIndex := 109, attributes := #[] }, { accessFlags := 25, nameIndex := 294, descriptorIndex := 25, attributes := #[] }])
  fields := #[{ name := "U", type := (.object "jdk/internal/misc/Unsafe"), accessFlags := 24, slot := 0, constantValue := 0 }, { name := "BIG_ENDIAN", type := .boolean, accessFlags := 26, slot := 1, constantValue := 0 }, { name := "LOG2_ARRAY_BOOLEAN_INDEX_SCALE", type := .int, accessFlags := 25, slot := 2, constantValue := 0 }, { name := "LOG2_ARRAY_BYTE_INDEX_SCALE", type := .int, accessFlags := 25, slot := 3, constantValue := 0 }, { name := "LOG2_ARRAY_CHAR_INDEX_SCALE", type := .int, accessFlags := 25, slot := 4, constantValue := 0 }, { name := "LOG2_ARRAY_SHORT_INDEX_SCALE", type := .int, accessFlags := 25, slot := 5, constantValue := 0 }, { name := "LOG2_ARRAY_INT_INDEX_SCALE", type := .int, accessFlags := 25, slot := 6, constantValue := 0 }, { name := "LOG2_ARRAY_LONG_INDEX_SCALE", type := .int, accessFlags := 25, slot := 7, constantValue := 0 }, { name := "LOG2_ARRAY_FLOAT_INDEX_SCALE", type := .int, accessFlags := 25, slot := 8, constantValue := 0 }, { name := "LOG2_ARRAY_DOUBLE_INDEX_SCALE", type := .int, accessFlags := 25, slot := 9, constantValue := 0 }, { name := "LOG2_BYTE_BIT_SIZE", type := .int, accessFlags := 26, slot := 10, constantValue := 0 }, { name := "T_BOOLEAN", type := .int, accessFlags := 25, slot := 11, constantValue := 0 }, { name := "T_CHAR", type := .int, accessFlags := 25, slot := 12, constantValue := 0 }, { name := "T_FLOAT", type := .int, accessFlags := 25, slot := 13, constantValue := 0 }, { name := "T_DOUBLE", type := .int, accessFlags := 25, slot := 14, constantValue := 0 }, { name := "T_BYTE", type := .int, accessFlags := 25, slot := 15, constantValue := 0 }, { name := "T_SHORT", type := .int, accessFlags := 25, slot := 16, constantValue := 0 }, { name := "T_INT", type := .int, accessFlags := 25, slot := 17, constantValue := 0 }, { name := "T_LONG", type := .int, accessFlags := 25, slot := 18, constantValue := 0 }, { name := "JLA", type := (.object "jdk/internal/access/JavaLangAccess"), accessFlags := 26, slot := 19, constantValue := 0 }, { name := "SOFT_MAX_ARRAY_LENGTH", type := .int, accessFlags := 25, slot := 20, constantValue := 0 }]
  methods := #[k23m0]
  instanceTypes := #[]
  staticTypes := #[(.object "jdk/internal/misc/Unsafe"), .boolean, .int, .int, .int, .int, .int, .int, .int, .int, .int, .int, .int, .int, .int, .int, .int, .int, .int, (.object "jdk/internal/access/JavaLangAccess"), .int]
  resolved := Array.replicate 378 none
  statics := none }

def pool24 : Array CpInfo := pool [(1, u "java/lang/Cloneable"), (0, .class_ 1), (0, u "java/lang/Object"), (0, .class_ 3)] 3

/-- java/lang/Cloneable -/
def k24 : Class := { plain "java/lang/Cloneable" (some 0) with
  accessFlags := 1537
  interfaces := #[]
  cf := some (fileOf pool24 2 #[] #[] 1537 4 #[] #[])
  fields := #[]
  methods := #[]
  instanceTypes := #[]
  staticTypes := #[]
  resolved := Array.replicate 8 none
  statics := none }

/-- the primitive byte -/
def k25 : Class := { plain "byte" none with kind := .primitive 'B', accessFlags := 0x411 }
/-- [B -/
def k26 : Class := { plain "[B" (some 0) with kind := .array 25 .byte, interfaces := #[24, 3], accessFlags := 1041 }

/-- the primitive char -/
def k27 : Class := { plain "char" none with kind := .primitive 'C', accessFlags := 0x411 }
/-- [C -/
def k28 : Class := { plain "[C" (some 0) with kind := .array 27 .char, interfaces := #[24, 3], accessFlags := 1041 }

/-- the primitive int -/
def k29 : Class := { plain "int" none with kind := .primitive 'I', accessFlags := 0x411 }
/-- [I -/
def k30 : Class := { plain "[I" (some 0) with kind := .array 29 .int, interfaces := #[24, 3], accessFlags := 1041 }

def heap : Heap := #[{ cls := 8, slots := #[.long 0, .int 1, .null, .int 0, .null, .int 0, .int 0], vm := .statics 8 },
  { cls := 9, slots := #[.int 0, .int 8, .int 0, .int 1], vm := .statics 9 },
  { cls := 22, slots := #[.null, .null, .null], vm := .statics 22 }]
def classes : Array Class := #[k0, k1, k2, k3, k4, k5, k6, k7, k8, k9, k10, k11, k12, k13, k14, k15, k16, k17, k18, k19, k20, k21, k22, k23, k24, k25, k26, k27, k28, k29, k30]
def interned : List (Array UInt16 × Addr) := []
def slotsUsed : Nat := 14
def theMethod : MethodId := ⟨1, 1⟩
def args0 : Array Value := #[.int 5, .int 7, .int 9, .int 1, .int 6, .int 3]
def aboutOver (below : List Frame) : State where
  vm := { classes := classes, interned := interned.toArray }
  heap := heap
  slotsUsed := slotsUsed
  threads := #[{ frames := .invoking theMethod args0 :: below }]
def below0 : List Frame := [.native { method := ⟨0, 0⟩, args := #[] }]
def about1 : State := aboutOver below0
def p0 : Program := .bare "" "" ""
def e0 : Env := launch0.env 0 0 0
theorem w_frames : about1.frames = Frame.invoking theMethod args0 :: below0 := rfl
set_option maxRecDepth 65536 in
theorem w_args : argsFit about1.vm theMethod args0 = true := by decide +kernel
set_option maxRecDepth 65536 in
theorem w_heap : heapFits about1 = true := by decide +kernel
set_option maxRecDepth 65536 in
theorem w_runnable : about1.curStatus? = some .runnable := by decide +kernel
set_option maxRecDepth 65536 in
theorem w_alone : about1.alone = true := by decide +kernel
set_option maxRecDepth 65536 in
theorem w_named : about1.methodNamed? x = some theMethod := by decide +kernel
set_option maxRecDepth 65536 in
theorem w_hears : about1.hears theMethod below0 = true := by decide +kernel
set_option maxRecDepth 65536 in
theorem w_ripe : about1.ripe theMethod args0 below0 = true := by decide +kernel
theorem w_running : about1.status = .running := rfl
set_option maxRecDepth 65536 in
theorem w_room : about1.hasRoom e0.platform room_1 = true :=
  launch0.hasRoom_least _ room_1 (by decide +kernel) (by decide +kernel) (by decide +kernel) (by decide +kernel) (by decide +kernel) (by decide +kernel)
theorem allAtoms_all (ts : List Jvm.Cond) (a : Array Jvm.Value) (st : Jvm.State) : (allAtoms ts).before a st = ts.all (fun c => c.before a st) := by
  induction ts with
  | nil => rfl
  | cons c t ih =>
    show (Jvm.Cond.and c (allAtoms t)).before a st = _
    rw [Jvm.Cond.before_and, ih, List.all_cons]
def words1 : List Jvm.Cond := Jvm.Cond.code x code maxLocals ret :: tables_1
/-- a 'code' word, met by the world's own term for the bytes: nothing is compared byte by byte -/
theorem code_word {y : MethodName} {bytes : ByteArray} {mx : Nat} {rt : Option FieldType} {a : Array Value} {s : State} {m : MethodId} {meth : Method} {c : Code} (h1 : s.methodNamed? y = some m) (h2 : s.vm.method? m = some meth) (h3 : meth.code = some c) (h4 : c.code = bytes)
    (h5 : (c.maxLocals == mx && c.exceptionTable.isEmpty && decide (c.maxStack ≤ mostOperands) && decide (meth.sig.returnType = rt) && !meth.locks && decide (parseMethodDescriptor y.desc = some meth.sig)) = true) : (Jvm.Cond.code y bytes mx rt).before a s = true := by
  simp only [Bool.and_eq_true, beq_iff_eq, Bool.not_eq_true', decide_eq_true_eq] at h5
  obtain ⟨⟨⟨⟨⟨g1, g2⟩, g3⟩, g4⟩, g5⟩, g6⟩ := h5
  simp [Cond.before, Cond.holds, Cond.value, h1, h2, h3, h4, g1, g2, g3, g4, g5, g6]
def isCode : Jvm.Cond → Bool
  | .code _ _ _ _ => true
  | _ => false
theorem all_split {L : List Jvm.Cond} {P : Jvm.Cond → Bool} (h1 : L.all (fun c => isCode c || P c) = true) (h2 : ∀ c ∈ L.filter isCode, P c = true) : L.all P = true := by
  refine List.all_eq_true.mpr fun c hc => ?_
  have h := List.all_eq_true.mp h1 c hc
  rcases Bool.eq_false_or_eq_true (isCode c) with hi | hi
  · exact h2 c (List.mem_filter.mpr ⟨hc, hi⟩)
  · simpa [hi] using h
set_option maxRecDepth 65536 in
theorem w_c0 : (Jvm.Cond.code x code maxLocals ret).before args0 about1 = true := code_word (m := ⟨1, 1⟩) (meth := k1m1) (c := k1c1) (by decide +kernel) rfl rfl rfl (by decide +kernel)
set_option maxRecDepth 65536 in
theorem w_c1 : (Jvm.Cond.code ({ cls := "com/example/restate/restate/WordsHashPinLaw", name := "chr", desc := "(I)C" } : Jvm.MethodName) method_3_code (2 : Nat) (Option.some Jvm.ClassFile.FieldType.char)).before args0 about1 = true := code_word (m := ⟨1, 2⟩) (meth := k1m2) (c := k1c2) (by decide +kernel) rfl rfl rfl (by decide +kernel)
set_option maxRecDepth 65536 in
theorem w_c2 : (Jvm.Cond.code ({ cls := "com/example/restate/restate/WordsHashPinLaw", name := "term", desc := "([CIII)I" } : Jvm.MethodName) method_4_code (4 : Nat) (Option.some Jvm.ClassFile.FieldType.int)).before args0 about1 = true := code_word (m := ⟨1, 3⟩) (meth := k1m3) (c := k1c3) (by decide +kernel) rfl rfl rfl (by decide +kernel)
set_option maxRecDepth 65536 in
theorem w_c3 : (Jvm.Cond.code ({ cls := "com/example/restate/restate/WordsHashPinLaw", name := "pow31", desc := "(I)I" } : Jvm.MethodName) method_5_code (1 : Nat) (Option.some Jvm.ClassFile.FieldType.int)).before args0 about1 = true := code_word (m := ⟨1, 4⟩) (meth := k1m4) (c := k1c4) (by decide +kernel) rfl rfl rfl (by decide +kernel)
set_option maxRecDepth 65536 in
theorem w_c4 : (Jvm.Cond.code ({ cls := "java/lang/String", name := "<init>", desc := "([C)V" } : Jvm.MethodName) jdk_42_method_3_code (2 : Nat) (Option.none : Option Jvm.ClassFile.FieldType)).before args0 about1 = true := code_word (m := ⟨8, 1⟩) (meth := k8m1) (c := k8c1) (by decide +kernel) rfl rfl rfl (by decide +kernel)
set_option maxRecDepth 65536 in
theorem w_c5 : (Jvm.Cond.code ({ cls := "java/lang/String", name := "<init>", desc := "([CIILjava/lang/Void;)V" } : Jvm.MethodName) jdk_42_method_149_code (6 : Nat) (Option.none : Option Jvm.ClassFile.FieldType)).before args0 about1 = true := code_word (m := ⟨8, 7⟩) (meth := k8m7) (c := k8c7) (by decide +kernel) rfl rfl rfl (by decide +kernel)
set_option maxRecDepth 65536 in
theorem w_c6 : (Jvm.Cond.code ({ cls := "java/lang/Object", name := "<init>", desc := "()V" } : Jvm.MethodName) object_method_1_code (1 : Nat) (Option.none : Option Jvm.ClassFile.FieldType)).before args0 about1 = true := code_word (m := ⟨0, 0⟩) (meth := k0m0) (c := k0c0) (by decide +kernel) rfl rfl rfl (by decide +kernel)
set_option maxRecDepth 65536 in
theorem w_c7 : (Jvm.Cond.code ({ cls := "java/lang/StringUTF16", name := "compress", desc := "([CII)[B" } : Jvm.MethodName) jdk_52_method_16_code (6 : Nat) (Option.some (Jvm.ClassFile.FieldType.array Jvm.ClassFile.FieldType.byte))).before args0 about1 = true := code_word (m := ⟨9, 8⟩) (meth := k9m8) (c := k9c8) (by decide +kernel) rfl rfl rfl (by decide +kernel)
set_option maxRecDepth 65536 in
theorem w_c8 : (Jvm.Cond.code ({ cls := "java/lang/StringUTF16", name := "compress", desc := "([CI[BII)I" } : Jvm.MethodName) jdk_52_method_21_code (7 : Nat) (Option.some Jvm.ClassFile.FieldType.int)).before args0 about1 = true := code_word (m := ⟨9, 9⟩) (meth := k9m9) (c := k9c9) (by decide +kernel) rfl rfl rfl (by decide +kernel)
set_option maxRecDepth 65536 in
theorem w_c9 : (Jvm.Cond.code ({ cls := "java/lang/StringUTF16", name := "coderFromArrayLen", desc := "([BI)B" } : Jvm.MethodName) jdk_52_method_15_code (2 : Nat) (Option.some Jvm.ClassFile.FieldType.byte)).before args0 about1 = true := code_word (m := ⟨9, 7⟩) (meth := k9m7) (c := k9c7) (by decide +kernel) rfl rfl rfl (by decide +kernel)
set_option maxRecDepth 65536 in
theorem w_c10 : (Jvm.Cond.code ({ cls := "com/example/restate/restate/Words", name := "<init>", desc := "(Ljava/lang/String;)V" } : Jvm.MethodName) prog_113_method_1_code (2 : Nat) (Option.none : Option Jvm.ClassFile.FieldType)).before args0 about1 = true := code_word (m := ⟨2, 0⟩) (meth := k2m0) (c := k2c0) (by decide +kernel) rfl rfl rfl (by decide +kernel)
set_option maxRecDepth 65536 in
theorem w_c11 : (Jvm.Cond.code ({ cls := "java/lang/String", name := "isEmpty", desc := "()Z" } : Jvm.MethodName) jdk_42_method_55_code (1 : Nat) (Option.some Jvm.ClassFile.FieldType.boolean)).before args0 about1 = true := code_word (m := ⟨8, 3⟩) (meth := k8m3) (c := k8c3) (by decide +kernel) rfl rfl rfl (by decide +kernel)
set_option maxRecDepth 65536 in
theorem w_c12 : (Jvm.Cond.code ({ cls := "com/example/restate/restate/TextLines", name := "starts", desc := "(Ljava/lang/String;C)[I" } : Jvm.MethodName) prog_98_method_2_code (5 : Nat) (Option.some (Jvm.ClassFile.FieldType.array Jvm.ClassFile.FieldType.int))).before args0 about1 = true := code_word (m := ⟨17, 0⟩) (meth := k17m0) (c := k17c0) (by decide +kernel) rfl rfl rfl (by decide +kernel)
set_option maxRecDepth 65536 in
theorem w_c13 : (Jvm.Cond.code ({ cls := "java/lang/String", name := "indexOf", desc := "(I)I" } : Jvm.MethodName) jdk_42_method_79_code (2 : Nat) (Option.some Jvm.ClassFile.FieldType.int)).before args0 about1 = true := code_word (m := ⟨8, 5⟩) (meth := k8m5) (c := k8c5) (by decide +kernel) rfl rfl rfl (by decide +kernel)
set_option maxRecDepth 65536 in
theorem w_c14 : (Jvm.Cond.code ({ cls := "java/lang/String", name := "indexOf", desc := "(II)I" } : Jvm.MethodName) jdk_42_method_80_code (3 : Nat) (Option.some Jvm.ClassFile.FieldType.int)).before args0 about1 = true := code_word (m := ⟨8, 6⟩) (meth := k8m6) (c := k8c6) (by decide +kernel) rfl rfl rfl (by decide +kernel)
set_option maxRecDepth 65536 in
theorem w_c15 : (Jvm.Cond.code ({ cls := "java/lang/String", name := "isLatin1", desc := "()Z" } : Jvm.MethodName) jdk_42_method_154_code (1 : Nat) (Option.some Jvm.ClassFile.FieldType.boolean)).before args0 about1 = true := code_word (m := ⟨8, 9⟩) (meth := k8m9) (c := k8c9) (by decide +kernel) rfl rfl rfl (by decide +kernel)
set_option maxRecDepth 65536 in
theorem w_c16 : (Jvm.Cond.code ({ cls := "java/lang/String", name := "length", desc := "()I" } : Jvm.MethodName) jdk_42_method_54_code (1 : Nat) (Option.some Jvm.ClassFile.FieldType.int)).before args0 about1 = true := code_word (m := ⟨8, 2⟩) (meth := k8m2) (c := k8c2) (by decide +kernel) rfl rfl rfl (by decide +kernel)
set_option maxRecDepth 65536 in
theorem w_c17 : (Jvm.Cond.code ({ cls := "java/lang/String", name := "coder", desc := "()B" } : Jvm.MethodName) jdk_42_method_152_code (1 : Nat) (Option.some Jvm.ClassFile.FieldType.byte)).before args0 about1 = true := code_word (m := ⟨8, 8⟩) (meth := k8m8) (c := k8c8) (by decide +kernel) rfl rfl rfl (by decide +kernel)
set_option maxRecDepth 65536 in
theorem w_c18 : (Jvm.Cond.code ({ cls := "java/lang/StringLatin1", name := "indexOf", desc := "([BIII)I" } : Jvm.MethodName) jdk_43_method_22_code (4 : Nat) (Option.some Jvm.ClassFile.FieldType.int)).before args0 about1 = true := code_word (m := ⟨18, 3⟩) (meth := k18m3) (c := k18c3) (by decide +kernel) rfl rfl rfl (by decide +kernel)
set_option maxRecDepth 65536 in
theorem w_c19 : (Jvm.Cond.code ({ cls := "java/lang/StringLatin1", name := "canEncode", desc := "(I)Z" } : Jvm.MethodName) jdk_43_method_4_code (1 : Nat) (Option.some Jvm.ClassFile.FieldType.boolean)).before args0 about1 = true := code_word (m := ⟨18, 2⟩) (meth := k18m2) (c := k18c2) (by decide +kernel) rfl rfl rfl (by decide +kernel)
set_option maxRecDepth 65536 in
theorem w_c20 : (Jvm.Cond.code ({ cls := "java/lang/Math", name := "max", desc := "(II)I" } : Jvm.MethodName) jdk_29_method_65_code (2 : Nat) (Option.some Jvm.ClassFile.FieldType.int)).before args0 about1 = true := code_word (m := ⟨19, 1⟩) (meth := k19m1) (c := k19c1) (by decide +kernel) rfl rfl rfl (by decide +kernel)
set_option maxRecDepth 65536 in
theorem w_c21 : (Jvm.Cond.code ({ cls := "java/lang/Math", name := "min", desc := "(II)I" } : Jvm.MethodName) jdk_29_method_69_code (2 : Nat) (Option.some Jvm.ClassFile.FieldType.int)).before args0 about1 = true := code_word (m := ⟨19, 2⟩) (meth := k19m2) (c := k19c2) (by decide +kernel) rfl rfl rfl (by decide +kernel)
set_option maxRecDepth 65536 in
theorem w_c22 : (Jvm.Cond.code ({ cls := "java/lang/StringLatin1", name := "indexOfChar", desc := "([BIII)I" } : Jvm.MethodName) jdk_43_method_23_code (6 : Nat) (Option.some Jvm.ClassFile.FieldType.int)).before args0 about1 = true := code_word (m := ⟨18, 4⟩) (meth := k18m4) (c := k18c4) (by decide +kernel) rfl rfl rfl (by decide +kernel)
set_option maxRecDepth 65536 in
theorem w_c23 : (Jvm.Cond.code ({ cls := "java/util/Arrays", name := "copyOf", desc := "([II)[I" } : Jvm.MethodName) jdk_65_method_123_code (3 : Nat) (Option.some (Jvm.ClassFile.FieldType.array Jvm.ClassFile.FieldType.int))).before args0 about1 = true := code_word (m := ⟨20, 1⟩) (meth := k20m1) (c := k20c1) (by decide +kernel) rfl rfl rfl (by decide +kernel)
set_option maxRecDepth 65536 in
theorem w_c24 : (Jvm.Cond.code ({ cls := "com/example/restate/restate/Words", name := "size", desc := "()I" } : Jvm.MethodName) prog_113_method_2_code (1 : Nat) (Option.some Jvm.ClassFile.FieldType.int)).before args0 about1 = true := code_word (m := ⟨2, 1⟩) (meth := k2m1) (c := k2c1) (by decide +kernel) rfl rfl rfl (by decide +kernel)
set_option maxRecDepth 65536 in
theorem w_c25 : (Jvm.Cond.code ({ cls := "com/example/restate/restate/Words", name := "hash", desc := "(I)I" } : Jvm.MethodName) prog_113_method_3_code (4 : Nat) (Option.some Jvm.ClassFile.FieldType.int)).before args0 about1 = true := code_word (m := ⟨2, 2⟩) (meth := k2m2) (c := k2c2) (by decide +kernel) rfl rfl rfl (by decide +kernel)
set_option maxRecDepth 65536 in
theorem w_c26 : (Jvm.Cond.code ({ cls := "java/lang/String", name := "charAt", desc := "(I)C" } : Jvm.MethodName) jdk_42_method_56_code (2 : Nat) (Option.some Jvm.ClassFile.FieldType.char)).before args0 about1 = true := code_word (m := ⟨8, 4⟩) (meth := k8m4) (c := k8c4) (by decide +kernel) rfl rfl rfl (by decide +kernel)
set_option maxRecDepth 65536 in
theorem w_c27 : (Jvm.Cond.code ({ cls := "java/lang/StringLatin1", name := "charAt", desc := "([BI)C" } : Jvm.MethodName) jdk_43_method_2_code (2 : Nat) (Option.some Jvm.ClassFile.FieldType.char)).before args0 about1 = true := code_word (m := ⟨18, 1⟩) (meth := k18m1) (c := k18c1) (by decide +kernel) rfl rfl rfl (by decide +kernel)
set_option maxRecDepth 65536 in
theorem w_c28 : (Jvm.Cond.code ({ cls := "java/lang/String", name := "checkIndex", desc := "(II)V" } : Jvm.MethodName) jdk_42_method_155_code (2 : Nat) (Option.none : Option Jvm.ClassFile.FieldType)).before args0 about1 = true := code_word (m := ⟨8, 10⟩) (meth := k8m10) (c := k8c10) (by decide +kernel) rfl rfl rfl (by decide +kernel)
set_option maxRecDepth 65536 in
theorem w_c29 : (Jvm.Cond.code ({ cls := "jdk/internal/util/Preconditions", name := "checkIndex", desc := "(IILjava/util/function/BiFunction;)I" } : Jvm.MethodName) jdk_41_method_11_code (3 : Nat) (Option.some Jvm.ClassFile.FieldType.int)).before args0 about1 = true := code_word (m := ⟨22, 1⟩) (meth := k22m1) (c := k22c1) (by decide +kernel) rfl rfl rfl (by decide +kernel)
set_option maxRecDepth 65536 in
theorem w_c30 : (Jvm.Cond.code ({ cls := "java/lang/StringUTF16", name := "toBytes", desc := "([CII)[B" } : Jvm.MethodName) jdk_52_method_14_code (5 : Nat) (Option.some (Jvm.ClassFile.FieldType.array Jvm.ClassFile.FieldType.byte))).before args0 about1 = true := code_word (m := ⟨9, 6⟩) (meth := k9m6) (c := k9c6) (by decide +kernel) rfl rfl rfl (by decide +kernel)
set_option maxRecDepth 65536 in
theorem w_c31 : (Jvm.Cond.code ({ cls := "java/lang/StringUTF16", name := "newBytesFor", desc := "(I)[B" } : Jvm.MethodName) jdk_52_method_2_code (1 : Nat) (Option.some (Jvm.ClassFile.FieldType.array Jvm.ClassFile.FieldType.byte))).before args0 about1 = true := code_word (m := ⟨9, 1⟩) (meth := k9m1) (c := k9c1) (by decide +kernel) rfl rfl rfl (by decide +kernel)
set_option maxRecDepth 65536 in
theorem w_c32 : (Jvm.Cond.code ({ cls := "java/lang/StringUTF16", name := "newBytesLength", desc := "(I)I" } : Jvm.MethodName) jdk_52_method_3_code (1 : Nat) (Option.some Jvm.ClassFile.FieldType.int)).before args0 about1 = true := code_word (m := ⟨9, 2⟩) (meth := k9m2) (c := k9c2) (by decide +kernel) rfl rfl rfl (by decide +kernel)
set_option maxRecDepth 65536 in
theorem w_c33 : (Jvm.Cond.code ({ cls := "java/lang/StringUTF16", name := "putChar", desc := "([BII)V" } : Jvm.MethodName) jdk_52_method_4_code (3 : Nat) (Option.none : Option Jvm.ClassFile.FieldType)).before args0 about1 = true := code_word (m := ⟨9, 3⟩) (meth := k9m3) (c := k9c3) (by decide +kernel) rfl rfl rfl (by decide +kernel)
set_option maxRecDepth 65536 in
theorem w_c34 : (Jvm.Cond.code ({ cls := "java/lang/StringUTF16", name := "getChar", desc := "([BI)C" } : Jvm.MethodName) jdk_52_method_5_code (2 : Nat) (Option.some Jvm.ClassFile.FieldType.char)).before args0 about1 = true := code_word (m := ⟨9, 4⟩) (meth := k9m4) (c := k9c4) (by decide +kernel) rfl rfl rfl (by decide +kernel)
set_option maxRecDepth 65536 in
theorem w_c35 : (Jvm.Cond.code ({ cls := "java/lang/StringUTF16", name := "indexOf", desc := "([BIII)I" } : Jvm.MethodName) jdk_52_method_40_code (4 : Nat) (Option.some Jvm.ClassFile.FieldType.int)).before args0 about1 = true := code_word (m := ⟨9, 10⟩) (meth := k9m10) (c := k9c10) (by decide +kernel) rfl rfl rfl (by decide +kernel)
set_option maxRecDepth 65536 in
theorem w_c36 : (Jvm.Cond.code ({ cls := "java/lang/StringUTF16", name := "indexOfChar", desc := "([BIII)I" } : Jvm.MethodName) jdk_52_method_47_code (4 : Nat) (Option.some Jvm.ClassFile.FieldType.int)).before args0 about1 = true := code_word (m := ⟨9, 11⟩) (meth := k9m11) (c := k9c11) (by decide +kernel) rfl rfl rfl (by decide +kernel)
set_option maxRecDepth 65536 in
theorem w_c37 : (Jvm.Cond.code ({ cls := "java/lang/StringUTF16", name := "checkBoundsBeginEnd", desc := "(II[B)V" } : Jvm.MethodName) jdk_52_method_93_code (3 : Nat) (Option.none : Option Jvm.ClassFile.FieldType)).before args0 about1 = true := code_word (m := ⟨9, 15⟩) (meth := k9m15) (c := k9c15) (by decide +kernel) rfl rfl rfl (by decide +kernel)
set_option maxRecDepth 65536 in
theorem w_c38 : (Jvm.Cond.code ({ cls := "java/lang/StringUTF16", name := "length", desc := "([B)I" } : Jvm.MethodName) jdk_52_method_6_code (1 : Nat) (Option.some Jvm.ClassFile.FieldType.int)).before args0 about1 = true := code_word (m := ⟨9, 5⟩) (meth := k9m5) (c := k9c5) (by decide +kernel) rfl rfl rfl (by decide +kernel)
set_option maxRecDepth 65536 in
theorem w_c39 : (Jvm.Cond.code ({ cls := "java/lang/String", name := "checkBoundsBeginEnd", desc := "(III)V" } : Jvm.MethodName) jdk_42_method_158_code (3 : Nat) (Option.none : Option Jvm.ClassFile.FieldType)).before args0 about1 = true := code_word (m := ⟨8, 11⟩) (meth := k8m11) (c := k8c11) (by decide +kernel) rfl rfl rfl (by decide +kernel)
set_option maxRecDepth 65536 in
theorem w_c40 : (Jvm.Cond.code ({ cls := "jdk/internal/util/Preconditions", name := "checkFromToIndex", desc := "(IIILjava/util/function/BiFunction;)I" } : Jvm.MethodName) jdk_41_method_12_code (4 : Nat) (Option.some Jvm.ClassFile.FieldType.int)).before args0 about1 = true := code_word (m := ⟨22, 2⟩) (meth := k22m2) (c := k22c2) (by decide +kernel) rfl rfl rfl (by decide +kernel)
set_option maxRecDepth 65536 in
theorem w_c41 : (Jvm.Cond.code ({ cls := "java/lang/StringUTF16", name := "indexOfCharUnsafe", desc := "([BIII)I" } : Jvm.MethodName) jdk_52_method_48_code (5 : Nat) (Option.some Jvm.ClassFile.FieldType.int)).before args0 about1 = true := code_word (m := ⟨9, 12⟩) (meth := k9m12) (c := k9c12) (by decide +kernel) rfl rfl rfl (by decide +kernel)
set_option maxRecDepth 65536 in
theorem w_c42 : (Jvm.Cond.code ({ cls := "java/lang/StringUTF16", name := "charAt", desc := "([BI)C" } : Jvm.MethodName) jdk_52_method_83_code (2 : Nat) (Option.some Jvm.ClassFile.FieldType.char)).before args0 about1 = true := code_word (m := ⟨9, 13⟩) (meth := k9m13) (c := k9c13) (by decide +kernel) rfl rfl rfl (by decide +kernel)
set_option maxRecDepth 65536 in
theorem w_c43 : (Jvm.Cond.code ({ cls := "java/lang/StringUTF16", name := "checkIndex", desc := "(I[B)V" } : Jvm.MethodName) jdk_52_method_91_code (2 : Nat) (Option.none : Option Jvm.ClassFile.FieldType)).before args0 about1 = true := code_word (m := ⟨9, 14⟩) (meth := k9m14) (c := k9c14) (by decide +kernel) rfl rfl rfl (by decide +kernel)
def codes1 : List Jvm.Cond := [Jvm.Cond.code x code maxLocals ret, Jvm.Cond.code ({ cls := "com/example/restate/restate/WordsHashPinLaw", name := "chr", desc := "(I)C" } : Jvm.MethodName) method_3_code (2 : Nat) (Option.some Jvm.ClassFile.FieldType.char), Jvm.Cond.code ({ cls := "com/example/restate/restate/WordsHashPinLaw", name := "term", desc := "([CIII)I" } : Jvm.MethodName) method_4_code (4 : Nat) (Option.some Jvm.ClassFile.FieldType.int), Jvm.Cond.code ({ cls := "com/example/restate/restate/WordsHashPinLaw", name := "pow31", desc := "(I)I" } : Jvm.MethodName) method_5_code (1 : Nat) (Option.some Jvm.ClassFile.FieldType.int), Jvm.Cond.code ({ cls := "java/lang/String", name := "<init>", desc := "([C)V" } : Jvm.MethodName) jdk_42_method_3_code (2 : Nat) (Option.none : Option Jvm.ClassFile.FieldType), Jvm.Cond.code ({ cls := "java/lang/String", name := "<init>", desc := "([CIILjava/lang/Void;)V" } : Jvm.MethodName) jdk_42_method_149_code (6 : Nat) (Option.none : Option Jvm.ClassFile.FieldType), Jvm.Cond.code ({ cls := "java/lang/Object", name := "<init>", desc := "()V" } : Jvm.MethodName) object_method_1_code (1 : Nat) (Option.none : Option Jvm.ClassFile.FieldType), Jvm.Cond.code ({ cls := "java/lang/StringUTF16", name := "compress", desc := "([CII)[B" } : Jvm.MethodName) jdk_52_method_16_code (6 : Nat) (Option.some (Jvm.ClassFile.FieldType.array Jvm.ClassFile.FieldType.byte)), Jvm.Cond.code ({ cls := "java/lang/StringUTF16", name := "compress", desc := "([CI[BII)I" } : Jvm.MethodName) jdk_52_method_21_code (7 : Nat) (Option.some Jvm.ClassFile.FieldType.int), Jvm.Cond.code ({ cls := "java/lang/StringUTF16", name := "coderFromArrayLen", desc := "([BI)B" } : Jvm.MethodName) jdk_52_method_15_code (2 : Nat) (Option.some Jvm.ClassFile.FieldType.byte), Jvm.Cond.code ({ cls := "com/example/restate/restate/Words", name := "<init>", desc := "(Ljava/lang/String;)V" } : Jvm.MethodName) prog_113_method_1_code (2 : Nat) (Option.none : Option Jvm.ClassFile.FieldType), Jvm.Cond.code ({ cls := "java/lang/String", name := "isEmpty", desc := "()Z" } : Jvm.MethodName) jdk_42_method_55_code (1 : Nat) (Option.some Jvm.ClassFile.FieldType.boolean), Jvm.Cond.code ({ cls := "com/example/restate/restate/TextLines", name := "starts", desc := "(Ljava/lang/String;C)[I" } : Jvm.MethodName) prog_98_method_2_code (5 : Nat) (Option.some (Jvm.ClassFile.FieldType.array Jvm.ClassFile.FieldType.int)), Jvm.Cond.code ({ cls := "java/lang/String", name := "indexOf", desc := "(I)I" } : Jvm.MethodName) jdk_42_method_79_code (2 : Nat) (Option.some Jvm.ClassFile.FieldType.int), Jvm.Cond.code ({ cls := "java/lang/String", name := "indexOf", desc := "(II)I" } : Jvm.MethodName) jdk_42_method_80_code (3 : Nat) (Option.some Jvm.ClassFile.FieldType.int), Jvm.Cond.code ({ cls := "java/lang/String", name := "isLatin1", desc := "()Z" } : Jvm.MethodName) jdk_42_method_154_code (1 : Nat) (Option.some Jvm.ClassFile.FieldType.boolean), Jvm.Cond.code ({ cls := "java/lang/String", name := "length", desc := "()I" } : Jvm.MethodName) jdk_42_method_54_code (1 : Nat) (Option.some Jvm.ClassFile.FieldType.int), Jvm.Cond.code ({ cls := "java/lang/String", name := "coder", desc := "()B" } : Jvm.MethodName) jdk_42_method_152_code (1 : Nat) (Option.some Jvm.ClassFile.FieldType.byte), Jvm.Cond.code ({ cls := "java/lang/StringLatin1", name := "indexOf", desc := "([BIII)I" } : Jvm.MethodName) jdk_43_method_22_code (4 : Nat) (Option.some Jvm.ClassFile.FieldType.int), Jvm.Cond.code ({ cls := "java/lang/StringLatin1", name := "canEncode", desc := "(I)Z" } : Jvm.MethodName) jdk_43_method_4_code (1 : Nat) (Option.some Jvm.ClassFile.FieldType.boolean), Jvm.Cond.code ({ cls := "java/lang/Math", name := "max", desc := "(II)I" } : Jvm.MethodName) jdk_29_method_65_code (2 : Nat) (Option.some Jvm.ClassFile.FieldType.int), Jvm.Cond.code ({ cls := "java/lang/Math", name := "min", desc := "(II)I" } : Jvm.MethodName) jdk_29_method_69_code (2 : Nat) (Option.some Jvm.ClassFile.FieldType.int), Jvm.Cond.code ({ cls := "java/lang/StringLatin1", name := "indexOfChar", desc := "([BIII)I" } : Jvm.MethodName) jdk_43_method_23_code (6 : Nat) (Option.some Jvm.ClassFile.FieldType.int), Jvm.Cond.code ({ cls := "java/util/Arrays", name := "copyOf", desc := "([II)[I" } : Jvm.MethodName) jdk_65_method_123_code (3 : Nat) (Option.some (Jvm.ClassFile.FieldType.array Jvm.ClassFile.FieldType.int)), Jvm.Cond.code ({ cls := "com/example/restate/restate/Words", name := "size", desc := "()I" } : Jvm.MethodName) prog_113_method_2_code (1 : Nat) (Option.some Jvm.ClassFile.FieldType.int), Jvm.Cond.code ({ cls := "com/example/restate/restate/Words", name := "hash", desc := "(I)I" } : Jvm.MethodName) prog_113_method_3_code (4 : Nat) (Option.some Jvm.ClassFile.FieldType.int), Jvm.Cond.code ({ cls := "java/lang/String", name := "charAt", desc := "(I)C" } : Jvm.MethodName) jdk_42_method_56_code (2 : Nat) (Option.some Jvm.ClassFile.FieldType.char), Jvm.Cond.code ({ cls := "java/lang/StringLatin1", name := "charAt", desc := "([BI)C" } : Jvm.MethodName) jdk_43_method_2_code (2 : Nat) (Option.some Jvm.ClassFile.FieldType.char), Jvm.Cond.code ({ cls := "java/lang/String", name := "checkIndex", desc := "(II)V" } : Jvm.MethodName) jdk_42_method_155_code (2 : Nat) (Option.none : Option Jvm.ClassFile.FieldType), Jvm.Cond.code ({ cls := "jdk/internal/util/Preconditions", name := "checkIndex", desc := "(IILjava/util/function/BiFunction;)I" } : Jvm.MethodName) jdk_41_method_11_code (3 : Nat) (Option.some Jvm.ClassFile.FieldType.int), Jvm.Cond.code ({ cls := "java/lang/StringUTF16", name := "toBytes", desc := "([CII)[B" } : Jvm.MethodName) jdk_52_method_14_code (5 : Nat) (Option.some (Jvm.ClassFile.FieldType.array Jvm.ClassFile.FieldType.byte)), Jvm.Cond.code ({ cls := "java/lang/StringUTF16", name := "newBytesFor", desc := "(I)[B" } : Jvm.MethodName) jdk_52_method_2_code (1 : Nat) (Option.some (Jvm.ClassFile.FieldType.array Jvm.ClassFile.FieldType.byte)), Jvm.Cond.code ({ cls := "java/lang/StringUTF16", name := "newBytesLength", desc := "(I)I" } : Jvm.MethodName) jdk_52_method_3_code (1 : Nat) (Option.some Jvm.ClassFile.FieldType.int), Jvm.Cond.code ({ cls := "java/lang/StringUTF16", name := "putChar", desc := "([BII)V" } : Jvm.MethodName) jdk_52_method_4_code (3 : Nat) (Option.none : Option Jvm.ClassFile.FieldType), Jvm.Cond.code ({ cls := "java/lang/StringUTF16", name := "getChar", desc := "([BI)C" } : Jvm.MethodName) jdk_52_method_5_code (2 : Nat) (Option.some Jvm.ClassFile.FieldType.char), Jvm.Cond.code ({ cls := "java/lang/StringUTF16", name := "indexOf", desc := "([BIII)I" } : Jvm.MethodName) jdk_52_method_40_code (4 : Nat) (Option.some Jvm.ClassFile.FieldType.int), Jvm.Cond.code ({ cls := "java/lang/StringUTF16", name := "indexOfChar", desc := "([BIII)I" } : Jvm.MethodName) jdk_52_method_47_code (4 : Nat) (Option.some Jvm.ClassFile.FieldType.int), Jvm.Cond.code ({ cls := "java/lang/StringUTF16", name := "checkBoundsBeginEnd", desc := "(II[B)V" } : Jvm.MethodName) jdk_52_method_93_code (3 : Nat) (Option.none : Option Jvm.ClassFile.FieldType), Jvm.Cond.code ({ cls := "java/lang/StringUTF16", name := "length", desc := "([B)I" } : Jvm.MethodName) jdk_52_method_6_code (1 : Nat) (Option.some Jvm.ClassFile.FieldType.int), Jvm.Cond.code ({ cls := "java/lang/String", name := "checkBoundsBeginEnd", desc := "(III)V" } : Jvm.MethodName) jdk_42_method_158_code (3 : Nat) (Option.none : Option Jvm.ClassFile.FieldType), Jvm.Cond.code ({ cls := "jdk/internal/util/Preconditions", name := "checkFromToIndex", desc := "(IIILjava/util/function/BiFunction;)I" } : Jvm.MethodName) jdk_41_method_12_code (4 : Nat) (Option.some Jvm.ClassFile.FieldType.int), Jvm.Cond.code ({ cls := "java/lang/StringUTF16", name := "indexOfCharUnsafe", desc := "([BIII)I" } : Jvm.MethodName) jdk_52_method_48_code (5 : Nat) (Option.some Jvm.ClassFile.FieldType.int), Jvm.Cond.code ({ cls := "java/lang/StringUTF16", name := "charAt", desc := "([BI)C" } : Jvm.MethodName) jdk_52_method_83_code (2 : Nat) (Option.some Jvm.ClassFile.FieldType.char), Jvm.Cond.code ({ cls := "java/lang/StringUTF16", name := "checkIndex", desc := "(I[B)V" } : Jvm.MethodName) jdk_52_method_91_code (2 : Nat) (Option.none : Option Jvm.ClassFile.FieldType)]
set_option maxRecDepth 65536 in
theorem codes_eq : words1.filter isCode = codes1 := rfl
theorem w_codes : ∀ c ∈ words1.filter isCode, c.before args0 about1 = true := by
  rw [codes_eq]
  intro c hc
  simp only [codes1, List.mem_cons, List.not_mem_nil, or_false] at hc
  rcases hc with rfl | rfl | rfl | rfl | rfl | rfl | rfl | rfl | rfl | rfl | rfl | rfl | rfl | rfl | rfl | rfl | rfl | rfl | rfl | rfl | rfl | rfl | rfl | rfl | rfl | rfl | rfl | rfl | rfl | rfl | rfl | rfl | rfl | rfl | rfl | rfl | rfl | rfl | rfl | rfl | rfl | rfl | rfl | rfl
  · exact w_c0
  · exact w_c1
  · exact w_c2
  · exact w_c3
  · exact w_c4
  · exact w_c5
  · exact w_c6
  · exact w_c7
  · exact w_c8
  · exact w_c9
  · exact w_c10
  · exact w_c11
  · exact w_c12
  · exact w_c13
  · exact w_c14
  · exact w_c15
  · exact w_c16
  · exact w_c17
  · exact w_c18
  · exact w_c19
  · exact w_c20
  · exact w_c21
  · exact w_c22
  · exact w_c23
  · exact w_c24
  · exact w_c25
  · exact w_c26
  · exact w_c27
  · exact w_c28
  · exact w_c29
  · exact w_c30
  · exact w_c31
  · exact w_c32
  · exact w_c33
  · exact w_c34
  · exact w_c35
  · exact w_c36
  · exact w_c37
  · exact w_c38
  · exact w_c39
  · exact w_c40
  · exact w_c41
  · exact w_c42
  · exact w_c43
set_option maxRecDepth 65536 in
theorem w_t1 : (words1.take 24).all (fun c => isCode c || c.before args0 about1) = true := by decide +kernel
set_option maxRecDepth 65536 in
theorem w_t2 : ((words1.drop 24).take 24).all (fun c => isCode c || c.before args0 about1) = true := by decide +kernel
set_option maxRecDepth 65536 in
theorem w_t3 : (((words1.drop 24).drop 24).take 24).all (fun c => isCode c || c.before args0 about1) = true := by decide +kernel
set_option maxRecDepth 65536 in
theorem w_t4 : ((((words1.drop 24).drop 24).drop 24).take 24).all (fun c => isCode c || c.before args0 about1) = true := by decide +kernel
set_option maxRecDepth 65536 in
theorem w_t5 : (((((words1.drop 24).drop 24).drop 24).drop 24).take 24).all (fun c => isCode c || c.before args0 about1) = true := by decide +kernel
set_option maxRecDepth 65536 in
theorem w_t6 : ((((((words1.drop 24).drop 24).drop 24).drop 24).drop 24).take 24).all (fun c => isCode c || c.before args0 about1) = true := by decide +kernel
set_option maxRecDepth 65536 in
theorem w_t7 : (((((((words1.drop 24).drop 24).drop 24).drop 24).drop 24).drop 24).take 24).all (fun c => isCode c || c.before args0 about1) = true := by decide +kernel
set_option maxRecDepth 65536 in
theorem w_t8 : ((((((((words1.drop 24).drop 24).drop 24).drop 24).drop 24).drop 24).drop 24).take 24).all (fun c => isCode c || c.before args0 about1) = true := by decide +kernel
set_option maxRecDepth 65536 in
theorem w_t9 : ((((((((words1.drop 24).drop 24).drop 24).drop 24).drop 24).drop 24).drop 24).drop 24).all (fun c => isCode c || c.before args0 about1) = true := by decide +kernel
theorem w_tables : (allAtoms (Jvm.Cond.code x code maxLocals ret :: tables_1)).before args0 about1 = true := by
  rw [allAtoms_all]
  show words1.all (fun c => c.before args0 about1) = true
  refine all_split ?_ w_codes
  rw [← List.take_append_drop 24 words1, List.all_append, w_t1, ← List.take_append_drop 24 (words1.drop 24), List.all_append, w_t2, ← List.take_append_drop 24 ((words1.drop 24).drop 24), List.all_append, w_t3, ← List.take_append_drop 24 (((words1.drop 24).drop 24).drop 24), List.all_append, w_t4, ← List.take_append_drop 24 ((((words1.drop 24).drop 24).drop 24).drop 24), List.all_append, w_t5, ← List.take_append_drop 24 (((((words1.drop 24).drop 24).drop 24).drop 24).drop 24), List.all_append, w_t6, ← List.take_append_drop 24 ((((((words1.drop 24).drop 24).drop 24).drop 24).drop 24).drop 24), List.all_append, w_t7, ← List.take_append_drop 24 (((((((words1.drop 24).drop 24).drop 24).drop 24).drop 24).drop 24).drop 24), List.all_append, w_t8, w_t9]
  rfl
set_option maxRecDepth 65536 in
theorem w_rest : rest_1_c.before args0 about1 = true := by decide +kernel
set_option maxRecDepth 65536 in
theorem w_case : (Jvm.Cond.and given_1 narrow_1).before args0 about1 = true := by decide +kernel
theorem w_applies : (headSpec (Jvm.Cond.code x code maxLocals ret :: tables_1) room_1).applies x e0.platform about1 = true :=
  (Spec.applies_iff w_frames).mpr ⟨w_running, w_runnable, w_alone, w_named, w_hears, w_ripe, w_room, w_tables⟩
theorem atStart : AtStart classFile x code maxLocals ret World_1 tables_1 room_1 Calls_1 rest_1 Pre_1 launch0 p0 e0 about1 theMethod args0 below0 :=
  ⟨lists_1, trivial, launch0.admits_env _ _ _, launch0.least_env, fairChoices_fair.cas, fairChoices_fair.clock, w_frames, w_args, w_heap, w_applies, trivial, w_rest, w_case⟩
end start1
theorem witness_1 : WitnessClaimed_1 := ⟨start1.p0, start1.e0, start1.about1, start1.theMethod, start1.args0, start1.below0, start1.atStart⟩
end Jvm.Pilot.@@N@@
