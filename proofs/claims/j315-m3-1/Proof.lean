import JvmDerived
import JvmDerived.Pilot.@@N@@Statement
import JvmDerived.Pilot.@@N@@Code
set_option linter.unusedVariables false
set_option linter.unusedSimpArgs false
namespace Jvm.RoadKit
open Sem ClassFile Op Lib Jvm.Stand Jvm.Free Jvm.LawKit
section New
variable {p : Program} {l : Launch} {e : Env} {R : Room} {s : State} {m : MethodId} {args : Array Value} {below : List Frame} {meth : Method} {c : Code} {T : State} {locs : List Loc} {cells slots : Nat}
theorem retI (X : Stand p l e R s m args below meth c T locs cells slots) (hx : p.tables.exec = Jvm.exec) {pc : Nat} {Ls : Array Slot} {z : Int32} {rest : List Value} (hret : meth.sig.returnType = some .int) (hd : decode c.code pc = .ok (.ireturn, 1)) {fs : List Frame}
  (hl : ∀ (f : JFrame) (acts : List Action), f.method = m → f.locked = none → f.entered = [] → (doReturn e (T.setTop f) acts (some (.int z))).1 = T.setFrames fs) : Steps p.tables e below (T.setTop (mkF m pc Ls (.int z :: rest))) (T.setFrames fs) := by
 have hm' : T.vm.method? m = some meth := X.method'
 have hn : narrow .int (.int z) = .int z := rfl
 show Steps p.tables e below (T.setTop { method := m, pc := pc, locals := Ls, stack := _ :: rest, locked := none }) _
 jvm_step X.here [X.here.top, hx, hd, hm', hret, hn]
 first | (intro acts; rw [hl _ acts rfl rfl rfl]) | rw [hl _ _ rfl rfl rfl]
 exact Steps.refl _
theorem own_retJ (X : Stand p l e R s m args below meth c T locs cells slots) (hx : p.tables.exec = Jvm.exec) {pc : Nat} {Ls : Array Slot} {z : Int64} {rest : List Value} (hret : meth.sig.returnType = some .long) (hd : decode c.code pc = .ok (.lreturn, 1)) {fs : List Frame}
  (hl : ∀ (f : JFrame) (acts : List Action), f.method = m → f.locked = none → f.entered = [] → (doReturn e (T.setTop f) acts (some (.long z))).1 = T.setFrames fs) : Steps p.tables e below (T.setTop (mkF m pc Ls (.long z :: rest))) (T.setFrames fs) :=
 retOut X hx hret rfl (Or.inr (Or.inl ⟨rfl, rfl, z, rfl⟩)) hd hl
theorem own_retR (X : Stand p l e R s m args below meth c T locs cells slots) (hx : p.tables.exec = Jvm.exec) {pc : Nat} {Ls : Array Slot} {w : Value} {t : FieldType} {rest : List Value} (hret : meth.sig.returnType = some t) (ht : t.isReference = true) (hw : w.isRef = true) (hd : decode c.code pc = .ok (.areturn, 1)) {fs : List Frame}
  (hl : ∀ (f : JFrame) (acts : List Action), f.method = m → f.locked = none → f.entered = [] → (doReturn e (T.setTop f) acts (some w)).1 = T.setFrames fs) : Steps p.tables e below (T.setTop (mkF m pc Ls (w :: rest))) (T.setFrames fs) :=
 retOut X hx hret (by cases t <;> first | rfl | cases ht) (Or.inr (Or.inr (Or.inr (Or.inr ⟨rfl, ht, hw⟩)))) hd hl
theorem own_lrem {tb : Tables} [Ours tb] {e : Env} {below : List Frame} {T target : State} {m : MethodId} {c : Code} {g : JFrame} (h : At T m c below) (hx : tb.exec = Jvm.exec) (hg : g.method = m) {x y : Int64} {rest : List Value} (hd : decode c.code g.pc = .ok (.lrem, 1)) (hs : g.stack = .long y :: .long x :: rest) (hy : y ≠ 0)
  (hr : Steps tb e below (T.setTop { g with pc := g.pc + 1, stack := .long (x % y) :: rest }) target) : Steps tb e below (T.setTop g) target :=
 XS.lrem h hx hg hd hs hy (by rw [lrem_mod]; exact hr)
theorem own_go {tb : Tables} {e : Env} {below : List Frame} {A B : State} {P : State → Outcome → Prop} (h : ∀ t, Steps tb e below B t → Steps tb e below A t) (k : ∃ s₂ o, Steps tb e below B s₂ ∧ P s₂ o) : ∃ s₂ o, Steps tb e below A s₂ ∧ P s₂ o := by
 obtain ⟨s₂, o, h1, h2⟩ := k
 exact ⟨s₂, o, h _ h1, h2⟩
theorem own_cut {α : Type} {C : α → Prop} {B : α → State} {tb : Tables} {e : Env} {below : List Frame} {A : State} {P : State → Outcome → Prop} (h : ∀ a, C a → ∃ s₂ o, Steps tb e below (B a) s₂ ∧ P s₂ o) (k : (∀ a, C a → ∃ s₂ o, Steps tb e below (B a) s₂ ∧ P s₂ o) → ∃ s₂ o, Steps tb e below A s₂ ∧ P s₂ o) : ∃ s₂ o, Steps tb e below A s₂ ∧ P s₂ o := k h
theorem own_narZ (P : Prop) [Decidable P] : narrow .boolean (.int (if P then (1 : Int32) else 0)) = .int (if P then (1 : Int32) else 0) := by split <;> rfl
theorem own_fitZ (P : Prop) [Decidable P] : fits .boolean (.int (if P then (1 : Int32) else 0)) = true := by split <;> rfl
theorem own_retZ (P : Prop) [Decidable P] : (some (.int (nar .boolean (if P then (1 : Int32) else 0))) : Option Value) = some (.int (if P then (1 : Int32) else 0)) := by split <;> rfl
theorem own_staKeep {Z : State} {h h' : Heap} {C n d : String} {v : Value} {ws : List Addr} (F : Sta Z h C n d v) (K : Keep h h' ws) (q : ∀ x ∈ ws, ∃ c : Cell, h[x]? = some c ∧ c.vm.isStatics = false) : Sta Z h' C n d v := by
 obtain ⟨cf, i, k, f, st, cell, h1, h2, h3, h4, h5, h6, h7⟩ := F
 refine ⟨cf, i, k, f, st, cell, h1, h2, h3, h4, K.2.1 _ _ h5 fun hm => ?_, h6, h7⟩
 obtain ⟨c', g1, g2⟩ := q _ hm
 cases h5.symm.trans g1
 rw [h6] at g2
 cases g2
theorem own_arrKeep {Z : State} {h h' : Heap} {a : Addr} {c : Cell} {ty : FieldType} {ws : List Addr} (F : Arr Z h a c ty) (K : Keep h h' ws) (q : a ∉ ws) : Arr Z h' a c ty := ⟨K.2.1 _ _ F.1 q, F.2⟩
theorem own_ns0 {h : Heap} : ∀ x ∈ ([] : List Addr), ∃ c : Cell, h[x]? = some c ∧ c.vm.isStatics = false := fun _ q => nomatch q
theorem own_nsS {h : Heap} {y : Addr} {L : List Addr} (q : ∃ c : Cell, h[y]? = some c ∧ c.vm.isStatics = false) (r : ∀ x ∈ L, ∃ c : Cell, h[x]? = some c ∧ c.vm.isStatics = false) : ∀ x ∈ y :: L, ∃ c : Cell, h[x]? = some c ∧ c.vm.isStatics = false := fun x z => (List.mem_cons.mp z).elim (fun u => u ▸ q) (r x)
theorem own_nsE {Z : State} {h : Heap} {a : Addr} {C : String} (F : Exa Z h a C) : ∃ c : Cell, h[a]? = some c ∧ c.vm.isStatics = false := by
 obtain ⟨c, k, h1, h2, h3, h4, h5⟩ := F
 exact ⟨c, h1, h4⟩
theorem own_nsV {Z : State} {h : Heap} {a : Addr} {k : ClassId} {ty : FieldType} {z : Int32} {vs : List Value} {d : Value} (F : Arv Z h a k ty z vs d) : ∃ c : Cell, h[a]? = some c ∧ c.vm.isStatics = false := by
 obtain ⟨c, A, r⟩ := F
 exact ⟨c, A.1, A.plain⟩
theorem own_safeStr {Z : State} {EL : List (String × Nat)} {vm : Vm} {h : Heap} {x : Addr} (hal : Z.vm.Alike vm) (E : Exa Z h x "java/lang/String") (N : Fld Z h x "java/lang/String" "value" "[B" .null) : Safe Z EL vm h x := fun B => by
 obtain ⟨cell, k, e1, e2, e3, -, -⟩ := E
 obtain ⟨cell', cf, k', i, f, n1, n2, -, -, -, -, n7⟩ := N
 cases e1.symm.trans n1
 obtain ⟨p, -, u, a, -, q, -, F, rfl | rfl⟩ := B
 ·cases (show h[q.sa]? = some q.sC from F.ha).symm.trans e1
  obtain ⟨cS, ⟨⟨s1, s2, s3, ⟨cv, kv, iv, s4, s4'⟩, -, s6, s7, s8, -⟩, -, -⟩, -⟩ := F
  obtain ⟨kv', z4⟩ := ff_back (U := Wst Z vm h) hal s4
  cases n2.symm.trans z4
  cases n7.symm.trans s8
 ·cases (show h[q.sd]? = some q.SA from F.hd).symm.trans e1
  obtain ⟨cS, -, -, g, -⟩ := F
  have g' : vm.findClass "[B" = some q.SA.cls := g
  rw [hal.findClass] at g'
  obtain ⟨k1, q1, q2⟩ := Vm.findClass_spec g'
  obtain ⟨k2, q3, q4⟩ := Vm.findClass_spec e2
  cases q1.symm.trans q3
  exact absurd (q2.symm.trans q4) (by decide)
theorem own_since (s : State) (n : Nat) : s.Since s.vm n := ⟨State.Warmed39.refl s, fun j p hj hp => absurd (Array.getElem?_eq_some_iff.mp hp).1 (Nat.not_lt.mpr hj)⟩
end New
end Jvm.RoadKit
namespace Jvm.Pilot.@@N@@
open Jvm Jvm.ClassFile Sem Op Lib Jvm.Free Jvm.Stand Jvm.LawKit Jvm.RoadKit Bundle Jvm.Pilot.@@N@@.Jvm.D
theorem own_strA {Z : State} {a0 : Array Value} (hw : ∀ d ∈ tables_1, d.before a0 Z = true) : ∀ a ∈ Bundle.stringAtoms, a.before a0 Z = true := by
 intro d hd
 simp only [Bundle.stringAtoms, List.mem_cons, List.not_mem_nil, or_false] at hd
 rcases hd with rfl | rfl | rfl | rfl | rfl | rfl | rfl
 ·exact hw _ (List.mem_of_getElem? (i := 10) rfl)
 ·exact hw _ (List.mem_of_getElem? (i := 9) rfl)
 ·exact hw _ (List.mem_of_getElem? (i := 22) rfl)
 ·exact hw _ (List.mem_of_getElem? (i := 23) rfl)
 ·exact hw _ (List.mem_of_getElem? (i := 24) rfl)
 ·exact hw _ (List.mem_of_getElem? (i := 25) rfl)
 ·exact hw _ (List.mem_of_getElem? (i := 26) rfl)
theorem own_fldStart {Z : State} {args : Array Value} {t : Term} {C n d : String} {k : Int32} {a : Addr} (ev : t.eval args Z none [] Z = some (.ref a)) (h : (Jvm.Cond.eq (.field t C n d) (.int k)).value args Z none Z [] = some true) : Fld Z Z.heap a C n d (.int k) := by
 refine Fld.start ?_
 have e1 := fld_at (C := C) (n := n) (dd := d) ev
 cases hf : Z.fieldOf? a C n d with
 | none => rw [hf] at e1; simp only [Cond.value, e1, Term.int_eval] at h; cases h
 | some v =>
  rw [hf] at e1
  simp only [Cond.value, e1, Term.int_eval] at h
  cases v <;> simp at h
  rw [h]
theorem own_lenStart {Z : State} {args : Array Value} {t : Term} {ty : FieldType} {a : Addr} {cl : Cell} {n : Int32} (ev : t.eval args Z none [] Z = some (.ref a)) (A : Arr Z Z.heap a cl ty) (hl : (Jvm.Cond.eq (.length t) (.int n)).value args Z none Z [] = some true) : cl.slots.size < 2 ^ 31 ∧ cl.slots.size.toInt32 = n := by
 have hA : Z.arrayAt? a = some cl := Arr.fin (Vm.Alike.refl _) A
 by_cases q : cl.slots.size < 2 ^ 31
 ·have e2 := len_f ev hA q
  refine ⟨q, ?_⟩
  simp only [Cond.value, e2, Term.int_eval] at hl
  simpa using hl
 ·have e2 : (Term.length t).eval args Z none [] Z = none := by simp [Term.eval, ev, hA, q]
  simp only [Cond.value, e2, Term.int_eval] at hl
  cases hl
theorem own_eqStart {Z : State} {args : Array Value} {t u : Term} {v : Value} (hv : u.eval args Z none [] Z = some v) (h : (Jvm.Cond.eq t u).value args Z none Z [] = some true) : t.eval args Z none [] Z = some v := by
 cases ht : t.eval args Z none [] Z with
 | none => simp only [Cond.value, ht, hv] at h; cases v <;> cases h
 | some y => simp only [Cond.value, ht, hv] at h; cases v <;> cases y <;> simp at h <;> first | rw [h] | rfl
theorem own_elemStart {Z : State} {args : Array Value} {t u : Term} {ty : FieldType} {a : Addr} {cl : Cell} {j : Int32} {v : Value} (ev : t.eval args Z none [] Z = some (.ref a)) (A : Arr Z Z.heap a cl ty) (hv : u.eval args Z none [] Z = some v) (h : (Jvm.Cond.eq (.elem t (.int j)) u).value args Z none Z [] = some true) : cl.slots[j.toNatClampNeg]? = some v :=
 (elem_in (own_eqStart hv h) ev (Term.int_eval j) A.1).2
theorem own_fldRef {Z : State} {args : Array Value} {t : Term} {C n d : String} {a b : Addr} (ev : t.eval args Z none [] Z = some (.ref a)) (h : (Term.field t C n d).eval args Z none [] Z = some (.ref b)) : Fld Z Z.heap a C n d (.ref b) := Fld.start ((fld_at ev).symm.trans h)
theorem own_neStart {Z : State} {args : Array Value} {t : Term} {x k : Int32} (ev : t.eval args Z none [] Z = some (.int x)) (h : (Jvm.Cond.not (Jvm.Cond.eq t (.int k))).value args Z none Z [] = some true) : ¬ x = k := by
 have h1 := not_v h
 simp only [Cond.value, ev, Term.int_eval] at h1
 simpa using h1
theorem own_narC (x : Int32) (h : 0 ≤ x.toInt ∧ x.toInt ≤ 255) : nar .char x = x := by
 have e := c_i2c x
 rw [← Int32.toInt_inj]
 show x.toUInt32.toUInt16.toUInt32.toInt32.toInt = x.toInt
 omega
theorem own_narB (x : Int32) : (x.toInt8.toInt32).toInt8.toInt32 = x.toInt8.toInt32 := by
 have e := c_i2b x
 have e2 := c_i2b (x.toInt8.toInt32)
 rw [← Int32.toInt_inj]
 omega
theorem own_le (x : Int32) (h : 0 ≤ x.toInt ∧ x.toInt ≤ 255) : ¬ (255 : Int32) < x := by
 rw [Int32.lt_iff_toInt_lt]
 have l : (255 : Int32).toInt = 255 := by decide
 omega
theorem own_m7 (x : Int32) : ¬ (x &&& (7 : Int32)) < 0 ∧ (x &&& (7 : Int32)) < (8 : Int32) ∧ (x &&& (7 : Int32)).toNatClampNeg < 8 := by
 have e1 := c_mask x 7 3 (by decide) (by decide)
 have l0 : (0 : Int32).toInt = 0 := by decide
 have l8 : (8 : Int32).toInt = 8 := by decide
 have h : ¬ (x &&& (7 : Int32)) < 0 := by rw [Int32.lt_iff_toInt_lt]; omega
 have e2 := nat_of h
 refine ⟨h, ?_, ?_⟩
 ·rw [Int32.lt_iff_toInt_lt]; omega
 ·omega
theorem own_pick (n : Nat) (h : n < 8) : ∃ z : Int32, ([(.int 49), (.int 97), (.int 65), (.int 105), (.int 73), (.int 48), (.int 50), (.int 98)] : List Value).getD n (.int 0) = .int z ∧ 0 ≤ z.toInt ∧ z.toInt ≤ 255 := by
 have : n = 0 ∨ n = 1 ∨ n = 2 ∨ n = 3 ∨ n = 4 ∨ n = 5 ∨ n = 6 ∨ n = 7 := by omega
 rcases this with rfl | rfl | rfl | rfl | rfl | rfl | rfl | rfl <;> exact ⟨_, rfl, by decide, by decide⟩
theorem own_i2c (p1 : Int32) : 0 ≤ (nar .char ((p1 &&& (255 : Int32)).toUInt32.toUInt16.toUInt32.toInt32)).toInt ∧ (nar .char ((p1 &&& (255 : Int32)).toUInt32.toUInt16.toUInt32.toInt32)).toInt ≤ 255 := by
 have e0 := c_mask p1 255 8 (by decide) (by decide)
 rw [i2c_mask, own_narC _ (by omega)]
 omega
theorem own_m3 (x : Int32) (h0 : ¬ (x &&& (3 : Int32)) = (0 : Int32)) (h1 : ¬ (x &&& (3 : Int32)) = (1 : Int32)) (h2 : ¬ (x &&& (3 : Int32)) = (2 : Int32)) : (x &&& (3 : Int32)) = (3 : Int32) := by
 have e1 := c_mask x 3 2 (by decide) (by decide)
 rw [← Int32.toInt_inj] at *
 have l0 : (0 : Int32).toInt = 0 := by decide
 have l1 : (1 : Int32).toInt = 1 := by decide
 have l2 : (2 : Int32).toInt = 2 := by decide
 have l3 : (3 : Int32).toInt = 3 := by decide
 omega
theorem own_ne8 (c k : Int32) (h : 0 ≤ c.toInt ∧ c.toInt ≤ 255) (hk : 0 ≤ k.toInt ∧ k.toInt ≤ 127) (hn : ¬ c = k) : ¬ k = c.toInt8.toInt32 := by
 have e := c_i2b c
 rw [← Int32.toInt_inj] at hn ⊢
 omega
theorem pn_50 : plainName "com/example/restate/restate/MarkerStyleOpenedByPinLaw" = true := by first | (simp [plainName, overriddenIn]; done) | decide +kernel
theorem d1_0 : decode method_2_code 0 = .ok (.bipush 8, 2) := by decide +kernel
theorem d1_2 : decode method_2_code 2 = .ok (.newarray .char, 2) := by decide +kernel
theorem d1_4 : decode method_2_code 4 = .ok (.dup, 1) := by decide +kernel
theorem d1_5 : decode method_2_code 5 = .ok (.iconst 0, 1) := by decide +kernel
theorem d1_6 : decode method_2_code 6 = .ok (.bipush 49, 2) := by decide +kernel
theorem d1_8 : decode method_2_code 8 = .ok (.castore, 1) := by decide +kernel
theorem d1_9 : decode method_2_code 9 = .ok (.dup, 1) := by decide +kernel
theorem d1_10 : decode method_2_code 10 = .ok (.iconst 1, 1) := by decide +kernel
theorem d1_11 : decode method_2_code 11 = .ok (.bipush 97, 2) := by decide +kernel
theorem d1_13 : decode method_2_code 13 = .ok (.castore, 1) := by decide +kernel
theorem d1_14 : decode method_2_code 14 = .ok (.dup, 1) := by decide +kernel
theorem d1_15 : decode method_2_code 15 = .ok (.iconst 2, 1) := by decide +kernel
theorem d1_16 : decode method_2_code 16 = .ok (.bipush 65, 2) := by decide +kernel
theorem d1_18 : decode method_2_code 18 = .ok (.castore, 1) := by decide +kernel
theorem d1_19 : decode method_2_code 19 = .ok (.dup, 1) := by decide +kernel
theorem d1_20 : decode method_2_code 20 = .ok (.iconst 3, 1) := by decide +kernel
theorem d1_21 : decode method_2_code 21 = .ok (.bipush 105, 2) := by decide +kernel
theorem d1_23 : decode method_2_code 23 = .ok (.castore, 1) := by decide +kernel
theorem d1_24 : decode method_2_code 24 = .ok (.dup, 1) := by decide +kernel
theorem d1_25 : decode method_2_code 25 = .ok (.iconst 4, 1) := by decide +kernel
theorem d1_26 : decode method_2_code 26 = .ok (.bipush 73, 2) := by decide +kernel
theorem d1_28 : decode method_2_code 28 = .ok (.castore, 1) := by decide +kernel
theorem d1_29 : decode method_2_code 29 = .ok (.dup, 1) := by decide +kernel
theorem d1_30 : decode method_2_code 30 = .ok (.iconst 5, 1) := by decide +kernel
theorem d1_31 : decode method_2_code 31 = .ok (.bipush 48, 2) := by decide +kernel
theorem d1_33 : decode method_2_code 33 = .ok (.castore, 1) := by decide +kernel
theorem d1_34 : decode method_2_code 34 = .ok (.dup, 1) := by decide +kernel
theorem d1_35 : decode method_2_code 35 = .ok (.bipush 6, 2) := by decide +kernel
theorem d1_37 : decode method_2_code 37 = .ok (.bipush 50, 2) := by decide +kernel
theorem d1_39 : decode method_2_code 39 = .ok (.castore, 1) := by decide +kernel
theorem d1_40 : decode method_2_code 40 = .ok (.dup, 1) := by decide +kernel
theorem d1_41 : decode method_2_code 41 = .ok (.bipush 7, 2) := by decide +kernel
theorem d1_43 : decode method_2_code 43 = .ok (.bipush 98, 2) := by decide +kernel
theorem d1_45 : decode method_2_code 45 = .ok (.castore, 1) := by decide +kernel
theorem d1_46 : decode method_2_code 46 = .ok (.astore_n 1, 1) := by decide +kernel
theorem d1_47 : decode method_2_code 47 = .ok (.iload_n 0, 1) := by decide +kernel
theorem d1_48 : decode method_2_code 48 = .ok (.sipush 256, 3) := by decide +kernel
theorem d1_51 : decode method_2_code 51 = .ok (.iand, 1) := by decide +kernel
theorem d1_52 : decode method_2_code 52 = .ok (.ifCond .eq 10, 3) := by decide +kernel
theorem d1_55 : decode method_2_code 55 = .ok (.aload_n 1, 1) := by decide +kernel
theorem d1_56 : decode method_2_code 56 = .ok (.iload_n 0, 1) := by decide +kernel
theorem d1_57 : decode method_2_code 57 = .ok (.bipush 7, 2) := by decide +kernel
theorem d1_59 : decode method_2_code 59 = .ok (.iand, 1) := by decide +kernel
theorem d1_60 : decode method_2_code 60 = .ok (.caload, 1) := by decide +kernel
theorem d1_61 : decode method_2_code 61 = .ok (.ireturn, 1) := by decide +kernel
theorem d1_62 : decode method_2_code 62 = .ok (.iload_n 0, 1) := by decide +kernel
theorem d1_63 : decode method_2_code 63 = .ok (.sipush 255, 3) := by decide +kernel
theorem d1_66 : decode method_2_code 66 = .ok (.iand, 1) := by decide +kernel
theorem d1_67 : decode method_2_code 67 = .ok (.i2c, 1) := by decide +kernel
theorem d1_68 : decode method_2_code 68 = .ok (.ireturn, 1) := by decide +kernel
theorem ef_1 (m : MethodId) (p1 : Int32) : entryFrame m #[(.int p1)] 2 = mkF m 0 #[.val (.int p1), .unset] [] := by first | (simp [entryFrame, mkF, argsToLocals, Value.category]; done) | rfl
def Q1 (Z : State) (p1 : Int32) (h0 : Heap) (n0 : Nat) (v : Option Value) (h : Heap) (L : List Loc) : Prop := ∃ (ch : Int32), v = some (.int ch) ∧ Fr n0 L ∧ Keep h0 h [] ∧ 0 ≤ ch.toInt ∧ ch.toInt ≤ 255
set_option maxRecDepth 65536 in
set_option maxHeartbeats 40000000 in
theorem rm1 (l : Launch) (Z : State) (a0 : Array Value) (hw : ∀ d ∈ tables_1, d.before a0 Z = true) (ws : List Jvm.Cond) (p1 : Int32) (h0 : Heap) (n0 : Nat) (Z0 : n0 ≤ h0.size) :
  MetFree l (⟨"com/example/restate/restate/MarkerStyleOpenedByPinLaw", "draw", "(I)C"⟩ : MethodName) (head1 (Jvm.Cond.code (⟨"com/example/restate/restate/MarkerStyleOpenedByPinLaw", "draw", "(I)C"⟩ : MethodName) method_2_code 2 (some .char) :: ws) ({ frames := 0, cells := 1, slots := 8, locals := 0 } : Room)) (fun a U => a = #[(.int p1)] ∧ Z.Warmed39 U.vm ∧ U.heap = h0) (fun _ _ _ _ _ => True) (fun _ U o U' => ∃ v L, o = .returned v ∧ Q1 Z p1 h0 n0 v U'.heap L ∧ FrameEnd U o U' L ({ frames := 0, cells := 1, slots := 8, locals := 0 } : Room).cells ({ frames := 0, cells := 1, slots := 8, locals := 0 } : Room).slots) := by
 refine MetFree.of_bodySF (plainFor_of_name pn_50) hisR ?_
 intro p e s m args below meth c s₁ Bd hml0 hP hK
 obtain ⟨rfl, hZ, hh⟩ := hP
 have hx := Bd.exec
 have hby := Bd.bytes
 have hml : c.maxLocals = 2 := hml0
 have hown : s.vm.findClass "com/example/restate/restate/MarkerStyleOpenedByPinLaw" = some m.cls := findClass_of_methodNamed Bd.named
 have hnm := (name_of_methodNamed Bd.named Bd.method).1
 have X0 : Stand p l e ({ frames := 0, cells := 1, slots := 8, locals := 0 } : Room) s m #[(.int p1)] below meth c s₁ [] 0 0 := Stand.of_body Bd
 have e0 : s₁.heap = h0 := by rw [← hh, Bd.state]; rfl
 have N0 := Fr.nil n0
 refine own_go (B := s₁.setTop (mkF m 0 #[.val (.int p1), .unset] [])) (fun t k => castTop (ef_1 m p1) k) ?_
 refine own_go (B := s₁.setTop (mkF m 2 #[.val (.int p1), .unset] [(.int 8)])) (fun t k => ?_) ?_
 ·refine XS.bipush X0.here hx rfl (hb hby d1_0) ?_
  show Steps p.tables e below (s₁.setTop (mkF m 2 #[.val (.int p1), .unset] [(.int 8)])) _
  exact k
 obtain ⟨T37, h37, k37, X37, e37, E37, A37, st37⟩ := newP X0 hx hZ (hw _ (List.mem_of_getElem? (i := 4) rfl)) e0 (g := (mkF m 2 #[.val (.int p1), .unset] [(.int 8)])) rfl (hb hby d1_2) rfl (by decide) (cap := 8) (by decide) (by decide) (by decide) (by decide)
 obtain ⟨b37, g37⟩ : ∃ z, z = h0.size := ⟨_, rfl⟩
 rw [← g37] at A37 st37
 refine own_go st37 ?_
 have K37 : Keep h0 h37 [] := Keep.ext (Keep.refl h0 []) E37
 have V37 : Arv Z h37 b37 k37 .char (8 : Int32) [(.int 0), (.int 0), (.int 0), (.int 0), (.int 0), (.int 0), (.int 0), (.int 0)] (.int 0) := (Arv.new A37 (by decide)).pad (pad_rep [] (.int 0) 8)
 refine own_go (B := T37.setTop (mkF m 8 #[.val (.int p1), .unset] [(.int 49), (.int 0), (.ref b37), (.ref b37)])) (fun t k => ?_) ?_
 ·refine XS.dup X37.here hx rfl (hb hby d1_4) rfl rfl ?_
  show Steps p.tables e below (T37.setTop (mkF m 5 #[.val (.int p1), .unset] [(.ref b37), (.ref b37)])) _
  refine XS.iconst X37.here hx rfl (hb hby d1_5) ?_
  show Steps p.tables e below (T37.setTop (mkF m 6 #[.val (.int p1), .unset] [(.int 0), (.ref b37), (.ref b37)])) _
  refine XS.bipush X37.here hx rfl (hb hby d1_6) ?_
  show Steps p.tables e below (T37.setTop (mkF m 8 #[.val (.int p1), .unset] [(.int 49), (.int 0), (.ref b37), (.ref b37)])) _
  exact k
 obtain ⟨cl38, Ar38, cq38, cS38, cN38, cH38, cG38⟩ := id V37
 have hin38 := inb_of (j := (0 : Int32)) cS38 ⟨by decide, by decide⟩
 obtain ⟨T38, h38, X38, e38, W38, st38⟩ := stC X37 hx hZ e37 Ar38 (j := (0 : Int32)) hin38 (g := (mkF m 8 #[.val (.int p1), .unset] [(.int 49), (.int 0), (.ref b37), (.ref b37)])) rfl rfl (hb hby d1_8)
 refine own_go st38 ?_
 have V38 : Arv Z h38 b37 k37 .char (8 : Int32) [(.int 49), (.int 0), (.int 0), (.int 0), (.int 0), (.int 0), (.int 0), (.int 0)] (.int 0) := Arv.set Ar38 cq38 cS38 cN38 cH38 cG38 (fits_nar_char _) W38 0 rfl (Nat.le_of_ble_eq_true rfl)
 have K38 : Keep h0 h38 [] := Keep.wr K37 W38 (Or.inr (Nat.le_of_eq g37.symm))
 have N38 := Fr.snoc X38 N0 (Nat.le_trans Z0 (Nat.le_of_eq g37.symm))
 refine own_go (B := T38.setTop (mkF m 13 #[.val (.int p1), .unset] [(.int 97), (.int 1), (.ref b37), (.ref b37)])) (fun t k => ?_) ?_
 ·refine XS.dup X38.here hx rfl (hb hby d1_9) rfl rfl ?_
  show Steps p.tables e below (T38.setTop (mkF m 10 #[.val (.int p1), .unset] [(.ref b37), (.ref b37)])) _
  refine XS.iconst X38.here hx rfl (hb hby d1_10) ?_
  show Steps p.tables e below (T38.setTop (mkF m 11 #[.val (.int p1), .unset] [(.int 1), (.ref b37), (.ref b37)])) _
  refine XS.bipush X38.here hx rfl (hb hby d1_11) ?_
  show Steps p.tables e below (T38.setTop (mkF m 13 #[.val (.int p1), .unset] [(.int 97), (.int 1), (.ref b37), (.ref b37)])) _
  exact k
 obtain ⟨cl39, Ar39, cq39, cS39, cN39, cH39, cG39⟩ := id V38
 have hin39 := inb_of (j := (1 : Int32)) cS39 ⟨by decide, by decide⟩
 obtain ⟨T39, h39, X39, e39, W39, st39⟩ := stC X38 hx hZ e38 Ar39 (j := (1 : Int32)) hin39 (g := (mkF m 13 #[.val (.int p1), .unset] [(.int 97), (.int 1), (.ref b37), (.ref b37)])) rfl rfl (hb hby d1_13)
 refine own_go st39 ?_
 have V39 : Arv Z h39 b37 k37 .char (8 : Int32) [(.int 49), (.int 97), (.int 0), (.int 0), (.int 0), (.int 0), (.int 0), (.int 0)] (.int 0) := Arv.set Ar39 cq39 cS39 cN39 cH39 cG39 (fits_nar_char _) W39 1 rfl (Nat.le_of_ble_eq_true rfl)
 have K39 : Keep h0 h39 [] := Keep.wr K38 W39 (Or.inr (Nat.le_of_eq g37.symm))
 have N39 := Fr.snoc X39 N38 (Nat.le_trans Z0 (Nat.le_of_eq g37.symm))
 refine own_go (B := T39.setTop (mkF m 18 #[.val (.int p1), .unset] [(.int 65), (.int 2), (.ref b37), (.ref b37)])) (fun t k => ?_) ?_
 ·refine XS.dup X39.here hx rfl (hb hby d1_14) rfl rfl ?_
  show Steps p.tables e below (T39.setTop (mkF m 15 #[.val (.int p1), .unset] [(.ref b37), (.ref b37)])) _
  refine XS.iconst X39.here hx rfl (hb hby d1_15) ?_
  show Steps p.tables e below (T39.setTop (mkF m 16 #[.val (.int p1), .unset] [(.int 2), (.ref b37), (.ref b37)])) _
  refine XS.bipush X39.here hx rfl (hb hby d1_16) ?_
  show Steps p.tables e below (T39.setTop (mkF m 18 #[.val (.int p1), .unset] [(.int 65), (.int 2), (.ref b37), (.ref b37)])) _
  exact k
 obtain ⟨cl40, Ar40, cq40, cS40, cN40, cH40, cG40⟩ := id V39
 have hin40 := inb_of (j := (2 : Int32)) cS40 ⟨by decide, by decide⟩
 obtain ⟨T40, h40, X40, e40, W40, st40⟩ := stC X39 hx hZ e39 Ar40 (j := (2 : Int32)) hin40 (g := (mkF m 18 #[.val (.int p1), .unset] [(.int 65), (.int 2), (.ref b37), (.ref b37)])) rfl rfl (hb hby d1_18)
 refine own_go st40 ?_
 have V40 : Arv Z h40 b37 k37 .char (8 : Int32) [(.int 49), (.int 97), (.int 65), (.int 0), (.int 0), (.int 0), (.int 0), (.int 0)] (.int 0) := Arv.set Ar40 cq40 cS40 cN40 cH40 cG40 (fits_nar_char _) W40 2 rfl (Nat.le_of_ble_eq_true rfl)
 have K40 : Keep h0 h40 [] := Keep.wr K39 W40 (Or.inr (Nat.le_of_eq g37.symm))
 have N40 := Fr.snoc X40 N39 (Nat.le_trans Z0 (Nat.le_of_eq g37.symm))
 refine own_go (B := T40.setTop (mkF m 23 #[.val (.int p1), .unset] [(.int 105), (.int 3), (.ref b37), (.ref b37)])) (fun t k => ?_) ?_
 ·refine XS.dup X40.here hx rfl (hb hby d1_19) rfl rfl ?_
  show Steps p.tables e below (T40.setTop (mkF m 20 #[.val (.int p1), .unset] [(.ref b37), (.ref b37)])) _
  refine XS.iconst X40.here hx rfl (hb hby d1_20) ?_
  show Steps p.tables e below (T40.setTop (mkF m 21 #[.val (.int p1), .unset] [(.int 3), (.ref b37), (.ref b37)])) _
  refine XS.bipush X40.here hx rfl (hb hby d1_21) ?_
  show Steps p.tables e below (T40.setTop (mkF m 23 #[.val (.int p1), .unset] [(.int 105), (.int 3), (.ref b37), (.ref b37)])) _
  exact k
 obtain ⟨cl41, Ar41, cq41, cS41, cN41, cH41, cG41⟩ := id V40
 have hin41 := inb_of (j := (3 : Int32)) cS41 ⟨by decide, by decide⟩
 obtain ⟨T41, h41, X41, e41, W41, st41⟩ := stC X40 hx hZ e40 Ar41 (j := (3 : Int32)) hin41 (g := (mkF m 23 #[.val (.int p1), .unset] [(.int 105), (.int 3), (.ref b37), (.ref b37)])) rfl rfl (hb hby d1_23)
 refine own_go st41 ?_
 have V41 : Arv Z h41 b37 k37 .char (8 : Int32) [(.int 49), (.int 97), (.int 65), (.int 105), (.int 0), (.int 0), (.int 0), (.int 0)] (.int 0) := Arv.set Ar41 cq41 cS41 cN41 cH41 cG41 (fits_nar_char _) W41 3 rfl (Nat.le_of_ble_eq_true rfl)
 have K41 : Keep h0 h41 [] := Keep.wr K40 W41 (Or.inr (Nat.le_of_eq g37.symm))
 have N41 := Fr.snoc X41 N40 (Nat.le_trans Z0 (Nat.le_of_eq g37.symm))
 refine own_go (B := T41.setTop (mkF m 28 #[.val (.int p1), .unset] [(.int 73), (.int 4), (.ref b37), (.ref b37)])) (fun t k => ?_) ?_
 ·refine XS.dup X41.here hx rfl (hb hby d1_24) rfl rfl ?_
  show Steps p.tables e below (T41.setTop (mkF m 25 #[.val (.int p1), .unset] [(.ref b37), (.ref b37)])) _
  refine XS.iconst X41.here hx rfl (hb hby d1_25) ?_
  show Steps p.tables e below (T41.setTop (mkF m 26 #[.val (.int p1), .unset] [(.int 4), (.ref b37), (.ref b37)])) _
  refine XS.bipush X41.here hx rfl (hb hby d1_26) ?_
  show Steps p.tables e below (T41.setTop (mkF m 28 #[.val (.int p1), .unset] [(.int 73), (.int 4), (.ref b37), (.ref b37)])) _
  exact k
 obtain ⟨cl42, Ar42, cq42, cS42, cN42, cH42, cG42⟩ := id V41
 have hin42 := inb_of (j := (4 : Int32)) cS42 ⟨by decide, by decide⟩
 obtain ⟨T42, h42, X42, e42, W42, st42⟩ := stC X41 hx hZ e41 Ar42 (j := (4 : Int32)) hin42 (g := (mkF m 28 #[.val (.int p1), .unset] [(.int 73), (.int 4), (.ref b37), (.ref b37)])) rfl rfl (hb hby d1_28)
 refine own_go st42 ?_
 have V42 : Arv Z h42 b37 k37 .char (8 : Int32) [(.int 49), (.int 97), (.int 65), (.int 105), (.int 73), (.int 0), (.int 0), (.int 0)] (.int 0) := Arv.set Ar42 cq42 cS42 cN42 cH42 cG42 (fits_nar_char _) W42 4 rfl (Nat.le_of_ble_eq_true rfl)
 have K42 : Keep h0 h42 [] := Keep.wr K41 W42 (Or.inr (Nat.le_of_eq g37.symm))
 have N42 := Fr.snoc X42 N41 (Nat.le_trans Z0 (Nat.le_of_eq g37.symm))
 refine own_go (B := T42.setTop (mkF m 33 #[.val (.int p1), .unset] [(.int 48), (.int 5), (.ref b37), (.ref b37)])) (fun t k => ?_) ?_
 ·refine XS.dup X42.here hx rfl (hb hby d1_29) rfl rfl ?_
  show Steps p.tables e below (T42.setTop (mkF m 30 #[.val (.int p1), .unset] [(.ref b37), (.ref b37)])) _
  refine XS.iconst X42.here hx rfl (hb hby d1_30) ?_
  show Steps p.tables e below (T42.setTop (mkF m 31 #[.val (.int p1), .unset] [(.int 5), (.ref b37), (.ref b37)])) _
  refine XS.bipush X42.here hx rfl (hb hby d1_31) ?_
  show Steps p.tables e below (T42.setTop (mkF m 33 #[.val (.int p1), .unset] [(.int 48), (.int 5), (.ref b37), (.ref b37)])) _
  exact k
 obtain ⟨cl43, Ar43, cq43, cS43, cN43, cH43, cG43⟩ := id V42
 have hin43 := inb_of (j := (5 : Int32)) cS43 ⟨by decide, by decide⟩
 obtain ⟨T43, h43, X43, e43, W43, st43⟩ := stC X42 hx hZ e42 Ar43 (j := (5 : Int32)) hin43 (g := (mkF m 33 #[.val (.int p1), .unset] [(.int 48), (.int 5), (.ref b37), (.ref b37)])) rfl rfl (hb hby d1_33)
 refine own_go st43 ?_
 have V43 : Arv Z h43 b37 k37 .char (8 : Int32) [(.int 49), (.int 97), (.int 65), (.int 105), (.int 73), (.int 48), (.int 0), (.int 0)] (.int 0) := Arv.set Ar43 cq43 cS43 cN43 cH43 cG43 (fits_nar_char _) W43 5 rfl (Nat.le_of_ble_eq_true rfl)
 have K43 : Keep h0 h43 [] := Keep.wr K42 W43 (Or.inr (Nat.le_of_eq g37.symm))
 have N43 := Fr.snoc X43 N42 (Nat.le_trans Z0 (Nat.le_of_eq g37.symm))
 refine own_go (B := T43.setTop (mkF m 39 #[.val (.int p1), .unset] [(.int 50), (.int 6), (.ref b37), (.ref b37)])) (fun t k => ?_) ?_
 ·refine XS.dup X43.here hx rfl (hb hby d1_34) rfl rfl ?_
  show Steps p.tables e below (T43.setTop (mkF m 35 #[.val (.int p1), .unset] [(.ref b37), (.ref b37)])) _
  refine XS.bipush X43.here hx rfl (hb hby d1_35) ?_
  show Steps p.tables e below (T43.setTop (mkF m 37 #[.val (.int p1), .unset] [(.int 6), (.ref b37), (.ref b37)])) _
  refine XS.bipush X43.here hx rfl (hb hby d1_37) ?_
  show Steps p.tables e below (T43.setTop (mkF m 39 #[.val (.int p1), .unset] [(.int 50), (.int 6), (.ref b37), (.ref b37)])) _
  exact k
 obtain ⟨cl44, Ar44, cq44, cS44, cN44, cH44, cG44⟩ := id V43
 have hin44 := inb_of (j := (6 : Int32)) cS44 ⟨by decide, by decide⟩
 obtain ⟨T44, h44, X44, e44, W44, st44⟩ := stC X43 hx hZ e43 Ar44 (j := (6 : Int32)) hin44 (g := (mkF m 39 #[.val (.int p1), .unset] [(.int 50), (.int 6), (.ref b37), (.ref b37)])) rfl rfl (hb hby d1_39)
 refine own_go st44 ?_
 have V44 : Arv Z h44 b37 k37 .char (8 : Int32) [(.int 49), (.int 97), (.int 65), (.int 105), (.int 73), (.int 48), (.int 50), (.int 0)] (.int 0) := Arv.set Ar44 cq44 cS44 cN44 cH44 cG44 (fits_nar_char _) W44 6 rfl (Nat.le_of_ble_eq_true rfl)
 have K44 : Keep h0 h44 [] := Keep.wr K43 W44 (Or.inr (Nat.le_of_eq g37.symm))
 have N44 := Fr.snoc X44 N43 (Nat.le_trans Z0 (Nat.le_of_eq g37.symm))
 refine own_go (B := T44.setTop (mkF m 45 #[.val (.int p1), .unset] [(.int 98), (.int 7), (.ref b37), (.ref b37)])) (fun t k => ?_) ?_
 ·refine XS.dup X44.here hx rfl (hb hby d1_40) rfl rfl ?_
  show Steps p.tables e below (T44.setTop (mkF m 41 #[.val (.int p1), .unset] [(.ref b37), (.ref b37)])) _
  refine XS.bipush X44.here hx rfl (hb hby d1_41) ?_
  show Steps p.tables e below (T44.setTop (mkF m 43 #[.val (.int p1), .unset] [(.int 7), (.ref b37), (.ref b37)])) _
  refine XS.bipush X44.here hx rfl (hb hby d1_43) ?_
  show Steps p.tables e below (T44.setTop (mkF m 45 #[.val (.int p1), .unset] [(.int 98), (.int 7), (.ref b37), (.ref b37)])) _
  exact k
 obtain ⟨cl45, Ar45, cq45, cS45, cN45, cH45, cG45⟩ := id V44
 have hin45 := inb_of (j := (7 : Int32)) cS45 ⟨by decide, by decide⟩
 obtain ⟨T45, h45, X45, e45, W45, st45⟩ := stC X44 hx hZ e44 Ar45 (j := (7 : Int32)) hin45 (g := (mkF m 45 #[.val (.int p1), .unset] [(.int 98), (.int 7), (.ref b37), (.ref b37)])) rfl rfl (hb hby d1_45)
 refine own_go st45 ?_
 have V45 : Arv Z h45 b37 k37 .char (8 : Int32) [(.int 49), (.int 97), (.int 65), (.int 105), (.int 73), (.int 48), (.int 50), (.int 98)] (.int 0) := Arv.set Ar45 cq45 cS45 cN45 cH45 cG45 (fits_nar_char _) W45 7 rfl (Nat.le_of_ble_eq_true rfl)
 have K45 : Keep h0 h45 [] := Keep.wr K44 W45 (Or.inr (Nat.le_of_eq g37.symm))
 have N45 := Fr.snoc X45 N44 (Nat.le_trans Z0 (Nat.le_of_eq g37.symm))
 refine own_go (B := T45.setTop (mkF m 52 #[.val (.int p1), .val (.ref b37)] [(.int (p1 &&& (256 : Int32)))])) (fun t k => ?_) ?_
 ·refine XS.astoreN X45.here hx rfl (hb hby d1_46) rfl rfl (l' := #[.val (.int p1), .val (.ref b37)]) rfl ?_
  show Steps p.tables e below (T45.setTop (mkF m 47 #[.val (.int p1), .val (.ref b37)] [])) _
  refine XS.iloadN X45.here hx rfl (hb hby d1_47) rfl ?_
  show Steps p.tables e below (T45.setTop (mkF m 48 #[.val (.int p1), .val (.ref b37)] [(.int p1)])) _
  refine XS.sipush X45.here hx rfl (hb hby d1_48) ?_
  show Steps p.tables e below (T45.setTop (mkF m 51 #[.val (.int p1), .val (.ref b37)] [(.int 256), (.int p1)])) _
  refine XS.iand X45.here hx rfl (hb hby d1_51) rfl ?_
  show Steps p.tables e below (T45.setTop (mkF m 52 #[.val (.int p1), .val (.ref b37)] [(.int (p1 &&& (256 : Int32)))])) _
  exact k
 by_cases hc46 : (p1 &&& (256 : Int32)) = (0 : Int32)
 ·refine own_go (B := T45.setTop (mkF m 68 #[.val (.int p1), .val (.ref b37)] [(.int ((p1 &&& (255 : Int32)).toUInt32.toUInt16.toUInt32.toInt32))])) (fun t k => ?_) ?_
  ·refine XS.ifYes X45.here hx rfl (pc0 := 52) (pc' := 62) rfl (hb hby d1_52) rfl ((if0 _ _).trans (teq hc46).1) (by decide) (by decide) ?_
   show Steps p.tables e below (T45.setTop (mkF m 62 #[.val (.int p1), .val (.ref b37)] [])) _
   refine XS.iloadN X45.here hx rfl (hb hby d1_62) rfl ?_
   show Steps p.tables e below (T45.setTop (mkF m 63 #[.val (.int p1), .val (.ref b37)] [(.int p1)])) _
   refine XS.sipush X45.here hx rfl (hb hby d1_63) ?_
   show Steps p.tables e below (T45.setTop (mkF m 66 #[.val (.int p1), .val (.ref b37)] [(.int 255), (.int p1)])) _
   refine XS.iand X45.here hx rfl (hb hby d1_66) rfl ?_
   show Steps p.tables e below (T45.setTop (mkF m 67 #[.val (.int p1), .val (.ref b37)] [(.int (p1 &&& (255 : Int32)))])) _
   refine XS.i2c X45.here hx rfl (hb hby d1_67) rfl ?_
   show Steps p.tables e below (T45.setTop (mkF m 68 #[.val (.int p1), .val (.ref b37)] [(.int ((p1 &&& (255 : Int32)).toUInt32.toUInt16.toUInt32.toInt32))])) _
   exact k
  obtain ⟨fs, hr, hrun, hended, hW, hsame⟩ := X45.leave (v := some (.int (nar .char ((p1 &&& (255 : Int32)).toUInt32.toUInt16.toUInt32.toInt32)))) (fun h => by rw [Bd.returns] at h; cases h)
  refine ⟨_, _, ?_, hrun, hended, _, _, rfl, ?_, ⟨_, rfl⟩, hW, hsame.mono (by decide) (by decide)⟩
  ·exact retN X45 hx (t := .char) Bd.returns (by simp) (hb hby d1_68) hr
  ·show Q1 Z p1 h0 n0 _ T45.heap _
   rw [e45]
   exact ⟨(nar .char ((p1 &&& (255 : Int32)).toUInt32.toUInt16.toUInt32.toInt32)), rfl, N45, K45, (own_i2c p1)⟩
 ·refine own_go (B := T45.setTop (mkF m 60 #[.val (.int p1), .val (.ref b37)] [(.int (p1 &&& (7 : Int32))), (.ref b37)])) (fun t k => ?_) ?_
  ·refine XS.ifNo X45.here hx rfl (hb hby d1_52) rfl ((if0 _ _).trans (feq hc46).1) ?_
   show Steps p.tables e below (T45.setTop (mkF m 55 #[.val (.int p1), .val (.ref b37)] [])) _
   refine XS.aloadN X45.here hx rfl (hb hby d1_55) rfl rfl ?_
   show Steps p.tables e below (T45.setTop (mkF m 56 #[.val (.int p1), .val (.ref b37)] [(.ref b37)])) _
   refine XS.iloadN X45.here hx rfl (hb hby d1_56) rfl ?_
   show Steps p.tables e below (T45.setTop (mkF m 57 #[.val (.int p1), .val (.ref b37)] [(.int p1), (.ref b37)])) _
   refine XS.bipush X45.here hx rfl (hb hby d1_57) ?_
   show Steps p.tables e below (T45.setTop (mkF m 59 #[.val (.int p1), .val (.ref b37)] [(.int 7), (.int p1), (.ref b37)])) _
   refine XS.iand X45.here hx rfl (hb hby d1_59) rfl ?_
   show Steps p.tables e below (T45.setTop (mkF m 60 #[.val (.int p1), .val (.ref b37)] [(.int (p1 &&& (7 : Int32))), (.ref b37)])) _
   exact k
  obtain ⟨cl48, Ar48, cq48, cS48, cN48, cH48, cG48⟩ := id V45
  have hin48 := inb_of (j := (p1 &&& (7 : Int32))) cS48 ⟨(own_m7 p1).1, (own_m7 p1).2.1⟩
  obtain ⟨z60, hz60, bz60⟩ := own_pick (p1 &&& (7 : Int32)).toNatClampNeg (own_m7 p1).2.2
  have hat48 : cl48.slots[((p1 &&& (7 : Int32))).toNatClampNeg]? = some (.int z60) := Has.at cH48 hin48 hz60
  refine own_go (B := T45.setTop (mkF m 61 #[.val (.int p1), .val (.ref b37)] [(.int z60)])) (fun t k => ?_) ?_
  ·refine X45.caload hx (j := (p1 &&& (7 : Int32))) (v := (.int z60)) (by rw [e45]; exact Ar48.1) (State.isArrayOf_alike hZ.alike Ar48.2.1) Ar48.2.2 hin48 hat48 (g := (mkF m 60 #[.val (.int p1), .val (.ref b37)] [(.int (p1 &&& (7 : Int32))), (.ref b37)])) rfl rfl (hb hby d1_60) _ ?_
   show Steps p.tables e below (T45.setTop (mkF m 61 #[.val (.int p1), .val (.ref b37)] [(.int z60)])) _
   exact k
  obtain ⟨fs, hr, hrun, hended, hW, hsame⟩ := X45.leave (v := some (.int (nar .char z60))) (fun h => by rw [Bd.returns] at h; cases h)
  refine ⟨_, _, ?_, hrun, hended, _, _, rfl, ?_, ⟨_, rfl⟩, hW, hsame.mono (by decide) (by decide)⟩
  ·exact retN X45 hx (t := .char) Bd.returns (by simp) (hb hby d1_61) hr
  ·show Q1 Z p1 h0 n0 _ T45.heap _
   rw [e45]
   exact ⟨(nar .char z60), rfl, N45, K45, (by rw [own_narC z60 bz60]; exact bz60)⟩
theorem pn_74 : plainName "java/lang/StringUTF16" = true := by first | (simp [plainName, overriddenIn]; done) | decide +kernel
theorem d10_0 : decode jdk_52_method_21_code 0 = .ok (.iconst 0, 1) := by decide +kernel
theorem d10_1 : decode jdk_52_method_21_code 1 = .ok (.istore 5, 2) := by decide +kernel
theorem d10_3 : decode jdk_52_method_21_code 3 = .ok (.iload 5, 2) := by decide +kernel
theorem d10_5 : decode jdk_52_method_21_code 5 = .ok (.iload 4, 2) := by decide +kernel
theorem d10_7 : decode jdk_52_method_21_code 7 = .ok (.if_icmp .ge 37, 3) := by decide +kernel
theorem d10_10 : decode jdk_52_method_21_code 10 = .ok (.aload_n 0, 1) := by decide +kernel
theorem d10_11 : decode jdk_52_method_21_code 11 = .ok (.iload_n 1, 1) := by decide +kernel
theorem d10_12 : decode jdk_52_method_21_code 12 = .ok (.caload, 1) := by decide +kernel
theorem d10_13 : decode jdk_52_method_21_code 13 = .ok (.istore 6, 2) := by decide +kernel
theorem d10_15 : decode jdk_52_method_21_code 15 = .ok (.iload 6, 2) := by decide +kernel
theorem d10_17 : decode jdk_52_method_21_code 17 = .ok (.sipush 255, 3) := by decide +kernel
theorem d10_20 : decode jdk_52_method_21_code 20 = .ok (.if_icmp .le 6, 3) := by decide +kernel
theorem d10_26 : decode jdk_52_method_21_code 26 = .ok (.aload_n 2, 1) := by decide +kernel
theorem d10_27 : decode jdk_52_method_21_code 27 = .ok (.iload_n 3, 1) := by decide +kernel
theorem d10_28 : decode jdk_52_method_21_code 28 = .ok (.iload 6, 2) := by decide +kernel
theorem d10_30 : decode jdk_52_method_21_code 30 = .ok (.i2b, 1) := by decide +kernel
theorem d10_31 : decode jdk_52_method_21_code 31 = .ok (.bastore, 1) := by decide +kernel
theorem d10_32 : decode jdk_52_method_21_code 32 = .ok (.iinc 1 1, 3) := by decide +kernel
theorem d10_35 : decode jdk_52_method_21_code 35 = .ok (.iinc 3 1, 3) := by decide +kernel
theorem d10_38 : decode jdk_52_method_21_code 38 = .ok (.iinc 5 1, 3) := by decide +kernel
theorem d10_41 : decode jdk_52_method_21_code 41 = .ok (.goto (-38), 3) := by decide +kernel
theorem d10_44 : decode jdk_52_method_21_code 44 = .ok (.iload 4, 2) := by decide +kernel
theorem d10_46 : decode jdk_52_method_21_code 46 = .ok (.ireturn, 1) := by decide +kernel
theorem ef_10_1 (m : MethodId) (ar : Addr) (a2 : Addr) : entryFrame m #[(.ref ar), (.int 0), (.ref a2), (.int 0), (.int 1)] 7 = mkF m 0 #[.val (.ref ar), .val (.int 0), .val (.ref a2), .val (.int 0), .val (.int 1), .unset, .unset] [] := by first | (simp [entryFrame, mkF, argsToLocals, Value.category]; done) | rfl
def Q10_1 (Z : State) (ar : Addr) (a2 : Addr) (kar : ClassId) (k2 : ClassId) (c0 : Int32) (h0 : Heap) (n0 : Nat) (v : Option Value) (h : Heap) (L : List Loc) : Prop := v = some (.int 1) ∧ Fr n0 L ∧ Keep h0 h [a2] ∧ Arv Z h a2 k2 .byte (1 : Int32) [(.int (c0.toInt8.toInt32))] (.int 0)
set_option maxRecDepth 65536 in
set_option maxHeartbeats 40000000 in
theorem rm10_1 (l : Launch) (Z : State) (a0 : Array Value) (hw : ∀ d ∈ tables_1, d.before a0 Z = true) (ws : List Jvm.Cond) (ar : Addr) (a2 : Addr) (kar : ClassId) (k2 : ClassId) (c0 : Int32) (h0 : Heap) (n0 : Nat) (Z0 : n0 ≤ h0.size) (V_ar : Arv Z h0 ar kar .char (1 : Int32) [(.int c0)] (.int 0)) (V_2 : Arv Z h0 a2 k2 .byte (1 : Int32) [(.int 0)] (.int 0)) (g_a2 : n0 ≤ a2) (ne_ : ar ≠ a2) (hc0 : 0 ≤ c0.toInt ∧ c0.toInt ≤ 255) :
  MetFree l (⟨"java/lang/StringUTF16", "compress", "([CI[BII)I"⟩ : MethodName) (head1 (Jvm.Cond.code (⟨"java/lang/StringUTF16", "compress", "([CI[BII)I"⟩ : MethodName) jdk_52_method_21_code 7 (some .int) :: ws) ({ frames := 0, cells := 0, slots := 0, locals := 0 } : Room)) (fun a U => a = #[(.ref ar), (.int 0), (.ref a2), (.int 0), (.int 1)] ∧ Z.Warmed39 U.vm ∧ U.heap = h0) (fun _ _ _ _ _ => True) (fun _ U o U' => ∃ v L, o = .returned v ∧ Q10_1 Z ar a2 kar k2 c0 h0 n0 v U'.heap L ∧ FrameEnd U o U' L ({ frames := 0, cells := 0, slots := 0, locals := 0 } : Room).cells ({ frames := 0, cells := 0, slots := 0, locals := 0 } : Room).slots) := by
 refine MetFree.of_bodySF (plainFor_of_name pn_74) hisR ?_
 intro p e s m args below meth c s₁ Bd hml0 hP hK
 obtain ⟨rfl, hZ, hh⟩ := hP
 have hx := Bd.exec
 have hby := Bd.bytes
 have hml : c.maxLocals = 7 := hml0
 have hown : s.vm.findClass "java/lang/StringUTF16" = some m.cls := findClass_of_methodNamed Bd.named
 have hnm := (name_of_methodNamed Bd.named Bd.method).1
 have X0 : Stand p l e ({ frames := 0, cells := 0, slots := 0, locals := 0 } : Room) s m #[(.ref ar), (.int 0), (.ref a2), (.int 0), (.int 1)] below meth c s₁ [] 0 0 := Stand.of_body Bd
 have e0 : s₁.heap = h0 := by rw [← hh, Bd.state]; rfl
 have N0 := Fr.nil n0
 refine own_go (B := s₁.setTop (mkF m 0 #[.val (.ref ar), .val (.int 0), .val (.ref a2), .val (.int 0), .val (.int 1), .unset, .unset] [])) (fun t k => castTop (ef_10_1 m ar a2) k) ?_
 refine own_go (B := s₁.setTop (mkF m 12 #[.val (.ref ar), .val (.int 0), .val (.ref a2), .val (.int 0), .val (.int 1), .val (.int 0), .unset] [(.int 0), (.ref ar)])) (fun t k => ?_) ?_
 ·refine XS.iconst X0.here hx rfl (hb hby d10_0) ?_
  show Steps p.tables e below (s₁.setTop (mkF m 1 #[.val (.ref ar), .val (.int 0), .val (.ref a2), .val (.int 0), .val (.int 1), .unset, .unset] [(.int 0)])) _
  refine XS.istore X0.here hx rfl (hb hby d10_1) rfl (l' := #[.val (.ref ar), .val (.int 0), .val (.ref a2), .val (.int 0), .val (.int 1), .val (.int 0), .unset]) rfl ?_
  show Steps p.tables e below (s₁.setTop (mkF m 3 #[.val (.ref ar), .val (.int 0), .val (.ref a2), .val (.int 0), .val (.int 1), .val (.int 0), .unset] [])) _
  refine XS.iload X0.here hx rfl (hb hby d10_3) rfl ?_
  show Steps p.tables e below (s₁.setTop (mkF m 5 #[.val (.ref ar), .val (.int 0), .val (.ref a2), .val (.int 0), .val (.int 1), .val (.int 0), .unset] [(.int 0)])) _
  refine XS.iload X0.here hx rfl (hb hby d10_5) rfl ?_
  show Steps p.tables e below (s₁.setTop (mkF m 7 #[.val (.ref ar), .val (.int 0), .val (.ref a2), .val (.int 0), .val (.int 1), .val (.int 0), .unset] [(.int 1), (.int 0)])) _
  refine XS.icmpNo X0.here hx rfl (hb hby d10_7) rfl (tlt (by decide : (0 : Int32) < (1 : Int32))).2.1 ?_
  show Steps p.tables e below (s₁.setTop (mkF m 10 #[.val (.ref ar), .val (.int 0), .val (.ref a2), .val (.int 0), .val (.int 1), .val (.int 0), .unset] [])) _
  refine XS.aloadN X0.here hx rfl (hb hby d10_10) rfl rfl ?_
  show Steps p.tables e below (s₁.setTop (mkF m 11 #[.val (.ref ar), .val (.int 0), .val (.ref a2), .val (.int 0), .val (.int 1), .val (.int 0), .unset] [(.ref ar)])) _
  refine XS.iloadN X0.here hx rfl (hb hby d10_11) rfl ?_
  show Steps p.tables e below (s₁.setTop (mkF m 12 #[.val (.ref ar), .val (.int 0), .val (.ref a2), .val (.int 0), .val (.int 1), .val (.int 0), .unset] [(.int 0), (.ref ar)])) _
  exact k
 obtain ⟨cl50, Ar50, cq50, cS50, cN50, cH50, cG50⟩ := id V_ar
 have hin50 := inb_of (j := (0 : Int32)) cS50 ⟨by decide, by decide⟩
 have hat50 : cl50.slots[((0 : Int32)).toNatClampNeg]? = some (.int c0) := Has.at cH50 hin50 rfl
 refine own_go (B := s₁.setTop (mkF m 31 #[.val (.ref ar), .val (.int 0), .val (.ref a2), .val (.int 0), .val (.int 1), .val (.int 0), .val (.int c0)] [(.int (c0.toInt8.toInt32)), (.int 0), (.ref a2)])) (fun t k => ?_) ?_
 ·refine X0.caload hx (j := (0 : Int32)) (v := (.int c0)) (by rw [e0]; exact Ar50.1) (State.isArrayOf_alike hZ.alike Ar50.2.1) Ar50.2.2 hin50 hat50 (g := (mkF m 12 #[.val (.ref ar), .val (.int 0), .val (.ref a2), .val (.int 0), .val (.int 1), .val (.int 0), .unset] [(.int 0), (.ref ar)])) rfl rfl (hb hby d10_12) _ ?_
  show Steps p.tables e below (s₁.setTop (mkF m 13 #[.val (.ref ar), .val (.int 0), .val (.ref a2), .val (.int 0), .val (.int 1), .val (.int 0), .unset] [(.int c0)])) _
  refine XS.istore X0.here hx rfl (hb hby d10_13) rfl (l' := #[.val (.ref ar), .val (.int 0), .val (.ref a2), .val (.int 0), .val (.int 1), .val (.int 0), .val (.int c0)]) rfl ?_
  show Steps p.tables e below (s₁.setTop (mkF m 15 #[.val (.ref ar), .val (.int 0), .val (.ref a2), .val (.int 0), .val (.int 1), .val (.int 0), .val (.int c0)] [])) _
  refine XS.iload X0.here hx rfl (hb hby d10_15) rfl ?_
  show Steps p.tables e below (s₁.setTop (mkF m 17 #[.val (.ref ar), .val (.int 0), .val (.ref a2), .val (.int 0), .val (.int 1), .val (.int 0), .val (.int c0)] [(.int c0)])) _
  refine XS.sipush X0.here hx rfl (hb hby d10_17) ?_
  show Steps p.tables e below (s₁.setTop (mkF m 20 #[.val (.ref ar), .val (.int 0), .val (.ref a2), .val (.int 0), .val (.int 1), .val (.int 0), .val (.int c0)] [(.int 255), (.int c0)])) _
  refine XS.icmpYes X0.here hx rfl (pc0 := 20) (pc' := 26) rfl (hb hby d10_20) rfl (flt (show ¬ ((255 : Int32) < c0) from (own_le c0 hc0))).2.2.2 (by decide) (by decide) ?_
  show Steps p.tables e below (s₁.setTop (mkF m 26 #[.val (.ref ar), .val (.int 0), .val (.ref a2), .val (.int 0), .val (.int 1), .val (.int 0), .val (.int c0)] [])) _
  refine XS.aloadN X0.here hx rfl (hb hby d10_26) rfl rfl ?_
  show Steps p.tables e below (s₁.setTop (mkF m 27 #[.val (.ref ar), .val (.int 0), .val (.ref a2), .val (.int 0), .val (.int 1), .val (.int 0), .val (.int c0)] [(.ref a2)])) _
  refine XS.iloadN X0.here hx rfl (hb hby d10_27) rfl ?_
  show Steps p.tables e below (s₁.setTop (mkF m 28 #[.val (.ref ar), .val (.int 0), .val (.ref a2), .val (.int 0), .val (.int 1), .val (.int 0), .val (.int c0)] [(.int 0), (.ref a2)])) _
  refine XS.iload X0.here hx rfl (hb hby d10_28) rfl ?_
  show Steps p.tables e below (s₁.setTop (mkF m 30 #[.val (.ref ar), .val (.int 0), .val (.ref a2), .val (.int 0), .val (.int 1), .val (.int 0), .val (.int c0)] [(.int c0), (.int 0), (.ref a2)])) _
  refine XS.i2b X0.here hx rfl (hb hby d10_30) rfl ?_
  show Steps p.tables e below (s₁.setTop (mkF m 31 #[.val (.ref ar), .val (.int 0), .val (.ref a2), .val (.int 0), .val (.int 1), .val (.int 0), .val (.int c0)] [(.int (c0.toInt8.toInt32)), (.int 0), (.ref a2)])) _
  exact k
 obtain ⟨cl51, Ar51, cq51, cS51, cN51, cH51, cG51⟩ := id V_2
 have hin51 := inb_of (j := (0 : Int32)) cS51 ⟨by decide, by decide⟩
 obtain ⟨T51, h51, X51, e51, W51, st51⟩ := stB X0 hx hZ e0 Ar51 (j := (0 : Int32)) hin51 (g := (mkF m 31 #[.val (.ref ar), .val (.int 0), .val (.ref a2), .val (.int 0), .val (.int 1), .val (.int 0), .val (.int c0)] [(.int (c0.toInt8.toInt32)), (.int 0), (.ref a2)])) rfl rfl (hb hby d10_31)
 refine own_go st51 ?_
 have V51 : Arv Z h51 a2 k2 .byte (1 : Int32) [(.int (c0.toInt8.toInt32))] (.int 0) := by have q := Arv.set Ar51 cq51 cS51 cN51 cH51 cG51 (fits_nar_byte _) W51 0 rfl (Nat.le_of_ble_eq_true rfl); rw [own_narB] at q; exact q
 have K51 : Keep h0 h51 [a2] := Keep.wr (Keep.refl h0 [a2]) W51 (Or.inl (List.mem_of_getElem? (i := 0) rfl))
 have N51 := Fr.snoc X51 N0 g_a2
 refine own_go (B := T51.setTop (mkF m 46 #[.val (.ref ar), .val (.int 1), .val (.ref a2), .val (.int 1), .val (.int 1), .val (.int 1), .val (.int c0)] [(.int 1)])) (fun t k => ?_) ?_
 ·refine XS.iinc X51.here hx rfl (hb hby d10_32) rfl (l' := #[.val (.ref ar), .val (.int 1), .val (.ref a2), .val (.int 0), .val (.int 1), .val (.int 0), .val (.int c0)]) rfl ?_
  show Steps p.tables e below (T51.setTop (mkF m 35 #[.val (.ref ar), .val (.int 1), .val (.ref a2), .val (.int 0), .val (.int 1), .val (.int 0), .val (.int c0)] [])) _
  refine XS.iinc X51.here hx rfl (hb hby d10_35) rfl (l' := #[.val (.ref ar), .val (.int 1), .val (.ref a2), .val (.int 1), .val (.int 1), .val (.int 0), .val (.int c0)]) rfl ?_
  show Steps p.tables e below (T51.setTop (mkF m 38 #[.val (.ref ar), .val (.int 1), .val (.ref a2), .val (.int 1), .val (.int 1), .val (.int 0), .val (.int c0)] [])) _
  refine XS.iinc X51.here hx rfl (hb hby d10_38) rfl (l' := #[.val (.ref ar), .val (.int 1), .val (.ref a2), .val (.int 1), .val (.int 1), .val (.int 1), .val (.int c0)]) rfl ?_
  show Steps p.tables e below (T51.setTop (mkF m 41 #[.val (.ref ar), .val (.int 1), .val (.ref a2), .val (.int 1), .val (.int 1), .val (.int 1), .val (.int c0)] [])) _
  refine XS.goto X51.here hx rfl (pc0 := 41) (pc' := 3) rfl (hb hby d10_41) (by decide) (by decide) ?_
  show Steps p.tables e below (T51.setTop (mkF m 3 #[.val (.ref ar), .val (.int 1), .val (.ref a2), .val (.int 1), .val (.int 1), .val (.int 1), .val (.int c0)] [])) _
  refine XS.iload X51.here hx rfl (hb hby d10_3) rfl ?_
  show Steps p.tables e below (T51.setTop (mkF m 5 #[.val (.ref ar), .val (.int 1), .val (.ref a2), .val (.int 1), .val (.int 1), .val (.int 1), .val (.int c0)] [(.int 1)])) _
  refine XS.iload X51.here hx rfl (hb hby d10_5) rfl ?_
  show Steps p.tables e below (T51.setTop (mkF m 7 #[.val (.ref ar), .val (.int 1), .val (.ref a2), .val (.int 1), .val (.int 1), .val (.int 1), .val (.int c0)] [(.int 1), (.int 1)])) _
  refine XS.icmpYes X51.here hx rfl (pc0 := 7) (pc' := 44) rfl (hb hby d10_7) rfl (flt (by decide : ¬ ((1 : Int32) < (1 : Int32)))).2.1 (by decide) (by decide) ?_
  show Steps p.tables e below (T51.setTop (mkF m 44 #[.val (.ref ar), .val (.int 1), .val (.ref a2), .val (.int 1), .val (.int 1), .val (.int 1), .val (.int c0)] [])) _
  refine XS.iload X51.here hx rfl (hb hby d10_44) rfl ?_
  show Steps p.tables e below (T51.setTop (mkF m 46 #[.val (.ref ar), .val (.int 1), .val (.ref a2), .val (.int 1), .val (.int 1), .val (.int 1), .val (.int c0)] [(.int 1)])) _
  exact k
 obtain ⟨fs, hr, hrun, hended, hW, hsame⟩ := X51.leave (v := some (.int 1)) (fun h => by rw [Bd.returns] at h; cases h)
 refine ⟨_, _, ?_, hrun, hended, _, _, rfl, ?_, ⟨_, rfl⟩, hW, hsame.mono (by decide) (by decide)⟩
 ·exact retI X51 hx Bd.returns (hb hby d10_46) hr
 ·show Q10_1 Z ar a2 kar k2 c0 h0 n0 _ T51.heap _
  rw [e51]
  exact ⟨rfl, N51, K51, V51⟩
theorem pd_0 : parseMethodDescriptor "([CI[BII)I" = some ⟨[(.array .char), .int, (.array .byte), .int, .int], some .int⟩ := by decide +kernel
theorem d9_0 : decode jdk_52_method_16_code 0 = .ok (.iload_n 2, 1) := by decide +kernel
theorem d9_1 : decode jdk_52_method_16_code 1 = .ok (.newarray .byte, 2) := by decide +kernel
theorem d9_3 : decode jdk_52_method_16_code 3 = .ok (.astore_n 3, 1) := by decide +kernel
theorem d9_4 : decode jdk_52_method_16_code 4 = .ok (.aload_n 0, 1) := by decide +kernel
theorem d9_5 : decode jdk_52_method_16_code 5 = .ok (.iload_n 1, 1) := by decide +kernel
theorem d9_6 : decode jdk_52_method_16_code 6 = .ok (.aload_n 3, 1) := by decide +kernel
theorem d9_7 : decode jdk_52_method_16_code 7 = .ok (.iconst 0, 1) := by decide +kernel
theorem d9_8 : decode jdk_52_method_16_code 8 = .ok (.iload_n 2, 1) := by decide +kernel
theorem d9_9 : decode jdk_52_method_16_code 9 = .ok (.invokestatic 115, 3) := by decide +kernel
theorem d9_12 : decode jdk_52_method_16_code 12 = .ok (.istore 4, 2) := by decide +kernel
theorem d9_14 : decode jdk_52_method_16_code 14 = .ok (.iload 4, 2) := by decide +kernel
theorem d9_16 : decode jdk_52_method_16_code 16 = .ok (.iload_n 2, 1) := by decide +kernel
theorem d9_17 : decode jdk_52_method_16_code 17 = .ok (.if_icmp .eq 40, 3) := by decide +kernel
theorem d9_57 : decode jdk_52_method_16_code 57 = .ok (.aload_n 3, 1) := by decide +kernel
theorem d9_58 : decode jdk_52_method_16_code 58 = .ok (.areturn, 1) := by decide +kernel
theorem ef_9_1 (m : MethodId) (ar : Addr) : entryFrame m #[(.ref ar), (.int 0), (.int 1)] 6 = mkF m 0 #[.val (.ref ar), .val (.int 0), .val (.int 1), .unset, .unset, .unset] [] := by first | (simp [entryFrame, mkF, argsToLocals, Value.category]; done) | rfl
def Q9_1 (Z : State) (ar : Addr) (kar : ClassId) (c0 : Int32) (h0 : Heap) (n0 : Nat) (v : Option Value) (h : Heap) (L : List Loc) : Prop := ∃ (bn : Addr) (kn : ClassId), v = some (.ref bn) ∧ Fr n0 L ∧ Keep h0 h [] ∧ h0.size ≤ bn ∧ Arv Z h bn kn .byte (1 : Int32) [(.int (c0.toInt8.toInt32))] (.int 0)
set_option maxRecDepth 65536 in
set_option maxHeartbeats 40000000 in
theorem rm9_1 (l : Launch) (Z : State) (a0 : Array Value) (hw : ∀ d ∈ tables_1, d.before a0 Z = true) (ws : List Jvm.Cond) (ar : Addr) (kar : ClassId) (c0 : Int32) (h0 : Heap) (n0 : Nat) (Z0 : n0 ≤ h0.size) (V_ar : Arv Z h0 ar kar .char (1 : Int32) [(.int c0)] (.int 0)) (hc0 : 0 ≤ c0.toInt ∧ c0.toInt ≤ 255) :
  MetFree l (⟨"java/lang/StringUTF16", "compress", "([CII)[B"⟩ : MethodName) (head1 (Jvm.Cond.code (⟨"java/lang/StringUTF16", "compress", "([CII)[B"⟩ : MethodName) jdk_52_method_16_code 6 (some (.array .byte)) :: ws) ({ frames := 1, cells := 1, slots := 1, locals := 18 } : Room)) (fun a U => a = #[(.ref ar), (.int 0), (.int 1)] ∧ Z.Warmed39 U.vm ∧ U.heap = h0) (fun _ _ _ _ _ => True) (fun _ U o U' => ∃ v L, o = .returned v ∧ Q9_1 Z ar kar c0 h0 n0 v U'.heap L ∧ FrameEnd U o U' L ({ frames := 1, cells := 1, slots := 1, locals := 18 } : Room).cells ({ frames := 1, cells := 1, slots := 1, locals := 18 } : Room).slots) := by
 refine MetFree.of_bodySF (plainFor_of_name pn_74) hisR ?_
 intro p e s m args below meth c s₁ Bd hml0 hP hK
 obtain ⟨rfl, hZ, hh⟩ := hP
 have hx := Bd.exec
 have hby := Bd.bytes
 have hml : c.maxLocals = 6 := hml0
 have hown : s.vm.findClass "java/lang/StringUTF16" = some m.cls := findClass_of_methodNamed Bd.named
 have hnm := (name_of_methodNamed Bd.named Bd.method).1
 have X0 : Stand p l e ({ frames := 1, cells := 1, slots := 1, locals := 18 } : Room) s m #[(.ref ar), (.int 0), (.int 1)] below meth c s₁ [] 0 0 := Stand.of_body Bd
 have e0 : s₁.heap = h0 := by rw [← hh, Bd.state]; rfl
 have N0 := Fr.nil n0
 refine own_go (B := s₁.setTop (mkF m 0 #[.val (.ref ar), .val (.int 0), .val (.int 1), .unset, .unset, .unset] [])) (fun t k => castTop (ef_9_1 m ar) k) ?_
 refine own_go (B := s₁.setTop (mkF m 1 #[.val (.ref ar), .val (.int 0), .val (.int 1), .unset, .unset, .unset] [(.int 1)])) (fun t k => ?_) ?_
 ·refine XS.iloadN X0.here hx rfl (hb hby d9_0) rfl ?_
  show Steps p.tables e below (s₁.setTop (mkF m 1 #[.val (.ref ar), .val (.int 0), .val (.int 1), .unset, .unset, .unset] [(.int 1)])) _
  exact k
 obtain ⟨T53, h53, k53, X53, e53, E53, A53, st53⟩ := newP X0 hx hZ (hw _ (List.mem_of_getElem? (i := 22) rfl)) e0 (g := (mkF m 1 #[.val (.ref ar), .val (.int 0), .val (.int 1), .unset, .unset, .unset] [(.int 1)])) rfl (hb hby d9_1) rfl (by decide) (cap := 1) (by decide) (by decide) (by decide) (by decide)
 obtain ⟨b53, g53⟩ : ∃ z, z = h0.size := ⟨_, rfl⟩
 rw [← g53] at A53 st53
 refine own_go st53 ?_
 have K53 : Keep h0 h53 [] := Keep.ext (Keep.refl h0 []) E53
 have V53 : Arv Z h53 b53 k53 .byte (1 : Int32) [(.int 0)] (.int 0) := (Arv.new A53 (by decide)).pad (pad_rep [] (.int 0) 1)
 refine own_go (B := T53.setTop (mkF m 9 #[.val (.ref ar), .val (.int 0), .val (.int 1), .val (.ref b53), .unset, .unset] [(.int 1), (.int 0), (.ref b53), (.int 0), (.ref ar)])) (fun t k => ?_) ?_
 ·refine XS.astoreN X53.here hx rfl (hb hby d9_3) rfl rfl (l' := #[.val (.ref ar), .val (.int 0), .val (.int 1), .val (.ref b53), .unset, .unset]) rfl ?_
  show Steps p.tables e below (T53.setTop (mkF m 4 #[.val (.ref ar), .val (.int 0), .val (.int 1), .val (.ref b53), .unset, .unset] [])) _
  refine XS.aloadN X53.here hx rfl (hb hby d9_4) rfl rfl ?_
  show Steps p.tables e below (T53.setTop (mkF m 5 #[.val (.ref ar), .val (.int 0), .val (.int 1), .val (.ref b53), .unset, .unset] [(.ref ar)])) _
  refine XS.iloadN X53.here hx rfl (hb hby d9_5) rfl ?_
  show Steps p.tables e below (T53.setTop (mkF m 6 #[.val (.ref ar), .val (.int 0), .val (.int 1), .val (.ref b53), .unset, .unset] [(.int 0), (.ref ar)])) _
  refine XS.aloadN X53.here hx rfl (hb hby d9_6) rfl rfl ?_
  show Steps p.tables e below (T53.setTop (mkF m 7 #[.val (.ref ar), .val (.int 0), .val (.int 1), .val (.ref b53), .unset, .unset] [(.ref b53), (.int 0), (.ref ar)])) _
  refine XS.iconst X53.here hx rfl (hb hby d9_7) ?_
  show Steps p.tables e below (T53.setTop (mkF m 8 #[.val (.ref ar), .val (.int 0), .val (.int 1), .val (.ref b53), .unset, .unset] [(.int 0), (.ref b53), (.int 0), (.ref ar)])) _
  refine XS.iloadN X53.here hx rfl (hb hby d9_8) rfl ?_
  show Steps p.tables e below (T53.setTop (mkF m 9 #[.val (.ref ar), .val (.int 0), .val (.int 1), .val (.ref b53), .unset, .unset] [(.int 1), (.int 0), (.ref b53), (.int 0), (.ref ar)])) _
  exact k
 have f55 : Arv Z h53 ar kar .char (1 : Int32) [(.int c0)] (.int 0) := (V_ar.ext E53)
 have ne56 : ar ≠ b53 := (Nat.ne_of_lt (Nat.lt_of_lt_of_le V_ar.lt (Nat.le_of_eq g53.symm)))
 obtain ⟨_, _, ⟨T54, L54, k54, n54⟩, -, X54, ⟨Lc54, hQ54, l54, y54, z54⟩, st54⟩ := Jvm.LawKit.callS X53 hx (y := (⟨"java/lang/StringUTF16", "compress", "([CI[BII)I"⟩ : MethodName)) hown (mvT hZ (hw _ (List.mem_of_getElem? (i := 57) rfl))) (mvT hZ (hw _ (List.mem_of_getElem? (i := 58) rfl))) (mvT hZ (hw _ (List.mem_of_getElem? (i := 55) rfl))) (mvT hZ (hw _ (List.mem_of_getElem? (i := 59) rfl))) (by decide) (backOf (W := 0) (rm10_1 l Z a0 hw [] ar b53 kar k53 c0 h53 n0 (Nat.le_trans Z0 E53.1) f55 V53 (Nat.le_trans Z0 (Nat.le_of_eq g53.symm)) ne56 (by first | assumption | decide)) hZ (hw _ (List.mem_of_getElem? (i := 59) rfl)) (hw _ (List.mem_of_getElem? (i := 55) rfl)) (by decide) (by decide)) (g := (mkF m 9 #[.val (.ref ar), .val (.int 0), .val (.int 1), .val (.ref b53), .unset, .unset] [(.int 1), (.int 0), (.ref b53), (.int 0), (.ref ar)])) rfl (by rw [hml]; rfl) (argsL := [(.ref ar), (.int 0), (.ref b53), (.int 0), (.int 1)]) (rest := []) (lenOf pd_0 rfl) rfl (by show 2 * 0 + _ ≤ _; exact Nat.le_of_eq rfl) (hb hby d9_9) (fun _ _ => ⟨rfl, e53, (by decide : 1 + 0 ≤ _), (by decide : 1 + 0 ≤ _)⟩)
 dsimp only [Pt.U, Pt.locs, Pt.cells, Pt.slots] at X54 l54 y54 z54 st54 hQ54
 subst l54 y54 z54
 obtain ⟨rfl, M54, q54_0, q54_1⟩ := hQ54
 have N54 := Fr.app N0 M54
 have K54 : Keep h0 T54.heap [] := Keep.trans K53 q54_0 (allS (Or.inr (Nat.le_of_eq g53.symm)) all0)
 refine own_go st54 ?_
 refine own_go (B := T54.setTop (mkF m 58 #[.val (.ref ar), .val (.int 0), .val (.int 1), .val (.ref b53), .val (.int 1), .unset] [(.ref b53)])) (fun t k => ?_) ?_
 ·refine XS.istore X54.here hx rfl (hb hby d9_12) rfl (l' := #[.val (.ref ar), .val (.int 0), .val (.int 1), .val (.ref b53), .val (.int 1), .unset]) rfl ?_
  show Steps p.tables e below (T54.setTop (mkF m 14 #[.val (.ref ar), .val (.int 0), .val (.int 1), .val (.ref b53), .val (.int 1), .unset] [])) _
  refine XS.iload X54.here hx rfl (hb hby d9_14) rfl ?_
  show Steps p.tables e below (T54.setTop (mkF m 16 #[.val (.ref ar), .val (.int 0), .val (.int 1), .val (.ref b53), .val (.int 1), .unset] [(.int 1)])) _
  refine XS.iloadN X54.here hx rfl (hb hby d9_16) rfl ?_
  show Steps p.tables e below (T54.setTop (mkF m 17 #[.val (.ref ar), .val (.int 0), .val (.int 1), .val (.ref b53), .val (.int 1), .unset] [(.int 1), (.int 1)])) _
  refine XS.icmpYes X54.here hx rfl (pc0 := 17) (pc' := 57) rfl (hb hby d9_17) rfl (teq (by decide : (1 : Int32) = (1 : Int32))).1 (by decide) (by decide) ?_
  show Steps p.tables e below (T54.setTop (mkF m 57 #[.val (.ref ar), .val (.int 0), .val (.int 1), .val (.ref b53), .val (.int 1), .unset] [])) _
  refine XS.aloadN X54.here hx rfl (hb hby d9_57) rfl rfl ?_
  show Steps p.tables e below (T54.setTop (mkF m 58 #[.val (.ref ar), .val (.int 0), .val (.int 1), .val (.ref b53), .val (.int 1), .unset] [(.ref b53)])) _
  exact k
 obtain ⟨fs, hr, hrun, hended, hW, hsame⟩ := X54.leave (v := some (.ref b53)) (fun h => by rw [Bd.returns] at h; cases h)
 refine ⟨_, _, ?_, hrun, hended, _, _, rfl, ?_, ⟨_, rfl⟩, hW, hsame.mono (by decide) (by decide)⟩
 ·exact own_retR X54 hx Bd.returns rfl rfl (hb hby d9_58) hr
 ·show Q9_1 Z ar kar c0 h0 n0 _ T54.heap _
  exact ⟨b53, k53, rfl, N54, K54, (Nat.le_of_eq g53.symm), q54_1⟩
theorem d11_0 : decode jdk_52_method_15_code 0 = .ok (.iload_n 1, 1) := by decide +kernel
theorem d11_1 : decode jdk_52_method_15_code 1 = .ok (.aload_n 0, 1) := by decide +kernel
theorem d11_2 : decode jdk_52_method_15_code 2 = .ok (.arraylength, 1) := by decide +kernel
theorem d11_3 : decode jdk_52_method_15_code 3 = .ok (.isub, 1) := by decide +kernel
theorem d11_4 : decode jdk_52_method_15_code 4 = .ok (.bipush 31, 2) := by decide +kernel
theorem d11_6 : decode jdk_52_method_15_code 6 = .ok (.iushr, 1) := by decide +kernel
theorem d11_7 : decode jdk_52_method_15_code 7 = .ok (.i2b, 1) := by decide +kernel
theorem d11_8 : decode jdk_52_method_15_code 8 = .ok (.ireturn, 1) := by decide +kernel
theorem ef_11_1 (m : MethodId) (a1 : Addr) : entryFrame m #[(.ref a1), (.int 1)] 2 = mkF m 0 #[.val (.ref a1), .val (.int 1)] [] := by first | (simp [entryFrame, mkF, argsToLocals, Value.category]; done) | rfl
def Q11_1 (Z : State) (a1 : Addr) (k1 : ClassId) (vs : List Value) (h0 : Heap) (n0 : Nat) (v : Option Value) (h : Heap) (L : List Loc) : Prop := v = some (.int 0) ∧ Fr n0 L ∧ h = h0
set_option maxRecDepth 65536 in
set_option maxHeartbeats 40000000 in
theorem rm11_1 (l : Launch) (Z : State) (a0 : Array Value) (hw : ∀ d ∈ tables_1, d.before a0 Z = true) (ws : List Jvm.Cond) (a1 : Addr) (k1 : ClassId) (vs : List Value) (h0 : Heap) (n0 : Nat) (Z0 : n0 ≤ h0.size) (V_1 : Arv Z h0 a1 k1 .byte (1 : Int32) vs (.int 0)) :
  MetFree l (⟨"java/lang/StringUTF16", "coderFromArrayLen", "([BI)B"⟩ : MethodName) (head1 (Jvm.Cond.code (⟨"java/lang/StringUTF16", "coderFromArrayLen", "([BI)B"⟩ : MethodName) jdk_52_method_15_code 2 (some .byte) :: ws) ({ frames := 0, cells := 0, slots := 0, locals := 0 } : Room)) (fun a U => a = #[(.ref a1), (.int 1)] ∧ Z.Warmed39 U.vm ∧ U.heap = h0) (fun _ _ _ _ _ => True) (fun _ U o U' => ∃ v L, o = .returned v ∧ Q11_1 Z a1 k1 vs h0 n0 v U'.heap L ∧ FrameEnd U o U' L ({ frames := 0, cells := 0, slots := 0, locals := 0 } : Room).cells ({ frames := 0, cells := 0, slots := 0, locals := 0 } : Room).slots) := by
 refine MetFree.of_bodySF (plainFor_of_name pn_74) hisR ?_
 intro p e s m args below meth c s₁ Bd hml0 hP hK
 obtain ⟨rfl, hZ, hh⟩ := hP
 have hx := Bd.exec
 have hby := Bd.bytes
 have hml : c.maxLocals = 2 := hml0
 have hown : s.vm.findClass "java/lang/StringUTF16" = some m.cls := findClass_of_methodNamed Bd.named
 have hnm := (name_of_methodNamed Bd.named Bd.method).1
 have X0 : Stand p l e ({ frames := 0, cells := 0, slots := 0, locals := 0 } : Room) s m #[(.ref a1), (.int 1)] below meth c s₁ [] 0 0 := Stand.of_body Bd
 have e0 : s₁.heap = h0 := by rw [← hh, Bd.state]; rfl
 have N0 := Fr.nil n0
 refine own_go (B := s₁.setTop (mkF m 0 #[.val (.ref a1), .val (.int 1)] [])) (fun t k => castTop (ef_11_1 m a1) k) ?_
 refine own_go (B := s₁.setTop (mkF m 2 #[.val (.ref a1), .val (.int 1)] [(.ref a1), (.int 1)])) (fun t k => ?_) ?_
 ·refine XS.iloadN X0.here hx rfl (hb hby d11_0) rfl ?_
  show Steps p.tables e below (s₁.setTop (mkF m 1 #[.val (.ref a1), .val (.int 1)] [(.int 1)])) _
  refine XS.aloadN X0.here hx rfl (hb hby d11_1) rfl rfl ?_
  show Steps p.tables e below (s₁.setTop (mkF m 2 #[.val (.ref a1), .val (.int 1)] [(.ref a1), (.int 1)])) _
  exact k
 obtain ⟨cl58, Ar58, cq58, cS58, cN58, cH58, cG58⟩ := id V_1
 refine own_go (B := s₁.setTop (mkF m 8 #[.val (.ref a1), .val (.int 1)] [(.int 0)])) (fun t k => ?_) ?_
 ·refine X0.arraylength hx (by rw [e0]; exact Ar58.1) (State.isArrayOf_alike hZ.alike Ar58.2.1) (g := (mkF m 2 #[.val (.ref a1), .val (.int 1)] [(.ref a1), (.int 1)])) rfl rfl (hb hby d11_2) _ ?_
  rw [len_of cS58 cN58]
  show Steps p.tables e below (s₁.setTop (mkF m 3 #[.val (.ref a1), .val (.int 1)] [(.int 1), (.int 1)])) _
  refine XS.isub X0.here hx rfl (hb hby d11_3) rfl ?_
  show Steps p.tables e below (s₁.setTop (mkF m 4 #[.val (.ref a1), .val (.int 1)] [(.int 0)])) _
  refine XS.bipush X0.here hx rfl (hb hby d11_4) ?_
  show Steps p.tables e below (s₁.setTop (mkF m 6 #[.val (.ref a1), .val (.int 1)] [(.int 31), (.int 0)])) _
  refine XS.iushr X0.here hx rfl (hb hby d11_6) rfl ?_
  show Steps p.tables e below (s₁.setTop (mkF m 7 #[.val (.ref a1), .val (.int 1)] [(.int 0)])) _
  refine XS.i2b X0.here hx rfl (hb hby d11_7) rfl ?_
  show Steps p.tables e below (s₁.setTop (mkF m 8 #[.val (.ref a1), .val (.int 1)] [(.int 0)])) _
  exact k
 obtain ⟨fs, hr, hrun, hended, hW, hsame⟩ := X0.leave (v := some (.int 0)) (fun h => by rw [Bd.returns] at h; cases h)
 refine ⟨_, _, ?_, hrun, hended, _, _, rfl, ?_, ⟨_, rfl⟩, hW, hsame.mono (by decide) (by decide)⟩
 ·exact retN X0 hx (t := .byte) Bd.returns (by simp) (hb hby d11_8) hr
 ·show Q11_1 Z a1 k1 vs h0 n0 _ s₁.heap _
  rw [e0]
  exact ⟨rfl, N0, rfl⟩
theorem pd_1 : parseMethodDescriptor "([CII)[B" = some ⟨[(.array .char), .int, .int], some (.array .byte)⟩ := by decide +kernel
theorem pd_2 : parseMethodDescriptor "([BI)B" = some ⟨[(.array .byte), .int], some .byte⟩ := by decide +kernel
theorem pn_118 : plainName "java/lang/String" = true := by first | (simp [plainName, overriddenIn]; done) | decide +kernel
theorem d4_0 : decode jdk_42_method_149_code 0 = .ok (.aload_n 0, 1) := by decide +kernel
theorem d4_1 : decode jdk_42_method_149_code 1 = .ok (.invokespecial 1, 3) := by decide +kernel
theorem d4_4 : decode jdk_42_method_149_code 4 = .ok (.iload_n 3, 1) := by decide +kernel
theorem d4_5 : decode jdk_42_method_149_code 5 = .ok (.ifCond .ne 22, 3) := by decide +kernel
theorem d4_27 : decode jdk_42_method_149_code 27 = .ok (.getstatic 38, 3) := by decide +kernel
theorem d4_30 : decode jdk_42_method_149_code 30 = .ok (.ifCond .eq 28, 3) := by decide +kernel
theorem d4_33 : decode jdk_42_method_149_code 33 = .ok (.aload_n 1, 1) := by decide +kernel
theorem d4_34 : decode jdk_42_method_149_code 34 = .ok (.iload_n 2, 1) := by decide +kernel
theorem d4_35 : decode jdk_42_method_149_code 35 = .ok (.iload_n 3, 1) := by decide +kernel
theorem d4_36 : decode jdk_42_method_149_code 36 = .ok (.invokestatic 177, 3) := by decide +kernel
theorem d4_39 : decode jdk_42_method_149_code 39 = .ok (.astore 5, 2) := by decide +kernel
theorem d4_41 : decode jdk_42_method_149_code 41 = .ok (.aload_n 0, 1) := by decide +kernel
theorem d4_42 : decode jdk_42_method_149_code 42 = .ok (.aload 5, 2) := by decide +kernel
theorem d4_44 : decode jdk_42_method_149_code 44 = .ok (.iload_n 3, 1) := by decide +kernel
theorem d4_45 : decode jdk_42_method_149_code 45 = .ok (.invokestatic 47, 3) := by decide +kernel
theorem d4_48 : decode jdk_42_method_149_code 48 = .ok (.putfield 15, 3) := by decide +kernel
theorem d4_51 : decode jdk_42_method_149_code 51 = .ok (.aload_n 0, 1) := by decide +kernel
theorem d4_52 : decode jdk_42_method_149_code 52 = .ok (.aload 5, 2) := by decide +kernel
theorem d4_54 : decode jdk_42_method_149_code 54 = .ok (.putfield 9, 3) := by decide +kernel
theorem d4_57 : decode jdk_42_method_149_code 57 = .ok (.return_, 1) := by decide +kernel
theorem ef_4_1 (m : MethodId) (a1 : Addr) (ar : Addr) : entryFrame m #[(.ref a1), (.ref ar), (.int 0), (.int 1), .null] 6 = mkF m 0 #[.val (.ref a1), .val (.ref ar), .val (.int 0), .val (.int 1), .val .null, .unset] [] := by first | (simp [entryFrame, mkF, argsToLocals, Value.category]; done) | rfl
def Q4_1 (Z : State) (a1 : Addr) (ar : Addr) (w_COMPACT_STRINGS : Int32) (kar : ClassId) (c0 : Int32) (h0 : Heap) (n0 : Nat) (v : Option Value) (h : Heap) (L : List Loc) : Prop := ∃ (bn : Addr) (kn : ClassId), v = none ∧ Fr n0 L ∧ Keep h0 h [a1] ∧ h0.size ≤ bn ∧ Exa Z h a1 "java/lang/String" ∧ Fld Z h a1 "java/lang/String" "coder" "B" (.int 0) ∧ Fld Z h a1 "java/lang/String" "value" "[B" (.ref bn) ∧ Arv Z h bn kn .byte (1 : Int32) [(.int (c0.toInt8.toInt32))] (.int 0)
set_option maxRecDepth 65536 in
set_option maxHeartbeats 40000000 in
theorem rm4_1 (l : Launch) (Z : State) (a0 : Array Value) (hw : ∀ d ∈ tables_1, d.before a0 Z = true) (ws : List Jvm.Cond) (a1 : Addr) (ar : Addr) (w_COMPACT_STRINGS : Int32) (kar : ClassId) (c0 : Int32) (h0 : Heap) (n0 : Nat) (Z0 : n0 ≤ h0.size) (E_a1 : Exa Z h0 a1 "java/lang/String") (F_value_a1 : Fld Z h0 a1 "java/lang/String" "value" "[B" .null) (F_coder_a1 : Fld Z h0 a1 "java/lang/String" "coder" "B" (.int 0)) (g_a1 : n0 ≤ a1) (S_COMPACT_STRINGS : Sta Z h0 "java/lang/String" "COMPACT_STRINGS" "Z" (.int w_COMPACT_STRINGS)) (N_COMPACT_STRINGS : ¬ w_COMPACT_STRINGS = (0 : Int32)) (V_ar : Arv Z h0 ar kar .char (1 : Int32) [(.int c0)] (.int 0)) (hc0 : 0 ≤ c0.toInt ∧ c0.toInt ≤ 255) :
  MetFree l (⟨"java/lang/String", "<init>", "([CIILjava/lang/Void;)V"⟩ : MethodName) (head1 (Jvm.Cond.code (⟨"java/lang/String", "<init>", "([CIILjava/lang/Void;)V"⟩ : MethodName) jdk_42_method_149_code 6 none :: ws) ({ frames := 2, cells := 1, slots := 1, locals := 35 } : Room)) (fun a U => a = #[(.ref a1), (.ref ar), (.int 0), (.int 1), .null] ∧ Z.Warmed39 U.vm ∧ U.heap = h0) (fun _ _ _ _ _ => True) (fun _ U o U' => ∃ v L, o = .returned v ∧ Q4_1 Z a1 ar w_COMPACT_STRINGS kar c0 h0 n0 v U'.heap L ∧ FrameEnd U o U' L ({ frames := 2, cells := 1, slots := 1, locals := 35 } : Room).cells ({ frames := 2, cells := 1, slots := 1, locals := 35 } : Room).slots) := by
 refine MetFree.of_bodySF (plainFor_of_name pn_118) hisR ?_
 intro p e s m args below meth c s₁ Bd hml0 hP hK
 obtain ⟨rfl, hZ, hh⟩ := hP
 have hx := Bd.exec
 have hby := Bd.bytes
 have hml : c.maxLocals = 6 := hml0
 have hown : s.vm.findClass "java/lang/String" = some m.cls := findClass_of_methodNamed Bd.named
 have hnm := (name_of_methodNamed Bd.named Bd.method).1
 have X0 : Stand p l e ({ frames := 2, cells := 1, slots := 1, locals := 35 } : Room) s m #[(.ref a1), (.ref ar), (.int 0), (.int 1), .null] below meth c s₁ [] 0 0 := Stand.of_body Bd
 have e0 : s₁.heap = h0 := by rw [← hh, Bd.state]; rfl
 have N0 := Fr.nil n0
 refine own_go (B := s₁.setTop (mkF m 0 #[.val (.ref a1), .val (.ref ar), .val (.int 0), .val (.int 1), .val .null, .unset] [])) (fun t k => castTop (ef_4_1 m a1 ar) k) ?_
 refine own_go (B := s₁.setTop (mkF m 1 #[.val (.ref a1), .val (.ref ar), .val (.int 0), .val (.int 1), .val .null, .unset] [(.ref a1)])) (fun t k => ?_) ?_
 ·refine XS.aloadN X0.here hx rfl (hb hby d4_0) rfl rfl ?_
  show Steps p.tables e below (s₁.setTop (mkF m 1 #[.val (.ref a1), .val (.ref ar), .val (.int 0), .val (.int 1), .val .null, .unset] [(.ref a1)])) _
  exact k
 obtain ⟨T60, X60, e60, st60⟩ := initO X0 hx hZ hown (hw _ (List.mem_of_getElem? (i := 18) rfl)) (hw _ (List.mem_of_getElem? (i := 19) rfl)) (hw _ (List.mem_of_getElem? (i := 20) rfl)) e0 (g := (mkF m 1 #[.val (.ref a1), .val (.ref ar), .val (.int 0), .val (.int 1), .val .null, .unset] [(.ref a1)])) rfl (by rw [hml]; rfl) rfl (hb hby d4_1) (by decide) (W := 0) (by show 2 * 0 + _ ≤ _; exact Nat.le_of_eq rfl) (by decide)
 refine own_go st60 ?_
 refine own_go (B := T60.setTop (mkF m 27 #[.val (.ref a1), .val (.ref ar), .val (.int 0), .val (.int 1), .val .null, .unset] [])) (fun t k => ?_) ?_
 ·refine XS.iloadN X60.here hx rfl (hb hby d4_4) rfl ?_
  show Steps p.tables e below (T60.setTop (mkF m 5 #[.val (.ref a1), .val (.ref ar), .val (.int 0), .val (.int 1), .val .null, .unset] [(.int 1)])) _
  refine XS.ifYes X60.here hx rfl (pc0 := 5) (pc' := 27) rfl (hb hby d4_5) rfl ((if0 _ _).trans (feq (by decide : ¬ ((1 : Int32) = (0 : Int32)))).2) (by decide) (by decide) ?_
  show Steps p.tables e below (T60.setTop (mkF m 27 #[.val (.ref a1), .val (.ref ar), .val (.int 0), .val (.int 1), .val .null, .unset] [])) _
  exact k
 obtain ⟨T61, X61, e61, st61⟩ := getS2 X60 hx hZ hown (host := "") (Or.inl (hw _ (List.mem_of_getElem? (i := 44) rfl))) Via.refl e60 S_COMPACT_STRINGS (g := (mkF m 27 #[.val (.ref a1), .val (.ref ar), .val (.int 0), .val (.int 1), .val .null, .unset] [])) rfl (hb hby d4_27)
 refine own_go st61 ?_
 refine own_go (B := T61.setTop (mkF m 36 #[.val (.ref a1), .val (.ref ar), .val (.int 0), .val (.int 1), .val .null, .unset] [(.int 1), (.int 0), (.ref ar)])) (fun t k => ?_) ?_
 ·refine XS.ifNo X61.here hx rfl (hb hby d4_30) rfl ((if0 _ _).trans (feq (show ¬ (w_COMPACT_STRINGS = (0 : Int32)) from N_COMPACT_STRINGS)).1) ?_
  show Steps p.tables e below (T61.setTop (mkF m 33 #[.val (.ref a1), .val (.ref ar), .val (.int 0), .val (.int 1), .val .null, .unset] [])) _
  refine XS.aloadN X61.here hx rfl (hb hby d4_33) rfl rfl ?_
  show Steps p.tables e below (T61.setTop (mkF m 34 #[.val (.ref a1), .val (.ref ar), .val (.int 0), .val (.int 1), .val .null, .unset] [(.ref ar)])) _
  refine XS.iloadN X61.here hx rfl (hb hby d4_34) rfl ?_
  show Steps p.tables e below (T61.setTop (mkF m 35 #[.val (.ref a1), .val (.ref ar), .val (.int 0), .val (.int 1), .val .null, .unset] [(.int 0), (.ref ar)])) _
  refine XS.iloadN X61.here hx rfl (hb hby d4_35) rfl ?_
  show Steps p.tables e below (T61.setTop (mkF m 36 #[.val (.ref a1), .val (.ref ar), .val (.int 0), .val (.int 1), .val .null, .unset] [(.int 1), (.int 0), (.ref ar)])) _
  exact k
 obtain ⟨_, _, ⟨T62, L62, k62, n62⟩, -, X62, ⟨Lc62, hQ62, l62, y62, z62⟩, st62⟩ := Jvm.LawKit.callS X61 hx (y := (⟨"java/lang/StringUTF16", "compress", "([CII)[B"⟩ : MethodName)) hown (mvT hZ (hw _ (List.mem_of_getElem? (i := 53) rfl))) (mvT hZ (hw _ (List.mem_of_getElem? (i := 54) rfl))) (mvT hZ (hw _ (List.mem_of_getElem? (i := 55) rfl))) (mvT hZ (hw _ (List.mem_of_getElem? (i := 56) rfl))) (by decide) (backOf (W := 0) (rm9_1 l Z a0 hw [] ar kar c0 h0 n0 Z0 V_ar (by first | assumption | decide)) hZ (hw _ (List.mem_of_getElem? (i := 56) rfl)) (hw _ (List.mem_of_getElem? (i := 55) rfl)) (by decide) (by decide)) (g := (mkF m 36 #[.val (.ref a1), .val (.ref ar), .val (.int 0), .val (.int 1), .val .null, .unset] [(.int 1), (.int 0), (.ref ar)])) rfl (by rw [hml]; rfl) (argsL := [(.ref ar), (.int 0), (.int 1)]) (rest := []) (lenOf pd_1 rfl) rfl (by show 2 * 0 + _ ≤ _; exact Nat.le_of_eq rfl) (hb hby d4_36) (fun _ _ => ⟨rfl, e61, (by decide : 0 + 1 ≤ _), (by decide : 0 + 1 ≤ _)⟩)
 dsimp only [Pt.U, Pt.locs, Pt.cells, Pt.slots] at X62 l62 y62 z62 st62 hQ62
 subst l62 y62 z62
 obtain ⟨bn_62, kn_62, rfl, M62, q62_0, q62_1, q62_2⟩ := hQ62
 have N62 := Fr.app N0 M62
 have K62 : Keep h0 T62.heap [a1] := Keep.trans (Keep.refl h0 [a1]) q62_0 all0
 refine own_go st62 ?_
 refine own_go (B := T62.setTop (mkF m 45 #[.val (.ref a1), .val (.ref ar), .val (.int 0), .val (.int 1), .val .null, .val (.ref bn_62)] [(.int 1), (.ref bn_62), (.ref a1)])) (fun t k => ?_) ?_
 ·refine XS.astore X62.here hx rfl (hb hby d4_39) rfl rfl (l' := #[.val (.ref a1), .val (.ref ar), .val (.int 0), .val (.int 1), .val .null, .val (.ref bn_62)]) rfl ?_
  show Steps p.tables e below (T62.setTop (mkF m 41 #[.val (.ref a1), .val (.ref ar), .val (.int 0), .val (.int 1), .val .null, .val (.ref bn_62)] [])) _
  refine XS.aloadN X62.here hx rfl (hb hby d4_41) rfl rfl ?_
  show Steps p.tables e below (T62.setTop (mkF m 42 #[.val (.ref a1), .val (.ref ar), .val (.int 0), .val (.int 1), .val .null, .val (.ref bn_62)] [(.ref a1)])) _
  refine XS.aload X62.here hx rfl (hb hby d4_42) rfl rfl ?_
  show Steps p.tables e below (T62.setTop (mkF m 44 #[.val (.ref a1), .val (.ref ar), .val (.int 0), .val (.int 1), .val .null, .val (.ref bn_62)] [(.ref bn_62), (.ref a1)])) _
  refine XS.iloadN X62.here hx rfl (hb hby d4_44) rfl ?_
  show Steps p.tables e below (T62.setTop (mkF m 45 #[.val (.ref a1), .val (.ref ar), .val (.int 0), .val (.int 1), .val .null, .val (.ref bn_62)] [(.int 1), (.ref bn_62), (.ref a1)])) _
  exact k
 obtain ⟨_, _, ⟨T63, L63, k63, n63⟩, -, X63, ⟨Lc63, hQ63, l63, y63, z63⟩, st63⟩ := Jvm.LawKit.callS X62 hx (y := (⟨"java/lang/StringUTF16", "coderFromArrayLen", "([BI)B"⟩ : MethodName)) hown (mvT hZ (hw _ (List.mem_of_getElem? (i := 60) rfl))) (mvT hZ (hw _ (List.mem_of_getElem? (i := 61) rfl))) (mvT hZ (hw _ (List.mem_of_getElem? (i := 55) rfl))) (mvT hZ (hw _ (List.mem_of_getElem? (i := 62) rfl))) (by decide) (backOf (W := 1) (rm11_1 l Z a0 hw [] bn_62 kn_62 ([(.int (c0.toInt8.toInt32))]) T62.heap n0 (Nat.le_trans Z0 q62_0.1) q62_2) hZ (hw _ (List.mem_of_getElem? (i := 62) rfl)) (hw _ (List.mem_of_getElem? (i := 55) rfl)) (by decide) (by decide)) (g := (mkF m 45 #[.val (.ref a1), .val (.ref ar), .val (.int 0), .val (.int 1), .val .null, .val (.ref bn_62)] [(.int 1), (.ref bn_62), (.ref a1)])) rfl (by rw [hml]; rfl) (argsL := [(.ref bn_62), (.int 1)]) (rest := [(.ref a1)]) (lenOf pd_2 rfl) rfl (by show 2 * 0 + _ ≤ _; exact Nat.le_of_eq rfl) (hb hby d4_45) (fun _ _ => ⟨rfl, rfl, (by decide : 1 + 0 ≤ _), (by decide : 1 + 0 ≤ _)⟩)
 dsimp only [Pt.U, Pt.locs, Pt.cells, Pt.slots] at X63 l63 y63 z63 st63 hQ63
 subst l63 y63 z63
 obtain ⟨rfl, M63, q63_0⟩ := hQ63
 have N63 := Fr.app N62 M63
 refine own_go st63 ?_
 have f65 : Exa Z T62.heap a1 "java/lang/String" := (E_a1.keep q62_0)
 have f66 : Fld Z T62.heap a1 "java/lang/String" "coder" "B" (.int 0) := (F_coder_a1.keep q62_0 nin0)
 obtain ⟨T64, h64, X64, e64, W64, st64⟩ := putFN X63 hx hZ hown (hw _ (List.mem_of_getElem? (i := 28) rfl)) Via.refl q63_0 f66 f65 (Or.inr ⟨(hw _ (List.mem_of_getElem? (i := 24) rfl)), rfl, hnm⟩) (hw _ (List.mem_of_getElem? (i := 9) rfl)) (ty := .byte) (v' := (.int 0)) (by decide) rfl (by decide) (g := (mkF m 48 #[.val (.ref a1), .val (.ref ar), .val (.int 0), .val (.int 1), .val .null, .val (.ref bn_62)] [(.int 0), (.ref a1)])) rfl rfl (hb hby d4_48)
 refine own_go st64 ?_
 have F64 : Fld Z h64 a1 "java/lang/String" "coder" "B" (.int 0) := f66.same W64
 have K64 : Keep h0 h64 [a1] := Keep.wr K62 W64 (Or.inl (List.mem_of_getElem? (i := 0) rfl))
 have N64 := Fr.snoc X64 N63 g_a1
 refine own_go (B := T64.setTop (mkF m 54 #[.val (.ref a1), .val (.ref ar), .val (.int 0), .val (.int 1), .val .null, .val (.ref bn_62)] [(.ref bn_62), (.ref a1)])) (fun t k => ?_) ?_
 ·refine XS.aloadN X64.here hx rfl (hb hby d4_51) rfl rfl ?_
  show Steps p.tables e below (T64.setTop (mkF m 52 #[.val (.ref a1), .val (.ref ar), .val (.int 0), .val (.int 1), .val .null, .val (.ref bn_62)] [(.ref a1)])) _
  refine XS.aload X64.here hx rfl (hb hby d4_52) rfl rfl ?_
  show Steps p.tables e below (T64.setTop (mkF m 54 #[.val (.ref a1), .val (.ref ar), .val (.int 0), .val (.int 1), .val .null, .val (.ref bn_62)] [(.ref bn_62), (.ref a1)])) _
  exact k
 have f68 : Exa Z h64 a1 "java/lang/String" := (f65.wr W64)
 have f69 : Fld Z h64 a1 "java/lang/String" "value" "[B" .null := ((F_value_a1.keep q62_0 nin0).other W64 (Or.inr (slot_ne (Or.inr (hw _ (List.mem_of_getElem? (i := 23) rfl))) (Or.inr (hw _ (List.mem_of_getElem? (i := 24) rfl))) (by decide) (t := (.array .byte)) (t' := .byte) (by decide) (by decide))))
 obtain ⟨T67, h67, X67, e67, W67, st67⟩ := putF X64 hx hZ hown (host := "") (Or.inl (hw _ (List.mem_of_getElem? (i := 27) rfl))) Via.refl e64 f69 f68 (Or.inr ⟨(hw _ (List.mem_of_getElem? (i := 23) rfl)), rfl, hnm⟩) (hw _ (List.mem_of_getElem? (i := 9) rfl)) (ty := (.array .byte)) (by decide) rfl rfl (g := (mkF m 54 #[.val (.ref a1), .val (.ref ar), .val (.int 0), .val (.int 1), .val .null, .val (.ref bn_62)] [(.ref bn_62), (.ref a1)])) rfl rfl (hb hby d4_54)
 refine own_go st67 ?_
 have F67 : Fld Z h67 a1 "java/lang/String" "value" "[B" (.ref bn_62) := f69.same W67
 have K67 : Keep h0 h67 [a1] := Keep.wr K64 W67 (Or.inl (List.mem_of_getElem? (i := 0) rfl))
 have N67 := Fr.snoc X67 N64 g_a1
 obtain ⟨fs, hr, hrun, hended, hW, hsame⟩ := X67.leave (v := none) (fun _ => rfl)
 refine ⟨_, _, ?_, hrun, hended, _, _, rfl, ?_, ⟨_, rfl⟩, hW, hsame.mono (by decide) (by decide)⟩
 ·exact X67.returnOut hx Bd.returns (hb hby d4_57) hr
 ·show Q4_1 Z a1 ar w_COMPACT_STRINGS kar c0 h0 n0 _ T67.heap _
  rw [e67]
  have f71 : Exa Z h67 a1 "java/lang/String" := (f68.wr W67)
  have f72 : Fld Z h67 a1 "java/lang/String" "coder" "B" (.int 0) := (F64.other W67 (Or.inr (slot_ne (Or.inr (hw _ (List.mem_of_getElem? (i := 24) rfl))) (Or.inr (hw _ (List.mem_of_getElem? (i := 23) rfl))) (by decide) (t := .byte) (t' := (.array .byte)) (by decide) (by decide))))
  have ne73 : a1 ≠ bn_62 := (Nat.ne_of_lt (Nat.lt_of_lt_of_le E_a1.lt q62_1))
  have f74 : Arv Z h67 bn_62 kn_62 .byte (1 : Int32) [(.int (c0.toInt8.toInt32))] (.int 0) := ((q62_2.other W64 (Ne.symm ne73)).other W67 (Ne.symm ne73))
  exact ⟨bn_62, kn_62, rfl, N67, K67, q62_1, f71, f72, F67, f74⟩
theorem pd_3 : parseMethodDescriptor "([CIILjava/lang/Void;)V" = some ⟨[(.array .char), .int, .int, (.object "java/lang/Void")], none⟩ := by decide +kernel
theorem d3_0 : decode jdk_42_method_3_code 0 = .ok (.aload_n 0, 1) := by decide +kernel
theorem d3_1 : decode jdk_42_method_3_code 1 = .ok (.aload_n 1, 1) := by decide +kernel
theorem d3_2 : decode jdk_42_method_3_code 2 = .ok (.iconst 0, 1) := by decide +kernel
theorem d3_3 : decode jdk_42_method_3_code 3 = .ok (.aload_n 1, 1) := by decide +kernel
theorem d3_4 : decode jdk_42_method_3_code 4 = .ok (.arraylength, 1) := by decide +kernel
theorem d3_5 : decode jdk_42_method_3_code 5 = .ok (.aconst_null, 1) := by decide +kernel
theorem d3_6 : decode jdk_42_method_3_code 6 = .ok (.invokespecial 27, 3) := by decide +kernel
theorem d3_9 : decode jdk_42_method_3_code 9 = .ok (.return_, 1) := by decide +kernel
theorem ef_3_1 (m : MethodId) (a1 : Addr) (ar : Addr) : entryFrame m #[(.ref a1), (.ref ar)] 2 = mkF m 0 #[.val (.ref a1), .val (.ref ar)] [] := by first | (simp [entryFrame, mkF, argsToLocals, Value.category]; done) | rfl
def Q3_1 (Z : State) (a1 : Addr) (ar : Addr) (w_COMPACT_STRINGS : Int32) (kar : ClassId) (c0 : Int32) (h0 : Heap) (n0 : Nat) (v : Option Value) (h : Heap) (L : List Loc) : Prop := ∃ (bn : Addr) (kn : ClassId), v = none ∧ Fr n0 L ∧ Keep h0 h [a1] ∧ h0.size ≤ bn ∧ Exa Z h a1 "java/lang/String" ∧ Fld Z h a1 "java/lang/String" "coder" "B" (.int 0) ∧ Fld Z h a1 "java/lang/String" "value" "[B" (.ref bn) ∧ Arv Z h bn kn .byte (1 : Int32) [(.int (c0.toInt8.toInt32))] (.int 0)
set_option maxRecDepth 65536 in
set_option maxHeartbeats 40000000 in
theorem rm3_1 (l : Launch) (Z : State) (a0 : Array Value) (hw : ∀ d ∈ tables_1, d.before a0 Z = true) (ws : List Jvm.Cond) (a1 : Addr) (ar : Addr) (w_COMPACT_STRINGS : Int32) (kar : ClassId) (c0 : Int32) (h0 : Heap) (n0 : Nat) (Z0 : n0 ≤ h0.size) (E_a1 : Exa Z h0 a1 "java/lang/String") (F_value_a1 : Fld Z h0 a1 "java/lang/String" "value" "[B" .null) (F_coder_a1 : Fld Z h0 a1 "java/lang/String" "coder" "B" (.int 0)) (g_a1 : n0 ≤ a1) (S_COMPACT_STRINGS : Sta Z h0 "java/lang/String" "COMPACT_STRINGS" "Z" (.int w_COMPACT_STRINGS)) (N_COMPACT_STRINGS : ¬ w_COMPACT_STRINGS = (0 : Int32)) (V_ar : Arv Z h0 ar kar .char (1 : Int32) [(.int c0)] (.int 0)) (hc0 : 0 ≤ c0.toInt ∧ c0.toInt ≤ 255) :
  MetFree l (⟨"java/lang/String", "<init>", "([C)V"⟩ : MethodName) (head1 (Jvm.Cond.code (⟨"java/lang/String", "<init>", "([C)V"⟩ : MethodName) jdk_42_method_3_code 2 none :: ws) ({ frames := 3, cells := 1, slots := 1, locals := 52 } : Room)) (fun a U => a = #[(.ref a1), (.ref ar)] ∧ Z.Warmed39 U.vm ∧ U.heap = h0) (fun _ _ _ _ _ => True) (fun _ U o U' => ∃ v L, o = .returned v ∧ Q3_1 Z a1 ar w_COMPACT_STRINGS kar c0 h0 n0 v U'.heap L ∧ FrameEnd U o U' L ({ frames := 3, cells := 1, slots := 1, locals := 52 } : Room).cells ({ frames := 3, cells := 1, slots := 1, locals := 52 } : Room).slots) := by
 refine MetFree.of_bodySF (plainFor_of_name pn_118) hisR ?_
 intro p e s m args below meth c s₁ Bd hml0 hP hK
 obtain ⟨rfl, hZ, hh⟩ := hP
 have hx := Bd.exec
 have hby := Bd.bytes
 have hml : c.maxLocals = 2 := hml0
 have hown : s.vm.findClass "java/lang/String" = some m.cls := findClass_of_methodNamed Bd.named
 have hnm := (name_of_methodNamed Bd.named Bd.method).1
 have X0 : Stand p l e ({ frames := 3, cells := 1, slots := 1, locals := 52 } : Room) s m #[(.ref a1), (.ref ar)] below meth c s₁ [] 0 0 := Stand.of_body Bd
 have e0 : s₁.heap = h0 := by rw [← hh, Bd.state]; rfl
 have N0 := Fr.nil n0
 refine own_go (B := s₁.setTop (mkF m 0 #[.val (.ref a1), .val (.ref ar)] [])) (fun t k => castTop (ef_3_1 m a1 ar) k) ?_
 refine own_go (B := s₁.setTop (mkF m 4 #[.val (.ref a1), .val (.ref ar)] [(.ref ar), (.int 0), (.ref ar), (.ref a1)])) (fun t k => ?_) ?_
 ·refine XS.aloadN X0.here hx rfl (hb hby d3_0) rfl rfl ?_
  show Steps p.tables e below (s₁.setTop (mkF m 1 #[.val (.ref a1), .val (.ref ar)] [(.ref a1)])) _
  refine XS.aloadN X0.here hx rfl (hb hby d3_1) rfl rfl ?_
  show Steps p.tables e below (s₁.setTop (mkF m 2 #[.val (.ref a1), .val (.ref ar)] [(.ref ar), (.ref a1)])) _
  refine XS.iconst X0.here hx rfl (hb hby d3_2) ?_
  show Steps p.tables e below (s₁.setTop (mkF m 3 #[.val (.ref a1), .val (.ref ar)] [(.int 0), (.ref ar), (.ref a1)])) _
  refine XS.aloadN X0.here hx rfl (hb hby d3_3) rfl rfl ?_
  show Steps p.tables e below (s₁.setTop (mkF m 4 #[.val (.ref a1), .val (.ref ar)] [(.ref ar), (.int 0), (.ref ar), (.ref a1)])) _
  exact k
 obtain ⟨cl75, Ar75, cq75, cS75, cN75, cH75, cG75⟩ := id V_ar
 refine own_go (B := s₁.setTop (mkF m 6 #[.val (.ref a1), .val (.ref ar)] [.null, (.int 1), (.int 0), (.ref ar), (.ref a1)])) (fun t k => ?_) ?_
 ·refine X0.arraylength hx (by rw [e0]; exact Ar75.1) (State.isArrayOf_alike hZ.alike Ar75.2.1) (g := (mkF m 4 #[.val (.ref a1), .val (.ref ar)] [(.ref ar), (.int 0), (.ref ar), (.ref a1)])) rfl rfl (hb hby d3_4) _ ?_
  rw [len_of cS75 cN75]
  show Steps p.tables e below (s₁.setTop (mkF m 5 #[.val (.ref a1), .val (.ref ar)] [(.int 1), (.int 0), (.ref ar), (.ref a1)])) _
  refine XS.aconstNull X0.here hx rfl (hb hby d3_5) ?_
  show Steps p.tables e below (s₁.setTop (mkF m 6 #[.val (.ref a1), .val (.ref ar)] [.null, (.int 1), (.int 0), (.ref ar), (.ref a1)])) _
  exact k
 obtain ⟨_, _, ⟨T76, L76, k76, n76⟩, -, X76, ⟨Lc76, hQ76, l76, y76, z76⟩, st76⟩ := X0.specialBack hx (y := (⟨"java/lang/String", "<init>", "([CIILjava/lang/Void;)V"⟩ : MethodName)) rfl hown (mvT hZ (hw _ (List.mem_of_getElem? (i := 14) rfl))) (mvT hZ (hw _ (List.mem_of_getElem? (i := 15) rfl))) (mvT hZ (hw _ (List.mem_of_getElem? (i := 17) rfl))) (by decide) (backOf (W := 0) (rm4_1 l Z a0 hw [] a1 ar w_COMPACT_STRINGS kar c0 h0 n0 Z0 E_a1 F_value_a1 F_coder_a1 g_a1 S_COMPACT_STRINGS (N_COMPACT_STRINGS) V_ar (by first | assumption | decide)) hZ (hw _ (List.mem_of_getElem? (i := 17) rfl)) (hw _ (List.mem_of_getElem? (i := 10) rfl)) (by decide) (by decide)) (g := (mkF m 6 #[.val (.ref a1), .val (.ref ar)] [.null, (.int 1), (.int 0), (.ref ar), (.ref a1)])) rfl (by rw [hml]; rfl) (Steps.refl _) (a := a1) (argsL := [(.ref ar), (.int 0), (.int 1), .null]) (rest := []) (lenOf pd_3 rfl) rfl (by show 2 * 0 + _ ≤ _; exact Nat.le_of_eq rfl) (hb hby d3_6) (fun _ _ => ⟨rfl, e0, (by decide : 0 + 1 ≤ _), (by decide : 0 + 1 ≤ _)⟩)
 dsimp only [Pt.U, Pt.locs, Pt.cells, Pt.slots] at X76 l76 y76 z76 st76 hQ76
 subst l76 y76 z76
 obtain ⟨bn_76, kn_76, rfl, M76, q76_0, q76_1, q76_2, q76_3, q76_4, q76_5⟩ := hQ76
 have N76 := Fr.app N0 M76
 have K76 : Keep h0 T76.heap [a1] := Keep.trans (Keep.refl h0 [a1]) q76_0 (allS (Or.inl (List.mem_of_getElem? (i := 0) rfl)) all0)
 refine own_go (fun t k => st76.trans k) ?_
 obtain ⟨fs, hr, hrun, hended, hW, hsame⟩ := X76.leave (v := none) (fun _ => rfl)
 refine ⟨_, _, ?_, hrun, hended, _, _, rfl, ?_, ⟨_, rfl⟩, hW, hsame.mono (by decide) (by decide)⟩
 ·exact X76.returnOut hx Bd.returns (hb hby d3_9) hr
 ·show Q3_1 Z a1 ar w_COMPACT_STRINGS kar c0 h0 n0 _ T76.heap _
  exact ⟨bn_76, kn_76, rfl, N76, K76, q76_1, q76_2, q76_3, q76_4, q76_5⟩
theorem ef_10_2 (m : MethodId) (ar : Addr) (a2 : Addr) : entryFrame m #[(.ref ar), (.int 0), (.ref a2), (.int 0), (.int 2)] 7 = mkF m 0 #[.val (.ref ar), .val (.int 0), .val (.ref a2), .val (.int 0), .val (.int 2), .unset, .unset] [] := by first | (simp [entryFrame, mkF, argsToLocals, Value.category]; done) | rfl
def Q10_2 (Z : State) (ar : Addr) (a2 : Addr) (kar : ClassId) (k2 : ClassId) (c0 : Int32) (c1 : Int32) (h0 : Heap) (n0 : Nat) (v : Option Value) (h : Heap) (L : List Loc) : Prop := v = some (.int 2) ∧ Fr n0 L ∧ Keep h0 h [a2] ∧ Arv Z h a2 k2 .byte (2 : Int32) [(.int (c0.toInt8.toInt32)), (.int (c1.toInt8.toInt32))] (.int 0)
set_option maxRecDepth 65536 in
set_option maxHeartbeats 40000000 in
theorem rm10_2 (l : Launch) (Z : State) (a0 : Array Value) (hw : ∀ d ∈ tables_1, d.before a0 Z = true) (ws : List Jvm.Cond) (ar : Addr) (a2 : Addr) (kar : ClassId) (k2 : ClassId) (c0 : Int32) (c1 : Int32) (h0 : Heap) (n0 : Nat) (Z0 : n0 ≤ h0.size) (V_ar : Arv Z h0 ar kar .char (2 : Int32) [(.int c0), (.int c1)] (.int 0)) (V_2 : Arv Z h0 a2 k2 .byte (2 : Int32) [(.int 0), (.int 0)] (.int 0)) (g_a2 : n0 ≤ a2) (ne_ : ar ≠ a2) (hc0 : 0 ≤ c0.toInt ∧ c0.toInt ≤ 255) (hc1 : 0 ≤ c1.toInt ∧ c1.toInt ≤ 255) :
  MetFree l (⟨"java/lang/StringUTF16", "compress", "([CI[BII)I"⟩ : MethodName) (head1 (Jvm.Cond.code (⟨"java/lang/StringUTF16", "compress", "([CI[BII)I"⟩ : MethodName) jdk_52_method_21_code 7 (some .int) :: ws) ({ frames := 0, cells := 0, slots := 0, locals := 0 } : Room)) (fun a U => a = #[(.ref ar), (.int 0), (.ref a2), (.int 0), (.int 2)] ∧ Z.Warmed39 U.vm ∧ U.heap = h0) (fun _ _ _ _ _ => True) (fun _ U o U' => ∃ v L, o = .returned v ∧ Q10_2 Z ar a2 kar k2 c0 c1 h0 n0 v U'.heap L ∧ FrameEnd U o U' L ({ frames := 0, cells := 0, slots := 0, locals := 0 } : Room).cells ({ frames := 0, cells := 0, slots := 0, locals := 0 } : Room).slots) := by
 refine MetFree.of_bodySF (plainFor_of_name pn_74) hisR ?_
 intro p e s m args below meth c s₁ Bd hml0 hP hK
 obtain ⟨rfl, hZ, hh⟩ := hP
 have hx := Bd.exec
 have hby := Bd.bytes
 have hml : c.maxLocals = 7 := hml0
 have hown : s.vm.findClass "java/lang/StringUTF16" = some m.cls := findClass_of_methodNamed Bd.named
 have hnm := (name_of_methodNamed Bd.named Bd.method).1
 have X0 : Stand p l e ({ frames := 0, cells := 0, slots := 0, locals := 0 } : Room) s m #[(.ref ar), (.int 0), (.ref a2), (.int 0), (.int 2)] below meth c s₁ [] 0 0 := Stand.of_body Bd
 have e0 : s₁.heap = h0 := by rw [← hh, Bd.state]; rfl
 have N0 := Fr.nil n0
 refine own_go (B := s₁.setTop (mkF m 0 #[.val (.ref ar), .val (.int 0), .val (.ref a2), .val (.int 0), .val (.int 2), .unset, .unset] [])) (fun t k => castTop (ef_10_2 m ar a2) k) ?_
 refine own_go (B := s₁.setTop (mkF m 12 #[.val (.ref ar), .val (.int 0), .val (.ref a2), .val (.int 0), .val (.int 2), .val (.int 0), .unset] [(.int 0), (.ref ar)])) (fun t k => ?_) ?_
 ·refine XS.iconst X0.here hx rfl (hb hby d10_0) ?_
  show Steps p.tables e below (s₁.setTop (mkF m 1 #[.val (.ref ar), .val (.int 0), .val (.ref a2), .val (.int 0), .val (.int 2), .unset, .unset] [(.int 0)])) _
  refine XS.istore X0.here hx rfl (hb hby d10_1) rfl (l' := #[.val (.ref ar), .val (.int 0), .val (.ref a2), .val (.int 0), .val (.int 2), .val (.int 0), .unset]) rfl ?_
  show Steps p.tables e below (s₁.setTop (mkF m 3 #[.val (.ref ar), .val (.int 0), .val (.ref a2), .val (.int 0), .val (.int 2), .val (.int 0), .unset] [])) _
  refine XS.iload X0.here hx rfl (hb hby d10_3) rfl ?_
  show Steps p.tables e below (s₁.setTop (mkF m 5 #[.val (.ref ar), .val (.int 0), .val (.ref a2), .val (.int 0), .val (.int 2), .val (.int 0), .unset] [(.int 0)])) _
  refine XS.iload X0.here hx rfl (hb hby d10_5) rfl ?_
  show Steps p.tables e below (s₁.setTop (mkF m 7 #[.val (.ref ar), .val (.int 0), .val (.ref a2), .val (.int 0), .val (.int 2), .val (.int 0), .unset] [(.int 2), (.int 0)])) _
  refine XS.icmpNo X0.here hx rfl (hb hby d10_7) rfl (tlt (by decide : (0 : Int32) < (2 : Int32))).2.1 ?_
  show Steps p.tables e below (s₁.setTop (mkF m 10 #[.val (.ref ar), .val (.int 0), .val (.ref a2), .val (.int 0), .val (.int 2), .val (.int 0), .unset] [])) _
  refine XS.aloadN X0.here hx rfl (hb hby d10_10) rfl rfl ?_
  show Steps p.tables e below (s₁.setTop (mkF m 11 #[.val (.ref ar), .val (.int 0), .val (.ref a2), .val (.int 0), .val (.int 2), .val (.int 0), .unset] [(.ref ar)])) _
  refine XS.iloadN X0.here hx rfl (hb hby d10_11) rfl ?_
  show Steps p.tables e below (s₁.setTop (mkF m 12 #[.val (.ref ar), .val (.int 0), .val (.ref a2), .val (.int 0), .val (.int 2), .val (.int 0), .unset] [(.int 0), (.ref ar)])) _
  exact k
 obtain ⟨cl78, Ar78, cq78, cS78, cN78, cH78, cG78⟩ := id V_ar
 have hin78 := inb_of (j := (0 : Int32)) cS78 ⟨by decide, by decide⟩
 have hat78 : cl78.slots[((0 : Int32)).toNatClampNeg]? = some (.int c0) := Has.at cH78 hin78 rfl
 refine own_go (B := s₁.setTop (mkF m 31 #[.val (.ref ar), .val (.int 0), .val (.ref a2), .val (.int 0), .val (.int 2), .val (.int 0), .val (.int c0)] [(.int (c0.toInt8.toInt32)), (.int 0), (.ref a2)])) (fun t k => ?_) ?_
 ·refine X0.caload hx (j := (0 : Int32)) (v := (.int c0)) (by rw [e0]; exact Ar78.1) (State.isArrayOf_alike hZ.alike Ar78.2.1) Ar78.2.2 hin78 hat78 (g := (mkF m 12 #[.val (.ref ar), .val (.int 0), .val (.ref a2), .val (.int 0), .val (.int 2), .val (.int 0), .unset] [(.int 0), (.ref ar)])) rfl rfl (hb hby d10_12) _ ?_
  show Steps p.tables e below (s₁.setTop (mkF m 13 #[.val (.ref ar), .val (.int 0), .val (.ref a2), .val (.int 0), .val (.int 2), .val (.int 0), .unset] [(.int c0)])) _
  refine XS.istore X0.here hx rfl (hb hby d10_13) rfl (l' := #[.val (.ref ar), .val (.int 0), .val (.ref a2), .val (.int 0), .val (.int 2), .val (.int 0), .val (.int c0)]) rfl ?_
  show Steps p.tables e below (s₁.setTop (mkF m 15 #[.val (.ref ar), .val (.int 0), .val (.ref a2), .val (.int 0), .val (.int 2), .val (.int 0), .val (.int c0)] [])) _
  refine XS.iload X0.here hx rfl (hb hby d10_15) rfl ?_
  show Steps p.tables e below (s₁.setTop (mkF m 17 #[.val (.ref ar), .val (.int 0), .val (.ref a2), .val (.int 0), .val (.int 2), .val (.int 0), .val (.int c0)] [(.int c0)])) _
  refine XS.sipush X0.here hx rfl (hb hby d10_17) ?_
  show Steps p.tables e below (s₁.setTop (mkF m 20 #[.val (.ref ar), .val (.int 0), .val (.ref a2), .val (.int 0), .val (.int 2), .val (.int 0), .val (.int c0)] [(.int 255), (.int c0)])) _
  refine XS.icmpYes X0.here hx rfl (pc0 := 20) (pc' := 26) rfl (hb hby d10_20) rfl (flt (show ¬ ((255 : Int32) < c0) from (own_le c0 hc0))).2.2.2 (by decide) (by decide) ?_
  show Steps p.tables e below (s₁.setTop (mkF m 26 #[.val (.ref ar), .val (.int 0), .val (.ref a2), .val (.int 0), .val (.int 2), .val (.int 0), .val (.int c0)] [])) _
  refine XS.aloadN X0.here hx rfl (hb hby d10_26) rfl rfl ?_
  show Steps p.tables e below (s₁.setTop (mkF m 27 #[.val (.ref ar), .val (.int 0), .val (.ref a2), .val (.int 0), .val (.int 2), .val (.int 0), .val (.int c0)] [(.ref a2)])) _
  refine XS.iloadN X0.here hx rfl (hb hby d10_27) rfl ?_
  show Steps p.tables e below (s₁.setTop (mkF m 28 #[.val (.ref ar), .val (.int 0), .val (.ref a2), .val (.int 0), .val (.int 2), .val (.int 0), .val (.int c0)] [(.int 0), (.ref a2)])) _
  refine XS.iload X0.here hx rfl (hb hby d10_28) rfl ?_
  show Steps p.tables e below (s₁.setTop (mkF m 30 #[.val (.ref ar), .val (.int 0), .val (.ref a2), .val (.int 0), .val (.int 2), .val (.int 0), .val (.int c0)] [(.int c0), (.int 0), (.ref a2)])) _
  refine XS.i2b X0.here hx rfl (hb hby d10_30) rfl ?_
  show Steps p.tables e below (s₁.setTop (mkF m 31 #[.val (.ref ar), .val (.int 0), .val (.ref a2), .val (.int 0), .val (.int 2), .val (.int 0), .val (.int c0)] [(.int (c0.toInt8.toInt32)), (.int 0), (.ref a2)])) _
  exact k
 obtain ⟨cl79, Ar79, cq79, cS79, cN79, cH79, cG79⟩ := id V_2
 have hin79 := inb_of (j := (0 : Int32)) cS79 ⟨by decide, by decide⟩
 obtain ⟨T79, h79, X79, e79, W79, st79⟩ := stB X0 hx hZ e0 Ar79 (j := (0 : Int32)) hin79 (g := (mkF m 31 #[.val (.ref ar), .val (.int 0), .val (.ref a2), .val (.int 0), .val (.int 2), .val (.int 0), .val (.int c0)] [(.int (c0.toInt8.toInt32)), (.int 0), (.ref a2)])) rfl rfl (hb hby d10_31)
 refine own_go st79 ?_
 have V79 : Arv Z h79 a2 k2 .byte (2 : Int32) [(.int (c0.toInt8.toInt32)), (.int 0)] (.int 0) := by have q := Arv.set Ar79 cq79 cS79 cN79 cH79 cG79 (fits_nar_byte _) W79 0 rfl (Nat.le_of_ble_eq_true rfl); rw [own_narB] at q; exact q
 have K79 : Keep h0 h79 [a2] := Keep.wr (Keep.refl h0 [a2]) W79 (Or.inl (List.mem_of_getElem? (i := 0) rfl))
 have N79 := Fr.snoc X79 N0 g_a2
 refine own_go (B := T79.setTop (mkF m 12 #[.val (.ref ar), .val (.int 1), .val (.ref a2), .val (.int 1), .val (.int 2), .val (.int 1), .val (.int c0)] [(.int 1), (.ref ar)])) (fun t k => ?_) ?_
 ·refine XS.iinc X79.here hx rfl (hb hby d10_32) rfl (l' := #[.val (.ref ar), .val (.int 1), .val (.ref a2), .val (.int 0), .val (.int 2), .val (.int 0), .val (.int c0)]) rfl ?_
  show Steps p.tables e below (T79.setTop (mkF m 35 #[.val (.ref ar), .val (.int 1), .val (.ref a2), .val (.int 0), .val (.int 2), .val (.int 0), .val (.int c0)] [])) _
  refine XS.iinc X79.here hx rfl (hb hby d10_35) rfl (l' := #[.val (.ref ar), .val (.int 1), .val (.ref a2), .val (.int 1), .val (.int 2), .val (.int 0), .val (.int c0)]) rfl ?_
  show Steps p.tables e below (T79.setTop (mkF m 38 #[.val (.ref ar), .val (.int 1), .val (.ref a2), .val (.int 1), .val (.int 2), .val (.int 0), .val (.int c0)] [])) _
  refine XS.iinc X79.here hx rfl (hb hby d10_38) rfl (l' := #[.val (.ref ar), .val (.int 1), .val (.ref a2), .val (.int 1), .val (.int 2), .val (.int 1), .val (.int c0)]) rfl ?_
  show Steps p.tables e below (T79.setTop (mkF m 41 #[.val (.ref ar), .val (.int 1), .val (.ref a2), .val (.int 1), .val (.int 2), .val (.int 1), .val (.int c0)] [])) _
  refine XS.goto X79.here hx rfl (pc0 := 41) (pc' := 3) rfl (hb hby d10_41) (by decide) (by decide) ?_
  show Steps p.tables e below (T79.setTop (mkF m 3 #[.val (.ref ar), .val (.int 1), .val (.ref a2), .val (.int 1), .val (.int 2), .val (.int 1), .val (.int c0)] [])) _
  refine XS.iload X79.here hx rfl (hb hby d10_3) rfl ?_
  show Steps p.tables e below (T79.setTop (mkF m 5 #[.val (.ref ar), .val (.int 1), .val (.ref a2), .val (.int 1), .val (.int 2), .val (.int 1), .val (.int c0)] [(.int 1)])) _
  refine XS.iload X79.here hx rfl (hb hby d10_5) rfl ?_
  show Steps p.tables e below (T79.setTop (mkF m 7 #[.val (.ref ar), .val (.int 1), .val (.ref a2), .val (.int 1), .val (.int 2), .val (.int 1), .val (.int c0)] [(.int 2), (.int 1)])) _
  refine XS.icmpNo X79.here hx rfl (hb hby d10_7) rfl (tlt (by decide : (1 : Int32) < (2 : Int32))).2.1 ?_
  show Steps p.tables e below (T79.setTop (mkF m 10 #[.val (.ref ar), .val (.int 1), .val (.ref a2), .val (.int 1), .val (.int 2), .val (.int 1), .val (.int c0)] [])) _
  refine XS.aloadN X79.here hx rfl (hb hby d10_10) rfl rfl ?_
  show Steps p.tables e below (T79.setTop (mkF m 11 #[.val (.ref ar), .val (.int 1), .val (.ref a2), .val (.int 1), .val (.int 2), .val (.int 1), .val (.int c0)] [(.ref ar)])) _
  refine XS.iloadN X79.here hx rfl (hb hby d10_11) rfl ?_
  show Steps p.tables e below (T79.setTop (mkF m 12 #[.val (.ref ar), .val (.int 1), .val (.ref a2), .val (.int 1), .val (.int 2), .val (.int 1), .val (.int c0)] [(.int 1), (.ref ar)])) _
  exact k
 have f80 : Arv Z h79 ar kar .char (2 : Int32) [(.int c0), (.int c1)] (.int 0) := (V_ar.other W79 ne_)
 obtain ⟨cl81, Ar81, cq81, cS81, cN81, cH81, cG81⟩ := id f80
 have hin81 := inb_of (j := (1 : Int32)) cS81 ⟨by decide, by decide⟩
 have hat81 : cl81.slots[((1 : Int32)).toNatClampNeg]? = some (.int c1) := Has.at cH81 hin81 rfl
 refine own_go (B := T79.setTop (mkF m 31 #[.val (.ref ar), .val (.int 1), .val (.ref a2), .val (.int 1), .val (.int 2), .val (.int 1), .val (.int c1)] [(.int (c1.toInt8.toInt32)), (.int 1), (.ref a2)])) (fun t k => ?_) ?_
 ·refine X79.caload hx (j := (1 : Int32)) (v := (.int c1)) (by rw [e79]; exact Ar81.1) (State.isArrayOf_alike hZ.alike Ar81.2.1) Ar81.2.2 hin81 hat81 (g := (mkF m 12 #[.val (.ref ar), .val (.int 1), .val (.ref a2), .val (.int 1), .val (.int 2), .val (.int 1), .val (.int c0)] [(.int 1), (.ref ar)])) rfl rfl (hb hby d10_12) _ ?_
  show Steps p.tables e below (T79.setTop (mkF m 13 #[.val (.ref ar), .val (.int 1), .val (.ref a2), .val (.int 1), .val (.int 2), .val (.int 1), .val (.int c0)] [(.int c1)])) _
  refine XS.istore X79.here hx rfl (hb hby d10_13) rfl (l' := #[.val (.ref ar), .val (.int 1), .val (.ref a2), .val (.int 1), .val (.int 2), .val (.int 1), .val (.int c1)]) rfl ?_
  show Steps p.tables e below (T79.setTop (mkF m 15 #[.val (.ref ar), .val (.int 1), .val (.ref a2), .val (.int 1), .val (.int 2), .val (.int 1), .val (.int c1)] [])) _
  refine XS.iload X79.here hx rfl (hb hby d10_15) rfl ?_
  show Steps p.tables e below (T79.setTop (mkF m 17 #[.val (.ref ar), .val (.int 1), .val (.ref a2), .val (.int 1), .val (.int 2), .val (.int 1), .val (.int c1)] [(.int c1)])) _
  refine XS.sipush X79.here hx rfl (hb hby d10_17) ?_
  show Steps p.tables e below (T79.setTop (mkF m 20 #[.val (.ref ar), .val (.int 1), .val (.ref a2), .val (.int 1), .val (.int 2), .val (.int 1), .val (.int c1)] [(.int 255), (.int c1)])) _
  refine XS.icmpYes X79.here hx rfl (pc0 := 20) (pc' := 26) rfl (hb hby d10_20) rfl (flt (show ¬ ((255 : Int32) < c1) from (own_le c1 hc1))).2.2.2 (by decide) (by decide) ?_
  show Steps p.tables e below (T79.setTop (mkF m 26 #[.val (.ref ar), .val (.int 1), .val (.ref a2), .val (.int 1), .val (.int 2), .val (.int 1), .val (.int c1)] [])) _
  refine XS.aloadN X79.here hx rfl (hb hby d10_26) rfl rfl ?_
  show Steps p.tables e below (T79.setTop (mkF m 27 #[.val (.ref ar), .val (.int 1), .val (.ref a2), .val (.int 1), .val (.int 2), .val (.int 1), .val (.int c1)] [(.ref a2)])) _
  refine XS.iloadN X79.here hx rfl (hb hby d10_27) rfl ?_
  show Steps p.tables e below (T79.setTop (mkF m 28 #[.val (.ref ar), .val (.int 1), .val (.ref a2), .val (.int 1), .val (.int 2), .val (.int 1), .val (.int c1)] [(.int 1), (.ref a2)])) _
  refine XS.iload X79.here hx rfl (hb hby d10_28) rfl ?_
  show Steps p.tables e below (T79.setTop (mkF m 30 #[.val (.ref ar), .val (.int 1), .val (.ref a2), .val (.int 1), .val (.int 2), .val (.int 1), .val (.int c1)] [(.int c1), (.int 1), (.ref a2)])) _
  refine XS.i2b X79.here hx rfl (hb hby d10_30) rfl ?_
  show Steps p.tables e below (T79.setTop (mkF m 31 #[.val (.ref ar), .val (.int 1), .val (.ref a2), .val (.int 1), .val (.int 2), .val (.int 1), .val (.int c1)] [(.int (c1.toInt8.toInt32)), (.int 1), (.ref a2)])) _
  exact k
 obtain ⟨cl82, Ar82, cq82, cS82, cN82, cH82, cG82⟩ := id V79
 have hin82 := inb_of (j := (1 : Int32)) cS82 ⟨by decide, by decide⟩
 obtain ⟨T82, h82, X82, e82, W82, st82⟩ := stB X79 hx hZ e79 Ar82 (j := (1 : Int32)) hin82 (g := (mkF m 31 #[.val (.ref ar), .val (.int 1), .val (.ref a2), .val (.int 1), .val (.int 2), .val (.int 1), .val (.int c1)] [(.int (c1.toInt8.toInt32)), (.int 1), (.ref a2)])) rfl rfl (hb hby d10_31)
 refine own_go st82 ?_
 have V82 : Arv Z h82 a2 k2 .byte (2 : Int32) [(.int (c0.toInt8.toInt32)), (.int (c1.toInt8.toInt32))] (.int 0) := by have q := Arv.set Ar82 cq82 cS82 cN82 cH82 cG82 (fits_nar_byte _) W82 1 rfl (Nat.le_of_ble_eq_true rfl); rw [own_narB] at q; exact q
 have K82 : Keep h0 h82 [a2] := Keep.wr K79 W82 (Or.inl (List.mem_of_getElem? (i := 0) rfl))
 have N82 := Fr.snoc X82 N79 g_a2
 refine own_go (B := T82.setTop (mkF m 46 #[.val (.ref ar), .val (.int 2), .val (.ref a2), .val (.int 2), .val (.int 2), .val (.int 2), .val (.int c1)] [(.int 2)])) (fun t k => ?_) ?_
 ·refine XS.iinc X82.here hx rfl (hb hby d10_32) rfl (l' := #[.val (.ref ar), .val (.int 2), .val (.ref a2), .val (.int 1), .val (.int 2), .val (.int 1), .val (.int c1)]) rfl ?_
  show Steps p.tables e below (T82.setTop (mkF m 35 #[.val (.ref ar), .val (.int 2), .val (.ref a2), .val (.int 1), .val (.int 2), .val (.int 1), .val (.int c1)] [])) _
  refine XS.iinc X82.here hx rfl (hb hby d10_35) rfl (l' := #[.val (.ref ar), .val (.int 2), .val (.ref a2), .val (.int 2), .val (.int 2), .val (.int 1), .val (.int c1)]) rfl ?_
  show Steps p.tables e below (T82.setTop (mkF m 38 #[.val (.ref ar), .val (.int 2), .val (.ref a2), .val (.int 2), .val (.int 2), .val (.int 1), .val (.int c1)] [])) _
  refine XS.iinc X82.here hx rfl (hb hby d10_38) rfl (l' := #[.val (.ref ar), .val (.int 2), .val (.ref a2), .val (.int 2), .val (.int 2), .val (.int 2), .val (.int c1)]) rfl ?_
  show Steps p.tables e below (T82.setTop (mkF m 41 #[.val (.ref ar), .val (.int 2), .val (.ref a2), .val (.int 2), .val (.int 2), .val (.int 2), .val (.int c1)] [])) _
  refine XS.goto X82.here hx rfl (pc0 := 41) (pc' := 3) rfl (hb hby d10_41) (by decide) (by decide) ?_
  show Steps p.tables e below (T82.setTop (mkF m 3 #[.val (.ref ar), .val (.int 2), .val (.ref a2), .val (.int 2), .val (.int 2), .val (.int 2), .val (.int c1)] [])) _
  refine XS.iload X82.here hx rfl (hb hby d10_3) rfl ?_
  show Steps p.tables e below (T82.setTop (mkF m 5 #[.val (.ref ar), .val (.int 2), .val (.ref a2), .val (.int 2), .val (.int 2), .val (.int 2), .val (.int c1)] [(.int 2)])) _
  refine XS.iload X82.here hx rfl (hb hby d10_5) rfl ?_
  show Steps p.tables e below (T82.setTop (mkF m 7 #[.val (.ref ar), .val (.int 2), .val (.ref a2), .val (.int 2), .val (.int 2), .val (.int 2), .val (.int c1)] [(.int 2), (.int 2)])) _
  refine XS.icmpYes X82.here hx rfl (pc0 := 7) (pc' := 44) rfl (hb hby d10_7) rfl (flt (by decide : ¬ ((2 : Int32) < (2 : Int32)))).2.1 (by decide) (by decide) ?_
  show Steps p.tables e below (T82.setTop (mkF m 44 #[.val (.ref ar), .val (.int 2), .val (.ref a2), .val (.int 2), .val (.int 2), .val (.int 2), .val (.int c1)] [])) _
  refine XS.iload X82.here hx rfl (hb hby d10_44) rfl ?_
  show Steps p.tables e below (T82.setTop (mkF m 46 #[.val (.ref ar), .val (.int 2), .val (.ref a2), .val (.int 2), .val (.int 2), .val (.int 2), .val (.int c1)] [(.int 2)])) _
  exact k
 obtain ⟨fs, hr, hrun, hended, hW, hsame⟩ := X82.leave (v := some (.int 2)) (fun h => by rw [Bd.returns] at h; cases h)
 refine ⟨_, _, ?_, hrun, hended, _, _, rfl, ?_, ⟨_, rfl⟩, hW, hsame.mono (by decide) (by decide)⟩
 ·exact retI X82 hx Bd.returns (hb hby d10_46) hr
 ·show Q10_2 Z ar a2 kar k2 c0 c1 h0 n0 _ T82.heap _
  rw [e82]
  exact ⟨rfl, N82, K82, V82⟩
theorem ef_9_2 (m : MethodId) (ar : Addr) : entryFrame m #[(.ref ar), (.int 0), (.int 2)] 6 = mkF m 0 #[.val (.ref ar), .val (.int 0), .val (.int 2), .unset, .unset, .unset] [] := by first | (simp [entryFrame, mkF, argsToLocals, Value.category]; done) | rfl
def Q9_2 (Z : State) (ar : Addr) (kar : ClassId) (c0 : Int32) (c1 : Int32) (h0 : Heap) (n0 : Nat) (v : Option Value) (h : Heap) (L : List Loc) : Prop := ∃ (bn : Addr) (kn : ClassId), v = some (.ref bn) ∧ Fr n0 L ∧ Keep h0 h [] ∧ h0.size ≤ bn ∧ Arv Z h bn kn .byte (2 : Int32) [(.int (c0.toInt8.toInt32)), (.int (c1.toInt8.toInt32))] (.int 0)
set_option maxRecDepth 65536 in
set_option maxHeartbeats 40000000 in
theorem rm9_2 (l : Launch) (Z : State) (a0 : Array Value) (hw : ∀ d ∈ tables_1, d.before a0 Z = true) (ws : List Jvm.Cond) (ar : Addr) (kar : ClassId) (c0 : Int32) (c1 : Int32) (h0 : Heap) (n0 : Nat) (Z0 : n0 ≤ h0.size) (V_ar : Arv Z h0 ar kar .char (2 : Int32) [(.int c0), (.int c1)] (.int 0)) (hc0 : 0 ≤ c0.toInt ∧ c0.toInt ≤ 255) (hc1 : 0 ≤ c1.toInt ∧ c1.toInt ≤ 255) :
  MetFree l (⟨"java/lang/StringUTF16", "compress", "([CII)[B"⟩ : MethodName) (head1 (Jvm.Cond.code (⟨"java/lang/StringUTF16", "compress", "([CII)[B"⟩ : MethodName) jdk_52_method_16_code 6 (some (.array .byte)) :: ws) ({ frames := 1, cells := 1, slots := 2, locals := 18 } : Room)) (fun a U => a = #[(.ref ar), (.int 0), (.int 2)] ∧ Z.Warmed39 U.vm ∧ U.heap = h0) (fun _ _ _ _ _ => True) (fun _ U o U' => ∃ v L, o = .returned v ∧ Q9_2 Z ar kar c0 c1 h0 n0 v U'.heap L ∧ FrameEnd U o U' L ({ frames := 1, cells := 1, slots := 2, locals := 18 } : Room).cells ({ frames := 1, cells := 1, slots := 2, locals := 18 } : Room).slots) := by
 refine MetFree.of_bodySF (plainFor_of_name pn_74) hisR ?_
 intro p e s m args below meth c s₁ Bd hml0 hP hK
 obtain ⟨rfl, hZ, hh⟩ := hP
 have hx := Bd.exec
 have hby := Bd.bytes
 have hml : c.maxLocals = 6 := hml0
 have hown : s.vm.findClass "java/lang/StringUTF16" = some m.cls := findClass_of_methodNamed Bd.named
 have hnm := (name_of_methodNamed Bd.named Bd.method).1
 have X0 : Stand p l e ({ frames := 1, cells := 1, slots := 2, locals := 18 } : Room) s m #[(.ref ar), (.int 0), (.int 2)] below meth c s₁ [] 0 0 := Stand.of_body Bd
 have e0 : s₁.heap = h0 := by rw [← hh, Bd.state]; rfl
 have N0 := Fr.nil n0
 refine own_go (B := s₁.setTop (mkF m 0 #[.val (.ref ar), .val (.int 0), .val (.int 2), .unset, .unset, .unset] [])) (fun t k => castTop (ef_9_2 m ar) k) ?_
 refine own_go (B := s₁.setTop (mkF m 1 #[.val (.ref ar), .val (.int 0), .val (.int 2), .unset, .unset, .unset] [(.int 2)])) (fun t k => ?_) ?_
 ·refine XS.iloadN X0.here hx rfl (hb hby d9_0) rfl ?_
  show Steps p.tables e below (s₁.setTop (mkF m 1 #[.val (.ref ar), .val (.int 0), .val (.int 2), .unset, .unset, .unset] [(.int 2)])) _
  exact k
 obtain ⟨T84, h84, k84, X84, e84, E84, A84, st84⟩ := newP X0 hx hZ (hw _ (List.mem_of_getElem? (i := 22) rfl)) e0 (g := (mkF m 1 #[.val (.ref ar), .val (.int 0), .val (.int 2), .unset, .unset, .unset] [(.int 2)])) rfl (hb hby d9_1) rfl (by decide) (cap := 2) (by decide) (by decide) (by decide) (by decide)
 obtain ⟨b84, g84⟩ : ∃ z, z = h0.size := ⟨_, rfl⟩
 rw [← g84] at A84 st84
 refine own_go st84 ?_
 have K84 : Keep h0 h84 [] := Keep.ext (Keep.refl h0 []) E84
 have V84 : Arv Z h84 b84 k84 .byte (2 : Int32) [(.int 0), (.int 0)] (.int 0) := (Arv.new A84 (by decide)).pad (pad_rep [] (.int 0) 2)
 refine own_go (B := T84.setTop (mkF m 9 #[.val (.ref ar), .val (.int 0), .val (.int 2), .val (.ref b84), .unset, .unset] [(.int 2), (.int 0), (.ref b84), (.int 0), (.ref ar)])) (fun t k => ?_) ?_
 ·refine XS.astoreN X84.here hx rfl (hb hby d9_3) rfl rfl (l' := #[.val (.ref ar), .val (.int 0), .val (.int 2), .val (.ref b84), .unset, .unset]) rfl ?_
  show Steps p.tables e below (T84.setTop (mkF m 4 #[.val (.ref ar), .val (.int 0), .val (.int 2), .val (.ref b84), .unset, .unset] [])) _
  refine XS.aloadN X84.here hx rfl (hb hby d9_4) rfl rfl ?_
  show Steps p.tables e below (T84.setTop (mkF m 5 #[.val (.ref ar), .val (.int 0), .val (.int 2), .val (.ref b84), .unset, .unset] [(.ref ar)])) _
  refine XS.iloadN X84.here hx rfl (hb hby d9_5) rfl ?_
  show Steps p.tables e below (T84.setTop (mkF m 6 #[.val (.ref ar), .val (.int 0), .val (.int 2), .val (.ref b84), .unset, .unset] [(.int 0), (.ref ar)])) _
  refine XS.aloadN X84.here hx rfl (hb hby d9_6) rfl rfl ?_
  show Steps p.tables e below (T84.setTop (mkF m 7 #[.val (.ref ar), .val (.int 0), .val (.int 2), .val (.ref b84), .unset, .unset] [(.ref b84), (.int 0), (.ref ar)])) _
  refine XS.iconst X84.here hx rfl (hb hby d9_7) ?_
  show Steps p.tables e below (T84.setTop (mkF m 8 #[.val (.ref ar), .val (.int 0), .val (.int 2), .val (.ref b84), .unset, .unset] [(.int 0), (.ref b84), (.int 0), (.ref ar)])) _
  refine XS.iloadN X84.here hx rfl (hb hby d9_8) rfl ?_
  show Steps p.tables e below (T84.setTop (mkF m 9 #[.val (.ref ar), .val (.int 0), .val (.int 2), .val (.ref b84), .unset, .unset] [(.int 2), (.int 0), (.ref b84), (.int 0), (.ref ar)])) _
  exact k
 have f86 : Arv Z h84 ar kar .char (2 : Int32) [(.int c0), (.int c1)] (.int 0) := (V_ar.ext E84)
 have ne87 : ar ≠ b84 := (Nat.ne_of_lt (Nat.lt_of_lt_of_le V_ar.lt (Nat.le_of_eq g84.symm)))
 obtain ⟨_, _, ⟨T85, L85, k85, n85⟩, -, X85, ⟨Lc85, hQ85, l85, y85, z85⟩, st85⟩ := Jvm.LawKit.callS X84 hx (y := (⟨"java/lang/StringUTF16", "compress", "([CI[BII)I"⟩ : MethodName)) hown (mvT hZ (hw _ (List.mem_of_getElem? (i := 57) rfl))) (mvT hZ (hw _ (List.mem_of_getElem? (i := 58) rfl))) (mvT hZ (hw _ (List.mem_of_getElem? (i := 55) rfl))) (mvT hZ (hw _ (List.mem_of_getElem? (i := 59) rfl))) (by decide) (backOf (W := 0) (rm10_2 l Z a0 hw [] ar b84 kar k84 c0 c1 h84 n0 (Nat.le_trans Z0 E84.1) f86 V84 (Nat.le_trans Z0 (Nat.le_of_eq g84.symm)) ne87 (by first | assumption | decide) (by first | assumption | decide)) hZ (hw _ (List.mem_of_getElem? (i := 59) rfl)) (hw _ (List.mem_of_getElem? (i := 55) rfl)) (by decide) (by decide)) (g := (mkF m 9 #[.val (.ref ar), .val (.int 0), .val (.int 2), .val (.ref b84), .unset, .unset] [(.int 2), (.int 0), (.ref b84), (.int 0), (.ref ar)])) rfl (by rw [hml]; rfl) (argsL := [(.ref ar), (.int 0), (.ref b84), (.int 0), (.int 2)]) (rest := []) (lenOf pd_0 rfl) rfl (by show 2 * 0 + _ ≤ _; exact Nat.le_of_eq rfl) (hb hby d9_9) (fun _ _ => ⟨rfl, e84, (by decide : 1 + 0 ≤ _), (by decide : 2 + 0 ≤ _)⟩)
 dsimp only [Pt.U, Pt.locs, Pt.cells, Pt.slots] at X85 l85 y85 z85 st85 hQ85
 subst l85 y85 z85
 obtain ⟨rfl, M85, q85_0, q85_1⟩ := hQ85
 have N85 := Fr.app N0 M85
 have K85 : Keep h0 T85.heap [] := Keep.trans K84 q85_0 (allS (Or.inr (Nat.le_of_eq g84.symm)) all0)
 refine own_go st85 ?_
 refine own_go (B := T85.setTop (mkF m 58 #[.val (.ref ar), .val (.int 0), .val (.int 2), .val (.ref b84), .val (.int 2), .unset] [(.ref b84)])) (fun t k => ?_) ?_
 ·refine XS.istore X85.here hx rfl (hb hby d9_12) rfl (l' := #[.val (.ref ar), .val (.int 0), .val (.int 2), .val (.ref b84), .val (.int 2), .unset]) rfl ?_
  show Steps p.tables e below (T85.setTop (mkF m 14 #[.val (.ref ar), .val (.int 0), .val (.int 2), .val (.ref b84), .val (.int 2), .unset] [])) _
  refine XS.iload X85.here hx rfl (hb hby d9_14) rfl ?_
  show Steps p.tables e below (T85.setTop (mkF m 16 #[.val (.ref ar), .val (.int 0), .val (.int 2), .val (.ref b84), .val (.int 2), .unset] [(.int 2)])) _
  refine XS.iloadN X85.here hx rfl (hb hby d9_16) rfl ?_
  show Steps p.tables e below (T85.setTop (mkF m 17 #[.val (.ref ar), .val (.int 0), .val (.int 2), .val (.ref b84), .val (.int 2), .unset] [(.int 2), (.int 2)])) _
  refine XS.icmpYes X85.here hx rfl (pc0 := 17) (pc' := 57) rfl (hb hby d9_17) rfl (teq (by decide : (2 : Int32) = (2 : Int32))).1 (by decide) (by decide) ?_
  show Steps p.tables e below (T85.setTop (mkF m 57 #[.val (.ref ar), .val (.int 0), .val (.int 2), .val (.ref b84), .val (.int 2), .unset] [])) _
  refine XS.aloadN X85.here hx rfl (hb hby d9_57) rfl rfl ?_
  show Steps p.tables e below (T85.setTop (mkF m 58 #[.val (.ref ar), .val (.int 0), .val (.int 2), .val (.ref b84), .val (.int 2), .unset] [(.ref b84)])) _
  exact k
 obtain ⟨fs, hr, hrun, hended, hW, hsame⟩ := X85.leave (v := some (.ref b84)) (fun h => by rw [Bd.returns] at h; cases h)
 refine ⟨_, _, ?_, hrun, hended, _, _, rfl, ?_, ⟨_, rfl⟩, hW, hsame.mono (by decide) (by decide)⟩
 ·exact own_retR X85 hx Bd.returns rfl rfl (hb hby d9_58) hr
 ·show Q9_2 Z ar kar c0 c1 h0 n0 _ T85.heap _
  exact ⟨b84, k84, rfl, N85, K85, (Nat.le_of_eq g84.symm), q85_1⟩
theorem ef_11_2 (m : MethodId) (a1 : Addr) : entryFrame m #[(.ref a1), (.int 2)] 2 = mkF m 0 #[.val (.ref a1), .val (.int 2)] [] := by first | (simp [entryFrame, mkF, argsToLocals, Value.category]; done) | rfl
def Q11_2 (Z : State) (a1 : Addr) (k1 : ClassId) (vs : List Value) (h0 : Heap) (n0 : Nat) (v : Option Value) (h : Heap) (L : List Loc) : Prop := v = some (.int 0) ∧ Fr n0 L ∧ h = h0
set_option maxRecDepth 65536 in
set_option maxHeartbeats 40000000 in
theorem rm11_2 (l : Launch) (Z : State) (a0 : Array Value) (hw : ∀ d ∈ tables_1, d.before a0 Z = true) (ws : List Jvm.Cond) (a1 : Addr) (k1 : ClassId) (vs : List Value) (h0 : Heap) (n0 : Nat) (Z0 : n0 ≤ h0.size) (V_1 : Arv Z h0 a1 k1 .byte (2 : Int32) vs (.int 0)) :
  MetFree l (⟨"java/lang/StringUTF16", "coderFromArrayLen", "([BI)B"⟩ : MethodName) (head1 (Jvm.Cond.code (⟨"java/lang/StringUTF16", "coderFromArrayLen", "([BI)B"⟩ : MethodName) jdk_52_method_15_code 2 (some .byte) :: ws) ({ frames := 0, cells := 0, slots := 0, locals := 0 } : Room)) (fun a U => a = #[(.ref a1), (.int 2)] ∧ Z.Warmed39 U.vm ∧ U.heap = h0) (fun _ _ _ _ _ => True) (fun _ U o U' => ∃ v L, o = .returned v ∧ Q11_2 Z a1 k1 vs h0 n0 v U'.heap L ∧ FrameEnd U o U' L ({ frames := 0, cells := 0, slots := 0, locals := 0 } : Room).cells ({ frames := 0, cells := 0, slots := 0, locals := 0 } : Room).slots) := by
 refine MetFree.of_bodySF (plainFor_of_name pn_74) hisR ?_
 intro p e s m args below meth c s₁ Bd hml0 hP hK
 obtain ⟨rfl, hZ, hh⟩ := hP
 have hx := Bd.exec
 have hby := Bd.bytes
 have hml : c.maxLocals = 2 := hml0
 have hown : s.vm.findClass "java/lang/StringUTF16" = some m.cls := findClass_of_methodNamed Bd.named
 have hnm := (name_of_methodNamed Bd.named Bd.method).1
 have X0 : Stand p l e ({ frames := 0, cells := 0, slots := 0, locals := 0 } : Room) s m #[(.ref a1), (.int 2)] below meth c s₁ [] 0 0 := Stand.of_body Bd
 have e0 : s₁.heap = h0 := by rw [← hh, Bd.state]; rfl
 have N0 := Fr.nil n0
 refine own_go (B := s₁.setTop (mkF m 0 #[.val (.ref a1), .val (.int 2)] [])) (fun t k => castTop (ef_11_2 m a1) k) ?_
 refine own_go (B := s₁.setTop (mkF m 2 #[.val (.ref a1), .val (.int 2)] [(.ref a1), (.int 2)])) (fun t k => ?_) ?_
 ·refine XS.iloadN X0.here hx rfl (hb hby d11_0) rfl ?_
  show Steps p.tables e below (s₁.setTop (mkF m 1 #[.val (.ref a1), .val (.int 2)] [(.int 2)])) _
  refine XS.aloadN X0.here hx rfl (hb hby d11_1) rfl rfl ?_
  show Steps p.tables e below (s₁.setTop (mkF m 2 #[.val (.ref a1), .val (.int 2)] [(.ref a1), (.int 2)])) _
  exact k
 obtain ⟨cl89, Ar89, cq89, cS89, cN89, cH89, cG89⟩ := id V_1
 refine own_go (B := s₁.setTop (mkF m 8 #[.val (.ref a1), .val (.int 2)] [(.int 0)])) (fun t k => ?_) ?_
 ·refine X0.arraylength hx (by rw [e0]; exact Ar89.1) (State.isArrayOf_alike hZ.alike Ar89.2.1) (g := (mkF m 2 #[.val (.ref a1), .val (.int 2)] [(.ref a1), (.int 2)])) rfl rfl (hb hby d11_2) _ ?_
  rw [len_of cS89 cN89]
  show Steps p.tables e below (s₁.setTop (mkF m 3 #[.val (.ref a1), .val (.int 2)] [(.int 2), (.int 2)])) _
  refine XS.isub X0.here hx rfl (hb hby d11_3) rfl ?_
  show Steps p.tables e below (s₁.setTop (mkF m 4 #[.val (.ref a1), .val (.int 2)] [(.int 0)])) _
  refine XS.bipush X0.here hx rfl (hb hby d11_4) ?_
  show Steps p.tables e below (s₁.setTop (mkF m 6 #[.val (.ref a1), .val (.int 2)] [(.int 31), (.int 0)])) _
  refine XS.iushr X0.here hx rfl (hb hby d11_6) rfl ?_
  show Steps p.tables e below (s₁.setTop (mkF m 7 #[.val (.ref a1), .val (.int 2)] [(.int 0)])) _
  refine XS.i2b X0.here hx rfl (hb hby d11_7) rfl ?_
  show Steps p.tables e below (s₁.setTop (mkF m 8 #[.val (.ref a1), .val (.int 2)] [(.int 0)])) _
  exact k
 obtain ⟨fs, hr, hrun, hended, hW, hsame⟩ := X0.leave (v := some (.int 0)) (fun h => by rw [Bd.returns] at h; cases h)
 refine ⟨_, _, ?_, hrun, hended, _, _, rfl, ?_, ⟨_, rfl⟩, hW, hsame.mono (by decide) (by decide)⟩
 ·exact retN X0 hx (t := .byte) Bd.returns (by simp) (hb hby d11_8) hr
 ·show Q11_2 Z a1 k1 vs h0 n0 _ s₁.heap _
  rw [e0]
  exact ⟨rfl, N0, rfl⟩
theorem ef_4_2 (m : MethodId) (a1 : Addr) (ar : Addr) : entryFrame m #[(.ref a1), (.ref ar), (.int 0), (.int 2), .null] 6 = mkF m 0 #[.val (.ref a1), .val (.ref ar), .val (.int 0), .val (.int 2), .val .null, .unset] [] := by first | (simp [entryFrame, mkF, argsToLocals, Value.category]; done) | rfl
def Q4_2 (Z : State) (a1 : Addr) (ar : Addr) (w_COMPACT_STRINGS : Int32) (kar : ClassId) (c0 : Int32) (c1 : Int32) (h0 : Heap) (n0 : Nat) (v : Option Value) (h : Heap) (L : List Loc) : Prop := ∃ (bn : Addr) (kn : ClassId), v = none ∧ Fr n0 L ∧ Keep h0 h [a1] ∧ h0.size ≤ bn ∧ Exa Z h a1 "java/lang/String" ∧ Fld Z h a1 "java/lang/String" "coder" "B" (.int 0) ∧ Fld Z h a1 "java/lang/String" "value" "[B" (.ref bn) ∧ Arv Z h bn kn .byte (2 : Int32) [(.int (c0.toInt8.toInt32)), (.int (c1.toInt8.toInt32))] (.int 0)
set_option maxRecDepth 65536 in
set_option maxHeartbeats 40000000 in
theorem rm4_2 (l : Launch) (Z : State) (a0 : Array Value) (hw : ∀ d ∈ tables_1, d.before a0 Z = true) (ws : List Jvm.Cond) (a1 : Addr) (ar : Addr) (w_COMPACT_STRINGS : Int32) (kar : ClassId) (c0 : Int32) (c1 : Int32) (h0 : Heap) (n0 : Nat) (Z0 : n0 ≤ h0.size) (E_a1 : Exa Z h0 a1 "java/lang/String") (F_value_a1 : Fld Z h0 a1 "java/lang/String" "value" "[B" .null) (F_coder_a1 : Fld Z h0 a1 "java/lang/String" "coder" "B" (.int 0)) (g_a1 : n0 ≤ a1) (S_COMPACT_STRINGS : Sta Z h0 "java/lang/String" "COMPACT_STRINGS" "Z" (.int w_COMPACT_STRINGS)) (N_COMPACT_STRINGS : ¬ w_COMPACT_STRINGS = (0 : Int32)) (V_ar : Arv Z h0 ar kar .char (2 : Int32) [(.int c0), (.int c1)] (.int 0)) (hc0 : 0 ≤ c0.toInt ∧ c0.toInt ≤ 255) (hc1 : 0 ≤ c1.toInt ∧ c1.toInt ≤ 255) :
  MetFree l (⟨"java/lang/String", "<init>", "([CIILjava/lang/Void;)V"⟩ : MethodName) (head1 (Jvm.Cond.code (⟨"java/lang/String", "<init>", "([CIILjava/lang/Void;)V"⟩ : MethodName) jdk_42_method_149_code 6 none :: ws) ({ frames := 2, cells := 1, slots := 2, locals := 35 } : Room)) (fun a U => a = #[(.ref a1), (.ref ar), (.int 0), (.int 2), .null] ∧ Z.Warmed39 U.vm ∧ U.heap = h0) (fun _ _ _ _ _ => True) (fun _ U o U' => ∃ v L, o = .returned v ∧ Q4_2 Z a1 ar w_COMPACT_STRINGS kar c0 c1 h0 n0 v U'.heap L ∧ FrameEnd U o U' L ({ frames := 2, cells := 1, slots := 2, locals := 35 } : Room).cells ({ frames := 2, cells := 1, slots := 2, locals := 35 } : Room).slots) := by
 refine MetFree.of_bodySF (plainFor_of_name pn_118) hisR ?_
 intro p e s m args below meth c s₁ Bd hml0 hP hK
 obtain ⟨rfl, hZ, hh⟩ := hP
 have hx := Bd.exec
 have hby := Bd.bytes
 have hml : c.maxLocals = 6 := hml0
 have hown : s.vm.findClass "java/lang/String" = some m.cls := findClass_of_methodNamed Bd.named
 have hnm := (name_of_methodNamed Bd.named Bd.method).1
 have X0 : Stand p l e ({ frames := 2, cells := 1, slots := 2, locals := 35 } : Room) s m #[(.ref a1), (.ref ar), (.int 0), (.int 2), .null] below meth c s₁ [] 0 0 := Stand.of_body Bd
 have e0 : s₁.heap = h0 := by rw [← hh, Bd.state]; rfl
 have N0 := Fr.nil n0
 refine own_go (B := s₁.setTop (mkF m 0 #[.val (.ref a1), .val (.ref ar), .val (.int 0), .val (.int 2), .val .null, .unset] [])) (fun t k => castTop (ef_4_2 m a1 ar) k) ?_
 refine own_go (B := s₁.setTop (mkF m 1 #[.val (.ref a1), .val (.ref ar), .val (.int 0), .val (.int 2), .val .null, .unset] [(.ref a1)])) (fun t k => ?_) ?_
 ·refine XS.aloadN X0.here hx rfl (hb hby d4_0) rfl rfl ?_
  show Steps p.tables e below (s₁.setTop (mkF m 1 #[.val (.ref a1), .val (.ref ar), .val (.int 0), .val (.int 2), .val .null, .unset] [(.ref a1)])) _
  exact k
 obtain ⟨T91, X91, e91, st91⟩ := initO X0 hx hZ hown (hw _ (List.mem_of_getElem? (i := 18) rfl)) (hw _ (List.mem_of_getElem? (i := 19) rfl)) (hw _ (List.mem_of_getElem? (i := 20) rfl)) e0 (g := (mkF m 1 #[.val (.ref a1), .val (.ref ar), .val (.int 0), .val (.int 2), .val .null, .unset] [(.ref a1)])) rfl (by rw [hml]; rfl) rfl (hb hby d4_1) (by decide) (W := 0) (by show 2 * 0 + _ ≤ _; exact Nat.le_of_eq rfl) (by decide)
 refine own_go st91 ?_
 refine own_go (B := T91.setTop (mkF m 27 #[.val (.ref a1), .val (.ref ar), .val (.int 0), .val (.int 2), .val .null, .unset] [])) (fun t k => ?_) ?_
 ·refine XS.iloadN X91.here hx rfl (hb hby d4_4) rfl ?_
  show Steps p.tables e below (T91.setTop (mkF m 5 #[.val (.ref a1), .val (.ref ar), .val (.int 0), .val (.int 2), .val .null, .unset] [(.int 2)])) _
  refine XS.ifYes X91.here hx rfl (pc0 := 5) (pc' := 27) rfl (hb hby d4_5) rfl ((if0 _ _).trans (feq (by decide : ¬ ((2 : Int32) = (0 : Int32)))).2) (by decide) (by decide) ?_
  show Steps p.tables e below (T91.setTop (mkF m 27 #[.val (.ref a1), .val (.ref ar), .val (.int 0), .val (.int 2), .val .null, .unset] [])) _
  exact k
 obtain ⟨T92, X92, e92, st92⟩ := getS2 X91 hx hZ hown (host := "") (Or.inl (hw _ (List.mem_of_getElem? (i := 44) rfl))) Via.refl e91 S_COMPACT_STRINGS (g := (mkF m 27 #[.val (.ref a1), .val (.ref ar), .val (.int 0), .val (.int 2), .val .null, .unset] [])) rfl (hb hby d4_27)
 refine own_go st92 ?_
 refine own_go (B := T92.setTop (mkF m 36 #[.val (.ref a1), .val (.ref ar), .val (.int 0), .val (.int 2), .val .null, .unset] [(.int 2), (.int 0), (.ref ar)])) (fun t k => ?_) ?_
 ·refine XS.ifNo X92.here hx rfl (hb hby d4_30) rfl ((if0 _ _).trans (feq (show ¬ (w_COMPACT_STRINGS = (0 : Int32)) from N_COMPACT_STRINGS)).1) ?_
  show Steps p.tables e below (T92.setTop (mkF m 33 #[.val (.ref a1), .val (.ref ar), .val (.int 0), .val (.int 2), .val .null, .unset] [])) _
  refine XS.aloadN X92.here hx rfl (hb hby d4_33) rfl rfl ?_
  show Steps p.tables e below (T92.setTop (mkF m 34 #[.val (.ref a1), .val (.ref ar), .val (.int 0), .val (.int 2), .val .null, .unset] [(.ref ar)])) _
  refine XS.iloadN X92.here hx rfl (hb hby d4_34) rfl ?_
  show Steps p.tables e below (T92.setTop (mkF m 35 #[.val (.ref a1), .val (.ref ar), .val (.int 0), .val (.int 2), .val .null, .unset] [(.int 0), (.ref ar)])) _
  refine XS.iloadN X92.here hx rfl (hb hby d4_35) rfl ?_
  show Steps p.tables e below (T92.setTop (mkF m 36 #[.val (.ref a1), .val (.ref ar), .val (.int 0), .val (.int 2), .val .null, .unset] [(.int 2), (.int 0), (.ref ar)])) _
  exact k
 obtain ⟨_, _, ⟨T93, L93, k93, n93⟩, -, X93, ⟨Lc93, hQ93, l93, y93, z93⟩, st93⟩ := Jvm.LawKit.callS X92 hx (y := (⟨"java/lang/StringUTF16", "compress", "([CII)[B"⟩ : MethodName)) hown (mvT hZ (hw _ (List.mem_of_getElem? (i := 53) rfl))) (mvT hZ (hw _ (List.mem_of_getElem? (i := 54) rfl))) (mvT hZ (hw _ (List.mem_of_getElem? (i := 55) rfl))) (mvT hZ (hw _ (List.mem_of_getElem? (i := 56) rfl))) (by decide) (backOf (W := 0) (rm9_2 l Z a0 hw [] ar kar c0 c1 h0 n0 Z0 V_ar (by first | assumption | decide) (by first | assumption | decide)) hZ (hw _ (List.mem_of_getElem? (i := 56) rfl)) (hw _ (List.mem_of_getElem? (i := 55) rfl)) (by decide) (by decide)) (g := (mkF m 36 #[.val (.ref a1), .val (.ref ar), .val (.int 0), .val (.int 2), .val .null, .unset] [(.int 2), (.int 0), (.ref ar)])) rfl (by rw [hml]; rfl) (argsL := [(.ref ar), (.int 0), (.int 2)]) (rest := []) (lenOf pd_1 rfl) rfl (by show 2 * 0 + _ ≤ _; exact Nat.le_of_eq rfl) (hb hby d4_36) (fun _ _ => ⟨rfl, e92, (by decide : 0 + 1 ≤ _), (by decide : 0 + 2 ≤ _)⟩)
 dsimp only [Pt.U, Pt.locs, Pt.cells, Pt.slots] at X93 l93 y93 z93 st93 hQ93
 subst l93 y93 z93
 obtain ⟨bn_93, kn_93, rfl, M93, q93_0, q93_1, q93_2⟩ := hQ93
 have N93 := Fr.app N0 M93
 have K93 : Keep h0 T93.heap [a1] := Keep.trans (Keep.refl h0 [a1]) q93_0 all0
 refine own_go st93 ?_
 refine own_go (B := T93.setTop (mkF m 45 #[.val (.ref a1), .val (.ref ar), .val (.int 0), .val (.int 2), .val .null, .val (.ref bn_93)] [(.int 2), (.ref bn_93), (.ref a1)])) (fun t k => ?_) ?_
 ·refine XS.astore X93.here hx rfl (hb hby d4_39) rfl rfl (l' := #[.val (.ref a1), .val (.ref ar), .val (.int 0), .val (.int 2), .val .null, .val (.ref bn_93)]) rfl ?_
  show Steps p.tables e below (T93.setTop (mkF m 41 #[.val (.ref a1), .val (.ref ar), .val (.int 0), .val (.int 2), .val .null, .val (.ref bn_93)] [])) _
  refine XS.aloadN X93.here hx rfl (hb hby d4_41) rfl rfl ?_
  show Steps p.tables e below (T93.setTop (mkF m 42 #[.val (.ref a1), .val (.ref ar), .val (.int 0), .val (.int 2), .val .null, .val (.ref bn_93)] [(.ref a1)])) _
  refine XS.aload X93.here hx rfl (hb hby d4_42) rfl rfl ?_
  show Steps p.tables e below (T93.setTop (mkF m 44 #[.val (.ref a1), .val (.ref ar), .val (.int 0), .val (.int 2), .val .null, .val (.ref bn_93)] [(.ref bn_93), (.ref a1)])) _
  refine XS.iloadN X93.here hx rfl (hb hby d4_44) rfl ?_
  show Steps p.tables e below (T93.setTop (mkF m 45 #[.val (.ref a1), .val (.ref ar), .val (.int 0), .val (.int 2), .val .null, .val (.ref bn_93)] [(.int 2), (.ref bn_93), (.ref a1)])) _
  exact k
 obtain ⟨_, _, ⟨T94, L94, k94, n94⟩, -, X94, ⟨Lc94, hQ94, l94, y94, z94⟩, st94⟩ := Jvm.LawKit.callS X93 hx (y := (⟨"java/lang/StringUTF16", "coderFromArrayLen", "([BI)B"⟩ : MethodName)) hown (mvT hZ (hw _ (List.mem_of_getElem? (i := 60) rfl))) (mvT hZ (hw _ (List.mem_of_getElem? (i := 61) rfl))) (mvT hZ (hw _ (List.mem_of_getElem? (i := 55) rfl))) (mvT hZ (hw _ (List.mem_of_getElem? (i := 62) rfl))) (by decide) (backOf (W := 1) (rm11_2 l Z a0 hw [] bn_93 kn_93 ([(.int (c0.toInt8.toInt32)), (.int (c1.toInt8.toInt32))]) T93.heap n0 (Nat.le_trans Z0 q93_0.1) q93_2) hZ (hw _ (List.mem_of_getElem? (i := 62) rfl)) (hw _ (List.mem_of_getElem? (i := 55) rfl)) (by decide) (by decide)) (g := (mkF m 45 #[.val (.ref a1), .val (.ref ar), .val (.int 0), .val (.int 2), .val .null, .val (.ref bn_93)] [(.int 2), (.ref bn_93), (.ref a1)])) rfl (by rw [hml]; rfl) (argsL := [(.ref bn_93), (.int 2)]) (rest := [(.ref a1)]) (lenOf pd_2 rfl) rfl (by show 2 * 0 + _ ≤ _; exact Nat.le_of_eq rfl) (hb hby d4_45) (fun _ _ => ⟨rfl, rfl, (by decide : 1 + 0 ≤ _), (by decide : 2 + 0 ≤ _)⟩)
 dsimp only [Pt.U, Pt.locs, Pt.cells, Pt.slots] at X94 l94 y94 z94 st94 hQ94
 subst l94 y94 z94
 obtain ⟨rfl, M94, q94_0⟩ := hQ94
 have N94 := Fr.app N93 M94
 refine own_go st94 ?_
 have f96 : Exa Z T93.heap a1 "java/lang/String" := (E_a1.keep q93_0)
 have f97 : Fld Z T93.heap a1 "java/lang/String" "coder" "B" (.int 0) := (F_coder_a1.keep q93_0 nin0)
 obtain ⟨T95, h95, X95, e95, W95, st95⟩ := putFN X94 hx hZ hown (hw _ (List.mem_of_getElem? (i := 28) rfl)) Via.refl q94_0 f97 f96 (Or.inr ⟨(hw _ (List.mem_of_getElem? (i := 24) rfl)), rfl, hnm⟩) (hw _ (List.mem_of_getElem? (i := 9) rfl)) (ty := .byte) (v' := (.int 0)) (by decide) rfl (by decide) (g := (mkF m 48 #[.val (.ref a1), .val (.ref ar), .val (.int 0), .val (.int 2), .val .null, .val (.ref bn_93)] [(.int 0), (.ref a1)])) rfl rfl (hb hby d4_48)
 refine own_go st95 ?_
 have F95 : Fld Z h95 a1 "java/lang/String" "coder" "B" (.int 0) := f97.same W95
 have K95 : Keep h0 h95 [a1] := Keep.wr K93 W95 (Or.inl (List.mem_of_getElem? (i := 0) rfl))
 have N95 := Fr.snoc X95 N94 g_a1
 refine own_go (B := T95.setTop (mkF m 54 #[.val (.ref a1), .val (.ref ar), .val (.int 0), .val (.int 2), .val .null, .val (.ref bn_93)] [(.ref bn_93), (.ref a1)])) (fun t k => ?_) ?_
 ·refine XS.aloadN X95.here hx rfl (hb hby d4_51) rfl rfl ?_
  show Steps p.tables e below (T95.setTop (mkF m 52 #[.val (.ref a1), .val (.ref ar), .val (.int 0), .val (.int 2), .val .null, .val (.ref bn_93)] [(.ref a1)])) _
  refine XS.aload X95.here hx rfl (hb hby d4_52) rfl rfl ?_
  show Steps p.tables e below (T95.setTop (mkF m 54 #[.val (.ref a1), .val (.ref ar), .val (.int 0), .val (.int 2), .val .null, .val (.ref bn_93)] [(.ref bn_93), (.ref a1)])) _
  exact k
 have f99 : Exa Z h95 a1 "java/lang/String" := (f96.wr W95)
 have f100 : Fld Z h95 a1 "java/lang/String" "value" "[B" .null := ((F_value_a1.keep q93_0 nin0).other W95 (Or.inr (slot_ne (Or.inr (hw _ (List.mem_of_getElem? (i := 23) rfl))) (Or.inr (hw _ (List.mem_of_getElem? (i := 24) rfl))) (by decide) (t := (.array .byte)) (t' := .byte) (by decide) (by decide))))
 obtain ⟨T98, h98, X98, e98, W98, st98⟩ := putF X95 hx hZ hown (host := "") (Or.inl (hw _ (List.mem_of_getElem? (i := 27) rfl))) Via.refl e95 f100 f99 (Or.inr ⟨(hw _ (List.mem_of_getElem? (i := 23) rfl)), rfl, hnm⟩) (hw _ (List.mem_of_getElem? (i := 9) rfl)) (ty := (.array .byte)) (by decide) rfl rfl (g := (mkF m 54 #[.val (.ref a1), .val (.ref ar), .val (.int 0), .val (.int 2), .val .null, .val (.ref bn_93)] [(.ref bn_93), (.ref a1)])) rfl rfl (hb hby d4_54)
 refine own_go st98 ?_
 have F98 : Fld Z h98 a1 "java/lang/String" "value" "[B" (.ref bn_93) := f100.same W98
 have K98 : Keep h0 h98 [a1] := Keep.wr K95 W98 (Or.inl (List.mem_of_getElem? (i := 0) rfl))
 have N98 := Fr.snoc X98 N95 g_a1
 obtain ⟨fs, hr, hrun, hended, hW, hsame⟩ := X98.leave (v := none) (fun _ => rfl)
 refine ⟨_, _, ?_, hrun, hended, _, _, rfl, ?_, ⟨_, rfl⟩, hW, hsame.mono (by decide) (by decide)⟩
 ·exact X98.returnOut hx Bd.returns (hb hby d4_57) hr
 ·show Q4_2 Z a1 ar w_COMPACT_STRINGS kar c0 c1 h0 n0 _ T98.heap _
  rw [e98]
  have f102 : Exa Z h98 a1 "java/lang/String" := (f99.wr W98)
  have f103 : Fld Z h98 a1 "java/lang/String" "coder" "B" (.int 0) := (F95.other W98 (Or.inr (slot_ne (Or.inr (hw _ (List.mem_of_getElem? (i := 24) rfl))) (Or.inr (hw _ (List.mem_of_getElem? (i := 23) rfl))) (by decide) (t := .byte) (t' := (.array .byte)) (by decide) (by decide))))
  have ne104 : a1 ≠ bn_93 := (Nat.ne_of_lt (Nat.lt_of_lt_of_le E_a1.lt q93_1))
  have f105 : Arv Z h98 bn_93 kn_93 .byte (2 : Int32) [(.int (c0.toInt8.toInt32)), (.int (c1.toInt8.toInt32))] (.int 0) := ((q93_2.other W95 (Ne.symm ne104)).other W98 (Ne.symm ne104))
  exact ⟨bn_93, kn_93, rfl, N98, K98, q93_1, f102, f103, F98, f105⟩
theorem ef_3_2 (m : MethodId) (a1 : Addr) (ar : Addr) : entryFrame m #[(.ref a1), (.ref ar)] 2 = mkF m 0 #[.val (.ref a1), .val (.ref ar)] [] := by first | (simp [entryFrame, mkF, argsToLocals, Value.category]; done) | rfl
def Q3_2 (Z : State) (a1 : Addr) (ar : Addr) (w_COMPACT_STRINGS : Int32) (kar : ClassId) (c0 : Int32) (c1 : Int32) (h0 : Heap) (n0 : Nat) (v : Option Value) (h : Heap) (L : List Loc) : Prop := ∃ (bn : Addr) (kn : ClassId), v = none ∧ Fr n0 L ∧ Keep h0 h [a1] ∧ h0.size ≤ bn ∧ Exa Z h a1 "java/lang/String" ∧ Fld Z h a1 "java/lang/String" "coder" "B" (.int 0) ∧ Fld Z h a1 "java/lang/String" "value" "[B" (.ref bn) ∧ Arv Z h bn kn .byte (2 : Int32) [(.int (c0.toInt8.toInt32)), (.int (c1.toInt8.toInt32))] (.int 0)
set_option maxRecDepth 65536 in
set_option maxHeartbeats 40000000 in
theorem rm3_2 (l : Launch) (Z : State) (a0 : Array Value) (hw : ∀ d ∈ tables_1, d.before a0 Z = true) (ws : List Jvm.Cond) (a1 : Addr) (ar : Addr) (w_COMPACT_STRINGS : Int32) (kar : ClassId) (c0 : Int32) (c1 : Int32) (h0 : Heap) (n0 : Nat) (Z0 : n0 ≤ h0.size) (E_a1 : Exa Z h0 a1 "java/lang/String") (F_value_a1 : Fld Z h0 a1 "java/lang/String" "value" "[B" .null) (F_coder_a1 : Fld Z h0 a1 "java/lang/String" "coder" "B" (.int 0)) (g_a1 : n0 ≤ a1) (S_COMPACT_STRINGS : Sta Z h0 "java/lang/String" "COMPACT_STRINGS" "Z" (.int w_COMPACT_STRINGS)) (N_COMPACT_STRINGS : ¬ w_COMPACT_STRINGS = (0 : Int32)) (V_ar : Arv Z h0 ar kar .char (2 : Int32) [(.int c0), (.int c1)] (.int 0)) (hc0 : 0 ≤ c0.toInt ∧ c0.toInt ≤ 255) (hc1 : 0 ≤ c1.toInt ∧ c1.toInt ≤ 255) :
  MetFree l (⟨"java/lang/String", "<init>", "([C)V"⟩ : MethodName) (head1 (Jvm.Cond.code (⟨"java/lang/String", "<init>", "([C)V"⟩ : MethodName) jdk_42_method_3_code 2 none :: ws) ({ frames := 3, cells := 1, slots := 2, locals := 52 } : Room)) (fun a U => a = #[(.ref a1), (.ref ar)] ∧ Z.Warmed39 U.vm ∧ U.heap = h0) (fun _ _ _ _ _ => True) (fun _ U o U' => ∃ v L, o = .returned v ∧ Q3_2 Z a1 ar w_COMPACT_STRINGS kar c0 c1 h0 n0 v U'.heap L ∧ FrameEnd U o U' L ({ frames := 3, cells := 1, slots := 2, locals := 52 } : Room).cells ({ frames := 3, cells := 1, slots := 2, locals := 52 } : Room).slots) := by
 refine MetFree.of_bodySF (plainFor_of_name pn_118) hisR ?_
 intro p e s m args below meth c s₁ Bd hml0 hP hK
 obtain ⟨rfl, hZ, hh⟩ := hP
 have hx := Bd.exec
 have hby := Bd.bytes
 have hml : c.maxLocals = 2 := hml0
 have hown : s.vm.findClass "java/lang/String" = some m.cls := findClass_of_methodNamed Bd.named
 have hnm := (name_of_methodNamed Bd.named Bd.method).1
 have X0 : Stand p l e ({ frames := 3, cells := 1, slots := 2, locals := 52 } : Room) s m #[(.ref a1), (.ref ar)] below meth c s₁ [] 0 0 := Stand.of_body Bd
 have e0 : s₁.heap = h0 := by rw [← hh, Bd.state]; rfl
 have N0 := Fr.nil n0
 refine own_go (B := s₁.setTop (mkF m 0 #[.val (.ref a1), .val (.ref ar)] [])) (fun t k => castTop (ef_3_2 m a1 ar) k) ?_
 refine own_go (B := s₁.setTop (mkF m 4 #[.val (.ref a1), .val (.ref ar)] [(.ref ar), (.int 0), (.ref ar), (.ref a1)])) (fun t k => ?_) ?_
 ·refine XS.aloadN X0.here hx rfl (hb hby d3_0) rfl rfl ?_
  show Steps p.tables e below (s₁.setTop (mkF m 1 #[.val (.ref a1), .val (.ref ar)] [(.ref a1)])) _
  refine XS.aloadN X0.here hx rfl (hb hby d3_1) rfl rfl ?_
  show Steps p.tables e below (s₁.setTop (mkF m 2 #[.val (.ref a1), .val (.ref ar)] [(.ref ar), (.ref a1)])) _
  refine XS.iconst X0.here hx rfl (hb hby d3_2) ?_
  show Steps p.tables e below (s₁.setTop (mkF m 3 #[.val (.ref a1), .val (.ref ar)] [(.int 0), (.ref ar), (.ref a1)])) _
  refine XS.aloadN X0.here hx rfl (hb hby d3_3) rfl rfl ?_
  show Steps p.tables e below (s₁.setTop (mkF m 4 #[.val (.ref a1), .val (.ref ar)] [(.ref ar), (.int 0), (.ref ar), (.ref a1)])) _
  exact k
 obtain ⟨cl106, Ar106, cq106, cS106, cN106, cH106, cG106⟩ := id V_ar
 refine own_go (B := s₁.setTop (mkF m 6 #[.val (.ref a1), .val (.ref ar)] [.null, (.int 2), (.int 0), (.ref ar), (.ref a1)])) (fun t k => ?_) ?_
 ·refine X0.arraylength hx (by rw [e0]; exact Ar106.1) (State.isArrayOf_alike hZ.alike Ar106.2.1) (g := (mkF m 4 #[.val (.ref a1), .val (.ref ar)] [(.ref ar), (.int 0), (.ref ar), (.ref a1)])) rfl rfl (hb hby d3_4) _ ?_
  rw [len_of cS106 cN106]
  show Steps p.tables e below (s₁.setTop (mkF m 5 #[.val (.ref a1), .val (.ref ar)] [(.int 2), (.int 0), (.ref ar), (.ref a1)])) _
  refine XS.aconstNull X0.here hx rfl (hb hby d3_5) ?_
  show Steps p.tables e below (s₁.setTop (mkF m 6 #[.val (.ref a1), .val (.ref ar)] [.null, (.int 2), (.int 0), (.ref ar), (.ref a1)])) _
  exact k
 obtain ⟨_, _, ⟨T107, L107, k107, n107⟩, -, X107, ⟨Lc107, hQ107, l107, y107, z107⟩, st107⟩ := X0.specialBack hx (y := (⟨"java/lang/String", "<init>", "([CIILjava/lang/Void;)V"⟩ : MethodName)) rfl hown (mvT hZ (hw _ (List.mem_of_getElem? (i := 14) rfl))) (mvT hZ (hw _ (List.mem_of_getElem? (i := 15) rfl))) (mvT hZ (hw _ (List.mem_of_getElem? (i := 17) rfl))) (by decide) (backOf (W := 0) (rm4_2 l Z a0 hw [] a1 ar w_COMPACT_STRINGS kar c0 c1 h0 n0 Z0 E_a1 F_value_a1 F_coder_a1 g_a1 S_COMPACT_STRINGS (N_COMPACT_STRINGS) V_ar (by first | assumption | decide) (by first | assumption | decide)) hZ (hw _ (List.mem_of_getElem? (i := 17) rfl)) (hw _ (List.mem_of_getElem? (i := 10) rfl)) (by decide) (by decide)) (g := (mkF m 6 #[.val (.ref a1), .val (.ref ar)] [.null, (.int 2), (.int 0), (.ref ar), (.ref a1)])) rfl (by rw [hml]; rfl) (Steps.refl _) (a := a1) (argsL := [(.ref ar), (.int 0), (.int 2), .null]) (rest := []) (lenOf pd_3 rfl) rfl (by show 2 * 0 + _ ≤ _; exact Nat.le_of_eq rfl) (hb hby d3_6) (fun _ _ => ⟨rfl, e0, (by decide : 0 + 1 ≤ _), (by decide : 0 + 2 ≤ _)⟩)
 dsimp only [Pt.U, Pt.locs, Pt.cells, Pt.slots] at X107 l107 y107 z107 st107 hQ107
 subst l107 y107 z107
 obtain ⟨bn_107, kn_107, rfl, M107, q107_0, q107_1, q107_2, q107_3, q107_4, q107_5⟩ := hQ107
 have N107 := Fr.app N0 M107
 have K107 : Keep h0 T107.heap [a1] := Keep.trans (Keep.refl h0 [a1]) q107_0 (allS (Or.inl (List.mem_of_getElem? (i := 0) rfl)) all0)
 refine own_go (fun t k => st107.trans k) ?_
 obtain ⟨fs, hr, hrun, hended, hW, hsame⟩ := X107.leave (v := none) (fun _ => rfl)
 refine ⟨_, _, ?_, hrun, hended, _, _, rfl, ?_, ⟨_, rfl⟩, hW, hsame.mono (by decide) (by decide)⟩
 ·exact X107.returnOut hx Bd.returns (hb hby d3_9) hr
 ·show Q3_2 Z a1 ar w_COMPACT_STRINGS kar c0 c1 h0 n0 _ T107.heap _
  exact ⟨bn_107, kn_107, rfl, N107, K107, q107_1, q107_2, q107_3, q107_4, q107_5⟩
theorem ef_10_3 (m : MethodId) (ar : Addr) (a2 : Addr) : entryFrame m #[(.ref ar), (.int 0), (.ref a2), (.int 0), (.int 3)] 7 = mkF m 0 #[.val (.ref ar), .val (.int 0), .val (.ref a2), .val (.int 0), .val (.int 3), .unset, .unset] [] := by first | (simp [entryFrame, mkF, argsToLocals, Value.category]; done) | rfl
def Q10_3 (Z : State) (ar : Addr) (a2 : Addr) (kar : ClassId) (k2 : ClassId) (c0 : Int32) (c1 : Int32) (c2 : Int32) (h0 : Heap) (n0 : Nat) (v : Option Value) (h : Heap) (L : List Loc) : Prop := v = some (.int 3) ∧ Fr n0 L ∧ Keep h0 h [a2] ∧ Arv Z h a2 k2 .byte (3 : Int32) [(.int (c0.toInt8.toInt32)), (.int (c1.toInt8.toInt32)), (.int (c2.toInt8.toInt32))] (.int 0)
set_option maxRecDepth 65536 in
set_option maxHeartbeats 40000000 in
theorem rm10_3 (l : Launch) (Z : State) (a0 : Array Value) (hw : ∀ d ∈ tables_1, d.before a0 Z = true) (ws : List Jvm.Cond) (ar : Addr) (a2 : Addr) (kar : ClassId) (k2 : ClassId) (c0 : Int32) (c1 : Int32) (c2 : Int32) (h0 : Heap) (n0 : Nat) (Z0 : n0 ≤ h0.size) (V_ar : Arv Z h0 ar kar .char (3 : Int32) [(.int c0), (.int c1), (.int c2)] (.int 0)) (V_2 : Arv Z h0 a2 k2 .byte (3 : Int32) [(.int 0), (.int 0), (.int 0)] (.int 0)) (g_a2 : n0 ≤ a2) (ne_ : ar ≠ a2) (hc0 : 0 ≤ c0.toInt ∧ c0.toInt ≤ 255) (hc1 : 0 ≤ c1.toInt ∧ c1.toInt ≤ 255) (hc2 : 0 ≤ c2.toInt ∧ c2.toInt ≤ 255) :
  MetFree l (⟨"java/lang/StringUTF16", "compress", "([CI[BII)I"⟩ : MethodName) (head1 (Jvm.Cond.code (⟨"java/lang/StringUTF16", "compress", "([CI[BII)I"⟩ : MethodName) jdk_52_method_21_code 7 (some .int) :: ws) ({ frames := 0, cells := 0, slots := 0, locals := 0 } : Room)) (fun a U => a = #[(.ref ar), (.int 0), (.ref a2), (.int 0), (.int 3)] ∧ Z.Warmed39 U.vm ∧ U.heap = h0) (fun _ _ _ _ _ => True) (fun _ U o U' => ∃ v L, o = .returned v ∧ Q10_3 Z ar a2 kar k2 c0 c1 c2 h0 n0 v U'.heap L ∧ FrameEnd U o U' L ({ frames := 0, cells := 0, slots := 0, locals := 0 } : Room).cells ({ frames := 0, cells := 0, slots := 0, locals := 0 } : Room).slots) := by
 refine MetFree.of_bodySF (plainFor_of_name pn_74) hisR ?_
 intro p e s m args below meth c s₁ Bd hml0 hP hK
 obtain ⟨rfl, hZ, hh⟩ := hP
 have hx := Bd.exec
 have hby := Bd.bytes
 have hml : c.maxLocals = 7 := hml0
 have hown : s.vm.findClass "java/lang/StringUTF16" = some m.cls := findClass_of_methodNamed Bd.named
 have hnm := (name_of_methodNamed Bd.named Bd.method).1
 have X0 : Stand p l e ({ frames := 0, cells := 0, slots := 0, locals := 0 } : Room) s m #[(.ref ar), (.int 0), (.ref a2), (.int 0), (.int 3)] below meth c s₁ [] 0 0 := Stand.of_body Bd
 have e0 : s₁.heap = h0 := by rw [← hh, Bd.state]; rfl
 have N0 := Fr.nil n0
 refine own_go (B := s₁.setTop (mkF m 0 #[.val (.ref ar), .val (.int 0), .val (.ref a2), .val (.int 0), .val (.int 3), .unset, .unset] [])) (fun t k => castTop (ef_10_3 m ar a2) k) ?_
 refine own_go (B := s₁.setTop (mkF m 12 #[.val (.ref ar), .val (.int 0), .val (.ref a2), .val (.int 0), .val (.int 3), .val (.int 0), .unset] [(.int 0), (.ref ar)])) (fun t k => ?_) ?_
 ·refine XS.iconst X0.here hx rfl (hb hby d10_0) ?_
  show Steps p.tables e below (s₁.setTop (mkF m 1 #[.val (.ref ar), .val (.int 0), .val (.ref a2), .val (.int 0), .val (.int 3), .unset, .unset] [(.int 0)])) _
  refine XS.istore X0.here hx rfl (hb hby d10_1) rfl (l' := #[.val (.ref ar), .val (.int 0), .val (.ref a2), .val (.int 0), .val (.int 3), .val (.int 0), .unset]) rfl ?_
  show Steps p.tables e below (s₁.setTop (mkF m 3 #[.val (.ref ar), .val (.int 0), .val (.ref a2), .val (.int 0), .val (.int 3), .val (.int 0), .unset] [])) _
  refine XS.iload X0.here hx rfl (hb hby d10_3) rfl ?_
  show Steps p.tables e below (s₁.setTop (mkF m 5 #[.val (.ref ar), .val (.int 0), .val (.ref a2), .val (.int 0), .val (.int 3), .val (.int 0), .unset] [(.int 0)])) _
  refine XS.iload X0.here hx rfl (hb hby d10_5) rfl ?_
  show Steps p.tables e below (s₁.setTop (mkF m 7 #[.val (.ref ar), .val (.int 0), .val (.ref a2), .val (.int 0), .val (.int 3), .val (.int 0), .unset] [(.int 3), (.int 0)])) _
  refine XS.icmpNo X0.here hx rfl (hb hby d10_7) rfl (tlt (by decide : (0 : Int32) < (3 : Int32))).2.1 ?_
  show Steps p.tables e below (s₁.setTop (mkF m 10 #[.val (.ref ar), .val (.int 0), .val (.ref a2), .val (.int 0), .val (.int 3), .val (.int 0), .unset] [])) _
  refine XS.aloadN X0.here hx rfl (hb hby d10_10) rfl rfl ?_
  show Steps p.tables e below (s₁.setTop (mkF m 11 #[.val (.ref ar), .val (.int 0), .val (.ref a2), .val (.int 0), .val (.int 3), .val (.int 0), .unset] [(.ref ar)])) _
  refine XS.iloadN X0.here hx rfl (hb hby d10_11) rfl ?_
  show Steps p.tables e below (s₁.setTop (mkF m 12 #[.val (.ref ar), .val (.int 0), .val (.ref a2), .val (.int 0), .val (.int 3), .val (.int 0), .unset] [(.int 0), (.ref ar)])) _
  exact k
 obtain ⟨cl109, Ar109, cq109, cS109, cN109, cH109, cG109⟩ := id V_ar
 have hin109 := inb_of (j := (0 : Int32)) cS109 ⟨by decide, by decide⟩
 have hat109 : cl109.slots[((0 : Int32)).toNatClampNeg]? = some (.int c0) := Has.at cH109 hin109 rfl
 refine own_go (B := s₁.setTop (mkF m 31 #[.val (.ref ar), .val (.int 0), .val (.ref a2), .val (.int 0), .val (.int 3), .val (.int 0), .val (.int c0)] [(.int (c0.toInt8.toInt32)), (.int 0), (.ref a2)])) (fun t k => ?_) ?_
 ·refine X0.caload hx (j := (0 : Int32)) (v := (.int c0)) (by rw [e0]; exact Ar109.1) (State.isArrayOf_alike hZ.alike Ar109.2.1) Ar109.2.2 hin109 hat109 (g := (mkF m 12 #[.val (.ref ar), .val (.int 0), .val (.ref a2), .val (.int 0), .val (.int 3), .val (.int 0), .unset] [(.int 0), (.ref ar)])) rfl rfl (hb hby d10_12) _ ?_
  show Steps p.tables e below (s₁.setTop (mkF m 13 #[.val (.ref ar), .val (.int 0), .val (.ref a2), .val (.int 0), .val (.int 3), .val (.int 0), .unset] [(.int c0)])) _
  refine XS.istore X0.here hx rfl (hb hby d10_13) rfl (l' := #[.val (.ref ar), .val (.int 0), .val (.ref a2), .val (.int 0), .val (.int 3), .val (.int 0), .val (.int c0)]) rfl ?_
  show Steps p.tables e below (s₁.setTop (mkF m 15 #[.val (.ref ar), .val (.int 0), .val (.ref a2), .val (.int 0), .val (.int 3), .val (.int 0), .val (.int c0)] [])) _
  refine XS.iload X0.here hx rfl (hb hby d10_15) rfl ?_
  show Steps p.tables e below (s₁.setTop (mkF m 17 #[.val (.ref ar), .val (.int 0), .val (.ref a2), .val (.int 0), .val (.int 3), .val (.int 0), .val (.int c0)] [(.int c0)])) _
  refine XS.sipush X0.here hx rfl (hb hby d10_17) ?_
  show Steps p.tables e below (s₁.setTop (mkF m 20 #[.val (.ref ar), .val (.int 0), .val (.ref a2), .val (.int 0), .val (.int 3), .val (.int 0), .val (.int c0)] [(.int 255), (.int c0)])) _
  refine XS.icmpYes X0.here hx rfl (pc0 := 20) (pc' := 26) rfl (hb hby d10_20) rfl (flt (show ¬ ((255 : Int32) < c0) from (own_le c0 hc0))).2.2.2 (by decide) (by decide) ?_
  show Steps p.tables e below (s₁.setTop (mkF m 26 #[.val (.ref ar), .val (.int 0), .val (.ref a2), .val (.int 0), .val (.int 3), .val (.int 0), .val (.int c0)] [])) _
  refine XS.aloadN X0.here hx rfl (hb hby d10_26) rfl rfl ?_
  show Steps p.tables e below (s₁.setTop (mkF m 27 #[.val (.ref ar), .val (.int 0), .val (.ref a2), .val (.int 0), .val (.int 3), .val (.int 0), .val (.int c0)] [(.ref a2)])) _
  refine XS.iloadN X0.here hx rfl (hb hby d10_27) rfl ?_
  show Steps p.tables e below (s₁.setTop (mkF m 28 #[.val (.ref ar), .val (.int 0), .val (.ref a2), .val (.int 0), .val (.int 3), .val (.int 0), .val (.int c0)] [(.int 0), (.ref a2)])) _
  refine XS.iload X0.here hx rfl (hb hby d10_28) rfl ?_
  show Steps p.tables e below (s₁.setTop (mkF m 30 #[.val (.ref ar), .val (.int 0), .val (.ref a2), .val (.int 0), .val (.int 3), .val (.int 0), .val (.int c0)] [(.int c0), (.int 0), (.ref a2)])) _
  refine XS.i2b X0.here hx rfl (hb hby d10_30) rfl ?_
  show Steps p.tables e below (s₁.setTop (mkF m 31 #[.val (.ref ar), .val (.int 0), .val (.ref a2), .val (.int 0), .val (.int 3), .val (.int 0), .val (.int c0)] [(.int (c0.toInt8.toInt32)), (.int 0), (.ref a2)])) _
  exact k
 obtain ⟨cl110, Ar110, cq110, cS110, cN110, cH110, cG110⟩ := id V_2
 have hin110 := inb_of (j := (0 : Int32)) cS110 ⟨by decide, by decide⟩
 obtain ⟨T110, h110, X110, e110, W110, st110⟩ := stB X0 hx hZ e0 Ar110 (j := (0 : Int32)) hin110 (g := (mkF m 31 #[.val (.ref ar), .val (.int 0), .val (.ref a2), .val (.int 0), .val (.int 3), .val (.int 0), .val (.int c0)] [(.int (c0.toInt8.toInt32)), (.int 0), (.ref a2)])) rfl rfl (hb hby d10_31)
 refine own_go st110 ?_
 have V110 : Arv Z h110 a2 k2 .byte (3 : Int32) [(.int (c0.toInt8.toInt32)), (.int 0), (.int 0)] (.int 0) := by have q := Arv.set Ar110 cq110 cS110 cN110 cH110 cG110 (fits_nar_byte _) W110 0 rfl (Nat.le_of_ble_eq_true rfl); rw [own_narB] at q; exact q
 have K110 : Keep h0 h110 [a2] := Keep.wr (Keep.refl h0 [a2]) W110 (Or.inl (List.mem_of_getElem? (i := 0) rfl))
 have N110 := Fr.snoc X110 N0 g_a2
 refine own_go (B := T110.setTop (mkF m 12 #[.val (.ref ar), .val (.int 1), .val (.ref a2), .val (.int 1), .val (.int 3), .val (.int 1), .val (.int c0)] [(.int 1), (.ref ar)])) (fun t k => ?_) ?_
 ·refine XS.iinc X110.here hx rfl (hb hby d10_32) rfl (l' := #[.val (.ref ar), .val (.int 1), .val (.ref a2), .val (.int 0), .val (.int 3), .val (.int 0), .val (.int c0)]) rfl ?_
  show Steps p.tables e below (T110.setTop (mkF m 35 #[.val (.ref ar), .val (.int 1), .val (.ref a2), .val (.int 0), .val (.int 3), .val (.int 0), .val (.int c0)] [])) _
  refine XS.iinc X110.here hx rfl (hb hby d10_35) rfl (l' := #[.val (.ref ar), .val (.int 1), .val (.ref a2), .val (.int 1), .val (.int 3), .val (.int 0), .val (.int c0)]) rfl ?_
  show Steps p.tables e below (T110.setTop (mkF m 38 #[.val (.ref ar), .val (.int 1), .val (.ref a2), .val (.int 1), .val (.int 3), .val (.int 0), .val (.int c0)] [])) _
  refine XS.iinc X110.here hx rfl (hb hby d10_38) rfl (l' := #[.val (.ref ar), .val (.int 1), .val (.ref a2), .val (.int 1), .val (.int 3), .val (.int 1), .val (.int c0)]) rfl ?_
  show Steps p.tables e below (T110.setTop (mkF m 41 #[.val (.ref ar), .val (.int 1), .val (.ref a2), .val (.int 1), .val (.int 3), .val (.int 1), .val (.int c0)] [])) _
  refine XS.goto X110.here hx rfl (pc0 := 41) (pc' := 3) rfl (hb hby d10_41) (by decide) (by decide) ?_
  show Steps p.tables e below (T110.setTop (mkF m 3 #[.val (.ref ar), .val (.int 1), .val (.ref a2), .val (.int 1), .val (.int 3), .val (.int 1), .val (.int c0)] [])) _
  refine XS.iload X110.here hx rfl (hb hby d10_3) rfl ?_
  show Steps p.tables e below (T110.setTop (mkF m 5 #[.val (.ref ar), .val (.int 1), .val (.ref a2), .val (.int 1), .val (.int 3), .val (.int 1), .val (.int c0)] [(.int 1)])) _
  refine XS.iload X110.here hx rfl (hb hby d10_5) rfl ?_
  show Steps p.tables e below (T110.setTop (mkF m 7 #[.val (.ref ar), .val (.int 1), .val (.ref a2), .val (.int 1), .val (.int 3), .val (.int 1), .val (.int c0)] [(.int 3), (.int 1)])) _
  refine XS.icmpNo X110.here hx rfl (hb hby d10_7) rfl (tlt (by decide : (1 : Int32) < (3 : Int32))).2.1 ?_
  show Steps p.tables e below (T110.setTop (mkF m 10 #[.val (.ref ar), .val (.int 1), .val (.ref a2), .val (.int 1), .val (.int 3), .val (.int 1), .val (.int c0)] [])) _
  refine XS.aloadN X110.here hx rfl (hb hby d10_10) rfl rfl ?_
  show Steps p.tables e below (T110.setTop (mkF m 11 #[.val (.ref ar), .val (.int 1), .val (.ref a2), .val (.int 1), .val (.int 3), .val (.int 1), .val (.int c0)] [(.ref ar)])) _
  refine XS.iloadN X110.here hx rfl (hb hby d10_11) rfl ?_
  show Steps p.tables e below (T110.setTop (mkF m 12 #[.val (.ref ar), .val (.int 1), .val (.ref a2), .val (.int 1), .val (.int 3), .val (.int 1), .val (.int c0)] [(.int 1), (.ref ar)])) _
  exact k
 have f111 : Arv Z h110 ar kar .char (3 : Int32) [(.int c0), (.int c1), (.int c2)] (.int 0) := (V_ar.other W110 ne_)
 obtain ⟨cl112, Ar112, cq112, cS112, cN112, cH112, cG112⟩ := id f111
 have hin112 := inb_of (j := (1 : Int32)) cS112 ⟨by decide, by decide⟩
 have hat112 : cl112.slots[((1 : Int32)).toNatClampNeg]? = some (.int c1) := Has.at cH112 hin112 rfl
 refine own_go (B := T110.setTop (mkF m 31 #[.val (.ref ar), .val (.int 1), .val (.ref a2), .val (.int 1), .val (.int 3), .val (.int 1), .val (.int c1)] [(.int (c1.toInt8.toInt32)), (.int 1), (.ref a2)])) (fun t k => ?_) ?_
 ·refine X110.caload hx (j := (1 : Int32)) (v := (.int c1)) (by rw [e110]; exact Ar112.1) (State.isArrayOf_alike hZ.alike Ar112.2.1) Ar112.2.2 hin112 hat112 (g := (mkF m 12 #[.val (.ref ar), .val (.int 1), .val (.ref a2), .val (.int 1), .val (.int 3), .val (.int 1), .val (.int c0)] [(.int 1), (.ref ar)])) rfl rfl (hb hby d10_12) _ ?_
  show Steps p.tables e below (T110.setTop (mkF m 13 #[.val (.ref ar), .val (.int 1), .val (.ref a2), .val (.int 1), .val (.int 3), .val (.int 1), .val (.int c0)] [(.int c1)])) _
  refine XS.istore X110.here hx rfl (hb hby d10_13) rfl (l' := #[.val (.ref ar), .val (.int 1), .val (.ref a2), .val (.int 1), .val (.int 3), .val (.int 1), .val (.int c1)]) rfl ?_
  show Steps p.tables e below (T110.setTop (mkF m 15 #[.val (.ref ar), .val (.int 1), .val (.ref a2), .val (.int 1), .val (.int 3), .val (.int 1), .val (.int c1)] [])) _
  refine XS.iload X110.here hx rfl (hb hby d10_15) rfl ?_
  show Steps p.tables e below (T110.setTop (mkF m 17 #[.val (.ref ar), .val (.int 1), .val (.ref a2), .val (.int 1), .val (.int 3), .val (.int 1), .val (.int c1)] [(.int c1)])) _
  refine XS.sipush X110.here hx rfl (hb hby d10_17) ?_
  show Steps p.tables e below (T110.setTop (mkF m 20 #[.val (.ref ar), .val (.int 1), .val (.ref a2), .val (.int 1), .val (.int 3), .val (.int 1), .val (.int c1)] [(.int 255), (.int c1)])) _
  refine XS.icmpYes X110.here hx rfl (pc0 := 20) (pc' := 26) rfl (hb hby d10_20) rfl (flt (show ¬ ((255 : Int32) < c1) from (own_le c1 hc1))).2.2.2 (by decide) (by decide) ?_
  show Steps p.tables e below (T110.setTop (mkF m 26 #[.val (.ref ar), .val (.int 1), .val (.ref a2), .val (.int 1), .val (.int 3), .val (.int 1), .val (.int c1)] [])) _
  refine XS.aloadN X110.here hx rfl (hb hby d10_26) rfl rfl ?_
  show Steps p.tables e below (T110.setTop (mkF m 27 #[.val (.ref ar), .val (.int 1), .val (.ref a2), .val (.int 1), .val (.int 3), .val (.int 1), .val (.int c1)] [(.ref a2)])) _
  refine XS.iloadN X110.here hx rfl (hb hby d10_27) rfl ?_
  show Steps p.tables e below (T110.setTop (mkF m 28 #[.val (.ref ar), .val (.int 1), .val (.ref a2), .val (.int 1), .val (.int 3), .val (.int 1), .val (.int c1)] [(.int 1), (.ref a2)])) _
  refine XS.iload X110.here hx rfl (hb hby d10_28) rfl ?_
  show Steps p.tables e below (T110.setTop (mkF m 30 #[.val (.ref ar), .val (.int 1), .val (.ref a2), .val (.int 1), .val (.int 3), .val (.int 1), .val (.int c1)] [(.int c1), (.int 1), (.ref a2)])) _
  refine XS.i2b X110.here hx rfl (hb hby d10_30) rfl ?_
  show Steps p.tables e below (T110.setTop (mkF m 31 #[.val (.ref ar), .val (.int 1), .val (.ref a2), .val (.int 1), .val (.int 3), .val (.int 1), .val (.int c1)] [(.int (c1.toInt8.toInt32)), (.int 1), (.ref a2)])) _
  exact k
 obtain ⟨cl113, Ar113, cq113, cS113, cN113, cH113, cG113⟩ := id V110
 have hin113 := inb_of (j := (1 : Int32)) cS113 ⟨by decide, by decide⟩
 obtain ⟨T113, h113, X113, e113, W113, st113⟩ := stB X110 hx hZ e110 Ar113 (j := (1 : Int32)) hin113 (g := (mkF m 31 #[.val (.ref ar), .val (.int 1), .val (.ref a2), .val (.int 1), .val (.int 3), .val (.int 1), .val (.int c1)] [(.int (c1.toInt8.toInt32)), (.int 1), (.ref a2)])) rfl rfl (hb hby d10_31)
 refine own_go st113 ?_
 have V113 : Arv Z h113 a2 k2 .byte (3 : Int32) [(.int (c0.toInt8.toInt32)), (.int (c1.toInt8.toInt32)), (.int 0)] (.int 0) := by have q := Arv.set Ar113 cq113 cS113 cN113 cH113 cG113 (fits_nar_byte _) W113 1 rfl (Nat.le_of_ble_eq_true rfl); rw [own_narB] at q; exact q
 have K113 : Keep h0 h113 [a2] := Keep.wr K110 W113 (Or.inl (List.mem_of_getElem? (i := 0) rfl))
 have N113 := Fr.snoc X113 N110 g_a2
 refine own_go (B := T113.setTop (mkF m 12 #[.val (.ref ar), .val (.int 2), .val (.ref a2), .val (.int 2), .val (.int 3), .val (.int 2), .val (.int c1)] [(.int 2), (.ref ar)])) (fun t k => ?_) ?_
 ·refine XS.iinc X113.here hx rfl (hb hby d10_32) rfl (l' := #[.val (.ref ar), .val (.int 2), .val (.ref a2), .val (.int 1), .val (.int 3), .val (.int 1), .val (.int c1)]) rfl ?_
  show Steps p.tables e below (T113.setTop (mkF m 35 #[.val (.ref ar), .val (.int 2), .val (.ref a2), .val (.int 1), .val (.int 3), .val (.int 1), .val (.int c1)] [])) _
  refine XS.iinc X113.here hx rfl (hb hby d10_35) rfl (l' := #[.val (.ref ar), .val (.int 2), .val (.ref a2), .val (.int 2), .val (.int 3), .val (.int 1), .val (.int c1)]) rfl ?_
  show Steps p.tables e below (T113.setTop (mkF m 38 #[.val (.ref ar), .val (.int 2), .val (.ref a2), .val (.int 2), .val (.int 3), .val (.int 1), .val (.int c1)] [])) _
  refine XS.iinc X113.here hx rfl (hb hby d10_38) rfl (l' := #[.val (.ref ar), .val (.int 2), .val (.ref a2), .val (.int 2), .val (.int 3), .val (.int 2), .val (.int c1)]) rfl ?_
  show Steps p.tables e below (T113.setTop (mkF m 41 #[.val (.ref ar), .val (.int 2), .val (.ref a2), .val (.int 2), .val (.int 3), .val (.int 2), .val (.int c1)] [])) _
  refine XS.goto X113.here hx rfl (pc0 := 41) (pc' := 3) rfl (hb hby d10_41) (by decide) (by decide) ?_
  show Steps p.tables e below (T113.setTop (mkF m 3 #[.val (.ref ar), .val (.int 2), .val (.ref a2), .val (.int 2), .val (.int 3), .val (.int 2), .val (.int c1)] [])) _
  refine XS.iload X113.here hx rfl (hb hby d10_3) rfl ?_
  show Steps p.tables e below (T113.setTop (mkF m 5 #[.val (.ref ar), .val (.int 2), .val (.ref a2), .val (.int 2), .val (.int 3), .val (.int 2), .val (.int c1)] [(.int 2)])) _
  refine XS.iload X113.here hx rfl (hb hby d10_5) rfl ?_
  show Steps p.tables e below (T113.setTop (mkF m 7 #[.val (.ref ar), .val (.int 2), .val (.ref a2), .val (.int 2), .val (.int 3), .val (.int 2), .val (.int c1)] [(.int 3), (.int 2)])) _
  refine XS.icmpNo X113.here hx rfl (hb hby d10_7) rfl (tlt (by decide : (2 : Int32) < (3 : Int32))).2.1 ?_
  show Steps p.tables e below (T113.setTop (mkF m 10 #[.val (.ref ar), .val (.int 2), .val (.ref a2), .val (.int 2), .val (.int 3), .val (.int 2), .val (.int c1)] [])) _
  refine XS.aloadN X113.here hx rfl (hb hby d10_10) rfl rfl ?_
  show Steps p.tables e below (T113.setTop (mkF m 11 #[.val (.ref ar), .val (.int 2), .val (.ref a2), .val (.int 2), .val (.int 3), .val (.int 2), .val (.int c1)] [(.ref ar)])) _
  refine XS.iloadN X113.here hx rfl (hb hby d10_11) rfl ?_
  show Steps p.tables e below (T113.setTop (mkF m 12 #[.val (.ref ar), .val (.int 2), .val (.ref a2), .val (.int 2), .val (.int 3), .val (.int 2), .val (.int c1)] [(.int 2), (.ref ar)])) _
  exact k
 have f114 : Arv Z h113 ar kar .char (3 : Int32) [(.int c0), (.int c1), (.int c2)] (.int 0) := (f111.other W113 ne_)
 obtain ⟨cl115, Ar115, cq115, cS115, cN115, cH115, cG115⟩ := id f114
 have hin115 := inb_of (j := (2 : Int32)) cS115 ⟨by decide, by decide⟩
 have hat115 : cl115.slots[((2 : Int32)).toNatClampNeg]? = some (.int c2) := Has.at cH115 hin115 rfl
 refine own_go (B := T113.setTop (mkF m 31 #[.val (.ref ar), .val (.int 2), .val (.ref a2), .val (.int 2), .val (.int 3), .val (.int 2), .val (.int c2)] [(.int (c2.toInt8.toInt32)), (.int 2), (.ref a2)])) (fun t k => ?_) ?_
 ·refine X113.caload hx (j := (2 : Int32)) (v := (.int c2)) (by rw [e113]; exact Ar115.1) (State.isArrayOf_alike hZ.alike Ar115.2.1) Ar115.2.2 hin115 hat115 (g := (mkF m 12 #[.val (.ref ar), .val (.int 2), .val (.ref a2), .val (.int 2), .val (.int 3), .val (.int 2), .val (.int c1)] [(.int 2), (.ref ar)])) rfl rfl (hb hby d10_12) _ ?_
  show Steps p.tables e below (T113.setTop (mkF m 13 #[.val (.ref ar), .val (.int 2), .val (.ref a2), .val (.int 2), .val (.int 3), .val (.int 2), .val (.int c1)] [(.int c2)])) _
  refine XS.istore X113.here hx rfl (hb hby d10_13) rfl (l' := #[.val (.ref ar), .val (.int 2), .val (.ref a2), .val (.int 2), .val (.int 3), .val (.int 2), .val (.int c2)]) rfl ?_
  show Steps p.tables e below (T113.setTop (mkF m 15 #[.val (.ref ar), .val (.int 2), .val (.ref a2), .val (.int 2), .val (.int 3), .val (.int 2), .val (.int c2)] [])) _
  refine XS.iload X113.here hx rfl (hb hby d10_15) rfl ?_
  show Steps p.tables e below (T113.setTop (mkF m 17 #[.val (.ref ar), .val (.int 2), .val (.ref a2), .val (.int 2), .val (.int 3), .val (.int 2), .val (.int c2)] [(.int c2)])) _
  refine XS.sipush X113.here hx rfl (hb hby d10_17) ?_
  show Steps p.tables e below (T113.setTop (mkF m 20 #[.val (.ref ar), .val (.int 2), .val (.ref a2), .val (.int 2), .val (.int 3), .val (.int 2), .val (.int c2)] [(.int 255), (.int c2)])) _
  refine XS.icmpYes X113.here hx rfl (pc0 := 20) (pc' := 26) rfl (hb hby d10_20) rfl (flt (show ¬ ((255 : Int32) < c2) from (own_le c2 hc2))).2.2.2 (by decide) (by decide) ?_
  show Steps p.tables e below (T113.setTop (mkF m 26 #[.val (.ref ar), .val (.int 2), .val (.ref a2), .val (.int 2), .val (.int 3), .val (.int 2), .val (.int c2)] [])) _
  refine XS.aloadN X113.here hx rfl (hb hby d10_26) rfl rfl ?_
  show Steps p.tables e below (T113.setTop (mkF m 27 #[.val (.ref ar), .val (.int 2), .val (.ref a2), .val (.int 2), .val (.int 3), .val (.int 2), .val (.int c2)] [(.ref a2)])) _
  refine XS.iloadN X113.here hx rfl (hb hby d10_27) rfl ?_
  show Steps p.tables e below (T113.setTop (mkF m 28 #[.val (.ref ar), .val (.int 2), .val (.ref a2), .val (.int 2), .val (.int 3), .val (.int 2), .val (.int c2)] [(.int 2), (.ref a2)])) _
  refine XS.iload X113.here hx rfl (hb hby d10_28) rfl ?_
  show Steps p.tables e below (T113.setTop (mkF m 30 #[.val (.ref ar), .val (.int 2), .val (.ref a2), .val (.int 2), .val (.int 3), .val (.int 2), .val (.int c2)] [(.int c2), (.int 2), (.ref a2)])) _
  refine XS.i2b X113.here hx rfl (hb hby d10_30) rfl ?_
  show Steps p.tables e below (T113.setTop (mkF m 31 #[.val (.ref ar), .val (.int 2), .val (.ref a2), .val (.int 2), .val (.int 3), .val (.int 2), .val (.int c2)] [(.int (c2.toInt8.toInt32)), (.int 2), (.ref a2)])) _
  exact k
 obtain ⟨cl116, Ar116, cq116, cS116, cN116, cH116, cG116⟩ := id V113
 have hin116 := inb_of (j := (2 : Int32)) cS116 ⟨by decide, by decide⟩
 obtain ⟨T116, h116, X116, e116, W116, st116⟩ := stB X113 hx hZ e113 Ar116 (j := (2 : Int32)) hin116 (g := (mkF m 31 #[.val (.ref ar), .val (.int 2), .val (.ref a2), .val (.int 2), .val (.int 3), .val (.int 2), .val (.int c2)] [(.int (c2.toInt8.toInt32)), (.int 2), (.ref a2)])) rfl rfl (hb hby d10_31)
 refine own_go st116 ?_
 have V116 : Arv Z h116 a2 k2 .byte (3 : Int32) [(.int (c0.toInt8.toInt32)), (.int (c1.toInt8.toInt32)), (.int (c2.toInt8.toInt32))] (.int 0) := by have q := Arv.set Ar116 cq116 cS116 cN116 cH116 cG116 (fits_nar_byte _) W116 2 rfl (Nat.le_of_ble_eq_true rfl); rw [own_narB] at q; exact q
 have K116 : Keep h0 h116 [a2] := Keep.wr K113 W116 (Or.inl (List.mem_of_getElem? (i := 0) rfl))
 have N116 := Fr.snoc X116 N113 g_a2
 refine own_go (B := T116.setTop (mkF m 46 #[.val (.ref ar), .val (.int 3), .val (.ref a2), .val (.int 3), .val (.int 3), .val (.int 3), .val (.int c2)] [(.int 3)])) (fun t k => ?_) ?_
 ·refine XS.iinc X116.here hx rfl (hb hby d10_32) rfl (l' := #[.val (.ref ar), .val (.int 3), .val (.ref a2), .val (.int 2), .val (.int 3), .val (.int 2), .val (.int c2)]) rfl ?_
  show Steps p.tables e below (T116.setTop (mkF m 35 #[.val (.ref ar), .val (.int 3), .val (.ref a2), .val (.int 2), .val (.int 3), .val (.int 2), .val (.int c2)] [])) _
  refine XS.iinc X116.here hx rfl (hb hby d10_35) rfl (l' := #[.val (.ref ar), .val (.int 3), .val (.ref a2), .val (.int 3), .val (.int 3), .val (.int 2), .val (.int c2)]) rfl ?_
  show Steps p.tables e below (T116.setTop (mkF m 38 #[.val (.ref ar), .val (.int 3), .val (.ref a2), .val (.int 3), .val (.int 3), .val (.int 2), .val (.int c2)] [])) _
  refine XS.iinc X116.here hx rfl (hb hby d10_38) rfl (l' := #[.val (.ref ar), .val (.int 3), .val (.ref a2), .val (.int 3), .val (.int 3), .val (.int 3), .val (.int c2)]) rfl ?_
  show Steps p.tables e below (T116.setTop (mkF m 41 #[.val (.ref ar), .val (.int 3), .val (.ref a2), .val (.int 3), .val (.int 3), .val (.int 3), .val (.int c2)] [])) _
  refine XS.goto X116.here hx rfl (pc0 := 41) (pc' := 3) rfl (hb hby d10_41) (by decide) (by decide) ?_
  show Steps p.tables e below (T116.setTop (mkF m 3 #[.val (.ref ar), .val (.int 3), .val (.ref a2), .val (.int 3), .val (.int 3), .val (.int 3), .val (.int c2)] [])) _
  refine XS.iload X116.here hx rfl (hb hby d10_3) rfl ?_
  show Steps p.tables e below (T116.setTop (mkF m 5 #[.val (.ref ar), .val (.int 3), .val (.ref a2), .val (.int 3), .val (.int 3), .val (.int 3), .val (.int c2)] [(.int 3)])) _
  refine XS.iload X116.here hx rfl (hb hby d10_5) rfl ?_
  show Steps p.tables e below (T116.setTop (mkF m 7 #[.val (.ref ar), .val (.int 3), .val (.ref a2), .val (.int 3), .val (.int 3), .val (.int 3), .val (.int c2)] [(.int 3), (.int 3)])) _
  refine XS.icmpYes X116.here hx rfl (pc0 := 7) (pc' := 44) rfl (hb hby d10_7) rfl (flt (by decide : ¬ ((3 : Int32) < (3 : Int32)))).2.1 (by decide) (by decide) ?_
  show Steps p.tables e below (T116.setTop (mkF m 44 #[.val (.ref ar), .val (.int 3), .val (.ref a2), .val (.int 3), .val (.int 3), .val (.int 3), .val (.int c2)] [])) _
  refine XS.iload X116.here hx rfl (hb hby d10_44) rfl ?_
  show Steps p.tables e below (T116.setTop (mkF m 46 #[.val (.ref ar), .val (.int 3), .val (.ref a2), .val (.int 3), .val (.int 3), .val (.int 3), .val (.int c2)] [(.int 3)])) _
  exact k
 obtain ⟨fs, hr, hrun, hended, hW, hsame⟩ := X116.leave (v := some (.int 3)) (fun h => by rw [Bd.returns] at h; cases h)
 refine ⟨_, _, ?_, hrun, hended, _, _, rfl, ?_, ⟨_, rfl⟩, hW, hsame.mono (by decide) (by decide)⟩
 ·exact retI X116 hx Bd.returns (hb hby d10_46) hr
 ·show Q10_3 Z ar a2 kar k2 c0 c1 c2 h0 n0 _ T116.heap _
  rw [e116]
  exact ⟨rfl, N116, K116, V116⟩
theorem ef_9_3 (m : MethodId) (ar : Addr) : entryFrame m #[(.ref ar), (.int 0), (.int 3)] 6 = mkF m 0 #[.val (.ref ar), .val (.int 0), .val (.int 3), .unset, .unset, .unset] [] := by first | (simp [entryFrame, mkF, argsToLocals, Value.category]; done) | rfl
def Q9_3 (Z : State) (ar : Addr) (kar : ClassId) (c0 : Int32) (c1 : Int32) (c2 : Int32) (h0 : Heap) (n0 : Nat) (v : Option Value) (h : Heap) (L : List Loc) : Prop := ∃ (bn : Addr) (kn : ClassId), v = some (.ref bn) ∧ Fr n0 L ∧ Keep h0 h [] ∧ h0.size ≤ bn ∧ Arv Z h bn kn .byte (3 : Int32) [(.int (c0.toInt8.toInt32)), (.int (c1.toInt8.toInt32)), (.int (c2.toInt8.toInt32))] (.int 0)
set_option maxRecDepth 65536 in
set_option maxHeartbeats 40000000 in
theorem rm9_3 (l : Launch) (Z : State) (a0 : Array Value) (hw : ∀ d ∈ tables_1, d.before a0 Z = true) (ws : List Jvm.Cond) (ar : Addr) (kar : ClassId) (c0 : Int32) (c1 : Int32) (c2 : Int32) (h0 : Heap) (n0 : Nat) (Z0 : n0 ≤ h0.size) (V_ar : Arv Z h0 ar kar .char (3 : Int32) [(.int c0), (.int c1), (.int c2)] (.int 0)) (hc0 : 0 ≤ c0.toInt ∧ c0.toInt ≤ 255) (hc1 : 0 ≤ c1.toInt ∧ c1.toInt ≤ 255) (hc2 : 0 ≤ c2.toInt ∧ c2.toInt ≤ 255) :
  MetFree l (⟨"java/lang/StringUTF16", "compress", "([CII)[B"⟩ : MethodName) (head1 (Jvm.Cond.code (⟨"java/lang/StringUTF16", "compress", "([CII)[B"⟩ : MethodName) jdk_52_method_16_code 6 (some (.array .byte)) :: ws) ({ frames := 1, cells := 1, slots := 3, locals := 18 } : Room)) (fun a U => a = #[(.ref ar), (.int 0), (.int 3)] ∧ Z.Warmed39 U.vm ∧ U.heap = h0) (fun _ _ _ _ _ => True) (fun _ U o U' => ∃ v L, o = .returned v ∧ Q9_3 Z ar kar c0 c1 c2 h0 n0 v U'.heap L ∧ FrameEnd U o U' L ({ frames := 1, cells := 1, slots := 3, locals := 18 } : Room).cells ({ frames := 1, cells := 1, slots := 3, locals := 18 } : Room).slots) := by
 refine MetFree.of_bodySF (plainFor_of_name pn_74) hisR ?_
 intro p e s m args below meth c s₁ Bd hml0 hP hK
 obtain ⟨rfl, hZ, hh⟩ := hP
 have hx := Bd.exec
 have hby := Bd.bytes
 have hml : c.maxLocals = 6 := hml0
 have hown : s.vm.findClass "java/lang/StringUTF16" = some m.cls := findClass_of_methodNamed Bd.named
 have hnm := (name_of_methodNamed Bd.named Bd.method).1
 have X0 : Stand p l e ({ frames := 1, cells := 1, slots := 3, locals := 18 } : Room) s m #[(.ref ar), (.int 0), (.int 3)] below meth c s₁ [] 0 0 := Stand.of_body Bd
 have e0 : s₁.heap = h0 := by rw [← hh, Bd.state]; rfl
 have N0 := Fr.nil n0
 refine own_go (B := s₁.setTop (mkF m 0 #[.val (.ref ar), .val (.int 0), .val (.int 3), .unset, .unset, .unset] [])) (fun t k => castTop (ef_9_3 m ar) k) ?_
 refine own_go (B := s₁.setTop (mkF m 1 #[.val (.ref ar), .val (.int 0), .val (.int 3), .unset, .unset, .unset] [(.int 3)])) (fun t k => ?_) ?_
 ·refine XS.iloadN X0.here hx rfl (hb hby d9_0) rfl ?_
  show Steps p.tables e below (s₁.setTop (mkF m 1 #[.val (.ref ar), .val (.int 0), .val (.int 3), .unset, .unset, .unset] [(.int 3)])) _
  exact k
 obtain ⟨T118, h118, k118, X118, e118, E118, A118, st118⟩ := newP X0 hx hZ (hw _ (List.mem_of_getElem? (i := 22) rfl)) e0 (g := (mkF m 1 #[.val (.ref ar), .val (.int 0), .val (.int 3), .unset, .unset, .unset] [(.int 3)])) rfl (hb hby d9_1) rfl (by decide) (cap := 3) (by decide) (by decide) (by decide) (by decide)
 obtain ⟨b118, g118⟩ : ∃ z, z = h0.size := ⟨_, rfl⟩
 rw [← g118] at A118 st118
 refine own_go st118 ?_
 have K118 : Keep h0 h118 [] := Keep.ext (Keep.refl h0 []) E118
 have V118 : Arv Z h118 b118 k118 .byte (3 : Int32) [(.int 0), (.int 0), (.int 0)] (.int 0) := (Arv.new A118 (by decide)).pad (pad_rep [] (.int 0) 3)
 refine own_go (B := T118.setTop (mkF m 9 #[.val (.ref ar), .val (.int 0), .val (.int 3), .val (.ref b118), .unset, .unset] [(.int 3), (.int 0), (.ref b118), (.int 0), (.ref ar)])) (fun t k => ?_) ?_
 ·refine XS.astoreN X118.here hx rfl (hb hby d9_3) rfl rfl (l' := #[.val (.ref ar), .val (.int 0), .val (.int 3), .val (.ref b118), .unset, .unset]) rfl ?_
  show Steps p.tables e below (T118.setTop (mkF m 4 #[.val (.ref ar), .val (.int 0), .val (.int 3), .val (.ref b118), .unset, .unset] [])) _
  refine XS.aloadN X118.here hx rfl (hb hby d9_4) rfl rfl ?_
  show Steps p.tables e below (T118.setTop (mkF m 5 #[.val (.ref ar), .val (.int 0), .val (.int 3), .val (.ref b118), .unset, .unset] [(.ref ar)])) _
  refine XS.iloadN X118.here hx rfl (hb hby d9_5) rfl ?_
  show Steps p.tables e below (T118.setTop (mkF m 6 #[.val (.ref ar), .val (.int 0), .val (.int 3), .val (.ref b118), .unset, .unset] [(.int 0), (.ref ar)])) _
  refine XS.aloadN X118.here hx rfl (hb hby d9_6) rfl rfl ?_
  show Steps p.tables e below (T118.setTop (mkF m 7 #[.val (.ref ar), .val (.int 0), .val (.int 3), .val (.ref b118), .unset, .unset] [(.ref b118), (.int 0), (.ref ar)])) _
  refine XS.iconst X118.here hx rfl (hb hby d9_7) ?_
  show Steps p.tables e below (T118.setTop (mkF m 8 #[.val (.ref ar), .val (.int 0), .val (.int 3), .val (.ref b118), .unset, .unset] [(.int 0), (.ref b118), (.int 0), (.ref ar)])) _
  refine XS.iloadN X118.here hx rfl (hb hby d9_8) rfl ?_
  show Steps p.tables e below (T118.setTop (mkF m 9 #[.val (.ref ar), .val (.int 0), .val (.int 3), .val (.ref b118), .unset, .unset] [(.int 3), (.int 0), (.ref b118), (.int 0), (.ref ar)])) _
  exact k
 have f120 : Arv Z h118 ar kar .char (3 : Int32) [(.int c0), (.int c1), (.int c2)] (.int 0) := (V_ar.ext E118)
 have ne121 : ar ≠ b118 := (Nat.ne_of_lt (Nat.lt_of_lt_of_le V_ar.lt (Nat.le_of_eq g118.symm)))
 obtain ⟨_, _, ⟨T119, L119, k119, n119⟩, -, X119, ⟨Lc119, hQ119, l119, y119, z119⟩, st119⟩ := Jvm.LawKit.callS X118 hx (y := (⟨"java/lang/StringUTF16", "compress", "([CI[BII)I"⟩ : MethodName)) hown (mvT hZ (hw _ (List.mem_of_getElem? (i := 57) rfl))) (mvT hZ (hw _ (List.mem_of_getElem? (i := 58) rfl))) (mvT hZ (hw _ (List.mem_of_getElem? (i := 55) rfl))) (mvT hZ (hw _ (List.mem_of_getElem? (i := 59) rfl))) (by decide) (backOf (W := 0) (rm10_3 l Z a0 hw [] ar b118 kar k118 c0 c1 c2 h118 n0 (Nat.le_trans Z0 E118.1) f120 V118 (Nat.le_trans Z0 (Nat.le_of_eq g118.symm)) ne121 (by first | assumption | decide) (by first | assumption | decide) (by first | assumption | decide)) hZ (hw _ (List.mem_of_getElem? (i := 59) rfl)) (hw _ (List.mem_of_getElem? (i := 55) rfl)) (by decide) (by decide)) (g := (mkF m 9 #[.val (.ref ar), .val (.int 0), .val (.int 3), .val (.ref b118), .unset, .unset] [(.int 3), (.int 0), (.ref b118), (.int 0), (.ref ar)])) rfl (by rw [hml]; rfl) (argsL := [(.ref ar), (.int 0), (.ref b118), (.int 0), (.int 3)]) (rest := []) (lenOf pd_0 rfl) rfl (by show 2 * 0 + _ ≤ _; exact Nat.le_of_eq rfl) (hb hby d9_9) (fun _ _ => ⟨rfl, e118, (by decide : 1 + 0 ≤ _), (by decide : 3 + 0 ≤ _)⟩)
 dsimp only [Pt.U, Pt.locs, Pt.cells, Pt.slots] at X119 l119 y119 z119 st119 hQ119
 subst l119 y119 z119
 obtain ⟨rfl, M119, q119_0, q119_1⟩ := hQ119
 have N119 := Fr.app N0 M119
 have K119 : Keep h0 T119.heap [] := Keep.trans K118 q119_0 (allS (Or.inr (Nat.le_of_eq g118.symm)) all0)
 refine own_go st119 ?_
 refine own_go (B := T119.setTop (mkF m 58 #[.val (.ref ar), .val (.int 0), .val (.int 3), .val (.ref b118), .val (.int 3), .unset] [(.ref b118)])) (fun t k => ?_) ?_
 ·refine XS.istore X119.here hx rfl (hb hby d9_12) rfl (l' := #[.val (.ref ar), .val (.int 0), .val (.int 3), .val (.ref b118), .val (.int 3), .unset]) rfl ?_
  show Steps p.tables e below (T119.setTop (mkF m 14 #[.val (.ref ar), .val (.int 0), .val (.int 3), .val (.ref b118), .val (.int 3), .unset] [])) _
  refine XS.iload X119.here hx rfl (hb hby d9_14) rfl ?_
  show Steps p.tables e below (T119.setTop (mkF m 16 #[.val (.ref ar), .val (.int 0), .val (.int 3), .val (.ref b118), .val (.int 3), .unset] [(.int 3)])) _
  refine XS.iloadN X119.here hx rfl (hb hby d9_16) rfl ?_
  show Steps p.tables e below (T119.setTop (mkF m 17 #[.val (.ref ar), .val (.int 0), .val (.int 3), .val (.ref b118), .val (.int 3), .unset] [(.int 3), (.int 3)])) _
  refine XS.icmpYes X119.here hx rfl (pc0 := 17) (pc' := 57) rfl (hb hby d9_17) rfl (teq (by decide : (3 : Int32) = (3 : Int32))).1 (by decide) (by decide) ?_
  show Steps p.tables e below (T119.setTop (mkF m 57 #[.val (.ref ar), .val (.int 0), .val (.int 3), .val (.ref b118), .val (.int 3), .unset] [])) _
  refine XS.aloadN X119.here hx rfl (hb hby d9_57) rfl rfl ?_
  show Steps p.tables e below (T119.setTop (mkF m 58 #[.val (.ref ar), .val (.int 0), .val (.int 3), .val (.ref b118), .val (.int 3), .unset] [(.ref b118)])) _
  exact k
 obtain ⟨fs, hr, hrun, hended, hW, hsame⟩ := X119.leave (v := some (.ref b118)) (fun h => by rw [Bd.returns] at h; cases h)
 refine ⟨_, _, ?_, hrun, hended, _, _, rfl, ?_, ⟨_, rfl⟩, hW, hsame.mono (by decide) (by decide)⟩
 ·exact own_retR X119 hx Bd.returns rfl rfl (hb hby d9_58) hr
 ·show Q9_3 Z ar kar c0 c1 c2 h0 n0 _ T119.heap _
  exact ⟨b118, k118, rfl, N119, K119, (Nat.le_of_eq g118.symm), q119_1⟩
theorem ef_11_3 (m : MethodId) (a1 : Addr) : entryFrame m #[(.ref a1), (.int 3)] 2 = mkF m 0 #[.val (.ref a1), .val (.int 3)] [] := by first | (simp [entryFrame, mkF, argsToLocals, Value.category]; done) | rfl
def Q11_3 (Z : State) (a1 : Addr) (k1 : ClassId) (vs : List Value) (h0 : Heap) (n0 : Nat) (v : Option Value) (h : Heap) (L : List Loc) : Prop := v = some (.int 0) ∧ Fr n0 L ∧ h = h0
set_option maxRecDepth 65536 in
set_option maxHeartbeats 40000000 in
theorem rm11_3 (l : Launch) (Z : State) (a0 : Array Value) (hw : ∀ d ∈ tables_1, d.before a0 Z = true) (ws : List Jvm.Cond) (a1 : Addr) (k1 : ClassId) (vs : List Value) (h0 : Heap) (n0 : Nat) (Z0 : n0 ≤ h0.size) (V_1 : Arv Z h0 a1 k1 .byte (3 : Int32) vs (.int 0)) :
  MetFree l (⟨"java/lang/StringUTF16", "coderFromArrayLen", "([BI)B"⟩ : MethodName) (head1 (Jvm.Cond.code (⟨"java/lang/StringUTF16", "coderFromArrayLen", "([BI)B"⟩ : MethodName) jdk_52_method_15_code 2 (some .byte) :: ws) ({ frames := 0, cells := 0, slots := 0, locals := 0 } : Room)) (fun a U => a = #[(.ref a1), (.int 3)] ∧ Z.Warmed39 U.vm ∧ U.heap = h0) (fun _ _ _ _ _ => True) (fun _ U o U' => ∃ v L, o = .returned v ∧ Q11_3 Z a1 k1 vs h0 n0 v U'.heap L ∧ FrameEnd U o U' L ({ frames := 0, cells := 0, slots := 0, locals := 0 } : Room).cells ({ frames := 0, cells := 0, slots := 0, locals := 0 } : Room).slots) := by
 refine MetFree.of_bodySF (plainFor_of_name pn_74) hisR ?_
 intro p e s m args below meth c s₁ Bd hml0 hP hK
 obtain ⟨rfl, hZ, hh⟩ := hP
 have hx := Bd.exec
 have hby := Bd.bytes
 have hml : c.maxLocals = 2 := hml0
 have hown : s.vm.findClass "java/lang/StringUTF16" = some m.cls := findClass_of_methodNamed Bd.named
 have hnm := (name_of_methodNamed Bd.named Bd.method).1
 have X0 : Stand p l e ({ frames := 0, cells := 0, slots := 0, locals := 0 } : Room) s m #[(.ref a1), (.int 3)] below meth c s₁ [] 0 0 := Stand.of_body Bd
 have e0 : s₁.heap = h0 := by rw [← hh, Bd.state]; rfl
 have N0 := Fr.nil n0
 refine own_go (B := s₁.setTop (mkF m 0 #[.val (.ref a1), .val (.int 3)] [])) (fun t k => castTop (ef_11_3 m a1) k) ?_
 refine own_go (B := s₁.setTop (mkF m 2 #[.val (.ref a1), .val (.int 3)] [(.ref a1), (.int 3)])) (fun t k => ?_) ?_
 ·refine XS.iloadN X0.here hx rfl (hb hby d11_0) rfl ?_
  show Steps p.tables e below (s₁.setTop (mkF m 1 #[.val (.ref a1), .val (.int 3)] [(.int 3)])) _
  refine XS.aloadN X0.here hx rfl (hb hby d11_1) rfl rfl ?_
  show Steps p.tables e below (s₁.setTop (mkF m 2 #[.val (.ref a1), .val (.int 3)] [(.ref a1), (.int 3)])) _
  exact k
 obtain ⟨cl123, Ar123, cq123, cS123, cN123, cH123, cG123⟩ := id V_1
 refine own_go (B := s₁.setTop (mkF m 8 #[.val (.ref a1), .val (.int 3)] [(.int 0)])) (fun t k => ?_) ?_
 ·refine X0.arraylength hx (by rw [e0]; exact Ar123.1) (State.isArrayOf_alike hZ.alike Ar123.2.1) (g := (mkF m 2 #[.val (.ref a1), .val (.int 3)] [(.ref a1), (.int 3)])) rfl rfl (hb hby d11_2) _ ?_
  rw [len_of cS123 cN123]
  show Steps p.tables e below (s₁.setTop (mkF m 3 #[.val (.ref a1), .val (.int 3)] [(.int 3), (.int 3)])) _
  refine XS.isub X0.here hx rfl (hb hby d11_3) rfl ?_
  show Steps p.tables e below (s₁.setTop (mkF m 4 #[.val (.ref a1), .val (.int 3)] [(.int 0)])) _
  refine XS.bipush X0.here hx rfl (hb hby d11_4) ?_
  show Steps p.tables e below (s₁.setTop (mkF m 6 #[.val (.ref a1), .val (.int 3)] [(.int 31), (.int 0)])) _
  refine XS.iushr X0.here hx rfl (hb hby d11_6) rfl ?_
  show Steps p.tables e below (s₁.setTop (mkF m 7 #[.val (.ref a1), .val (.int 3)] [(.int 0)])) _
  refine XS.i2b X0.here hx rfl (hb hby d11_7) rfl ?_
  show Steps p.tables e below (s₁.setTop (mkF m 8 #[.val (.ref a1), .val (.int 3)] [(.int 0)])) _
  exact k
 obtain ⟨fs, hr, hrun, hended, hW, hsame⟩ := X0.leave (v := some (.int 0)) (fun h => by rw [Bd.returns] at h; cases h)
 refine ⟨_, _, ?_, hrun, hended, _, _, rfl, ?_, ⟨_, rfl⟩, hW, hsame.mono (by decide) (by decide)⟩
 ·exact retN X0 hx (t := .byte) Bd.returns (by simp) (hb hby d11_8) hr
 ·show Q11_3 Z a1 k1 vs h0 n0 _ s₁.heap _
  rw [e0]
  exact ⟨rfl, N0, rfl⟩
theorem ef_4_3 (m : MethodId) (a1 : Addr) (ar : Addr) : entryFrame m #[(.ref a1), (.ref ar), (.int 0), (.int 3), .null] 6 = mkF m 0 #[.val (.ref a1), .val (.ref ar), .val (.int 0), .val (.int 3), .val .null, .unset] [] := by first | (simp [entryFrame, mkF, argsToLocals, Value.category]; done) | rfl
def Q4_3 (Z : State) (a1 : Addr) (ar : Addr) (w_COMPACT_STRINGS : Int32) (kar : ClassId) (c0 : Int32) (c1 : Int32) (c2 : Int32) (h0 : Heap) (n0 : Nat) (v : Option Value) (h : Heap) (L : List Loc) : Prop := ∃ (bn : Addr) (kn : ClassId), v = none ∧ Fr n0 L ∧ Keep h0 h [a1] ∧ h0.size ≤ bn ∧ Exa Z h a1 "java/lang/String" ∧ Fld Z h a1 "java/lang/String" "coder" "B" (.int 0) ∧ Fld Z h a1 "java/lang/String" "value" "[B" (.ref bn) ∧ Arv Z h bn kn .byte (3 : Int32) [(.int (c0.toInt8.toInt32)), (.int (c1.toInt8.toInt32)), (.int (c2.toInt8.toInt32))] (.int 0)
set_option maxRecDepth 65536 in
set_option maxHeartbeats 40000000 in
theorem rm4_3 (l : Launch) (Z : State) (a0 : Array Value) (hw : ∀ d ∈ tables_1, d.before a0 Z = true) (ws : List Jvm.Cond) (a1 : Addr) (ar : Addr) (w_COMPACT_STRINGS : Int32) (kar : ClassId) (c0 : Int32) (c1 : Int32) (c2 : Int32) (h0 : Heap) (n0 : Nat) (Z0 : n0 ≤ h0.size) (E_a1 : Exa Z h0 a1 "java/lang/String") (F_value_a1 : Fld Z h0 a1 "java/lang/String" "value" "[B" .null) (F_coder_a1 : Fld Z h0 a1 "java/lang/String" "coder" "B" (.int 0)) (g_a1 : n0 ≤ a1) (S_COMPACT_STRINGS : Sta Z h0 "java/lang/String" "COMPACT_STRINGS" "Z" (.int w_COMPACT_STRINGS)) (N_COMPACT_STRINGS : ¬ w_COMPACT_STRINGS = (0 : Int32)) (V_ar : Arv Z h0 ar kar .char (3 : Int32) [(.int c0), (.int c1), (.int c2)] (.int 0)) (hc0 : 0 ≤ c0.toInt ∧ c0.toInt ≤ 255) (hc1 : 0 ≤ c1.toInt ∧ c1.toInt ≤ 255) (hc2 : 0 ≤ c2.toInt ∧ c2.toInt ≤ 255) :
  MetFree l (⟨"java/lang/String", "<init>", "([CIILjava/lang/Void;)V"⟩ : MethodName) (head1 (Jvm.Cond.code (⟨"java/lang/String", "<init>", "([CIILjava/lang/Void;)V"⟩ : MethodName) jdk_42_method_149_code 6 none :: ws) ({ frames := 2, cells := 1, slots := 3, locals := 35 } : Room)) (fun a U => a = #[(.ref a1), (.ref ar), (.int 0), (.int 3), .null] ∧ Z.Warmed39 U.vm ∧ U.heap = h0) (fun _ _ _ _ _ => True) (fun _ U o U' => ∃ v L, o = .returned v ∧ Q4_3 Z a1 ar w_COMPACT_STRINGS kar c0 c1 c2 h0 n0 v U'.heap L ∧ FrameEnd U o U' L ({ frames := 2, cells := 1, slots := 3, locals := 35 } : Room).cells ({ frames := 2, cells := 1, slots := 3, locals := 35 } : Room).slots) := by
 refine MetFree.of_bodySF (plainFor_of_name pn_118) hisR ?_
 intro p e s m args below meth c s₁ Bd hml0 hP hK
 obtain ⟨rfl, hZ, hh⟩ := hP
 have hx := Bd.exec
 have hby := Bd.bytes
 have hml : c.maxLocals = 6 := hml0
 have hown : s.vm.findClass "java/lang/String" = some m.cls := findClass_of_methodNamed Bd.named
 have hnm := (name_of_methodNamed Bd.named Bd.method).1
 have X0 : Stand p l e ({ frames := 2, cells := 1, slots := 3, locals := 35 } : Room) s m #[(.ref a1), (.ref ar), (.int 0), (.int 3), .null] below meth c s₁ [] 0 0 := Stand.of_body Bd
 have e0 : s₁.heap = h0 := by rw [← hh, Bd.state]; rfl
 have N0 := Fr.nil n0
 refine own_go (B := s₁.setTop (mkF m 0 #[.val (.ref a1), .val (.ref ar), .val (.int 0), .val (.int 3), .val .null, .unset] [])) (fun t k => castTop (ef_4_3 m a1 ar) k) ?_
 refine own_go (B := s₁.setTop (mkF m 1 #[.val (.ref a1), .val (.ref ar), .val (.int 0), .val (.int 3), .val .null, .unset] [(.ref a1)])) (fun t k => ?_) ?_
 ·refine XS.aloadN X0.here hx rfl (hb hby d4_0) rfl rfl ?_
  show Steps p.tables e below (s₁.setTop (mkF m 1 #[.val (.ref a1), .val (.ref ar), .val (.int 0), .val (.int 3), .val .null, .unset] [(.ref a1)])) _
  exact k
 obtain ⟨T125, X125, e125, st125⟩ := initO X0 hx hZ hown (hw _ (List.mem_of_getElem? (i := 18) rfl)) (hw _ (List.mem_of_getElem? (i := 19) rfl)) (hw _ (List.mem_of_getElem? (i := 20) rfl)) e0 (g := (mkF m 1 #[.val (.ref a1), .val (.ref ar), .val (.int 0), .val (.int 3), .val .null, .unset] [(.ref a1)])) rfl (by rw [hml]; rfl) rfl (hb hby d4_1) (by decide) (W := 0) (by show 2 * 0 + _ ≤ _; exact Nat.le_of_eq rfl) (by decide)
 refine own_go st125 ?_
 refine own_go (B := T125.setTop (mkF m 27 #[.val (.ref a1), .val (.ref ar), .val (.int 0), .val (.int 3), .val .null, .unset] [])) (fun t k => ?_) ?_
 ·refine XS.iloadN X125.here hx rfl (hb hby d4_4) rfl ?_
  show Steps p.tables e below (T125.setTop (mkF m 5 #[.val (.ref a1), .val (.ref ar), .val (.int 0), .val (.int 3), .val .null, .unset] [(.int 3)])) _
  refine XS.ifYes X125.here hx rfl (pc0 := 5) (pc' := 27) rfl (hb hby d4_5) rfl ((if0 _ _).trans (feq (by decide : ¬ ((3 : Int32) = (0 : Int32)))).2) (by decide) (by decide) ?_
  show Steps p.tables e below (T125.setTop (mkF m 27 #[.val (.ref a1), .val (.ref ar), .val (.int 0), .val (.int 3), .val .null, .unset] [])) _
  exact k
 obtain ⟨T126, X126, e126, st126⟩ := getS2 X125 hx hZ hown (host := "") (Or.inl (hw _ (List.mem_of_getElem? (i := 44) rfl))) Via.refl e125 S_COMPACT_STRINGS (g := (mkF m 27 #[.val (.ref a1), .val (.ref ar), .val (.int 0), .val (.int 3), .val .null, .unset] [])) rfl (hb hby d4_27)
 refine own_go st126 ?_
 refine own_go (B := T126.setTop (mkF m 36 #[.val (.ref a1), .val (.ref ar), .val (.int 0), .val (.int 3), .val .null, .unset] [(.int 3), (.int 0), (.ref ar)])) (fun t k => ?_) ?_
 ·refine XS.ifNo X126.here hx rfl (hb hby d4_30) rfl ((if0 _ _).trans (feq (show ¬ (w_COMPACT_STRINGS = (0 : Int32)) from N_COMPACT_STRINGS)).1) ?_
  show Steps p.tables e below (T126.setTop (mkF m 33 #[.val (.ref a1), .val (.ref ar), .val (.int 0), .val (.int 3), .val .null, .unset] [])) _
  refine XS.aloadN X126.here hx rfl (hb hby d4_33) rfl rfl ?_
  show Steps p.tables e below (T126.setTop (mkF m 34 #[.val (.ref a1), .val (.ref ar), .val (.int 0), .val (.int 3), .val .null, .unset] [(.ref ar)])) _
  refine XS.iloadN X126.here hx rfl (hb hby d4_34) rfl ?_
  show Steps p.tables e below (T126.setTop (mkF m 35 #[.val (.ref a1), .val (.ref ar), .val (.int 0), .val (.int 3), .val .null, .unset] [(.int 0), (.ref ar)])) _
  refine XS.iloadN X126.here hx rfl (hb hby d4_35) rfl ?_
  show Steps p.tables e below (T126.setTop (mkF m 36 #[.val (.ref a1), .val (.ref ar), .val (.int 0), .val (.int 3), .val .null, .unset] [(.int 3), (.int 0), (.ref ar)])) _
  exact k
 obtain ⟨_, _, ⟨T127, L127, k127, n127⟩, -, X127, ⟨Lc127, hQ127, l127, y127, z127⟩, st127⟩ := Jvm.LawKit.callS X126 hx (y := (⟨"java/lang/StringUTF16", "compress", "([CII)[B"⟩ : MethodName)) hown (mvT hZ (hw _ (List.mem_of_getElem? (i := 53) rfl))) (mvT hZ (hw _ (List.mem_of_getElem? (i := 54) rfl))) (mvT hZ (hw _ (List.mem_of_getElem? (i := 55) rfl))) (mvT hZ (hw _ (List.mem_of_getElem? (i := 56) rfl))) (by decide) (backOf (W := 0) (rm9_3 l Z a0 hw [] ar kar c0 c1 c2 h0 n0 Z0 V_ar (by first | assumption | decide) (by first | assumption | decide) (by first | assumption | decide)) hZ (hw _ (List.mem_of_getElem? (i := 56) rfl)) (hw _ (List.mem_of_getElem? (i := 55) rfl)) (by decide) (by decide)) (g := (mkF m 36 #[.val (.ref a1), .val (.ref ar), .val (.int 0), .val (.int 3), .val .null, .unset] [(.int 3), (.int 0), (.ref ar)])) rfl (by rw [hml]; rfl) (argsL := [(.ref ar), (.int 0), (.int 3)]) (rest := []) (lenOf pd_1 rfl) rfl (by show 2 * 0 + _ ≤ _; exact Nat.le_of_eq rfl) (hb hby d4_36) (fun _ _ => ⟨rfl, e126, (by decide : 0 + 1 ≤ _), (by decide : 0 + 3 ≤ _)⟩)
 dsimp only [Pt.U, Pt.locs, Pt.cells, Pt.slots] at X127 l127 y127 z127 st127 hQ127
 subst l127 y127 z127
 obtain ⟨bn_127, kn_127, rfl, M127, q127_0, q127_1, q127_2⟩ := hQ127
 have N127 := Fr.app N0 M127
 have K127 : Keep h0 T127.heap [a1] := Keep.trans (Keep.refl h0 [a1]) q127_0 all0
 refine own_go st127 ?_
 refine own_go (B := T127.setTop (mkF m 45 #[.val (.ref a1), .val (.ref ar), .val (.int 0), .val (.int 3), .val .null, .val (.ref bn_127)] [(.int 3), (.ref bn_127), (.ref a1)])) (fun t k => ?_) ?_
 ·refine XS.astore X127.here hx rfl (hb hby d4_39) rfl rfl (l' := #[.val (.ref a1), .val (.ref ar), .val (.int 0), .val (.int 3), .val .null, .val (.ref bn_127)]) rfl ?_
  show Steps p.tables e below (T127.setTop (mkF m 41 #[.val (.ref a1), .val (.ref ar), .val (.int 0), .val (.int 3), .val .null, .val (.ref bn_127)] [])) _
  refine XS.aloadN X127.here hx rfl (hb hby d4_41) rfl rfl ?_
  show Steps p.tables e below (T127.setTop (mkF m 42 #[.val (.ref a1), .val (.ref ar), .val (.int 0), .val (.int 3), .val .null, .val (.ref bn_127)] [(.ref a1)])) _
  refine XS.aload X127.here hx rfl (hb hby d4_42) rfl rfl ?_
  show Steps p.tables e below (T127.setTop (mkF m 44 #[.val (.ref a1), .val (.ref ar), .val (.int 0), .val (.int 3), .val .null, .val (.ref bn_127)] [(.ref bn_127), (.ref a1)])) _
  refine XS.iloadN X127.here hx rfl (hb hby d4_44) rfl ?_
  show Steps p.tables e below (T127.setTop (mkF m 45 #[.val (.ref a1), .val (.ref ar), .val (.int 0), .val (.int 3), .val .null, .val (.ref bn_127)] [(.int 3), (.ref bn_127), (.ref a1)])) _
  exact k
 obtain ⟨_, _, ⟨T128, L128, k128, n128⟩, -, X128, ⟨Lc128, hQ128, l128, y128, z128⟩, st128⟩ := Jvm.LawKit.callS X127 hx (y := (⟨"java/lang/StringUTF16", "coderFromArrayLen", "([BI)B"⟩ : MethodName)) hown (mvT hZ (hw _ (List.mem_of_getElem? (i := 60) rfl))) (mvT hZ (hw _ (List.mem_of_getElem? (i := 61) rfl))) (mvT hZ (hw _ (List.mem_of_getElem? (i := 55) rfl))) (mvT hZ (hw _ (List.mem_of_getElem? (i := 62) rfl))) (by decide) (backOf (W := 1) (rm11_3 l Z a0 hw [] bn_127 kn_127 ([(.int (c0.toInt8.toInt32)), (.int (c1.toInt8.toInt32)), (.int (c2.toInt8.toInt32))]) T127.heap n0 (Nat.le_trans Z0 q127_0.1) q127_2) hZ (hw _ (List.mem_of_getElem? (i := 62) rfl)) (hw _ (List.mem_of_getElem? (i := 55) rfl)) (by decide) (by decide)) (g := (mkF m 45 #[.val (.ref a1), .val (.ref ar), .val (.int 0), .val (.int 3), .val .null, .val (.ref bn_127)] [(.int 3), (.ref bn_127), (.ref a1)])) rfl (by rw [hml]; rfl) (argsL := [(.ref bn_127), (.int 3)]) (rest := [(.ref a1)]) (lenOf pd_2 rfl) rfl (by show 2 * 0 + _ ≤ _; exact Nat.le_of_eq rfl) (hb hby d4_45) (fun _ _ => ⟨rfl, rfl, (by decide : 1 + 0 ≤ _), (by decide : 3 + 0 ≤ _)⟩)
 dsimp only [Pt.U, Pt.locs, Pt.cells, Pt.slots] at X128 l128 y128 z128 st128 hQ128
 subst l128 y128 z128
 obtain ⟨rfl, M128, q128_0⟩ := hQ128
 have N128 := Fr.app N127 M128
 refine own_go st128 ?_
 have f130 : Exa Z T127.heap a1 "java/lang/String" := (E_a1.keep q127_0)
 have f131 : Fld Z T127.heap a1 "java/lang/String" "coder" "B" (.int 0) := (F_coder_a1.keep q127_0 nin0)
 obtain ⟨T129, h129, X129, e129, W129, st129⟩ := putFN X128 hx hZ hown (hw _ (List.mem_of_getElem? (i := 28) rfl)) Via.refl q128_0 f131 f130 (Or.inr ⟨(hw _ (List.mem_of_getElem? (i := 24) rfl)), rfl, hnm⟩) (hw _ (List.mem_of_getElem? (i := 9) rfl)) (ty := .byte) (v' := (.int 0)) (by decide) rfl (by decide) (g := (mkF m 48 #[.val (.ref a1), .val (.ref ar), .val (.int 0), .val (.int 3), .val .null, .val (.ref bn_127)] [(.int 0), (.ref a1)])) rfl rfl (hb hby d4_48)
 refine own_go st129 ?_
 have F129 : Fld Z h129 a1 "java/lang/String" "coder" "B" (.int 0) := f131.same W129
 have K129 : Keep h0 h129 [a1] := Keep.wr K127 W129 (Or.inl (List.mem_of_getElem? (i := 0) rfl))
 have N129 := Fr.snoc X129 N128 g_a1
 refine own_go (B := T129.setTop (mkF m 54 #[.val (.ref a1), .val (.ref ar), .val (.int 0), .val (.int 3), .val .null, .val (.ref bn_127)] [(.ref bn_127), (.ref a1)])) (fun t k => ?_) ?_
 ·refine XS.aloadN X129.here hx rfl (hb hby d4_51) rfl rfl ?_
  show Steps p.tables e below (T129.setTop (mkF m 52 #[.val (.ref a1), .val (.ref ar), .val (.int 0), .val (.int 3), .val .null, .val (.ref bn_127)] [(.ref a1)])) _
  refine XS.aload X129.here hx rfl (hb hby d4_52) rfl rfl ?_
  show Steps p.tables e below (T129.setTop (mkF m 54 #[.val (.ref a1), .val (.ref ar), .val (.int 0), .val (.int 3), .val .null, .val (.ref bn_127)] [(.ref bn_127), (.ref a1)])) _
  exact k
 have f133 : Exa Z h129 a1 "java/lang/String" := (f130.wr W129)
 have f134 : Fld Z h129 a1 "java/lang/String" "value" "[B" .null := ((F_value_a1.keep q127_0 nin0).other W129 (Or.inr (slot_ne (Or.inr (hw _ (List.mem_of_getElem? (i := 23) rfl))) (Or.inr (hw _ (List.mem_of_getElem? (i := 24) rfl))) (by decide) (t := (.array .byte)) (t' := .byte) (by decide) (by decide))))
 obtain ⟨T132, h132, X132, e132, W132, st132⟩ := putF X129 hx hZ hown (host := "") (Or.inl (hw _ (List.mem_of_getElem? (i := 27) rfl))) Via.refl e129 f134 f133 (Or.inr ⟨(hw _ (List.mem_of_getElem? (i := 23) rfl)), rfl, hnm⟩) (hw _ (List.mem_of_getElem? (i := 9) rfl)) (ty := (.array .byte)) (by decide) rfl rfl (g := (mkF m 54 #[.val (.ref a1), .val (.ref ar), .val (.int 0), .val (.int 3), .val .null, .val (.ref bn_127)] [(.ref bn_127), (.ref a1)])) rfl rfl (hb hby d4_54)
 refine own_go st132 ?_
 have F132 : Fld Z h132 a1 "java/lang/String" "value" "[B" (.ref bn_127) := f134.same W132
 have K132 : Keep h0 h132 [a1] := Keep.wr K129 W132 (Or.inl (List.mem_of_getElem? (i := 0) rfl))
 have N132 := Fr.snoc X132 N129 g_a1
 obtain ⟨fs, hr, hrun, hended, hW, hsame⟩ := X132.leave (v := none) (fun _ => rfl)
 refine ⟨_, _, ?_, hrun, hended, _, _, rfl, ?_, ⟨_, rfl⟩, hW, hsame.mono (by decide) (by decide)⟩
 ·exact X132.returnOut hx Bd.returns (hb hby d4_57) hr
 ·show Q4_3 Z a1 ar w_COMPACT_STRINGS kar c0 c1 c2 h0 n0 _ T132.heap _
  rw [e132]
  have f136 : Exa Z h132 a1 "java/lang/String" := (f133.wr W132)
  have f137 : Fld Z h132 a1 "java/lang/String" "coder" "B" (.int 0) := (F129.other W132 (Or.inr (slot_ne (Or.inr (hw _ (List.mem_of_getElem? (i := 24) rfl))) (Or.inr (hw _ (List.mem_of_getElem? (i := 23) rfl))) (by decide) (t := .byte) (t' := (.array .byte)) (by decide) (by decide))))
  have ne138 : a1 ≠ bn_127 := (Nat.ne_of_lt (Nat.lt_of_lt_of_le E_a1.lt q127_1))
  have f139 : Arv Z h132 bn_127 kn_127 .byte (3 : Int32) [(.int (c0.toInt8.toInt32)), (.int (c1.toInt8.toInt32)), (.int (c2.toInt8.toInt32))] (.int 0) := ((q127_2.other W129 (Ne.symm ne138)).other W132 (Ne.symm ne138))
  exact ⟨bn_127, kn_127, rfl, N132, K132, q127_1, f136, f137, F132, f139⟩
theorem ef_3_3 (m : MethodId) (a1 : Addr) (ar : Addr) : entryFrame m #[(.ref a1), (.ref ar)] 2 = mkF m 0 #[.val (.ref a1), .val (.ref ar)] [] := by first | (simp [entryFrame, mkF, argsToLocals, Value.category]; done) | rfl
def Q3_3 (Z : State) (a1 : Addr) (ar : Addr) (w_COMPACT_STRINGS : Int32) (kar : ClassId) (c0 : Int32) (c1 : Int32) (c2 : Int32) (h0 : Heap) (n0 : Nat) (v : Option Value) (h : Heap) (L : List Loc) : Prop := ∃ (bn : Addr) (kn : ClassId), v = none ∧ Fr n0 L ∧ Keep h0 h [a1] ∧ h0.size ≤ bn ∧ Exa Z h a1 "java/lang/String" ∧ Fld Z h a1 "java/lang/String" "coder" "B" (.int 0) ∧ Fld Z h a1 "java/lang/String" "value" "[B" (.ref bn) ∧ Arv Z h bn kn .byte (3 : Int32) [(.int (c0.toInt8.toInt32)), (.int (c1.toInt8.toInt32)), (.int (c2.toInt8.toInt32))] (.int 0)
set_option maxRecDepth 65536 in
set_option maxHeartbeats 40000000 in
theorem rm3_3 (l : Launch) (Z : State) (a0 : Array Value) (hw : ∀ d ∈ tables_1, d.before a0 Z = true) (ws : List Jvm.Cond) (a1 : Addr) (ar : Addr) (w_COMPACT_STRINGS : Int32) (kar : ClassId) (c0 : Int32) (c1 : Int32) (c2 : Int32) (h0 : Heap) (n0 : Nat) (Z0 : n0 ≤ h0.size) (E_a1 : Exa Z h0 a1 "java/lang/String") (F_value_a1 : Fld Z h0 a1 "java/lang/String" "value" "[B" .null) (F_coder_a1 : Fld Z h0 a1 "java/lang/String" "coder" "B" (.int 0)) (g_a1 : n0 ≤ a1) (S_COMPACT_STRINGS : Sta Z h0 "java/lang/String" "COMPACT_STRINGS" "Z" (.int w_COMPACT_STRINGS)) (N_COMPACT_STRINGS : ¬ w_COMPACT_STRINGS = (0 : Int32)) (V_ar : Arv Z h0 ar kar .char (3 : Int32) [(.int c0), (.int c1), (.int c2)] (.int 0)) (hc0 : 0 ≤ c0.toInt ∧ c0.toInt ≤ 255) (hc1 : 0 ≤ c1.toInt ∧ c1.toInt ≤ 255) (hc2 : 0 ≤ c2.toInt ∧ c2.toInt ≤ 255) :
  MetFree l (⟨"java/lang/String", "<init>", "([C)V"⟩ : MethodName) (head1 (Jvm.Cond.code (⟨"java/lang/String", "<init>", "([C)V"⟩ : MethodName) jdk_42_method_3_code 2 none :: ws) ({ frames := 3, cells := 1, slots := 3, locals := 52 } : Room)) (fun a U => a = #[(.ref a1), (.ref ar)] ∧ Z.Warmed39 U.vm ∧ U.heap = h0) (fun _ _ _ _ _ => True) (fun _ U o U' => ∃ v L, o = .returned v ∧ Q3_3 Z a1 ar w_COMPACT_STRINGS kar c0 c1 c2 h0 n0 v U'.heap L ∧ FrameEnd U o U' L ({ frames := 3, cells := 1, slots := 3, locals := 52 } : Room).cells ({ frames := 3, cells := 1, slots := 3, locals := 52 } : Room).slots) := by
 refine MetFree.of_bodySF (plainFor_of_name pn_118) hisR ?_
 intro p e s m args below meth c s₁ Bd hml0 hP hK
 obtain ⟨rfl, hZ, hh⟩ := hP
 have hx := Bd.exec
 have hby := Bd.bytes
 have hml : c.maxLocals = 2 := hml0
 have hown : s.vm.findClass "java/lang/String" = some m.cls := findClass_of_methodNamed Bd.named
 have hnm := (name_of_methodNamed Bd.named Bd.method).1
 have X0 : Stand p l e ({ frames := 3, cells := 1, slots := 3, locals := 52 } : Room) s m #[(.ref a1), (.ref ar)] below meth c s₁ [] 0 0 := Stand.of_body Bd
 have e0 : s₁.heap = h0 := by rw [← hh, Bd.state]; rfl
 have N0 := Fr.nil n0
 refine own_go (B := s₁.setTop (mkF m 0 #[.val (.ref a1), .val (.ref ar)] [])) (fun t k => castTop (ef_3_3 m a1 ar) k) ?_
 refine own_go (B := s₁.setTop (mkF m 4 #[.val (.ref a1), .val (.ref ar)] [(.ref ar), (.int 0), (.ref ar), (.ref a1)])) (fun t k => ?_) ?_
 ·refine XS.aloadN X0.here hx rfl (hb hby d3_0) rfl rfl ?_
  show Steps p.tables e below (s₁.setTop (mkF m 1 #[.val (.ref a1), .val (.ref ar)] [(.ref a1)])) _
  refine XS.aloadN X0.here hx rfl (hb hby d3_1) rfl rfl ?_
  show Steps p.tables e below (s₁.setTop (mkF m 2 #[.val (.ref a1), .val (.ref ar)] [(.ref ar), (.ref a1)])) _
  refine XS.iconst X0.here hx rfl (hb hby d3_2) ?_
  show Steps p.tables e below (s₁.setTop (mkF m 3 #[.val (.ref a1), .val (.ref ar)] [(.int 0), (.ref ar), (.ref a1)])) _
  refine XS.aloadN X0.here hx rfl (hb hby d3_3) rfl rfl ?_
  show Steps p.tables e below (s₁.setTop (mkF m 4 #[.val (.ref a1), .val (.ref ar)] [(.ref ar), (.int 0), (.ref ar), (.ref a1)])) _
  exact k
 obtain ⟨cl140, Ar140, cq140, cS140, cN140, cH140, cG140⟩ := id V_ar
 refine own_go (B := s₁.setTop (mkF m 6 #[.val (.ref a1), .val (.ref ar)] [.null, (.int 3), (.int 0), (.ref ar), (.ref a1)])) (fun t k => ?_) ?_
 ·refine X0.arraylength hx (by rw [e0]; exact Ar140.1) (State.isArrayOf_alike hZ.alike Ar140.2.1) (g := (mkF m 4 #[.val (.ref a1), .val (.ref ar)] [(.ref ar), (.int 0), (.ref ar), (.ref a1)])) rfl rfl (hb hby d3_4) _ ?_
  rw [len_of cS140 cN140]
  show Steps p.tables e below (s₁.setTop (mkF m 5 #[.val (.ref a1), .val (.ref ar)] [(.int 3), (.int 0), (.ref ar), (.ref a1)])) _
  refine XS.aconstNull X0.here hx rfl (hb hby d3_5) ?_
  show Steps p.tables e below (s₁.setTop (mkF m 6 #[.val (.ref a1), .val (.ref ar)] [.null, (.int 3), (.int 0), (.ref ar), (.ref a1)])) _
  exact k
 obtain ⟨_, _, ⟨T141, L141, k141, n141⟩, -, X141, ⟨Lc141, hQ141, l141, y141, z141⟩, st141⟩ := X0.specialBack hx (y := (⟨"java/lang/String", "<init>", "([CIILjava/lang/Void;)V"⟩ : MethodName)) rfl hown (mvT hZ (hw _ (List.mem_of_getElem? (i := 14) rfl))) (mvT hZ (hw _ (List.mem_of_getElem? (i := 15) rfl))) (mvT hZ (hw _ (List.mem_of_getElem? (i := 17) rfl))) (by decide) (backOf (W := 0) (rm4_3 l Z a0 hw [] a1 ar w_COMPACT_STRINGS kar c0 c1 c2 h0 n0 Z0 E_a1 F_value_a1 F_coder_a1 g_a1 S_COMPACT_STRINGS (N_COMPACT_STRINGS) V_ar (by first | assumption | decide) (by first | assumption | decide) (by first | assumption | decide)) hZ (hw _ (List.mem_of_getElem? (i := 17) rfl)) (hw _ (List.mem_of_getElem? (i := 10) rfl)) (by decide) (by decide)) (g := (mkF m 6 #[.val (.ref a1), .val (.ref ar)] [.null, (.int 3), (.int 0), (.ref ar), (.ref a1)])) rfl (by rw [hml]; rfl) (Steps.refl _) (a := a1) (argsL := [(.ref ar), (.int 0), (.int 3), .null]) (rest := []) (lenOf pd_3 rfl) rfl (by show 2 * 0 + _ ≤ _; exact Nat.le_of_eq rfl) (hb hby d3_6) (fun _ _ => ⟨rfl, e0, (by decide : 0 + 1 ≤ _), (by decide : 0 + 3 ≤ _)⟩)
 dsimp only [Pt.U, Pt.locs, Pt.cells, Pt.slots] at X141 l141 y141 z141 st141 hQ141
 subst l141 y141 z141
 obtain ⟨bn_141, kn_141, rfl, M141, q141_0, q141_1, q141_2, q141_3, q141_4, q141_5⟩ := hQ141
 have N141 := Fr.app N0 M141
 have K141 : Keep h0 T141.heap [a1] := Keep.trans (Keep.refl h0 [a1]) q141_0 (allS (Or.inl (List.mem_of_getElem? (i := 0) rfl)) all0)
 refine own_go (fun t k => st141.trans k) ?_
 obtain ⟨fs, hr, hrun, hended, hW, hsame⟩ := X141.leave (v := none) (fun _ => rfl)
 refine ⟨_, _, ?_, hrun, hended, _, _, rfl, ?_, ⟨_, rfl⟩, hW, hsame.mono (by decide) (by decide)⟩
 ·exact X141.returnOut hx Bd.returns (hb hby d3_9) hr
 ·show Q3_3 Z a1 ar w_COMPACT_STRINGS kar c0 c1 c2 h0 n0 _ T141.heap _
  exact ⟨bn_141, kn_141, rfl, N141, K141, q141_1, q141_2, q141_3, q141_4, q141_5⟩
theorem d4_8 : decode jdk_42_method_149_code 8 = .ok (.aload_n 0, 1) := by decide +kernel
theorem d4_9 : decode jdk_42_method_149_code 9 = .ok (.ldc 7, 2) := by decide +kernel
theorem d4_11 : decode jdk_42_method_149_code 11 = .ok (.getfield 9, 3) := by decide +kernel
theorem d4_14 : decode jdk_42_method_149_code 14 = .ok (.putfield 9, 3) := by decide +kernel
theorem d4_17 : decode jdk_42_method_149_code 17 = .ok (.aload_n 0, 1) := by decide +kernel
theorem d4_18 : decode jdk_42_method_149_code 18 = .ok (.ldc 7, 2) := by decide +kernel
theorem d4_20 : decode jdk_42_method_149_code 20 = .ok (.getfield 15, 3) := by decide +kernel
theorem d4_23 : decode jdk_42_method_149_code 23 = .ok (.putfield 15, 3) := by decide +kernel
theorem d4_26 : decode jdk_42_method_149_code 26 = .ok (.return_, 1) := by decide +kernel
theorem ef_4_0 (m : MethodId) (a1 : Addr) (ar : Addr) : entryFrame m #[(.ref a1), (.ref ar), (.int 0), (.int 0), .null] 6 = mkF m 0 #[.val (.ref a1), .val (.ref ar), .val (.int 0), .val (.int 0), .val .null, .unset] [] := by first | (simp [entryFrame, mkF, argsToLocals, Value.category]; done) | rfl
def Q4_0 (Z : State) (a1 : Addr) (ar : Addr) (h0 : Heap) (n0 : Nat) (v : Option Value) (h : Heap) (L : List Loc) : Prop := ∃ (bn : Addr) (kn : ClassId), v = none ∧ Fr n0 L ∧ Keep h0 h [a1] ∧ Exa Z h a1 "java/lang/String" ∧ Fld Z h a1 "java/lang/String" "coder" "B" (.int 0) ∧ Fld Z h a1 "java/lang/String" "value" "[B" (.ref bn) ∧ Arv Z h bn kn .byte (0 : Int32) [] (.int 0)
set_option maxRecDepth 65536 in
set_option maxHeartbeats 40000000 in
theorem rm4_0 (l : Launch) (Z : State) (a0 : Array Value) (hw : ∀ d ∈ tables_1, d.before a0 Z = true) (ws : List Jvm.Cond) (a1 : Addr) (ar : Addr) (h0 : Heap) (n0 : Nat) (Z0 : n0 ≤ h0.size) (hEL : EW Z a0 consts_1) (E_a1 : Exa Z h0 a1 "java/lang/String") (F_value_a1 : Fld Z h0 a1 "java/lang/String" "value" "[B" .null) (F_coder_a1 : Fld Z h0 a1 "java/lang/String" "coder" "B" (.int 0)) (g_a1 : n0 ≤ a1) :
  MetFree l (⟨"java/lang/String", "<init>", "([CIILjava/lang/Void;)V"⟩ : MethodName) (head1 (Jvm.Cond.code (⟨"java/lang/String", "<init>", "([CIILjava/lang/Void;)V"⟩ : MethodName) jdk_42_method_149_code 6 none :: ws) ({ frames := 1, cells := 2, slots := 4, locals := 12 } : Room)) (fun a U => a = #[(.ref a1), (.ref ar), (.int 0), (.int 0), .null] ∧ Z.Warmed39 U.vm ∧ U.heap = h0 ∧ CHv Z consts_1 U.vm h0) (fun _ _ _ _ _ => True) (fun _ U o U' => ∃ v L, o = .returned v ∧ Q4_0 Z a1 ar h0 n0 v U'.heap L ∧ CHr Z consts_1 U.vm U.heap U'.vm U'.heap ∧ ReturnedEndW U o U' L ({ frames := 1, cells := 2, slots := 4, locals := 12 } : Room).cells ({ frames := 1, cells := 2, slots := 4, locals := 12 } : Room).slots) := by
 refine MetFree.of_bodySF (plainFor_of_name pn_118) hisR ?_
 intro p e s m args below meth c s₁ Bd hml0 hP hK
 obtain ⟨rfl, hZ, hh, hCH⟩ := hP
 have hx := Bd.exec
 have hby := Bd.bytes
 have hml : c.maxLocals = 6 := hml0
 have hown : s.vm.findClass "java/lang/String" = some m.cls := findClass_of_methodNamed Bd.named
 have hnm := (name_of_methodNamed Bd.named Bd.method).1
 have X0 : Stand p l e ({ frames := 1, cells := 2, slots := 4, locals := 12 } : Room) s m #[(.ref a1), (.ref ar), (.int 0), (.int 0), .null] below meth c s₁ [] 0 0 := Stand.of_body Bd
 have e0 : s₁.heap = h0 := by rw [← hh, Bd.state]; rfl
 have N0 := Fr.nil n0
 have hS0 : s.Since s.vm h0.size := own_since _ _
 replace X0 : Stand p l e ({ frames := 1, cells := 2, slots := 4, locals := 12 } : Room) (s.setVm s.vm) m #[(.ref a1), (.ref ar), (.int 0), (.int 0), .null] below meth c s₁ [] 0 0 := X0
 refine own_go (B := s₁.setTop (mkF m 0 #[.val (.ref a1), .val (.ref ar), .val (.int 0), .val (.int 0), .val .null, .unset] [])) (fun t k => castTop (ef_4_0 m a1 ar) k) ?_
 refine own_go (B := s₁.setTop (mkF m 1 #[.val (.ref a1), .val (.ref ar), .val (.int 0), .val (.int 0), .val .null, .unset] [(.ref a1)])) (fun t k => ?_) ?_
 ·refine XS.aloadN X0.here hx rfl (hb hby d4_0) rfl rfl ?_
  show Steps p.tables e below (s₁.setTop (mkF m 1 #[.val (.ref a1), .val (.ref ar), .val (.int 0), .val (.int 0), .val .null, .unset] [(.ref a1)])) _
  exact k
 obtain ⟨T143, X143, e143, st143⟩ := initO X0 hx hZ hown (hw _ (List.mem_of_getElem? (i := 18) rfl)) (hw _ (List.mem_of_getElem? (i := 19) rfl)) (hw _ (List.mem_of_getElem? (i := 20) rfl)) e0 (g := (mkF m 1 #[.val (.ref a1), .val (.ref ar), .val (.int 0), .val (.int 0), .val .null, .unset] [(.ref a1)])) rfl (by rw [hml]; rfl) rfl (hb hby d4_1) (by decide) (W := 0) (by show 2 * 0 + _ ≤ _; exact Nat.le_of_eq rfl) (by decide)
 refine own_go st143 ?_
 refine own_go (B := T143.setTop (mkF m 9 #[.val (.ref a1), .val (.ref ar), .val (.int 0), .val (.int 0), .val .null, .unset] [(.ref a1)])) (fun t k => ?_) ?_
 ·refine XS.iloadN X143.here hx rfl (hb hby d4_4) rfl ?_
  show Steps p.tables e below (T143.setTop (mkF m 5 #[.val (.ref a1), .val (.ref ar), .val (.int 0), .val (.int 0), .val .null, .unset] [(.int 0)])) _
  refine XS.ifNo X143.here hx rfl (hb hby d4_5) rfl ((if0 _ _).trans (teq (by decide : (0 : Int32) = (0 : Int32))).2) ?_
  show Steps p.tables e below (T143.setTop (mkF m 8 #[.val (.ref a1), .val (.ref ar), .val (.int 0), .val (.int 0), .val .null, .unset] [])) _
  refine XS.aloadN X143.here hx rfl (hb hby d4_8) rfl rfl ?_
  show Steps p.tables e below (T143.setTop (mkF m 9 #[.val (.ref a1), .val (.ref ar), .val (.int 0), .val (.int 0), .val .null, .unset] [(.ref a1)])) _
  exact k
 obtain ⟨b144, T144, h144, kk144, vb144, kb144, X144, e144, E144, hS144, hk144, hZ144, ho144, x144, fc144, fv144, va144, la144, lb144, hc144, li144, sp144, st144⟩ := ldcCH (s := s) X143 hx hZ hown (hw _ (List.mem_of_getElem? (i := 21) rfl)) (own_strA hw) e143 hS0 (Nat.le_refl _) hEL (List.mem_of_getElem? (i := 0) rfl) (CHr.refl hCH).1 (vs := []) (z := (0 : Int32)) (by first | exact ⟨by decide, rfl⟩ | decide) (by decide) (by decide) (g := (mkF m 9 #[.val (.ref a1), .val (.ref ar), .val (.int 0), .val (.int 0), .val .null, .unset] [(.ref a1)])) rfl (hb hby d4_9) (n := 0) (by decide) (by decide) (by decide) (by decide)
 refine own_go st144 ?_
 have cs145 : CHr Z consts_1 s.vm h0 T144.vm h144 := hc144
 have K144 : Keep h0 h144 [a1] := Keep.ext (Keep.refl h0 [a1]) E144
 have sa144_a1 := sp144 a1 (cs145.safe E_a1.lt (own_safeStr hZ.alike E_a1 F_value_a1))
 obtain ⟨T146, X146, e146, st146⟩ := getF X144 hx hZ144 ho144 (host := "") (Or.inl (hw _ (List.mem_of_getElem? (i := 27) rfl))) Via.refl e144 fv144 (g := (mkF m 11 #[.val (.ref a1), .val (.ref ar), .val (.int 0), .val (.int 0), .val .null, .unset] [(.ref b144), (.ref a1)])) rfl rfl (hb hby d4_11)
 refine own_go st146 ?_
 have f148 : Exa Z h144 a1 "java/lang/String" := (E_a1.ext E144)
 have f149 : Fld Z h144 a1 "java/lang/String" "value" "[B" .null := (F_value_a1.ext E144)
 obtain ⟨T147, h147, X147, e147, W147, st147⟩ := putF X146 hx hZ144 ho144 (host := "") (Or.inl (hw _ (List.mem_of_getElem? (i := 27) rfl))) Via.refl e146 f149 f148 (Or.inr ⟨(hw _ (List.mem_of_getElem? (i := 23) rfl)), rfl, hnm⟩) (hw _ (List.mem_of_getElem? (i := 9) rfl)) (ty := (.array .byte)) (by decide) rfl rfl (g := (mkF m 14 #[.val (.ref a1), .val (.ref ar), .val (.int 0), .val (.int 0), .val .null, .unset] [(.ref vb144), (.ref a1)])) rfl rfl (hb hby d4_14)
 refine own_go st147 ?_
 have cs150 : CHr Z consts_1 T144.vm h144 T144.vm h147 := (CHr.wr W147 (cs145.safe E_a1.lt (own_safeStr hZ.alike E_a1 F_value_a1)) ((CHr.refl hCH).trans cs145).1)
 have F147 : Fld Z h147 a1 "java/lang/String" "value" "[B" (.ref vb144) := f149.same W147
 have K147 : Keep h0 h147 [a1] := Keep.wr K144 W147 (Or.inl (List.mem_of_getElem? (i := 0) rfl))
 have N147 := Fr.snoc X147 N0 g_a1
 refine own_go (B := T147.setTop (mkF m 18 #[.val (.ref a1), .val (.ref ar), .val (.int 0), .val (.int 0), .val .null, .unset] [(.ref a1)])) (fun t k => ?_) ?_
 ·refine XS.aloadN X147.here hx rfl (hb hby d4_17) rfl rfl ?_
  show Steps p.tables e below (T147.setTop (mkF m 18 #[.val (.ref a1), .val (.ref ar), .val (.int 0), .val (.int 0), .val .null, .unset] [(.ref a1)])) _
  exact k
 refine own_go (ldcAgain X147 hx hZ144 ho144 (hw _ (List.mem_of_getElem? (i := 21) rfl)) li144 (g := (mkF m 18 #[.val (.ref a1), .val (.ref ar), .val (.int 0), .val (.int 0), .val .null, .unset] [(.ref a1)])) rfl (hb hby d4_18)) ?_
 have f153 : Fld Z h147 b144 "java/lang/String" "coder" "B" (.int 0) := (fc144.other W147 (Or.inl (Ne.symm sa144_a1.1)))
 obtain ⟨T152, X152, e152, st152⟩ := getF X147 hx hZ144 ho144 (host := "") (Or.inl (hw _ (List.mem_of_getElem? (i := 28) rfl))) Via.refl e147 f153 (g := (mkF m 20 #[.val (.ref a1), .val (.ref ar), .val (.int 0), .val (.int 0), .val .null, .unset] [(.ref b144), (.ref a1)])) rfl rfl (hb hby d4_20)
 refine own_go st152 ?_
 have f155 : Exa Z h147 a1 "java/lang/String" := (f148.wr W147)
 have f156 : Fld Z h147 a1 "java/lang/String" "coder" "B" (.int 0) := ((F_coder_a1.ext E144).other W147 (Or.inr (slot_ne (Or.inr (hw _ (List.mem_of_getElem? (i := 24) rfl))) (Or.inr (hw _ (List.mem_of_getElem? (i := 23) rfl))) (by decide) (t := .byte) (t' := (.array .byte)) (by decide) (by decide))))
 obtain ⟨T154, h154, X154, e154, W154, st154⟩ := putFN X152 hx hZ144 ho144 (hw _ (List.mem_of_getElem? (i := 28) rfl)) Via.refl e152 f156 f155 (Or.inr ⟨(hw _ (List.mem_of_getElem? (i := 24) rfl)), rfl, hnm⟩) (hw _ (List.mem_of_getElem? (i := 9) rfl)) (ty := .byte) (v' := (.int 0)) (by decide) rfl (by decide) (g := (mkF m 23 #[.val (.ref a1), .val (.ref ar), .val (.int 0), .val (.int 0), .val .null, .unset] [(.int 0), (.ref a1)])) rfl rfl (hb hby d4_23)
 refine own_go st154 ?_
 have cs157 : CHr Z consts_1 T144.vm h147 T144.vm h154 := (CHr.wr W154 ((cs145.trans cs150).safe E_a1.lt (own_safeStr hZ.alike E_a1 F_value_a1)) ((CHr.refl hCH).trans (cs145.trans cs150)).1)
 have F154 : Fld Z h154 a1 "java/lang/String" "coder" "B" (.int 0) := f156.same W154
 have K154 : Keep h0 h154 [a1] := Keep.wr K147 W154 (Or.inl (List.mem_of_getElem? (i := 0) rfl))
 have N154 := Fr.snoc X154 N147 g_a1
 have le159 : h144.size ≤ h154.size := (Nat.le_trans (Nat.le_of_eq (Wr.size W147).symm) (Nat.le_of_eq (Wr.size W154).symm))
 obtain ⟨fs, hr, hrun, hended, hW⟩ := X154.leaveW hS144 (show _ ≤ T154.heap.size by rw [e154]; exact (Nat.le_trans hk144 le159)) (v := none) (fun _ => rfl)
 refine ⟨_, _, ?_, hrun, hended, _, _, rfl, ?_, ?_, ⟨hW.1, hW.2.1, hW.2.2.1, hW.2.2.2.mono (by decide) (by decide)⟩⟩
 ·exact X154.returnOut hx Bd.returns (hb hby d4_26) hr
 ·show Q4_0 Z a1 ar h0 n0 _ T154.heap _
  rw [e154]
  have f160 : Exa Z h154 a1 "java/lang/String" := (f155.wr W154)
  have f161 : Fld Z h154 a1 "java/lang/String" "value" "[B" (.ref vb144) := (F147.other W154 (Or.inr (slot_ne (Or.inr (hw _ (List.mem_of_getElem? (i := 23) rfl))) (Or.inr (hw _ (List.mem_of_getElem? (i := 24) rfl))) (by decide) (t := (.array .byte)) (t' := .byte) (by decide) (by decide))))
  have f162 : Arv Z h154 vb144 kb144 .byte (0 : Int32) [] (.int 0) := ((va144.other W147 (Ne.symm sa144_a1.2)).other W154 (Ne.symm sa144_a1.2))
  exact ⟨vb144, kb144, rfl, N154, K154, f160, F154, f161, f162⟩
 ·show CHr Z consts_1 s.vm s.heap T154.vm T154.heap
  rw [hh, e154]
  exact ((CHr.refl hCH).trans ((cs145.trans cs150).trans cs157)).trans (CHv.at X154 hZ144 hEL ((CHr.refl hCH).trans ((cs145.trans cs150).trans cs157)).1)
theorem ef_3_0 (m : MethodId) (a1 : Addr) (ar : Addr) : entryFrame m #[(.ref a1), (.ref ar)] 2 = mkF m 0 #[.val (.ref a1), .val (.ref ar)] [] := by first | (simp [entryFrame, mkF, argsToLocals, Value.category]; done) | rfl
def Q3_0 (Z : State) (a1 : Addr) (ar : Addr) (kar : ClassId) (h0 : Heap) (n0 : Nat) (v : Option Value) (h : Heap) (L : List Loc) : Prop := ∃ (bn : Addr) (kn : ClassId), v = none ∧ Fr n0 L ∧ Keep h0 h [a1] ∧ Exa Z h a1 "java/lang/String" ∧ Fld Z h a1 "java/lang/String" "coder" "B" (.int 0) ∧ Fld Z h a1 "java/lang/String" "value" "[B" (.ref bn) ∧ Arv Z h bn kn .byte (0 : Int32) [] (.int 0)
set_option maxRecDepth 65536 in
set_option maxHeartbeats 40000000 in
theorem rm3_0 (l : Launch) (Z : State) (a0 : Array Value) (hw : ∀ d ∈ tables_1, d.before a0 Z = true) (ws : List Jvm.Cond) (a1 : Addr) (ar : Addr) (kar : ClassId) (h0 : Heap) (n0 : Nat) (Z0 : n0 ≤ h0.size) (hEL : EW Z a0 consts_1) (E_a1 : Exa Z h0 a1 "java/lang/String") (F_value_a1 : Fld Z h0 a1 "java/lang/String" "value" "[B" .null) (F_coder_a1 : Fld Z h0 a1 "java/lang/String" "coder" "B" (.int 0)) (g_a1 : n0 ≤ a1) (V_ar : Arv Z h0 ar kar .char (0 : Int32) [] (.int 0)) :
  MetFree l (⟨"java/lang/String", "<init>", "([C)V"⟩ : MethodName) (head1 (Jvm.Cond.code (⟨"java/lang/String", "<init>", "([C)V"⟩ : MethodName) jdk_42_method_3_code 2 none :: ws) ({ frames := 2, cells := 2, slots := 4, locals := 29 } : Room)) (fun a U => a = #[(.ref a1), (.ref ar)] ∧ Z.Warmed39 U.vm ∧ U.heap = h0 ∧ CHv Z consts_1 U.vm h0) (fun _ _ _ _ _ => True) (fun _ U o U' => ∃ v L, o = .returned v ∧ Q3_0 Z a1 ar kar h0 n0 v U'.heap L ∧ CHr Z consts_1 U.vm U.heap U'.vm U'.heap ∧ ReturnedEndW U o U' L ({ frames := 2, cells := 2, slots := 4, locals := 29 } : Room).cells ({ frames := 2, cells := 2, slots := 4, locals := 29 } : Room).slots) := by
 refine MetFree.of_bodySF (plainFor_of_name pn_118) hisR ?_
 intro p e s m args below meth c s₁ Bd hml0 hP hK
 obtain ⟨rfl, hZ, hh, hCH⟩ := hP
 have hx := Bd.exec
 have hby := Bd.bytes
 have hml : c.maxLocals = 2 := hml0
 have hown : s.vm.findClass "java/lang/String" = some m.cls := findClass_of_methodNamed Bd.named
 have hnm := (name_of_methodNamed Bd.named Bd.method).1
 have X0 : Stand p l e ({ frames := 2, cells := 2, slots := 4, locals := 29 } : Room) s m #[(.ref a1), (.ref ar)] below meth c s₁ [] 0 0 := Stand.of_body Bd
 have e0 : s₁.heap = h0 := by rw [← hh, Bd.state]; rfl
 have N0 := Fr.nil n0
 have hS0 : s.Since s.vm h0.size := own_since _ _
 replace X0 : Stand p l e ({ frames := 2, cells := 2, slots := 4, locals := 29 } : Room) (s.setVm s.vm) m #[(.ref a1), (.ref ar)] below meth c s₁ [] 0 0 := X0
 refine own_go (B := s₁.setTop (mkF m 0 #[.val (.ref a1), .val (.ref ar)] [])) (fun t k => castTop (ef_3_0 m a1 ar) k) ?_
 refine own_go (B := s₁.setTop (mkF m 4 #[.val (.ref a1), .val (.ref ar)] [(.ref ar), (.int 0), (.ref ar), (.ref a1)])) (fun t k => ?_) ?_
 ·refine XS.aloadN X0.here hx rfl (hb hby d3_0) rfl rfl ?_
  show Steps p.tables e below (s₁.setTop (mkF m 1 #[.val (.ref a1), .val (.ref ar)] [(.ref a1)])) _
  refine XS.aloadN X0.here hx rfl (hb hby d3_1) rfl rfl ?_
  show Steps p.tables e below (s₁.setTop (mkF m 2 #[.val (.ref a1), .val (.ref ar)] [(.ref ar), (.ref a1)])) _
  refine XS.iconst X0.here hx rfl (hb hby d3_2) ?_
  show Steps p.tables e below (s₁.setTop (mkF m 3 #[.val (.ref a1), .val (.ref ar)] [(.int 0), (.ref ar), (.ref a1)])) _
  refine XS.aloadN X0.here hx rfl (hb hby d3_3) rfl rfl ?_
  show Steps p.tables e below (s₁.setTop (mkF m 4 #[.val (.ref a1), .val (.ref ar)] [(.ref ar), (.int 0), (.ref ar), (.ref a1)])) _
  exact k
 obtain ⟨cl163, Ar163, cq163, cS163, cN163, cH163, cG163⟩ := id V_ar
 refine own_go (B := s₁.setTop (mkF m 6 #[.val (.ref a1), .val (.ref ar)] [.null, (.int 0), (.int 0), (.ref ar), (.ref a1)])) (fun t k => ?_) ?_
 ·refine X0.arraylength hx (by rw [e0]; exact Ar163.1) (State.isArrayOf_alike hZ.alike Ar163.2.1) (g := (mkF m 4 #[.val (.ref a1), .val (.ref ar)] [(.ref ar), (.int 0), (.ref ar), (.ref a1)])) rfl rfl (hb hby d3_4) _ ?_
  rw [len_of cS163 cN163]
  show Steps p.tables e below (s₁.setTop (mkF m 5 #[.val (.ref a1), .val (.ref ar)] [(.int 0), (.int 0), (.ref ar), (.ref a1)])) _
  refine XS.aconstNull X0.here hx rfl (hb hby d3_5) ?_
  show Steps p.tables e below (s₁.setTop (mkF m 6 #[.val (.ref a1), .val (.ref ar)] [.null, (.int 0), (.int 0), (.ref ar), (.ref a1)])) _
  exact k
 obtain ⟨_, _, ⟨T164, L164, k164, n164⟩, -, X164, S164, G164, ⟨Lc164, hQ164, l164, y164, z164, hc164⟩, st164⟩ := X0.specialBackS hx (y := (⟨"java/lang/String", "<init>", "([CIILjava/lang/Void;)V"⟩ : MethodName)) rfl hown (mvT hZ (hw _ (List.mem_of_getElem? (i := 14) rfl))) (mvT hZ (hw _ (List.mem_of_getElem? (i := 15) rfl))) (mvT hZ (hw _ (List.mem_of_getElem? (i := 17) rfl))) (by decide) (backOfSH (s := s) (vm0 := s.vm) (W := 0) (rm4_0 l Z a0 hw [] a1 ar h0 n0 Z0 (hEL) E_a1 F_value_a1 F_coder_a1 g_a1) hZ (hw _ (List.mem_of_getElem? (i := 17) rfl)) (hw _ (List.mem_of_getElem? (i := 10) rfl)) (by decide) (by decide) hEL (CHr.refl hCH).1) (g := (mkF m 6 #[.val (.ref a1), .val (.ref ar)] [.null, (.int 0), (.int 0), (.ref ar), (.ref a1)])) rfl (by rw [hml]; rfl) (Steps.refl _) (a := a1) (argsL := [(.ref ar), (.int 0), (.int 0), .null]) (rest := []) (lenOf pd_3 rfl) rfl (by show 2 * 0 + _ ≤ _; exact Nat.le_of_eq rfl) (hb hby d3_6) (fun _ _ => ⟨rfl, e0, (by decide : 0 + 2 ≤ _), (by decide : 0 + 4 ≤ _)⟩)
 dsimp only [Pt.U, Pt.locs, Pt.cells, Pt.slots] at X164 S164 G164 l164 y164 z164 st164 hQ164 hc164
 subst l164 y164 z164
 obtain ⟨bn_164, kn_164, rfl, M164, q164_0, q164_1, q164_2, q164_3, q164_4⟩ := hQ164
 have N164 := Fr.app N0 M164
 have hS164 : s.Since T164.vm T164.heap.size := hS0.trans S164 (Nat.le_trans (Nat.le_refl _) (Nat.le_trans (Nat.le_of_eq (congrArg Array.size e0.symm)) G164))
 have hZ164 : Z.Warmed39 (s.setVm T164.vm).vm := State.Warmed39.trans (t := (s.setVm s.vm)) hZ S164.1
 have ho164 : (s.setVm T164.vm).vm.findClass "java/lang/String" = some m.cls := by rw [show (s.setVm T164.vm).vm = T164.vm from rfl, S164.1.alike.findClass]; exact hown
 replace X164 : Stand p l e _ (s.setVm T164.vm) m _ below meth c T164 _ _ _ := X164
 have K164 : Keep h0 T164.heap [a1] := Keep.trans (Keep.refl h0 [a1]) q164_0 (allS (Or.inl (List.mem_of_getElem? (i := 0) rfl)) all0)
 have cs165 : CHr Z consts_1 s.vm h0 T164.vm T164.heap := hc164
 refine own_go (fun t k => st164.trans k) ?_
 obtain ⟨fs, hr, hrun, hended, hW⟩ := X164.leaveW hS164 (show _ ≤ T164.heap.size by exact (Nat.le_refl _)) (v := none) (fun _ => rfl)
 refine ⟨_, _, ?_, hrun, hended, _, _, rfl, ?_, ?_, ⟨hW.1, hW.2.1, hW.2.2.1, hW.2.2.2.mono (by decide) (by decide)⟩⟩
 ·exact X164.returnOut hx Bd.returns (hb hby d3_9) hr
 ·show Q3_0 Z a1 ar kar h0 n0 _ T164.heap _
  exact ⟨bn_164, kn_164, rfl, N164, K164, q164_1, q164_2, q164_3, q164_4⟩
 ·show CHr Z consts_1 s.vm s.heap T164.vm T164.heap
  rw [hh]
  exact ((CHr.refl hCH).trans cs165).trans (CHv.at X164 hZ164 hEL ((CHr.refl hCH).trans cs165).1)
theorem pd_4 : parseMethodDescriptor "([C)V" = some ⟨[(.array .char)], none⟩ := by decide +kernel
theorem d2_0 : decode method_3_code 0 = .ok (.iload_n 0, 1) := by decide +kernel
theorem d2_1 : decode method_3_code 1 = .ok (.ifCond .ne 14, 3) := by decide +kernel
theorem d2_15 : decode method_3_code 15 = .ok (.iload_n 0, 1) := by decide +kernel
theorem d2_16 : decode method_3_code 16 = .ok (.iconst 1, 1) := by decide +kernel
theorem d2_17 : decode method_3_code 17 = .ok (.if_icmp .ne 18, 3) := by decide +kernel
theorem d2_20 : decode method_3_code 20 = .ok (.new 7, 3) := by decide +kernel
theorem d2_23 : decode method_3_code 23 = .ok (.dup, 1) := by decide +kernel
theorem d2_24 : decode method_3_code 24 = .ok (.iconst 1, 1) := by decide +kernel
theorem d2_25 : decode method_3_code 25 = .ok (.newarray .char, 2) := by decide +kernel
theorem d2_27 : decode method_3_code 27 = .ok (.dup, 1) := by decide +kernel
theorem d2_28 : decode method_3_code 28 = .ok (.iconst 0, 1) := by decide +kernel
theorem d2_29 : decode method_3_code 29 = .ok (.iload_n 1, 1) := by decide +kernel
theorem d2_30 : decode method_3_code 30 = .ok (.castore, 1) := by decide +kernel
theorem d2_31 : decode method_3_code 31 = .ok (.invokespecial 9, 3) := by decide +kernel
theorem d2_34 : decode method_3_code 34 = .ok (.areturn, 1) := by decide +kernel
theorem ef_2_1 (m : MethodId) (c0 : Int32) (c1 : Int32) (c2 : Int32) : entryFrame m #[(.int 1), (.int c0), (.int c1), (.int c2)] 4 = mkF m 0 #[.val (.int 1), .val (.int c0), .val (.int c1), .val (.int c2)] [] := by first | (simp [entryFrame, mkF, argsToLocals, Value.category]; done) | rfl
def Q2_1 (Z : State) (c0 : Int32) (c1 : Int32) (c2 : Int32) (w_COMPACT_STRINGS : Int32) (h0 : Heap) (n0 : Nat) (v : Option Value) (h : Heap) (L : List Loc) : Prop := ∃ (sb : Addr) (bn : Addr) (kn : ClassId), v = some (.ref sb) ∧ Fr n0 L ∧ Keep h0 h [] ∧ h0.size ≤ sb ∧ Exa Z h sb "java/lang/String" ∧ Fld Z h sb "java/lang/String" "coder" "B" (.int 0) ∧ Fld Z h sb "java/lang/String" "value" "[B" (.ref bn) ∧ Arv Z h bn kn .byte (1 : Int32) [(.int (c0.toInt8.toInt32))] (.int 0)
set_option maxRecDepth 65536 in
set_option maxHeartbeats 40000000 in
theorem rm2_1 (l : Launch) (Z : State) (a0 : Array Value) (hw : ∀ d ∈ tables_1, d.before a0 Z = true) (ws : List Jvm.Cond) (c0 : Int32) (c1 : Int32) (c2 : Int32) (w_COMPACT_STRINGS : Int32) (h0 : Heap) (n0 : Nat) (Z0 : n0 ≤ h0.size) (S_COMPACT_STRINGS : Sta Z h0 "java/lang/String" "COMPACT_STRINGS" "Z" (.int w_COMPACT_STRINGS)) (N_COMPACT_STRINGS : ¬ w_COMPACT_STRINGS = (0 : Int32)) (hc0 : 0 ≤ c0.toInt ∧ c0.toInt ≤ 255) (hc1 : 0 ≤ c1.toInt ∧ c1.toInt ≤ 255) (hc2 : 0 ≤ c2.toInt ∧ c2.toInt ≤ 255) :
  MetFree l (⟨"com/example/restate/restate/MarkerStyleOpenedByPinLaw", "text", "(ICCC)Ljava/lang/String;"⟩ : MethodName) (head1 (Jvm.Cond.code (⟨"com/example/restate/restate/MarkerStyleOpenedByPinLaw", "text", "(ICCC)Ljava/lang/String;"⟩ : MethodName) method_3_code 4 (some (.object "java/lang/String")) :: ws) ({ frames := 4, cells := 3, slots := 6, locals := 66 } : Room)) (fun a U => a = #[(.int 1), (.int c0), (.int c1), (.int c2)] ∧ Z.Warmed39 U.vm ∧ U.heap = h0) (fun _ _ _ _ _ => True) (fun _ U o U' => ∃ v L, o = .returned v ∧ Q2_1 Z c0 c1 c2 w_COMPACT_STRINGS h0 n0 v U'.heap L ∧ FrameEnd U o U' L ({ frames := 4, cells := 3, slots := 6, locals := 66 } : Room).cells ({ frames := 4, cells := 3, slots := 6, locals := 66 } : Room).slots) := by
 refine MetFree.of_bodySF (plainFor_of_name pn_50) hisR ?_
 intro p e s m args below meth c s₁ Bd hml0 hP hK
 obtain ⟨rfl, hZ, hh⟩ := hP
 have hx := Bd.exec
 have hby := Bd.bytes
 have hml : c.maxLocals = 4 := hml0
 have hown : s.vm.findClass "com/example/restate/restate/MarkerStyleOpenedByPinLaw" = some m.cls := findClass_of_methodNamed Bd.named
 have hnm := (name_of_methodNamed Bd.named Bd.method).1
 have X0 : Stand p l e ({ frames := 4, cells := 3, slots := 6, locals := 66 } : Room) s m #[(.int 1), (.int c0), (.int c1), (.int c2)] below meth c s₁ [] 0 0 := Stand.of_body Bd
 have e0 : s₁.heap = h0 := by rw [← hh, Bd.state]; rfl
 have N0 := Fr.nil n0
 refine own_go (B := s₁.setTop (mkF m 0 #[.val (.int 1), .val (.int c0), .val (.int c1), .val (.int c2)] [])) (fun t k => castTop (ef_2_1 m c0 c1 c2) k) ?_
 refine own_go (B := s₁.setTop (mkF m 20 #[.val (.int 1), .val (.int c0), .val (.int c1), .val (.int c2)] [])) (fun t k => ?_) ?_
 ·refine XS.iloadN X0.here hx rfl (hb hby d2_0) rfl ?_
  show Steps p.tables e below (s₁.setTop (mkF m 1 #[.val (.int 1), .val (.int c0), .val (.int c1), .val (.int c2)] [(.int 1)])) _
  refine XS.ifYes X0.here hx rfl (pc0 := 1) (pc' := 15) rfl (hb hby d2_1) rfl ((if0 _ _).trans (feq (by decide : ¬ ((1 : Int32) = (0 : Int32)))).2) (by decide) (by decide) ?_
  show Steps p.tables e below (s₁.setTop (mkF m 15 #[.val (.int 1), .val (.int c0), .val (.int c1), .val (.int c2)] [])) _
  refine XS.iloadN X0.here hx rfl (hb hby d2_15) rfl ?_
  show Steps p.tables e below (s₁.setTop (mkF m 16 #[.val (.int 1), .val (.int c0), .val (.int c1), .val (.int c2)] [(.int 1)])) _
  refine XS.iconst X0.here hx rfl (hb hby d2_16) ?_
  show Steps p.tables e below (s₁.setTop (mkF m 17 #[.val (.int 1), .val (.int c0), .val (.int c1), .val (.int c2)] [(.int 1), (.int 1)])) _
  refine XS.icmpNo X0.here hx rfl (hb hby d2_17) rfl (teq (by decide : (1 : Int32) = (1 : Int32))).2 ?_
  show Steps p.tables e below (s₁.setTop (mkF m 20 #[.val (.int 1), .val (.int c0), .val (.int c1), .val (.int c2)] [])) _
  exact k
 obtain ⟨T167, h167, X167, e167, E167, A167, D167, -, st167⟩ := newO X0 hx hZ hown (hw _ (List.mem_of_getElem? (i := 8) rfl)) (hw _ (List.mem_of_getElem? (i := 9) rfl)) (hw _ (List.mem_of_getElem? (i := 10) rfl)) e0 (g := (mkF m 20 #[.val (.int 1), .val (.int c0), .val (.int c1), .val (.int c2)] [])) rfl (hb hby d2_20) (by decide) (by decide)
 obtain ⟨b167, g167⟩ : ∃ z, z = h0.size := ⟨_, rfl⟩
 rw [← g167] at A167 D167 st167
 refine own_go st167 ?_
 have K167 : Keep h0 h167 [] := Keep.ext (Keep.refl h0 []) E167
 have F167_23 : Fld Z h167 b167 "java/lang/String" "value" "[B" .null := D167 (Or.inr (hw _ (List.mem_of_getElem? (i := 23) rfl))) (ty := (.array .byte)) (by decide)
 have F167_24 : Fld Z h167 b167 "java/lang/String" "coder" "B" (.int 0) := D167 (Or.inr (hw _ (List.mem_of_getElem? (i := 24) rfl))) (ty := .byte) (by decide)
 refine own_go (B := T167.setTop (mkF m 25 #[.val (.int 1), .val (.int c0), .val (.int c1), .val (.int c2)] [(.int 1), (.ref b167), (.ref b167)])) (fun t k => ?_) ?_
 ·refine XS.dup X167.here hx rfl (hb hby d2_23) rfl rfl ?_
  show Steps p.tables e below (T167.setTop (mkF m 24 #[.val (.int 1), .val (.int c0), .val (.int c1), .val (.int c2)] [(.ref b167), (.ref b167)])) _
  refine XS.iconst X167.here hx rfl (hb hby d2_24) ?_
  show Steps p.tables e below (T167.setTop (mkF m 25 #[.val (.int 1), .val (.int c0), .val (.int c1), .val (.int c2)] [(.int 1), (.ref b167), (.ref b167)])) _
  exact k
 obtain ⟨T168, h168, k168, X168, e168, E168, A168, st168⟩ := newP X167 hx hZ (hw _ (List.mem_of_getElem? (i := 4) rfl)) e167 (g := (mkF m 25 #[.val (.int 1), .val (.int c0), .val (.int c1), .val (.int c2)] [(.int 1), (.ref b167), (.ref b167)])) rfl (hb hby d2_25) rfl (by decide) (cap := 1) (by decide) (by decide) (by decide) (by decide)
 obtain ⟨b168, g168⟩ : ∃ z, z = h167.size := ⟨_, rfl⟩
 rw [← g168] at A168 st168
 refine own_go st168 ?_
 have K168 : Keep h0 h168 [] := Keep.ext K167 E168
 have V168 : Arv Z h168 b168 k168 .char (1 : Int32) [(.int 0)] (.int 0) := (Arv.new A168 (by decide)).pad (pad_rep [] (.int 0) 1)
 refine own_go (B := T168.setTop (mkF m 30 #[.val (.int 1), .val (.int c0), .val (.int c1), .val (.int c2)] [(.int c0), (.int 0), (.ref b168), (.ref b168), (.ref b167), (.ref b167)])) (fun t k => ?_) ?_
 ·refine XS.dup X168.here hx rfl (hb hby d2_27) rfl rfl ?_
  show Steps p.tables e below (T168.setTop (mkF m 28 #[.val (.int 1), .val (.int c0), .val (.int c1), .val (.int c2)] [(.ref b168), (.ref b168), (.ref b167), (.ref b167)])) _
  refine XS.iconst X168.here hx rfl (hb hby d2_28) ?_
  show Steps p.tables e below (T168.setTop (mkF m 29 #[.val (.int 1), .val (.int c0), .val (.int c1), .val (.int c2)] [(.int 0), (.ref b168), (.ref b168), (.ref b167), (.ref b167)])) _
  refine XS.iloadN X168.here hx rfl (hb hby d2_29) rfl ?_
  show Steps p.tables e below (T168.setTop (mkF m 30 #[.val (.int 1), .val (.int c0), .val (.int c1), .val (.int c2)] [(.int c0), (.int 0), (.ref b168), (.ref b168), (.ref b167), (.ref b167)])) _
  exact k
 obtain ⟨cl169, Ar169, cq169, cS169, cN169, cH169, cG169⟩ := id V168
 have hin169 := inb_of (j := (0 : Int32)) cS169 ⟨by decide, by decide⟩
 obtain ⟨T169, h169, X169, e169, W169, st169⟩ := stC X168 hx hZ e168 Ar169 (j := (0 : Int32)) hin169 (g := (mkF m 30 #[.val (.int 1), .val (.int c0), .val (.int c1), .val (.int c2)] [(.int c0), (.int 0), (.ref b168), (.ref b168), (.ref b167), (.ref b167)])) rfl rfl (hb hby d2_30)
 refine own_go st169 ?_
 have V169 : Arv Z h169 b168 k168 .char (1 : Int32) [(.int c0)] (.int 0) := by have q := Arv.set Ar169 cq169 cS169 cN169 cH169 cG169 (fits_nar_char _) W169 0 rfl (Nat.le_of_ble_eq_true rfl); rw [own_narC c0 hc0] at q; exact q
 have K169 : Keep h0 h169 [] := Keep.wr K168 W169 (Or.inr (Nat.le_trans E167.1 (Nat.le_of_eq g168.symm)))
 have N169 := Fr.snoc X169 N0 (Nat.le_trans (Nat.le_trans Z0 E167.1) (Nat.le_of_eq g168.symm))
 have f171 : Exa Z h169 b167 "java/lang/String" := ((A167.ext E168).wr W169)
 have ne172 : b167 ≠ b168 := (Nat.ne_of_lt (Nat.lt_of_lt_of_le A167.lt (Nat.le_of_eq g168.symm)))
 have f173 : Fld Z h169 b167 "java/lang/String" "value" "[B" .null := ((F167_23.ext E168).other W169 (Or.inl ne172))
 have f174 : Fld Z h169 b167 "java/lang/String" "coder" "B" (.int 0) := ((F167_24.ext E168).other W169 (Or.inl ne172))
 have f175 : Sta Z h169 "java/lang/String" "COMPACT_STRINGS" "Z" (.int w_COMPACT_STRINGS) := (((S_COMPACT_STRINGS.ext E167).ext E168).wr W169)
 have le176 : h0.size ≤ h169.size := (Nat.le_trans (Nat.le_trans E167.1 E168.1) (Nat.le_of_eq (Wr.size W169).symm))
 obtain ⟨_, _, ⟨T170, L170, k170, n170⟩, -, X170, ⟨Lc170, hQ170, l170, y170, z170⟩, st170⟩ := X169.specialBack hx (y := (⟨"java/lang/String", "<init>", "([C)V"⟩ : MethodName)) rfl hown (mvT hZ (hw _ (List.mem_of_getElem? (i := 11) rfl))) (mvT hZ (hw _ (List.mem_of_getElem? (i := 12) rfl))) (mvT hZ (hw _ (List.mem_of_getElem? (i := 13) rfl))) (by decide) (backOf (W := 1) (rm3_1 l Z a0 hw [] b167 b168 w_COMPACT_STRINGS k168 c0 h169 n0 (Nat.le_trans Z0 le176) f171 f173 f174 (Nat.le_trans Z0 (Nat.le_of_eq g167.symm)) f175 (N_COMPACT_STRINGS) V169 (hc0)) hZ (hw _ (List.mem_of_getElem? (i := 13) rfl)) (hw _ (List.mem_of_getElem? (i := 10) rfl)) (by decide) (by decide)) (g := (mkF m 31 #[.val (.int 1), .val (.int c0), .val (.int c1), .val (.int c2)] [(.ref b168), (.ref b167), (.ref b167)])) rfl (by rw [hml]; rfl) (Steps.refl _) (a := b167) (argsL := [(.ref b168)]) (rest := [(.ref b167)]) (lenOf pd_4 rfl) rfl (by show 2 * 0 + _ ≤ _; exact Nat.le_of_eq rfl) (hb hby d2_31) (fun _ _ => ⟨rfl, e169, (by decide : 2 + 1 ≤ _), (by decide : 5 + 1 ≤ _)⟩)
 dsimp only [Pt.U, Pt.locs, Pt.cells, Pt.slots] at X170 l170 y170 z170 st170 hQ170
 subst l170 y170 z170
 obtain ⟨bn_170, kn_170, rfl, M170, q170_0, q170_1, q170_2, q170_3, q170_4, q170_5⟩ := hQ170
 have N170 := Fr.app N169 M170
 have K170 : Keep h0 T170.heap [] := Keep.trans K169 q170_0 (allS (Or.inr (Nat.le_of_eq g167.symm)) all0)
 refine own_go (fun t k => st170.trans k) ?_
 obtain ⟨fs, hr, hrun, hended, hW, hsame⟩ := X170.leave (v := some (.ref b167)) (fun h => by rw [Bd.returns] at h; cases h)
 refine ⟨_, _, ?_, hrun, hended, _, _, rfl, ?_, ⟨_, rfl⟩, hW, hsame.mono (by decide) (by decide)⟩
 ·exact own_retR X170 hx Bd.returns rfl rfl (hb hby d2_34) hr
 ·show Q2_1 Z c0 c1 c2 w_COMPACT_STRINGS h0 n0 _ T170.heap _
  exact ⟨b167, bn_170, kn_170, rfl, N170, K170, (Nat.le_of_eq g167.symm), q170_2, q170_3, q170_4, q170_5⟩
theorem d2_35 : decode method_3_code 35 = .ok (.iload_n 0, 1) := by decide +kernel
theorem d2_36 : decode method_3_code 36 = .ok (.iconst 2, 1) := by decide +kernel
theorem d2_37 : decode method_3_code 37 = .ok (.if_icmp .ne 22, 3) := by decide +kernel
theorem d2_40 : decode method_3_code 40 = .ok (.new 7, 3) := by decide +kernel
theorem d2_43 : decode method_3_code 43 = .ok (.dup, 1) := by decide +kernel
theorem d2_44 : decode method_3_code 44 = .ok (.iconst 2, 1) := by decide +kernel
theorem d2_45 : decode method_3_code 45 = .ok (.newarray .char, 2) := by decide +kernel
theorem d2_47 : decode method_3_code 47 = .ok (.dup, 1) := by decide +kernel
theorem d2_48 : decode method_3_code 48 = .ok (.iconst 0, 1) := by decide +kernel
theorem d2_49 : decode method_3_code 49 = .ok (.iload_n 1, 1) := by decide +kernel
theorem d2_50 : decode method_3_code 50 = .ok (.castore, 1) := by decide +kernel
theorem d2_51 : decode method_3_code 51 = .ok (.dup, 1) := by decide +kernel
theorem d2_52 : decode method_3_code 52 = .ok (.iconst 1, 1) := by decide +kernel
theorem d2_53 : decode method_3_code 53 = .ok (.iload_n 2, 1) := by decide +kernel
theorem d2_54 : decode method_3_code 54 = .ok (.castore, 1) := by decide +kernel
theorem d2_55 : decode method_3_code 55 = .ok (.invokespecial 9, 3) := by decide +kernel
theorem d2_58 : decode method_3_code 58 = .ok (.areturn, 1) := by decide +kernel
theorem ef_2_2 (m : MethodId) (c0 : Int32) (c1 : Int32) (c2 : Int32) : entryFrame m #[(.int 2), (.int c0), (.int c1), (.int c2)] 4 = mkF m 0 #[.val (.int 2), .val (.int c0), .val (.int c1), .val (.int c2)] [] := by first | (simp [entryFrame, mkF, argsToLocals, Value.category]; done) | rfl
def Q2_2 (Z : State) (c0 : Int32) (c1 : Int32) (c2 : Int32) (w_COMPACT_STRINGS : Int32) (h0 : Heap) (n0 : Nat) (v : Option Value) (h : Heap) (L : List Loc) : Prop := ∃ (sb : Addr) (bn : Addr) (kn : ClassId), v = some (.ref sb) ∧ Fr n0 L ∧ Keep h0 h [] ∧ h0.size ≤ sb ∧ Exa Z h sb "java/lang/String" ∧ Fld Z h sb "java/lang/String" "coder" "B" (.int 0) ∧ Fld Z h sb "java/lang/String" "value" "[B" (.ref bn) ∧ Arv Z h bn kn .byte (2 : Int32) [(.int (c0.toInt8.toInt32)), (.int (c1.toInt8.toInt32))] (.int 0)
set_option maxRecDepth 65536 in
set_option maxHeartbeats 40000000 in
theorem rm2_2 (l : Launch) (Z : State) (a0 : Array Value) (hw : ∀ d ∈ tables_1, d.before a0 Z = true) (ws : List Jvm.Cond) (c0 : Int32) (c1 : Int32) (c2 : Int32) (w_COMPACT_STRINGS : Int32) (h0 : Heap) (n0 : Nat) (Z0 : n0 ≤ h0.size) (S_COMPACT_STRINGS : Sta Z h0 "java/lang/String" "COMPACT_STRINGS" "Z" (.int w_COMPACT_STRINGS)) (N_COMPACT_STRINGS : ¬ w_COMPACT_STRINGS = (0 : Int32)) (hc0 : 0 ≤ c0.toInt ∧ c0.toInt ≤ 255) (hc1 : 0 ≤ c1.toInt ∧ c1.toInt ≤ 255) (hc2 : 0 ≤ c2.toInt ∧ c2.toInt ≤ 255) :
  MetFree l (⟨"com/example/restate/restate/MarkerStyleOpenedByPinLaw", "text", "(ICCC)Ljava/lang/String;"⟩ : MethodName) (head1 (Jvm.Cond.code (⟨"com/example/restate/restate/MarkerStyleOpenedByPinLaw", "text", "(ICCC)Ljava/lang/String;"⟩ : MethodName) method_3_code 4 (some (.object "java/lang/String")) :: ws) ({ frames := 4, cells := 3, slots := 8, locals := 66 } : Room)) (fun a U => a = #[(.int 2), (.int c0), (.int c1), (.int c2)] ∧ Z.Warmed39 U.vm ∧ U.heap = h0) (fun _ _ _ _ _ => True) (fun _ U o U' => ∃ v L, o = .returned v ∧ Q2_2 Z c0 c1 c2 w_COMPACT_STRINGS h0 n0 v U'.heap L ∧ FrameEnd U o U' L ({ frames := 4, cells := 3, slots := 8, locals := 66 } : Room).cells ({ frames := 4, cells := 3, slots := 8, locals := 66 } : Room).slots) := by
 refine MetFree.of_bodySF (plainFor_of_name pn_50) hisR ?_
 intro p e s m args below meth c s₁ Bd hml0 hP hK
 obtain ⟨rfl, hZ, hh⟩ := hP
 have hx := Bd.exec
 have hby := Bd.bytes
 have hml : c.maxLocals = 4 := hml0
 have hown : s.vm.findClass "com/example/restate/restate/MarkerStyleOpenedByPinLaw" = some m.cls := findClass_of_methodNamed Bd.named
 have hnm := (name_of_methodNamed Bd.named Bd.method).1
 have X0 : Stand p l e ({ frames := 4, cells := 3, slots := 8, locals := 66 } : Room) s m #[(.int 2), (.int c0), (.int c1), (.int c2)] below meth c s₁ [] 0 0 := Stand.of_body Bd
 have e0 : s₁.heap = h0 := by rw [← hh, Bd.state]; rfl
 have N0 := Fr.nil n0
 refine own_go (B := s₁.setTop (mkF m 0 #[.val (.int 2), .val (.int c0), .val (.int c1), .val (.int c2)] [])) (fun t k => castTop (ef_2_2 m c0 c1 c2) k) ?_
 refine own_go (B := s₁.setTop (mkF m 40 #[.val (.int 2), .val (.int c0), .val (.int c1), .val (.int c2)] [])) (fun t k => ?_) ?_
 ·refine XS.iloadN X0.here hx rfl (hb hby d2_0) rfl ?_
  show Steps p.tables e below (s₁.setTop (mkF m 1 #[.val (.int 2), .val (.int c0), .val (.int c1), .val (.int c2)] [(.int 2)])) _
  refine XS.ifYes X0.here hx rfl (pc0 := 1) (pc' := 15) rfl (hb hby d2_1) rfl ((if0 _ _).trans (feq (by decide : ¬ ((2 : Int32) = (0 : Int32)))).2) (by decide) (by decide) ?_
  show Steps p.tables e below (s₁.setTop (mkF m 15 #[.val (.int 2), .val (.int c0), .val (.int c1), .val (.int c2)] [])) _
  refine XS.iloadN X0.here hx rfl (hb hby d2_15) rfl ?_
  show Steps p.tables e below (s₁.setTop (mkF m 16 #[.val (.int 2), .val (.int c0), .val (.int c1), .val (.int c2)] [(.int 2)])) _
  refine XS.iconst X0.here hx rfl (hb hby d2_16) ?_
  show Steps p.tables e below (s₁.setTop (mkF m 17 #[.val (.int 2), .val (.int c0), .val (.int c1), .val (.int c2)] [(.int 1), (.int 2)])) _
  refine XS.icmpYes X0.here hx rfl (pc0 := 17) (pc' := 35) rfl (hb hby d2_17) rfl (feq (by decide : ¬ ((2 : Int32) = (1 : Int32)))).2 (by decide) (by decide) ?_
  show Steps p.tables e below (s₁.setTop (mkF m 35 #[.val (.int 2), .val (.int c0), .val (.int c1), .val (.int c2)] [])) _
  refine XS.iloadN X0.here hx rfl (hb hby d2_35) rfl ?_
  show Steps p.tables e below (s₁.setTop (mkF m 36 #[.val (.int 2), .val (.int c0), .val (.int c1), .val (.int c2)] [(.int 2)])) _
  refine XS.iconst X0.here hx rfl (hb hby d2_36) ?_
  show Steps p.tables e below (s₁.setTop (mkF m 37 #[.val (.int 2), .val (.int c0), .val (.int c1), .val (.int c2)] [(.int 2), (.int 2)])) _
  refine XS.icmpNo X0.here hx rfl (hb hby d2_37) rfl (teq (by decide : (2 : Int32) = (2 : Int32))).2 ?_
  show Steps p.tables e below (s₁.setTop (mkF m 40 #[.val (.int 2), .val (.int c0), .val (.int c1), .val (.int c2)] [])) _
  exact k
 obtain ⟨T178, h178, X178, e178, E178, A178, D178, -, st178⟩ := newO X0 hx hZ hown (hw _ (List.mem_of_getElem? (i := 8) rfl)) (hw _ (List.mem_of_getElem? (i := 9) rfl)) (hw _ (List.mem_of_getElem? (i := 10) rfl)) e0 (g := (mkF m 40 #[.val (.int 2), .val (.int c0), .val (.int c1), .val (.int c2)] [])) rfl (hb hby d2_40) (by decide) (by decide)
 obtain ⟨b178, g178⟩ : ∃ z, z = h0.size := ⟨_, rfl⟩
 rw [← g178] at A178 D178 st178
 refine own_go st178 ?_
 have K178 : Keep h0 h178 [] := Keep.ext (Keep.refl h0 []) E178
 have F178_23 : Fld Z h178 b178 "java/lang/String" "value" "[B" .null := D178 (Or.inr (hw _ (List.mem_of_getElem? (i := 23) rfl))) (ty := (.array .byte)) (by decide)
 have F178_24 : Fld Z h178 b178 "java/lang/String" "coder" "B" (.int 0) := D178 (Or.inr (hw _ (List.mem_of_getElem? (i := 24) rfl))) (ty := .byte) (by decide)
 refine own_go (B := T178.setTop (mkF m 45 #[.val (.int 2), .val (.int c0), .val (.int c1), .val (.int c2)] [(.int 2), (.ref b178), (.ref b178)])) (fun t k => ?_) ?_
 ·refine XS.dup X178.here hx rfl (hb hby d2_43) rfl rfl ?_
  show Steps p.tables e below (T178.setTop (mkF m 44 #[.val (.int 2), .val (.int c0), .val (.int c1), .val (.int c2)] [(.ref b178), (.ref b178)])) _
  refine XS.iconst X178.here hx rfl (hb hby d2_44) ?_
  show Steps p.tables e below (T178.setTop (mkF m 45 #[.val (.int 2), .val (.int c0), .val (.int c1), .val (.int c2)] [(.int 2), (.ref b178), (.ref b178)])) _
  exact k
 obtain ⟨T179, h179, k179, X179, e179, E179, A179, st179⟩ := newP X178 hx hZ (hw _ (List.mem_of_getElem? (i := 4) rfl)) e178 (g := (mkF m 45 #[.val (.int 2), .val (.int c0), .val (.int c1), .val (.int c2)] [(.int 2), (.ref b178), (.ref b178)])) rfl (hb hby d2_45) rfl (by decide) (cap := 2) (by decide) (by decide) (by decide) (by decide)
 obtain ⟨b179, g179⟩ : ∃ z, z = h178.size := ⟨_, rfl⟩
 rw [← g179] at A179 st179
 refine own_go st179 ?_
 have K179 : Keep h0 h179 [] := Keep.ext K178 E179
 have V179 : Arv Z h179 b179 k179 .char (2 : Int32) [(.int 0), (.int 0)] (.int 0) := (Arv.new A179 (by decide)).pad (pad_rep [] (.int 0) 2)
 refine own_go (B := T179.setTop (mkF m 50 #[.val (.int 2), .val (.int c0), .val (.int c1), .val (.int c2)] [(.int c0), (.int 0), (.ref b179), (.ref b179), (.ref b178), (.ref b178)])) (fun t k => ?_) ?_
 ·refine XS.dup X179.here hx rfl (hb hby d2_47) rfl rfl ?_
  show Steps p.tables e below (T179.setTop (mkF m 48 #[.val (.int 2), .val (.int c0), .val (.int c1), .val (.int c2)] [(.ref b179), (.ref b179), (.ref b178), (.ref b178)])) _
  refine XS.iconst X179.here hx rfl (hb hby d2_48) ?_
  show Steps p.tables e below (T179.setTop (mkF m 49 #[.val (.int 2), .val (.int c0), .val (.int c1), .val (.int c2)] [(.int 0), (.ref b179), (.ref b179), (.ref b178), (.ref b178)])) _
  refine XS.iloadN X179.here hx rfl (hb hby d2_49) rfl ?_
  show Steps p.tables e below (T179.setTop (mkF m 50 #[.val (.int 2), .val (.int c0), .val (.int c1), .val (.int c2)] [(.int c0), (.int 0), (.ref b179), (.ref b179), (.ref b178), (.ref b178)])) _
  exact k
 obtain ⟨cl180, Ar180, cq180, cS180, cN180, cH180, cG180⟩ := id V179
 have hin180 := inb_of (j := (0 : Int32)) cS180 ⟨by decide, by decide⟩
 obtain ⟨T180, h180, X180, e180, W180, st180⟩ := stC X179 hx hZ e179 Ar180 (j := (0 : Int32)) hin180 (g := (mkF m 50 #[.val (.int 2), .val (.int c0), .val (.int c1), .val (.int c2)] [(.int c0), (.int 0), (.ref b179), (.ref b179), (.ref b178), (.ref b178)])) rfl rfl (hb hby d2_50)
 refine own_go st180 ?_
 have V180 : Arv Z h180 b179 k179 .char (2 : Int32) [(.int c0), (.int 0)] (.int 0) := by have q := Arv.set Ar180 cq180 cS180 cN180 cH180 cG180 (fits_nar_char _) W180 0 rfl (Nat.le_of_ble_eq_true rfl); rw [own_narC c0 hc0] at q; exact q
 have K180 : Keep h0 h180 [] := Keep.wr K179 W180 (Or.inr (Nat.le_trans E178.1 (Nat.le_of_eq g179.symm)))
 have N180 := Fr.snoc X180 N0 (Nat.le_trans (Nat.le_trans Z0 E178.1) (Nat.le_of_eq g179.symm))
 refine own_go (B := T180.setTop (mkF m 54 #[.val (.int 2), .val (.int c0), .val (.int c1), .val (.int c2)] [(.int c1), (.int 1), (.ref b179), (.ref b179), (.ref b178), (.ref b178)])) (fun t k => ?_) ?_
 ·refine XS.dup X180.here hx rfl (hb hby d2_51) rfl rfl ?_
  show Steps p.tables e below (T180.setTop (mkF m 52 #[.val (.int 2), .val (.int c0), .val (.int c1), .val (.int c2)] [(.ref b179), (.ref b179), (.ref b178), (.ref b178)])) _
  refine XS.iconst X180.here hx rfl (hb hby d2_52) ?_
  show Steps p.tables e below (T180.setTop (mkF m 53 #[.val (.int 2), .val (.int c0), .val (.int c1), .val (.int c2)] [(.int 1), (.ref b179), (.ref b179), (.ref b178), (.ref b178)])) _
  refine XS.iloadN X180.here hx rfl (hb hby d2_53) rfl ?_
  show Steps p.tables e below (T180.setTop (mkF m 54 #[.val (.int 2), .val (.int c0), .val (.int c1), .val (.int c2)] [(.int c1), (.int 1), (.ref b179), (.ref b179), (.ref b178), (.ref b178)])) _
  exact k
 obtain ⟨cl181, Ar181, cq181, cS181, cN181, cH181, cG181⟩ := id V180
 have hin181 := inb_of (j := (1 : Int32)) cS181 ⟨by decide, by decide⟩
 obtain ⟨T181, h181, X181, e181, W181, st181⟩ := stC X180 hx hZ e180 Ar181 (j := (1 : Int32)) hin181 (g := (mkF m 54 #[.val (.int 2), .val (.int c0), .val (.int c1), .val (.int c2)] [(.int c1), (.int 1), (.ref b179), (.ref b179), (.ref b178), (.ref b178)])) rfl rfl (hb hby d2_54)
 refine own_go st181 ?_
 have V181 : Arv Z h181 b179 k179 .char (2 : Int32) [(.int c0), (.int c1)] (.int 0) := by have q := Arv.set Ar181 cq181 cS181 cN181 cH181 cG181 (fits_nar_char _) W181 1 rfl (Nat.le_of_ble_eq_true rfl); rw [own_narC c1 hc1] at q; exact q
 have K181 : Keep h0 h181 [] := Keep.wr K180 W181 (Or.inr (Nat.le_trans E178.1 (Nat.le_of_eq g179.symm)))
 have N181 := Fr.snoc X181 N180 (Nat.le_trans (Nat.le_trans Z0 E178.1) (Nat.le_of_eq g179.symm))
 have f183 : Exa Z h181 b178 "java/lang/String" := (((A178.ext E179).wr W180).wr W181)
 have ne184 : b178 ≠ b179 := (Nat.ne_of_lt (Nat.lt_of_lt_of_le A178.lt (Nat.le_of_eq g179.symm)))
 have f185 : Fld Z h181 b178 "java/lang/String" "value" "[B" .null := (((F178_23.ext E179).other W180 (Or.inl ne184)).other W181 (Or.inl ne184))
 have f186 : Fld Z h181 b178 "java/lang/String" "coder" "B" (.int 0) := (((F178_24.ext E179).other W180 (Or.inl ne184)).other W181 (Or.inl ne184))
 have f187 : Sta Z h181 "java/lang/String" "COMPACT_STRINGS" "Z" (.int w_COMPACT_STRINGS) := ((((S_COMPACT_STRINGS.ext E178).ext E179).wr W180).wr W181)
 have le188 : h0.size ≤ h181.size := (Nat.le_trans (Nat.le_trans (Nat.le_trans E178.1 E179.1) (Nat.le_of_eq (Wr.size W180).symm)) (Nat.le_of_eq (Wr.size W181).symm))
 obtain ⟨_, _, ⟨T182, L182, k182, n182⟩, -, X182, ⟨Lc182, hQ182, l182, y182, z182⟩, st182⟩ := X181.specialBack hx (y := (⟨"java/lang/String", "<init>", "([C)V"⟩ : MethodName)) rfl hown (mvT hZ (hw _ (List.mem_of_getElem? (i := 11) rfl))) (mvT hZ (hw _ (List.mem_of_getElem? (i := 12) rfl))) (mvT hZ (hw _ (List.mem_of_getElem? (i := 13) rfl))) (by decide) (backOf (W := 1) (rm3_2 l Z a0 hw [] b178 b179 w_COMPACT_STRINGS k179 c0 c1 h181 n0 (Nat.le_trans Z0 le188) f183 f185 f186 (Nat.le_trans Z0 (Nat.le_of_eq g178.symm)) f187 (N_COMPACT_STRINGS) V181 (hc0) (hc1)) hZ (hw _ (List.mem_of_getElem? (i := 13) rfl)) (hw _ (List.mem_of_getElem? (i := 10) rfl)) (by decide) (by decide)) (g := (mkF m 55 #[.val (.int 2), .val (.int c0), .val (.int c1), .val (.int c2)] [(.ref b179), (.ref b178), (.ref b178)])) rfl (by rw [hml]; rfl) (Steps.refl _) (a := b178) (argsL := [(.ref b179)]) (rest := [(.ref b178)]) (lenOf pd_4 rfl) rfl (by show 2 * 0 + _ ≤ _; exact Nat.le_of_eq rfl) (hb hby d2_55) (fun _ _ => ⟨rfl, e181, (by decide : 2 + 1 ≤ _), (by decide : 6 + 2 ≤ _)⟩)
 dsimp only [Pt.U, Pt.locs, Pt.cells, Pt.slots] at X182 l182 y182 z182 st182 hQ182
 subst l182 y182 z182
 obtain ⟨bn_182, kn_182, rfl, M182, q182_0, q182_1, q182_2, q182_3, q182_4, q182_5⟩ := hQ182
 have N182 := Fr.app N181 M182
 have K182 : Keep h0 T182.heap [] := Keep.trans K181 q182_0 (allS (Or.inr (Nat.le_of_eq g178.symm)) all0)
 refine own_go (fun t k => st182.trans k) ?_
 obtain ⟨fs, hr, hrun, hended, hW, hsame⟩ := X182.leave (v := some (.ref b178)) (fun h => by rw [Bd.returns] at h; cases h)
 refine ⟨_, _, ?_, hrun, hended, _, _, rfl, ?_, ⟨_, rfl⟩, hW, hsame.mono (by decide) (by decide)⟩
 ·exact own_retR X182 hx Bd.returns rfl rfl (hb hby d2_58) hr
 ·show Q2_2 Z c0 c1 c2 w_COMPACT_STRINGS h0 n0 _ T182.heap _
  exact ⟨b178, bn_182, kn_182, rfl, N182, K182, (Nat.le_of_eq g178.symm), q182_2, q182_3, q182_4, q182_5⟩
theorem d2_59 : decode method_3_code 59 = .ok (.new 7, 3) := by decide +kernel
theorem d2_62 : decode method_3_code 62 = .ok (.dup, 1) := by decide +kernel
theorem d2_63 : decode method_3_code 63 = .ok (.iconst 3, 1) := by decide +kernel
theorem d2_64 : decode method_3_code 64 = .ok (.newarray .char, 2) := by decide +kernel
theorem d2_66 : decode method_3_code 66 = .ok (.dup, 1) := by decide +kernel
theorem d2_67 : decode method_3_code 67 = .ok (.iconst 0, 1) := by decide +kernel
theorem d2_68 : decode method_3_code 68 = .ok (.iload_n 1, 1) := by decide +kernel
theorem d2_69 : decode method_3_code 69 = .ok (.castore, 1) := by decide +kernel
theorem d2_70 : decode method_3_code 70 = .ok (.dup, 1) := by decide +kernel
theorem d2_71 : decode method_3_code 71 = .ok (.iconst 1, 1) := by decide +kernel
theorem d2_72 : decode method_3_code 72 = .ok (.iload_n 2, 1) := by decide +kernel
theorem d2_73 : decode method_3_code 73 = .ok (.castore, 1) := by decide +kernel
theorem d2_74 : decode method_3_code 74 = .ok (.dup, 1) := by decide +kernel
theorem d2_75 : decode method_3_code 75 = .ok (.iconst 2, 1) := by decide +kernel
theorem d2_76 : decode method_3_code 76 = .ok (.iload_n 3, 1) := by decide +kernel
theorem d2_77 : decode method_3_code 77 = .ok (.castore, 1) := by decide +kernel
theorem d2_78 : decode method_3_code 78 = .ok (.invokespecial 9, 3) := by decide +kernel
theorem d2_81 : decode method_3_code 81 = .ok (.areturn, 1) := by decide +kernel
theorem ef_2_3 (m : MethodId) (c0 : Int32) (c1 : Int32) (c2 : Int32) : entryFrame m #[(.int 3), (.int c0), (.int c1), (.int c2)] 4 = mkF m 0 #[.val (.int 3), .val (.int c0), .val (.int c1), .val (.int c2)] [] := by first | (simp [entryFrame, mkF, argsToLocals, Value.category]; done) | rfl
def Q2_3 (Z : State) (c0 : Int32) (c1 : Int32) (c2 : Int32) (w_COMPACT_STRINGS : Int32) (h0 : Heap) (n0 : Nat) (v : Option Value) (h : Heap) (L : List Loc) : Prop := ∃ (sb : Addr) (bn : Addr) (kn : ClassId), v = some (.ref sb) ∧ Fr n0 L ∧ Keep h0 h [] ∧ h0.size ≤ sb ∧ Exa Z h sb "java/lang/String" ∧ Fld Z h sb "java/lang/String" "coder" "B" (.int 0) ∧ Fld Z h sb "java/lang/String" "value" "[B" (.ref bn) ∧ Arv Z h bn kn .byte (3 : Int32) [(.int (c0.toInt8.toInt32)), (.int (c1.toInt8.toInt32)), (.int (c2.toInt8.toInt32))] (.int 0)
set_option maxRecDepth 65536 in
set_option maxHeartbeats 40000000 in
theorem rm2_3 (l : Launch) (Z : State) (a0 : Array Value) (hw : ∀ d ∈ tables_1, d.before a0 Z = true) (ws : List Jvm.Cond) (c0 : Int32) (c1 : Int32) (c2 : Int32) (w_COMPACT_STRINGS : Int32) (h0 : Heap) (n0 : Nat) (Z0 : n0 ≤ h0.size) (S_COMPACT_STRINGS : Sta Z h0 "java/lang/String" "COMPACT_STRINGS" "Z" (.int w_COMPACT_STRINGS)) (N_COMPACT_STRINGS : ¬ w_COMPACT_STRINGS = (0 : Int32)) (hc0 : 0 ≤ c0.toInt ∧ c0.toInt ≤ 255) (hc1 : 0 ≤ c1.toInt ∧ c1.toInt ≤ 255) (hc2 : 0 ≤ c2.toInt ∧ c2.toInt ≤ 255) :
  MetFree l (⟨"com/example/restate/restate/MarkerStyleOpenedByPinLaw", "text", "(ICCC)Ljava/lang/String;"⟩ : MethodName) (head1 (Jvm.Cond.code (⟨"com/example/restate/restate/MarkerStyleOpenedByPinLaw", "text", "(ICCC)Ljava/lang/String;"⟩ : MethodName) method_3_code 4 (some (.object "java/lang/String")) :: ws) ({ frames := 4, cells := 3, slots := 10, locals := 66 } : Room)) (fun a U => a = #[(.int 3), (.int c0), (.int c1), (.int c2)] ∧ Z.Warmed39 U.vm ∧ U.heap = h0) (fun _ _ _ _ _ => True) (fun _ U o U' => ∃ v L, o = .returned v ∧ Q2_3 Z c0 c1 c2 w_COMPACT_STRINGS h0 n0 v U'.heap L ∧ FrameEnd U o U' L ({ frames := 4, cells := 3, slots := 10, locals := 66 } : Room).cells ({ frames := 4, cells := 3, slots := 10, locals := 66 } : Room).slots) := by
 refine MetFree.of_bodySF (plainFor_of_name pn_50) hisR ?_
 intro p e s m args below meth c s₁ Bd hml0 hP hK
 obtain ⟨rfl, hZ, hh⟩ := hP
 have hx := Bd.exec
 have hby := Bd.bytes
 have hml : c.maxLocals = 4 := hml0
 have hown : s.vm.findClass "com/example/restate/restate/MarkerStyleOpenedByPinLaw" = some m.cls := findClass_of_methodNamed Bd.named
 have hnm := (name_of_methodNamed Bd.named Bd.method).1
 have X0 : Stand p l e ({ frames := 4, cells := 3, slots := 10, locals := 66 } : Room) s m #[(.int 3), (.int c0), (.int c1), (.int c2)] below meth c s₁ [] 0 0 := Stand.of_body Bd
 have e0 : s₁.heap = h0 := by rw [← hh, Bd.state]; rfl
 have N0 := Fr.nil n0
 refine own_go (B := s₁.setTop (mkF m 0 #[.val (.int 3), .val (.int c0), .val (.int c1), .val (.int c2)] [])) (fun t k => castTop (ef_2_3 m c0 c1 c2) k) ?_
 refine own_go (B := s₁.setTop (mkF m 59 #[.val (.int 3), .val (.int c0), .val (.int c1), .val (.int c2)] [])) (fun t k => ?_) ?_
 ·refine XS.iloadN X0.here hx rfl (hb hby d2_0) rfl ?_
  show Steps p.tables e below (s₁.setTop (mkF m 1 #[.val (.int 3), .val (.int c0), .val (.int c1), .val (.int c2)] [(.int 3)])) _
  refine XS.ifYes X0.here hx rfl (pc0 := 1) (pc' := 15) rfl (hb hby d2_1) rfl ((if0 _ _).trans (feq (by decide : ¬ ((3 : Int32) = (0 : Int32)))).2) (by decide) (by decide) ?_
  show Steps p.tables e below (s₁.setTop (mkF m 15 #[.val (.int 3), .val (.int c0), .val (.int c1), .val (.int c2)] [])) _
  refine XS.iloadN X0.here hx rfl (hb hby d2_15) rfl ?_
  show Steps p.tables e below (s₁.setTop (mkF m 16 #[.val (.int 3), .val (.int c0), .val (.int c1), .val (.int c2)] [(.int 3)])) _
  refine XS.iconst X0.here hx rfl (hb hby d2_16) ?_
  show Steps p.tables e below (s₁.setTop (mkF m 17 #[.val (.int 3), .val (.int c0), .val (.int c1), .val (.int c2)] [(.int 1), (.int 3)])) _
  refine XS.icmpYes X0.here hx rfl (pc0 := 17) (pc' := 35) rfl (hb hby d2_17) rfl (feq (by decide : ¬ ((3 : Int32) = (1 : Int32)))).2 (by decide) (by decide) ?_
  show Steps p.tables e below (s₁.setTop (mkF m 35 #[.val (.int 3), .val (.int c0), .val (.int c1), .val (.int c2)] [])) _
  refine XS.iloadN X0.here hx rfl (hb hby d2_35) rfl ?_
  show Steps p.tables e below (s₁.setTop (mkF m 36 #[.val (.int 3), .val (.int c0), .val (.int c1), .val (.int c2)] [(.int 3)])) _
  refine XS.iconst X0.here hx rfl (hb hby d2_36) ?_
  show Steps p.tables e below (s₁.setTop (mkF m 37 #[.val (.int 3), .val (.int c0), .val (.int c1), .val (.int c2)] [(.int 2), (.int 3)])) _
  refine XS.icmpYes X0.here hx rfl (pc0 := 37) (pc' := 59) rfl (hb hby d2_37) rfl (feq (by decide : ¬ ((3 : Int32) = (2 : Int32)))).2 (by decide) (by decide) ?_
  show Steps p.tables e below (s₁.setTop (mkF m 59 #[.val (.int 3), .val (.int c0), .val (.int c1), .val (.int c2)] [])) _
  exact k
 obtain ⟨T190, h190, X190, e190, E190, A190, D190, -, st190⟩ := newO X0 hx hZ hown (hw _ (List.mem_of_getElem? (i := 8) rfl)) (hw _ (List.mem_of_getElem? (i := 9) rfl)) (hw _ (List.mem_of_getElem? (i := 10) rfl)) e0 (g := (mkF m 59 #[.val (.int 3), .val (.int c0), .val (.int c1), .val (.int c2)] [])) rfl (hb hby d2_59) (by decide) (by decide)
 obtain ⟨b190, g190⟩ : ∃ z, z = h0.size := ⟨_, rfl⟩
 rw [← g190] at A190 D190 st190
 refine own_go st190 ?_
 have K190 : Keep h0 h190 [] := Keep.ext (Keep.refl h0 []) E190
 have F190_23 : Fld Z h190 b190 "java/lang/String" "value" "[B" .null := D190 (Or.inr (hw _ (List.mem_of_getElem? (i := 23) rfl))) (ty := (.array .byte)) (by decide)
 have F190_24 : Fld Z h190 b190 "java/lang/String" "coder" "B" (.int 0) := D190 (Or.inr (hw _ (List.mem_of_getElem? (i := 24) rfl))) (ty := .byte) (by decide)
 refine own_go (B := T190.setTop (mkF m 64 #[.val (.int 3), .val (.int c0), .val (.int c1), .val (.int c2)] [(.int 3), (.ref b190), (.ref b190)])) (fun t k => ?_) ?_
 ·refine XS.dup X190.here hx rfl (hb hby d2_62) rfl rfl ?_
  show Steps p.tables e below (T190.setTop (mkF m 63 #[.val (.int 3), .val (.int c0), .val (.int c1), .val (.int c2)] [(.ref b190), (.ref b190)])) _
  refine XS.iconst X190.here hx rfl (hb hby d2_63) ?_
  show Steps p.tables e below (T190.setTop (mkF m 64 #[.val (.int 3), .val (.int c0), .val (.int c1), .val (.int c2)] [(.int 3), (.ref b190), (.ref b190)])) _
  exact k
 obtain ⟨T191, h191, k191, X191, e191, E191, A191, st191⟩ := newP X190 hx hZ (hw _ (List.mem_of_getElem? (i := 4) rfl)) e190 (g := (mkF m 64 #[.val (.int 3), .val (.int c0), .val (.int c1), .val (.int c2)] [(.int 3), (.ref b190), (.ref b190)])) rfl (hb hby d2_64) rfl (by decide) (cap := 3) (by decide) (by decide) (by decide) (by decide)
 obtain ⟨b191, g191⟩ : ∃ z, z = h190.size := ⟨_, rfl⟩
 rw [← g191] at A191 st191
 refine own_go st191 ?_
 have K191 : Keep h0 h191 [] := Keep.ext K190 E191
 have V191 : Arv Z h191 b191 k191 .char (3 : Int32) [(.int 0), (.int 0), (.int 0)] (.int 0) := (Arv.new A191 (by decide)).pad (pad_rep [] (.int 0) 3)
 refine own_go (B := T191.setTop (mkF m 69 #[.val (.int 3), .val (.int c0), .val (.int c1), .val (.int c2)] [(.int c0), (.int 0), (.ref b191), (.ref b191), (.ref b190), (.ref b190)])) (fun t k => ?_) ?_
 ·refine XS.dup X191.here hx rfl (hb hby d2_66) rfl rfl ?_
  show Steps p.tables e below (T191.setTop (mkF m 67 #[.val (.int 3), .val (.int c0), .val (.int c1), .val (.int c2)] [(.ref b191), (.ref b191), (.ref b190), (.ref b190)])) _
  refine XS.iconst X191.here hx rfl (hb hby d2_67) ?_
  show Steps p.tables e below (T191.setTop (mkF m 68 #[.val (.int 3), .val (.int c0), .val (.int c1), .val (.int c2)] [(.int 0), (.ref b191), (.ref b191), (.ref b190), (.ref b190)])) _
  refine XS.iloadN X191.here hx rfl (hb hby d2_68) rfl ?_
  show Steps p.tables e below (T191.setTop (mkF m 69 #[.val (.int 3), .val (.int c0), .val (.int c1), .val (.int c2)] [(.int c0), (.int 0), (.ref b191), (.ref b191), (.ref b190), (.ref b190)])) _
  exact k
 obtain ⟨cl192, Ar192, cq192, cS192, cN192, cH192, cG192⟩ := id V191
 have hin192 := inb_of (j := (0 : Int32)) cS192 ⟨by decide, by decide⟩
 obtain ⟨T192, h192, X192, e192, W192, st192⟩ := stC X191 hx hZ e191 Ar192 (j := (0 : Int32)) hin192 (g := (mkF m 69 #[.val (.int 3), .val (.int c0), .val (.int c1), .val (.int c2)] [(.int c0), (.int 0), (.ref b191), (.ref b191), (.ref b190), (.ref b190)])) rfl rfl (hb hby d2_69)
 refine own_go st192 ?_
 have V192 : Arv Z h192 b191 k191 .char (3 : Int32) [(.int c0), (.int 0), (.int 0)] (.int 0) := by have q := Arv.set Ar192 cq192 cS192 cN192 cH192 cG192 (fits_nar_char _) W192 0 rfl (Nat.le_of_ble_eq_true rfl); rw [own_narC c0 hc0] at q; exact q
 have K192 : Keep h0 h192 [] := Keep.wr K191 W192 (Or.inr (Nat.le_trans E190.1 (Nat.le_of_eq g191.symm)))
 have N192 := Fr.snoc X192 N0 (Nat.le_trans (Nat.le_trans Z0 E190.1) (Nat.le_of_eq g191.symm))
 refine own_go (B := T192.setTop (mkF m 73 #[.val (.int 3), .val (.int c0), .val (.int c1), .val (.int c2)] [(.int c1), (.int 1), (.ref b191), (.ref b191), (.ref b190), (.ref b190)])) (fun t k => ?_) ?_
 ·refine XS.dup X192.here hx rfl (hb hby d2_70) rfl rfl ?_
  show Steps p.tables e below (T192.setTop (mkF m 71 #[.val (.int 3), .val (.int c0), .val (.int c1), .val (.int c2)] [(.ref b191), (.ref b191), (.ref b190), (.ref b190)])) _
  refine XS.iconst X192.here hx rfl (hb hby d2_71) ?_
  show Steps p.tables e below (T192.setTop (mkF m 72 #[.val (.int 3), .val (.int c0), .val (.int c1), .val (.int c2)] [(.int 1), (.ref b191), (.ref b191), (.ref b190), (.ref b190)])) _
  refine XS.iloadN X192.here hx rfl (hb hby d2_72) rfl ?_
  show Steps p.tables e below (T192.setTop (mkF m 73 #[.val (.int 3), .val (.int c0), .val (.int c1), .val (.int c2)] [(.int c1), (.int 1), (.ref b191), (.ref b191), (.ref b190), (.ref b190)])) _
  exact k
 obtain ⟨cl193, Ar193, cq193, cS193, cN193, cH193, cG193⟩ := id V192
 have hin193 := inb_of (j := (1 : Int32)) cS193 ⟨by decide, by decide⟩
 obtain ⟨T193, h193, X193, e193, W193, st193⟩ := stC X192 hx hZ e192 Ar193 (j := (1 : Int32)) hin193 (g := (mkF m 73 #[.val (.int 3), .val (.int c0), .val (.int c1), .val (.int c2)] [(.int c1), (.int 1), (.ref b191), (.ref b191), (.ref b190), (.ref b190)])) rfl rfl (hb hby d2_73)
 refine own_go st193 ?_
 have V193 : Arv Z h193 b191 k191 .char (3 : Int32) [(.int c0), (.int c1), (.int 0)] (.int 0) := by have q := Arv.set Ar193 cq193 cS193 cN193 cH193 cG193 (fits_nar_char _) W193 1 rfl (Nat.le_of_ble_eq_true rfl); rw [own_narC c1 hc1] at q; exact q
 have K193 : Keep h0 h193 [] := Keep.wr K192 W193 (Or.inr (Nat.le_trans E190.1 (Nat.le_of_eq g191.symm)))
 have N193 := Fr.snoc X193 N192 (Nat.le_trans (Nat.le_trans Z0 E190.1) (Nat.le_of_eq g191.symm))
 refine own_go (B := T193.setTop (mkF m 77 #[.val (.int 3), .val (.int c0), .val (.int c1), .val (.int c2)] [(.int c2), (.int 2), (.ref b191), (.ref b191), (.ref b190), (.ref b190)])) (fun t k => ?_) ?_
 ·refine XS.dup X193.here hx rfl (hb hby d2_74) rfl rfl ?_
  show Steps p.tables e below (T193.setTop (mkF m 75 #[.val (.int 3), .val (.int c0), .val (.int c1), .val (.int c2)] [(.ref b191), (.ref b191), (.ref b190), (.ref b190)])) _
  refine XS.iconst X193.here hx rfl (hb hby d2_75) ?_
  show Steps p.tables e below (T193.setTop (mkF m 76 #[.val (.int 3), .val (.int c0), .val (.int c1), .val (.int c2)] [(.int 2), (.ref b191), (.ref b191), (.ref b190), (.ref b190)])) _
  refine XS.iloadN X193.here hx rfl (hb hby d2_76) rfl ?_
  show Steps p.tables e below (T193.setTop (mkF m 77 #[.val (.int 3), .val (.int c0), .val (.int c1), .val (.int c2)] [(.int c2), (.int 2), (.ref b191), (.ref b191), (.ref b190), (.ref b190)])) _
  exact k
 obtain ⟨cl194, Ar194, cq194, cS194, cN194, cH194, cG194⟩ := id V193
 have hin194 := inb_of (j := (2 : Int32)) cS194 ⟨by decide, by decide⟩
 obtain ⟨T194, h194, X194, e194, W194, st194⟩ := stC X193 hx hZ e193 Ar194 (j := (2 : Int32)) hin194 (g := (mkF m 77 #[.val (.int 3), .val (.int c0), .val (.int c1), .val (.int c2)] [(.int c2), (.int 2), (.ref b191), (.ref b191), (.ref b190), (.ref b190)])) rfl rfl (hb hby d2_77)
 refine own_go st194 ?_
 have V194 : Arv Z h194 b191 k191 .char (3 : Int32) [(.int c0), (.int c1), (.int c2)] (.int 0) := by have q := Arv.set Ar194 cq194 cS194 cN194 cH194 cG194 (fits_nar_char _) W194 2 rfl (Nat.le_of_ble_eq_true rfl); rw [own_narC c2 hc2] at q; exact q
 have K194 : Keep h0 h194 [] := Keep.wr K193 W194 (Or.inr (Nat.le_trans E190.1 (Nat.le_of_eq g191.symm)))
 have N194 := Fr.snoc X194 N193 (Nat.le_trans (Nat.le_trans Z0 E190.1) (Nat.le_of_eq g191.symm))
 have f196 : Exa Z h194 b190 "java/lang/String" := ((((A190.ext E191).wr W192).wr W193).wr W194)
 have ne197 : b190 ≠ b191 := (Nat.ne_of_lt (Nat.lt_of_lt_of_le A190.lt (Nat.le_of_eq g191.symm)))
 have f198 : Fld Z h194 b190 "java/lang/String" "value" "[B" .null := ((((F190_23.ext E191).other W192 (Or.inl ne197)).other W193 (Or.inl ne197)).other W194 (Or.inl ne197))
 have f199 : Fld Z h194 b190 "java/lang/String" "coder" "B" (.int 0) := ((((F190_24.ext E191).other W192 (Or.inl ne197)).other W193 (Or.inl ne197)).other W194 (Or.inl ne197))
 have f200 : Sta Z h194 "java/lang/String" "COMPACT_STRINGS" "Z" (.int w_COMPACT_STRINGS) := (((((S_COMPACT_STRINGS.ext E190).ext E191).wr W192).wr W193).wr W194)
 have le201 : h0.size ≤ h194.size := (Nat.le_trans (Nat.le_trans (Nat.le_trans (Nat.le_trans E190.1 E191.1) (Nat.le_of_eq (Wr.size W192).symm)) (Nat.le_of_eq (Wr.size W193).symm)) (Nat.le_of_eq (Wr.size W194).symm))
 obtain ⟨_, _, ⟨T195, L195, k195, n195⟩, -, X195, ⟨Lc195, hQ195, l195, y195, z195⟩, st195⟩ := X194.specialBack hx (y := (⟨"java/lang/String", "<init>", "([C)V"⟩ : MethodName)) rfl hown (mvT hZ (hw _ (List.mem_of_getElem? (i := 11) rfl))) (mvT hZ (hw _ (List.mem_of_getElem? (i := 12) rfl))) (mvT hZ (hw _ (List.mem_of_getElem? (i := 13) rfl))) (by decide) (backOf (W := 1) (rm3_3 l Z a0 hw [] b190 b191 w_COMPACT_STRINGS k191 c0 c1 c2 h194 n0 (Nat.le_trans Z0 le201) f196 f198 f199 (Nat.le_trans Z0 (Nat.le_of_eq g190.symm)) f200 (N_COMPACT_STRINGS) V194 (hc0) (hc1) (hc2)) hZ (hw _ (List.mem_of_getElem? (i := 13) rfl)) (hw _ (List.mem_of_getElem? (i := 10) rfl)) (by decide) (by decide)) (g := (mkF m 78 #[.val (.int 3), .val (.int c0), .val (.int c1), .val (.int c2)] [(.ref b191), (.ref b190), (.ref b190)])) rfl (by rw [hml]; rfl) (Steps.refl _) (a := b190) (argsL := [(.ref b191)]) (rest := [(.ref b190)]) (lenOf pd_4 rfl) rfl (by show 2 * 0 + _ ≤ _; exact Nat.le_of_eq rfl) (hb hby d2_78) (fun _ _ => ⟨rfl, e194, (by decide : 2 + 1 ≤ _), (by decide : 7 + 3 ≤ _)⟩)
 dsimp only [Pt.U, Pt.locs, Pt.cells, Pt.slots] at X195 l195 y195 z195 st195 hQ195
 subst l195 y195 z195
 obtain ⟨bn_195, kn_195, rfl, M195, q195_0, q195_1, q195_2, q195_3, q195_4, q195_5⟩ := hQ195
 have N195 := Fr.app N194 M195
 have K195 : Keep h0 T195.heap [] := Keep.trans K194 q195_0 (allS (Or.inr (Nat.le_of_eq g190.symm)) all0)
 refine own_go (fun t k => st195.trans k) ?_
 obtain ⟨fs, hr, hrun, hended, hW, hsame⟩ := X195.leave (v := some (.ref b190)) (fun h => by rw [Bd.returns] at h; cases h)
 refine ⟨_, _, ?_, hrun, hended, _, _, rfl, ?_, ⟨_, rfl⟩, hW, hsame.mono (by decide) (by decide)⟩
 ·exact own_retR X195 hx Bd.returns rfl rfl (hb hby d2_81) hr
 ·show Q2_3 Z c0 c1 c2 w_COMPACT_STRINGS h0 n0 _ T195.heap _
  exact ⟨b190, bn_195, kn_195, rfl, N195, K195, (Nat.le_of_eq g190.symm), q195_2, q195_3, q195_4, q195_5⟩
theorem d2_4 : decode method_3_code 4 = .ok (.new 7, 3) := by decide +kernel
theorem d2_7 : decode method_3_code 7 = .ok (.dup, 1) := by decide +kernel
theorem d2_8 : decode method_3_code 8 = .ok (.iconst 0, 1) := by decide +kernel
theorem d2_9 : decode method_3_code 9 = .ok (.newarray .char, 2) := by decide +kernel
theorem d2_11 : decode method_3_code 11 = .ok (.invokespecial 9, 3) := by decide +kernel
theorem d2_14 : decode method_3_code 14 = .ok (.areturn, 1) := by decide +kernel
theorem ef_2_0 (m : MethodId) (c0 : Int32) (c1 : Int32) (c2 : Int32) : entryFrame m #[(.int 0), (.int c0), (.int c1), (.int c2)] 4 = mkF m 0 #[.val (.int 0), .val (.int c0), .val (.int c1), .val (.int c2)] [] := by first | (simp [entryFrame, mkF, argsToLocals, Value.category]; done) | rfl
def Q2_0 (Z : State) (c0 : Int32) (c1 : Int32) (c2 : Int32) (h0 : Heap) (n0 : Nat) (v : Option Value) (h : Heap) (L : List Loc) : Prop := ∃ (sb : Addr) (bn : Addr) (kn : ClassId), v = some (.ref sb) ∧ Fr n0 L ∧ Keep h0 h [] ∧ h0.size ≤ sb ∧ Exa Z h sb "java/lang/String" ∧ Fld Z h sb "java/lang/String" "coder" "B" (.int 0) ∧ Fld Z h sb "java/lang/String" "value" "[B" (.ref bn) ∧ Arv Z h bn kn .byte (0 : Int32) [] (.int 0)
set_option maxRecDepth 65536 in
set_option maxHeartbeats 40000000 in
theorem rm2_0 (l : Launch) (Z : State) (a0 : Array Value) (hw : ∀ d ∈ tables_1, d.before a0 Z = true) (ws : List Jvm.Cond) (c0 : Int32) (c1 : Int32) (c2 : Int32) (h0 : Heap) (n0 : Nat) (Z0 : n0 ≤ h0.size) (hEL : EW Z a0 consts_1) :
  MetFree l (⟨"com/example/restate/restate/MarkerStyleOpenedByPinLaw", "text", "(ICCC)Ljava/lang/String;"⟩ : MethodName) (head1 (Jvm.Cond.code (⟨"com/example/restate/restate/MarkerStyleOpenedByPinLaw", "text", "(ICCC)Ljava/lang/String;"⟩ : MethodName) method_3_code 4 (some (.object "java/lang/String")) :: ws) ({ frames := 3, cells := 4, slots := 8, locals := 43 } : Room)) (fun a U => a = #[(.int 0), (.int c0), (.int c1), (.int c2)] ∧ Z.Warmed39 U.vm ∧ U.heap = h0 ∧ CHv Z consts_1 U.vm h0) (fun _ _ _ _ _ => True) (fun _ U o U' => ∃ v L, o = .returned v ∧ Q2_0 Z c0 c1 c2 h0 n0 v U'.heap L ∧ CHr Z consts_1 U.vm U.heap U'.vm U'.heap ∧ ReturnedEndW U o U' L ({ frames := 3, cells := 4, slots := 8, locals := 43 } : Room).cells ({ frames := 3, cells := 4, slots := 8, locals := 43 } : Room).slots) := by
 refine MetFree.of_bodySF (plainFor_of_name pn_50) hisR ?_
 intro p e s m args below meth c s₁ Bd hml0 hP hK
 obtain ⟨rfl, hZ, hh, hCH⟩ := hP
 have hx := Bd.exec
 have hby := Bd.bytes
 have hml : c.maxLocals = 4 := hml0
 have hown : s.vm.findClass "com/example/restate/restate/MarkerStyleOpenedByPinLaw" = some m.cls := findClass_of_methodNamed Bd.named
 have hnm := (name_of_methodNamed Bd.named Bd.method).1
 have X0 : Stand p l e ({ frames := 3, cells := 4, slots := 8, locals := 43 } : Room) s m #[(.int 0), (.int c0), (.int c1), (.int c2)] below meth c s₁ [] 0 0 := Stand.of_body Bd
 have e0 : s₁.heap = h0 := by rw [← hh, Bd.state]; rfl
 have N0 := Fr.nil n0
 have hS0 : s.Since s.vm h0.size := own_since _ _
 replace X0 : Stand p l e ({ frames := 3, cells := 4, slots := 8, locals := 43 } : Room) (s.setVm s.vm) m #[(.int 0), (.int c0), (.int c1), (.int c2)] below meth c s₁ [] 0 0 := X0
 refine own_go (B := s₁.setTop (mkF m 0 #[.val (.int 0), .val (.int c0), .val (.int c1), .val (.int c2)] [])) (fun t k => castTop (ef_2_0 m c0 c1 c2) k) ?_
 refine own_go (B := s₁.setTop (mkF m 4 #[.val (.int 0), .val (.int c0), .val (.int c1), .val (.int c2)] [])) (fun t k => ?_) ?_
 ·refine XS.iloadN X0.here hx rfl (hb hby d2_0) rfl ?_
  show Steps p.tables e below (s₁.setTop (mkF m 1 #[.val (.int 0), .val (.int c0), .val (.int c1), .val (.int c2)] [(.int 0)])) _
  refine XS.ifNo X0.here hx rfl (hb hby d2_1) rfl ((if0 _ _).trans (teq (by decide : (0 : Int32) = (0 : Int32))).2) ?_
  show Steps p.tables e below (s₁.setTop (mkF m 4 #[.val (.int 0), .val (.int c0), .val (.int c1), .val (.int c2)] [])) _
  exact k
 obtain ⟨T203, h203, X203, e203, E203, A203, D203, -, st203⟩ := newO X0 hx hZ hown (hw _ (List.mem_of_getElem? (i := 8) rfl)) (hw _ (List.mem_of_getElem? (i := 9) rfl)) (hw _ (List.mem_of_getElem? (i := 10) rfl)) e0 (g := (mkF m 4 #[.val (.int 0), .val (.int c0), .val (.int c1), .val (.int c2)] [])) rfl (hb hby d2_4) (by decide) (by decide)
 obtain ⟨b203, g203⟩ : ∃ z, z = h0.size := ⟨_, rfl⟩
 rw [← g203] at A203 D203 st203
 refine own_go st203 ?_
 have cs204 : CHr Z consts_1 s.vm h0 s.vm h203 := (CHr.ext E203 (CHr.refl hCH).1)
 have K203 : Keep h0 h203 [] := Keep.ext (Keep.refl h0 []) E203
 have F203_23 : Fld Z h203 b203 "java/lang/String" "value" "[B" .null := D203 (Or.inr (hw _ (List.mem_of_getElem? (i := 23) rfl))) (ty := (.array .byte)) (by decide)
 have F203_24 : Fld Z h203 b203 "java/lang/String" "coder" "B" (.int 0) := D203 (Or.inr (hw _ (List.mem_of_getElem? (i := 24) rfl))) (ty := .byte) (by decide)
 refine own_go (B := T203.setTop (mkF m 9 #[.val (.int 0), .val (.int c0), .val (.int c1), .val (.int c2)] [(.int 0), (.ref b203), (.ref b203)])) (fun t k => ?_) ?_
 ·refine XS.dup X203.here hx rfl (hb hby d2_7) rfl rfl ?_
  show Steps p.tables e below (T203.setTop (mkF m 8 #[.val (.int 0), .val (.int c0), .val (.int c1), .val (.int c2)] [(.ref b203), (.ref b203)])) _
  refine XS.iconst X203.here hx rfl (hb hby d2_8) ?_
  show Steps p.tables e below (T203.setTop (mkF m 9 #[.val (.int 0), .val (.int c0), .val (.int c1), .val (.int c2)] [(.int 0), (.ref b203), (.ref b203)])) _
  exact k
 obtain ⟨T205, h205, k205, X205, e205, E205, A205, st205⟩ := newP X203 hx hZ (hw _ (List.mem_of_getElem? (i := 4) rfl)) e203 (g := (mkF m 9 #[.val (.int 0), .val (.int c0), .val (.int c1), .val (.int c2)] [(.int 0), (.ref b203), (.ref b203)])) rfl (hb hby d2_9) rfl (by decide) (cap := 0) (by decide) (by decide) (by decide) (by decide)
 obtain ⟨b205, g205⟩ : ∃ z, z = h203.size := ⟨_, rfl⟩
 rw [← g205] at A205 st205
 refine own_go st205 ?_
 have cs206 : CHr Z consts_1 s.vm h203 s.vm h205 := (CHr.ext E205 ((CHr.refl hCH).trans cs204).1)
 have K205 : Keep h0 h205 [] := Keep.ext K203 E205
 have V205 : Arv Z h205 b205 k205 .char (0 : Int32) [] (.int 0) := Arv.new A205 (by decide)
 have f208 : Exa Z h205 b203 "java/lang/String" := (A203.ext E205)
 have f209 : Fld Z h205 b203 "java/lang/String" "value" "[B" .null := (F203_23.ext E205)
 have f210 : Fld Z h205 b203 "java/lang/String" "coder" "B" (.int 0) := (F203_24.ext E205)
 have le211 : h0.size ≤ h205.size := (Nat.le_trans E203.1 E205.1)
 obtain ⟨_, _, ⟨T207, L207, k207, n207⟩, -, X207, S207, G207, ⟨Lc207, hQ207, l207, y207, z207, hc207⟩, st207⟩ := X205.specialBackS hx (y := (⟨"java/lang/String", "<init>", "([C)V"⟩ : MethodName)) rfl hown (mvT hZ (hw _ (List.mem_of_getElem? (i := 11) rfl))) (mvT hZ (hw _ (List.mem_of_getElem? (i := 12) rfl))) (mvT hZ (hw _ (List.mem_of_getElem? (i := 13) rfl))) (by decide) (backOfSH (s := s) (vm0 := s.vm) (W := 1) (rm3_0 l Z a0 hw [] b203 b205 k205 h205 n0 (Nat.le_trans Z0 le211) (hEL) f208 f209 f210 (Nat.le_trans Z0 (Nat.le_of_eq g203.symm)) V205) hZ (hw _ (List.mem_of_getElem? (i := 13) rfl)) (hw _ (List.mem_of_getElem? (i := 10) rfl)) (by decide) (by decide) hEL ((CHr.refl hCH).trans (cs204.trans cs206)).1) (g := (mkF m 11 #[.val (.int 0), .val (.int c0), .val (.int c1), .val (.int c2)] [(.ref b205), (.ref b203), (.ref b203)])) rfl (by rw [hml]; rfl) (Steps.refl _) (a := b203) (argsL := [(.ref b205)]) (rest := [(.ref b203)]) (lenOf pd_4 rfl) rfl (by show 2 * 0 + _ ≤ _; exact Nat.le_of_eq rfl) (hb hby d2_11) (fun _ _ => ⟨rfl, e205, (by decide : 2 + 2 ≤ _), (by decide : 4 + 4 ≤ _)⟩)
 dsimp only [Pt.U, Pt.locs, Pt.cells, Pt.slots] at X207 S207 G207 l207 y207 z207 st207 hQ207 hc207
 subst l207 y207 z207
 obtain ⟨bn_207, kn_207, rfl, M207, q207_0, q207_1, q207_2, q207_3, q207_4⟩ := hQ207
 have N207 := Fr.app N0 M207
 have hS207 : s.Since T207.vm T207.heap.size := hS0.trans S207 (Nat.le_trans (Nat.le_trans (Nat.le_refl _) le211) (Nat.le_trans (Nat.le_of_eq (congrArg Array.size e205.symm)) G207))
 have hZ207 : Z.Warmed39 (s.setVm T207.vm).vm := State.Warmed39.trans (t := (s.setVm s.vm)) hZ S207.1
 have ho207 : (s.setVm T207.vm).vm.findClass "com/example/restate/restate/MarkerStyleOpenedByPinLaw" = some m.cls := by rw [show (s.setVm T207.vm).vm = T207.vm from rfl, S207.1.alike.findClass]; exact hown
 replace X207 : Stand p l e _ (s.setVm T207.vm) m _ below meth c T207 _ _ _ := X207
 have K207 : Keep h0 T207.heap [] := Keep.trans K205 q207_0 (allS (Or.inr (Nat.le_of_eq g203.symm)) all0)
 have cs212 : CHr Z consts_1 s.vm h205 T207.vm T207.heap := hc207
 refine own_go (fun t k => st207.trans k) ?_
 obtain ⟨fs, hr, hrun, hended, hW⟩ := X207.leaveW hS207 (show _ ≤ T207.heap.size by exact (Nat.le_refl _)) (v := some (.ref b203)) (fun h => by rw [Bd.returns] at h; cases h)
 refine ⟨_, _, ?_, hrun, hended, _, _, rfl, ?_, ?_, ⟨hW.1, hW.2.1, hW.2.2.1, hW.2.2.2.mono (by decide) (by decide)⟩⟩
 ·exact own_retR X207 hx Bd.returns rfl rfl (hb hby d2_14) hr
 ·show Q2_0 Z c0 c1 c2 h0 n0 _ T207.heap _
  exact ⟨b203, bn_207, kn_207, rfl, N207, K207, (Nat.le_of_eq g203.symm), q207_1, q207_2, q207_3, q207_4⟩
 ·show CHr Z consts_1 s.vm s.heap T207.vm T207.heap
  rw [hh]
  exact ((CHr.refl hCH).trans ((cs204.trans cs206).trans cs212)).trans (CHv.at X207 hZ207 hEL ((CHr.refl hCH).trans ((cs204.trans cs206).trans cs212)).1)
theorem pn_199 : plainName "java/lang/StringLatin1" = true := by first | (simp [plainName, overriddenIn]; done) | decide +kernel
theorem d8_0 : decode jdk_43_method_13_code 0 = .ok (.aload_n 0, 1) := by decide +kernel
theorem d8_1 : decode jdk_43_method_13_code 1 = .ok (.arraylength, 1) := by decide +kernel
theorem d8_2 : decode jdk_43_method_13_code 2 = .ok (.aload_n 1, 1) := by decide +kernel
theorem d8_3 : decode jdk_43_method_13_code 3 = .ok (.arraylength, 1) := by decide +kernel
theorem d8_4 : decode jdk_43_method_13_code 4 = .ok (.if_icmp .ne 30, 3) := by decide +kernel
theorem d8_34 : decode jdk_43_method_13_code 34 = .ok (.iconst 0, 1) := by decide +kernel
theorem d8_35 : decode jdk_43_method_13_code 35 = .ok (.ireturn, 1) := by decide +kernel
theorem ef_8_0 (m : MethodId) (v1 : Addr) (v2 : Addr) : entryFrame m #[(.ref v1), (.ref v2)] 3 = mkF m 0 #[.val (.ref v1), .val (.ref v2), .unset] [] := by first | (simp [entryFrame, mkF, argsToLocals, Value.category]; done) | rfl
def Q8_0 (Z : State) (v1 : Addr) (v2 : Addr) (k1 : ClassId) (k2 : ClassId) (x1 : Int32) (h0 : Heap) (n0 : Nat) (v : Option Value) (h : Heap) (L : List Loc) : Prop := v = some (.int 0) ∧ Fr n0 L ∧ h = h0
set_option maxRecDepth 65536 in
set_option maxHeartbeats 40000000 in
theorem rm8_0 (l : Launch) (Z : State) (a0 : Array Value) (hw : ∀ d ∈ tables_1, d.before a0 Z = true) (ws : List Jvm.Cond) (v1 : Addr) (v2 : Addr) (k1 : ClassId) (k2 : ClassId) (x1 : Int32) (h0 : Heap) (n0 : Nat) (Z0 : n0 ≤ h0.size) (V_1 : Arv Z h0 v1 k1 .byte (1 : Int32) [(.int x1)] (.int 0)) (V_2 : Arv Z h0 v2 k2 .byte (0 : Int32) [] (.int 0)) :
  MetFree l (⟨"java/lang/StringLatin1", "equals", "([B[B)Z"⟩ : MethodName) (head1 (Jvm.Cond.code (⟨"java/lang/StringLatin1", "equals", "([B[B)Z"⟩ : MethodName) jdk_43_method_13_code 3 (some .boolean) :: ws) ({ frames := 0, cells := 0, slots := 0, locals := 0 } : Room)) (fun a U => a = #[(.ref v1), (.ref v2)] ∧ Z.Warmed39 U.vm ∧ U.heap = h0) (fun _ _ _ _ _ => True) (fun _ U o U' => ∃ v L, o = .returned v ∧ Q8_0 Z v1 v2 k1 k2 x1 h0 n0 v U'.heap L ∧ FrameEnd U o U' L ({ frames := 0, cells := 0, slots := 0, locals := 0 } : Room).cells ({ frames := 0, cells := 0, slots := 0, locals := 0 } : Room).slots) := by
 refine MetFree.of_bodySF (plainFor_of_name pn_199) hisR ?_
 intro p e s m args below meth c s₁ Bd hml0 hP hK
 obtain ⟨rfl, hZ, hh⟩ := hP
 have hx := Bd.exec
 have hby := Bd.bytes
 have hml : c.maxLocals = 3 := hml0
 have hown : s.vm.findClass "java/lang/StringLatin1" = some m.cls := findClass_of_methodNamed Bd.named
 have hnm := (name_of_methodNamed Bd.named Bd.method).1
 have X0 : Stand p l e ({ frames := 0, cells := 0, slots := 0, locals := 0 } : Room) s m #[(.ref v1), (.ref v2)] below meth c s₁ [] 0 0 := Stand.of_body Bd
 have e0 : s₁.heap = h0 := by rw [← hh, Bd.state]; rfl
 have N0 := Fr.nil n0
 refine own_go (B := s₁.setTop (mkF m 0 #[.val (.ref v1), .val (.ref v2), .unset] [])) (fun t k => castTop (ef_8_0 m v1 v2) k) ?_
 refine own_go (B := s₁.setTop (mkF m 1 #[.val (.ref v1), .val (.ref v2), .unset] [(.ref v1)])) (fun t k => ?_) ?_
 ·refine XS.aloadN X0.here hx rfl (hb hby d8_0) rfl rfl ?_
  show Steps p.tables e below (s₁.setTop (mkF m 1 #[.val (.ref v1), .val (.ref v2), .unset] [(.ref v1)])) _
  exact k
 obtain ⟨cl214, Ar214, cq214, cS214, cN214, cH214, cG214⟩ := id V_1
 refine own_go (B := s₁.setTop (mkF m 3 #[.val (.ref v1), .val (.ref v2), .unset] [(.ref v2), (.int 1)])) (fun t k => ?_) ?_
 ·refine X0.arraylength hx (by rw [e0]; exact Ar214.1) (State.isArrayOf_alike hZ.alike Ar214.2.1) (g := (mkF m 1 #[.val (.ref v1), .val (.ref v2), .unset] [(.ref v1)])) rfl rfl (hb hby d8_1) _ ?_
  rw [len_of cS214 cN214]
  show Steps p.tables e below (s₁.setTop (mkF m 2 #[.val (.ref v1), .val (.ref v2), .unset] [(.int 1)])) _
  refine XS.aloadN X0.here hx rfl (hb hby d8_2) rfl rfl ?_
  show Steps p.tables e below (s₁.setTop (mkF m 3 #[.val (.ref v1), .val (.ref v2), .unset] [(.ref v2), (.int 1)])) _
  exact k
 obtain ⟨cl215, Ar215, cq215, cS215, cN215, cH215, cG215⟩ := id V_2
 refine own_go (B := s₁.setTop (mkF m 35 #[.val (.ref v1), .val (.ref v2), .unset] [(.int 0)])) (fun t k => ?_) ?_
 ·refine X0.arraylength hx (by rw [e0]; exact Ar215.1) (State.isArrayOf_alike hZ.alike Ar215.2.1) (g := (mkF m 3 #[.val (.ref v1), .val (.ref v2), .unset] [(.ref v2), (.int 1)])) rfl rfl (hb hby d8_3) _ ?_
  rw [len_of cS215 cN215]
  show Steps p.tables e below (s₁.setTop (mkF m 4 #[.val (.ref v1), .val (.ref v2), .unset] [(.int 0), (.int 1)])) _
  refine XS.icmpYes X0.here hx rfl (pc0 := 4) (pc' := 34) rfl (hb hby d8_4) rfl (feq (by decide : ¬ ((1 : Int32) = (0 : Int32)))).2 (by decide) (by decide) ?_
  show Steps p.tables e below (s₁.setTop (mkF m 34 #[.val (.ref v1), .val (.ref v2), .unset] [])) _
  refine XS.iconst X0.here hx rfl (hb hby d8_34) ?_
  show Steps p.tables e below (s₁.setTop (mkF m 35 #[.val (.ref v1), .val (.ref v2), .unset] [(.int 0)])) _
  exact k
 obtain ⟨fs, hr, hrun, hended, hW, hsame⟩ := X0.leave (v := some (.int 0)) (fun h => by rw [Bd.returns] at h; cases h)
 refine ⟨_, _, ?_, hrun, hended, _, _, rfl, ?_, ⟨_, rfl⟩, hW, hsame.mono (by decide) (by decide)⟩
 ·exact retN X0 hx (t := .boolean) Bd.returns (by simp) (hb hby d8_35) hr
 ·show Q8_0 Z v1 v2 k1 k2 x1 h0 n0 _ s₁.heap _
  rw [e0]
  exact ⟨rfl, N0, rfl⟩
theorem pd_5 : parseMethodDescriptor "([B[B)Z" = some ⟨[(.array .byte), (.array .byte)], some .boolean⟩ := by decide +kernel
theorem d7_0 : decode jdk_42_method_66_code 0 = .ok (.aload_n 0, 1) := by decide +kernel
theorem d7_1 : decode jdk_42_method_66_code 1 = .ok (.aload_n 1, 1) := by decide +kernel
theorem d7_2 : decode jdk_42_method_66_code 2 = .ok (.if_acmp .ne 5, 3) := by decide +kernel
theorem d7_7 : decode jdk_42_method_66_code 7 = .ok (.aload_n 1, 1) := by decide +kernel
theorem d7_8 : decode jdk_42_method_66_code 8 = .ok (.instanceof 10, 3) := by decide +kernel
theorem d7_11 : decode jdk_42_method_66_code 11 = .ok (.ifCond .eq 43, 3) := by decide +kernel
theorem d7_14 : decode jdk_42_method_66_code 14 = .ok (.aload_n 1, 1) := by decide +kernel
theorem d7_15 : decode jdk_42_method_66_code 15 = .ok (.checkcast 10, 3) := by decide +kernel
theorem d7_18 : decode jdk_42_method_66_code 18 = .ok (.astore_n 2, 1) := by decide +kernel
theorem d7_19 : decode jdk_42_method_66_code 19 = .ok (.getstatic 38, 3) := by decide +kernel
theorem d7_22 : decode jdk_42_method_66_code 22 = .ok (.ifCond .eq 14, 3) := by decide +kernel
theorem d7_25 : decode jdk_42_method_66_code 25 = .ok (.aload_n 0, 1) := by decide +kernel
theorem d7_26 : decode jdk_42_method_66_code 26 = .ok (.getfield 15, 3) := by decide +kernel
theorem d7_29 : decode jdk_42_method_66_code 29 = .ok (.aload_n 2, 1) := by decide +kernel
theorem d7_30 : decode jdk_42_method_66_code 30 = .ok (.getfield 15, 3) := by decide +kernel
theorem d7_33 : decode jdk_42_method_66_code 33 = .ok (.if_icmp .ne 21, 3) := by decide +kernel
theorem d7_36 : decode jdk_42_method_66_code 36 = .ok (.aload_n 0, 1) := by decide +kernel
theorem d7_37 : decode jdk_42_method_66_code 37 = .ok (.getfield 9, 3) := by decide +kernel
theorem d7_40 : decode jdk_42_method_66_code 40 = .ok (.aload_n 2, 1) := by decide +kernel
theorem d7_41 : decode jdk_42_method_66_code 41 = .ok (.getfield 9, 3) := by decide +kernel
theorem d7_44 : decode jdk_42_method_66_code 44 = .ok (.invokestatic 541, 3) := by decide +kernel
theorem d7_47 : decode jdk_42_method_66_code 47 = .ok (.ifCond .eq 7, 3) := by decide +kernel
theorem d7_54 : decode jdk_42_method_66_code 54 = .ok (.iconst 0, 1) := by decide +kernel
theorem d7_55 : decode jdk_42_method_66_code 55 = .ok (.ireturn, 1) := by decide +kernel
theorem ef_7_0 (m : MethodId) (a1 : Addr) (a2 : Addr) : entryFrame m #[(.ref a1), (.ref a2)] 3 = mkF m 0 #[.val (.ref a1), .val (.ref a2), .unset] [] := by first | (simp [entryFrame, mkF, argsToLocals, Value.category]; done) | rfl
def Q7_0 (Z : State) (a1 : Addr) (a2 : Addr) (w_COMPACT_STRINGS : Int32) (v1 : Addr) (v2 : Addr) (k1 : ClassId) (k2 : ClassId) (x1 : Int32) (h0 : Heap) (n0 : Nat) (v : Option Value) (h : Heap) (L : List Loc) : Prop := v = some (.int 0) ∧ Fr n0 L ∧ h = h0
set_option maxRecDepth 65536 in
set_option maxHeartbeats 40000000 in
theorem rm7_0 (l : Launch) (Z : State) (a0 : Array Value) (hw : ∀ d ∈ tables_1, d.before a0 Z = true) (ws : List Jvm.Cond) (a1 : Addr) (a2 : Addr) (w_COMPACT_STRINGS : Int32) (v1 : Addr) (v2 : Addr) (k1 : ClassId) (k2 : ClassId) (x1 : Int32) (h0 : Heap) (n0 : Nat) (Z0 : n0 ≤ h0.size) (S_COMPACT_STRINGS : Sta Z h0 "java/lang/String" "COMPACT_STRINGS" "Z" (.int w_COMPACT_STRINGS)) (N_COMPACT_STRINGS : ¬ w_COMPACT_STRINGS = (0 : Int32)) (E_2 : Exa Z h0 a2 "java/lang/String") (C_1 : Fld Z h0 a1 "java/lang/String" "coder" "B" (.int 0)) (C_2 : Fld Z h0 a2 "java/lang/String" "coder" "B" (.int 0)) (W_1 : Fld Z h0 a1 "java/lang/String" "value" "[B" (.ref v1)) (W_2 : Fld Z h0 a2 "java/lang/String" "value" "[B" (.ref v2)) (V_1 : Arv Z h0 v1 k1 .byte (1 : Int32) [(.int x1)] (.int 0)) (V_2 : Arv Z h0 v2 k2 .byte (0 : Int32) [] (.int 0)) (ne_ : a1 ≠ a2) :
  MetFree l (⟨"java/lang/String", "equals", "(Ljava/lang/Object;)Z"⟩ : MethodName) (head1 (Jvm.Cond.code (⟨"java/lang/String", "equals", "(Ljava/lang/Object;)Z"⟩ : MethodName) jdk_42_method_66_code 3 (some .boolean) :: ws) ({ frames := 1, cells := 0, slots := 0, locals := 14 } : Room)) (fun a U => a = #[(.ref a1), (.ref a2)] ∧ Z.Warmed39 U.vm ∧ U.heap = h0) (fun _ _ _ _ _ => True) (fun _ U o U' => ∃ v L, o = .returned v ∧ Q7_0 Z a1 a2 w_COMPACT_STRINGS v1 v2 k1 k2 x1 h0 n0 v U'.heap L ∧ FrameEnd U o U' L ({ frames := 1, cells := 0, slots := 0, locals := 14 } : Room).cells ({ frames := 1, cells := 0, slots := 0, locals := 14 } : Room).slots) := by
 refine MetFree.of_bodySF (plainFor_of_name pn_118) hisR ?_
 intro p e s m args below meth c s₁ Bd hml0 hP hK
 obtain ⟨rfl, hZ, hh⟩ := hP
 have hx := Bd.exec
 have hby := Bd.bytes
 have hml : c.maxLocals = 3 := hml0
 have hown : s.vm.findClass "java/lang/String" = some m.cls := findClass_of_methodNamed Bd.named
 have hnm := (name_of_methodNamed Bd.named Bd.method).1
 have X0 : Stand p l e ({ frames := 1, cells := 0, slots := 0, locals := 14 } : Room) s m #[(.ref a1), (.ref a2)] below meth c s₁ [] 0 0 := Stand.of_body Bd
 have e0 : s₁.heap = h0 := by rw [← hh, Bd.state]; rfl
 have N0 := Fr.nil n0
 refine own_go (B := s₁.setTop (mkF m 0 #[.val (.ref a1), .val (.ref a2), .unset] [])) (fun t k => castTop (ef_7_0 m a1 a2) k) ?_
 refine own_go (B := s₁.setTop (mkF m 8 #[.val (.ref a1), .val (.ref a2), .unset] [(.ref a2)])) (fun t k => ?_) ?_
 ·refine XS.aloadN X0.here hx rfl (hb hby d7_0) rfl rfl ?_
  show Steps p.tables e below (s₁.setTop (mkF m 1 #[.val (.ref a1), .val (.ref a2), .unset] [(.ref a1)])) _
  refine XS.aloadN X0.here hx rfl (hb hby d7_1) rfl rfl ?_
  show Steps p.tables e below (s₁.setTop (mkF m 2 #[.val (.ref a1), .val (.ref a2), .unset] [(.ref a2), (.ref a1)])) _
  refine Jvm.RoadKit.acmp (g := (mkF m 2 #[.val (.ref a1), .val (.ref a2), .unset] [(.ref a2), (.ref a1)])) X0 hx rfl rfl rfl (pc0 := 2) (pc' := 7) (same := false) rfl (hb hby d7_2) rfl (decide_eq_false fun q => ne_ (Value.ref.inj q)) (by decide) (by decide) ?_
  show Steps p.tables e below (s₁.setTop (mkF m 7 #[.val (.ref a1), .val (.ref a2), .unset] [])) _
  refine XS.aloadN X0.here hx rfl (hb hby d7_7) rfl rfl ?_
  show Steps p.tables e below (s₁.setTop (mkF m 8 #[.val (.ref a1), .val (.ref a2), .unset] [(.ref a2)])) _
  exact k
 obtain ⟨T217, X217, e217, st217⟩ := instY X0 hx hZ hown (hw _ (List.mem_of_getElem? (i := 43) rfl)) e0 (Ins.self E_2) (g := (mkF m 8 #[.val (.ref a1), .val (.ref a2), .unset] [(.ref a2)])) rfl rfl (hb hby d7_8)
 refine own_go st217 ?_
 refine own_go (B := T217.setTop (mkF m 15 #[.val (.ref a1), .val (.ref a2), .unset] [(.ref a2)])) (fun t k => ?_) ?_
 ·refine XS.ifNo X217.here hx rfl (hb hby d7_11) rfl ((if0 _ _).trans (feq (by decide : ¬ ((1 : Int32) = (0 : Int32)))).1) ?_
  show Steps p.tables e below (T217.setTop (mkF m 14 #[.val (.ref a1), .val (.ref a2), .unset] [])) _
  refine XS.aloadN X217.here hx rfl (hb hby d7_14) rfl rfl ?_
  show Steps p.tables e below (T217.setTop (mkF m 15 #[.val (.ref a1), .val (.ref a2), .unset] [(.ref a2)])) _
  exact k
 obtain ⟨T218, X218, e218, st218⟩ := castY X217 hx hZ hown (hw _ (List.mem_of_getElem? (i := 43) rfl)) e217 (Ins.self E_2) (g := (mkF m 15 #[.val (.ref a1), .val (.ref a2), .unset] [(.ref a2)])) rfl rfl (hb hby d7_15)
 refine own_go st218 ?_
 refine own_go (B := T218.setTop (mkF m 19 #[.val (.ref a1), .val (.ref a2), .val (.ref a2)] [])) (fun t k => ?_) ?_
 ·refine XS.astoreN X218.here hx rfl (hb hby d7_18) rfl rfl (l' := #[.val (.ref a1), .val (.ref a2), .val (.ref a2)]) rfl ?_
  show Steps p.tables e below (T218.setTop (mkF m 19 #[.val (.ref a1), .val (.ref a2), .val (.ref a2)] [])) _
  exact k
 obtain ⟨T219, X219, e219, st219⟩ := getS2 X218 hx hZ hown (host := "") (Or.inl (hw _ (List.mem_of_getElem? (i := 44) rfl))) Via.refl e218 S_COMPACT_STRINGS (g := (mkF m 19 #[.val (.ref a1), .val (.ref a2), .val (.ref a2)] [])) rfl (hb hby d7_19)
 refine own_go st219 ?_
 refine own_go (B := T219.setTop (mkF m 26 #[.val (.ref a1), .val (.ref a2), .val (.ref a2)] [(.ref a1)])) (fun t k => ?_) ?_
 ·refine XS.ifNo X219.here hx rfl (hb hby d7_22) rfl ((if0 _ _).trans (feq (show ¬ (w_COMPACT_STRINGS = (0 : Int32)) from N_COMPACT_STRINGS)).1) ?_
  show Steps p.tables e below (T219.setTop (mkF m 25 #[.val (.ref a1), .val (.ref a2), .val (.ref a2)] [])) _
  refine XS.aloadN X219.here hx rfl (hb hby d7_25) rfl rfl ?_
  show Steps p.tables e below (T219.setTop (mkF m 26 #[.val (.ref a1), .val (.ref a2), .val (.ref a2)] [(.ref a1)])) _
  exact k
 obtain ⟨T220, X220, e220, st220⟩ := getF X219 hx hZ hown (host := "") (Or.inl (hw _ (List.mem_of_getElem? (i := 28) rfl))) Via.refl e219 C_1 (g := (mkF m 26 #[.val (.ref a1), .val (.ref a2), .val (.ref a2)] [(.ref a1)])) rfl rfl (hb hby d7_26)
 refine own_go st220 ?_
 refine own_go (B := T220.setTop (mkF m 30 #[.val (.ref a1), .val (.ref a2), .val (.ref a2)] [(.ref a2), (.int 0)])) (fun t k => ?_) ?_
 ·refine XS.aloadN X220.here hx rfl (hb hby d7_29) rfl rfl ?_
  show Steps p.tables e below (T220.setTop (mkF m 30 #[.val (.ref a1), .val (.ref a2), .val (.ref a2)] [(.ref a2), (.int 0)])) _
  exact k
 obtain ⟨T221, X221, e221, st221⟩ := getF X220 hx hZ hown (host := "") (Or.inl (hw _ (List.mem_of_getElem? (i := 28) rfl))) Via.refl e220 C_2 (g := (mkF m 30 #[.val (.ref a1), .val (.ref a2), .val (.ref a2)] [(.ref a2), (.int 0)])) rfl rfl (hb hby d7_30)
 refine own_go st221 ?_
 refine own_go (B := T221.setTop (mkF m 37 #[.val (.ref a1), .val (.ref a2), .val (.ref a2)] [(.ref a1)])) (fun t k => ?_) ?_
 ·refine XS.icmpNo X221.here hx rfl (hb hby d7_33) rfl (teq (by decide : (0 : Int32) = (0 : Int32))).2 ?_
  show Steps p.tables e below (T221.setTop (mkF m 36 #[.val (.ref a1), .val (.ref a2), .val (.ref a2)] [])) _
  refine XS.aloadN X221.here hx rfl (hb hby d7_36) rfl rfl ?_
  show Steps p.tables e below (T221.setTop (mkF m 37 #[.val (.ref a1), .val (.ref a2), .val (.ref a2)] [(.ref a1)])) _
  exact k
 obtain ⟨T222, X222, e222, st222⟩ := getF X221 hx hZ hown (host := "") (Or.inl (hw _ (List.mem_of_getElem? (i := 27) rfl))) Via.refl e221 W_1 (g := (mkF m 37 #[.val (.ref a1), .val (.ref a2), .val (.ref a2)] [(.ref a1)])) rfl rfl (hb hby d7_37)
 refine own_go st222 ?_
 refine own_go (B := T222.setTop (mkF m 41 #[.val (.ref a1), .val (.ref a2), .val (.ref a2)] [(.ref a2), (.ref v1)])) (fun t k => ?_) ?_
 ·refine XS.aloadN X222.here hx rfl (hb hby d7_40) rfl rfl ?_
  show Steps p.tables e below (T222.setTop (mkF m 41 #[.val (.ref a1), .val (.ref a2), .val (.ref a2)] [(.ref a2), (.ref v1)])) _
  exact k
 obtain ⟨T223, X223, e223, st223⟩ := getF X222 hx hZ hown (host := "") (Or.inl (hw _ (List.mem_of_getElem? (i := 27) rfl))) Via.refl e222 W_2 (g := (mkF m 41 #[.val (.ref a1), .val (.ref a2), .val (.ref a2)] [(.ref a2), (.ref v1)])) rfl rfl (hb hby d7_41)
 refine own_go st223 ?_
 obtain ⟨_, _, ⟨T224, L224, k224, n224⟩, -, X224, ⟨Lc224, hQ224, l224, y224, z224⟩, st224⟩ := Jvm.LawKit.callS X223 hx (y := (⟨"java/lang/StringLatin1", "equals", "([B[B)Z"⟩ : MethodName)) hown (mvT hZ (hw _ (List.mem_of_getElem? (i := 45) rfl))) (mvT hZ (hw _ (List.mem_of_getElem? (i := 46) rfl))) (mvT hZ (hw _ (List.mem_of_getElem? (i := 47) rfl))) (mvT hZ (hw _ (List.mem_of_getElem? (i := 48) rfl))) (by decide) (backOf (W := 0) (rm8_0 l Z a0 hw [] v1 v2 k1 k2 x1 h0 n0 Z0 V_1 V_2) hZ (hw _ (List.mem_of_getElem? (i := 48) rfl)) (hw _ (List.mem_of_getElem? (i := 47) rfl)) (by decide) (by decide)) (g := (mkF m 44 #[.val (.ref a1), .val (.ref a2), .val (.ref a2)] [(.ref v2), (.ref v1)])) rfl (by rw [hml]; rfl) (argsL := [(.ref v1), (.ref v2)]) (rest := []) (lenOf pd_5 rfl) rfl (by show 2 * 0 + _ ≤ _; exact Nat.le_of_eq rfl) (hb hby d7_44) (fun _ _ => ⟨rfl, e223, (by decide : 0 + 0 ≤ _), (by decide : 0 + 0 ≤ _)⟩)
 dsimp only [Pt.U, Pt.locs, Pt.cells, Pt.slots] at X224 l224 y224 z224 st224 hQ224
 subst l224 y224 z224
 obtain ⟨rfl, M224, q224_0⟩ := hQ224
 have N224 := Fr.app N0 M224
 refine own_go st224 ?_
 refine own_go (B := T224.setTop (mkF m 55 #[.val (.ref a1), .val (.ref a2), .val (.ref a2)] [(.int 0)])) (fun t k => ?_) ?_
 ·refine XS.ifYes X224.here hx rfl (pc0 := 47) (pc' := 54) rfl (hb hby d7_47) rfl ((if0 _ _).trans (teq (by decide : (0 : Int32) = (0 : Int32))).1) (by decide) (by decide) ?_
  show Steps p.tables e below (T224.setTop (mkF m 54 #[.val (.ref a1), .val (.ref a2), .val (.ref a2)] [])) _
  refine XS.iconst X224.here hx rfl (hb hby d7_54) ?_
  show Steps p.tables e below (T224.setTop (mkF m 55 #[.val (.ref a1), .val (.ref a2), .val (.ref a2)] [(.int 0)])) _
  exact k
 obtain ⟨fs, hr, hrun, hended, hW, hsame⟩ := X224.leave (v := some (.int 0)) (fun h => by rw [Bd.returns] at h; cases h)
 refine ⟨_, _, ?_, hrun, hended, _, _, rfl, ?_, ⟨_, rfl⟩, hW, hsame.mono (by decide) (by decide)⟩
 ·exact retN X224 hx (t := .boolean) Bd.returns (by simp) (hb hby d7_55) hr
 ·show Q7_0 Z a1 a2 w_COMPACT_STRINGS v1 v2 k1 k2 x1 h0 n0 _ T224.heap _
  rw [q224_0]
  exact ⟨rfl, N224, rfl⟩
theorem d8_7 : decode jdk_43_method_13_code 7 = .ok (.iconst 0, 1) := by decide +kernel
theorem d8_8 : decode jdk_43_method_13_code 8 = .ok (.istore_n 2, 1) := by decide +kernel
theorem d8_9 : decode jdk_43_method_13_code 9 = .ok (.iload_n 2, 1) := by decide +kernel
theorem d8_10 : decode jdk_43_method_13_code 10 = .ok (.aload_n 0, 1) := by decide +kernel
theorem d8_11 : decode jdk_43_method_13_code 11 = .ok (.arraylength, 1) := by decide +kernel
theorem d8_12 : decode jdk_43_method_13_code 12 = .ok (.if_icmp .ge 20, 3) := by decide +kernel
theorem d8_15 : decode jdk_43_method_13_code 15 = .ok (.aload_n 0, 1) := by decide +kernel
theorem d8_16 : decode jdk_43_method_13_code 16 = .ok (.iload_n 2, 1) := by decide +kernel
theorem d8_17 : decode jdk_43_method_13_code 17 = .ok (.baload, 1) := by decide +kernel
theorem d8_18 : decode jdk_43_method_13_code 18 = .ok (.aload_n 1, 1) := by decide +kernel
theorem d8_19 : decode jdk_43_method_13_code 19 = .ok (.iload_n 2, 1) := by decide +kernel
theorem d8_20 : decode jdk_43_method_13_code 20 = .ok (.baload, 1) := by decide +kernel
theorem d8_21 : decode jdk_43_method_13_code 21 = .ok (.if_icmp .eq 5, 3) := by decide +kernel
theorem d8_24 : decode jdk_43_method_13_code 24 = .ok (.iconst 0, 1) := by decide +kernel
theorem d8_25 : decode jdk_43_method_13_code 25 = .ok (.ireturn, 1) := by decide +kernel
theorem d8_26 : decode jdk_43_method_13_code 26 = .ok (.iinc 2 1, 3) := by decide +kernel
theorem d8_29 : decode jdk_43_method_13_code 29 = .ok (.goto (-20), 3) := by decide +kernel
theorem d8_32 : decode jdk_43_method_13_code 32 = .ok (.iconst 1, 1) := by decide +kernel
theorem d8_33 : decode jdk_43_method_13_code 33 = .ok (.ireturn, 1) := by decide +kernel
theorem ef_8_1 (m : MethodId) (v1 : Addr) (v2 : Addr) : entryFrame m #[(.ref v1), (.ref v2)] 3 = mkF m 0 #[.val (.ref v1), .val (.ref v2), .unset] [] := by first | (simp [entryFrame, mkF, argsToLocals, Value.category]; done) | rfl
def Q8_1 (Z : State) (v1 : Addr) (v2 : Addr) (k1 : ClassId) (k2 : ClassId) (x1 : Int32) (y0 : Int32) (h0 : Heap) (n0 : Nat) (v : Option Value) (h : Heap) (L : List Loc) : Prop := v = some (.int (if x1 = y0 then (1 : Int32) else 0)) ∧ Fr n0 L ∧ h = h0
set_option maxRecDepth 65536 in
set_option maxHeartbeats 40000000 in
theorem rm8_1 (l : Launch) (Z : State) (a0 : Array Value) (hw : ∀ d ∈ tables_1, d.before a0 Z = true) (ws : List Jvm.Cond) (v1 : Addr) (v2 : Addr) (k1 : ClassId) (k2 : ClassId) (x1 : Int32) (y0 : Int32) (h0 : Heap) (n0 : Nat) (Z0 : n0 ≤ h0.size) (V_1 : Arv Z h0 v1 k1 .byte (1 : Int32) [(.int x1)] (.int 0)) (V_2 : Arv Z h0 v2 k2 .byte (1 : Int32) [(.int y0)] (.int 0)) :
  MetFree l (⟨"java/lang/StringLatin1", "equals", "([B[B)Z"⟩ : MethodName) (head1 (Jvm.Cond.code (⟨"java/lang/StringLatin1", "equals", "([B[B)Z"⟩ : MethodName) jdk_43_method_13_code 3 (some .boolean) :: ws) ({ frames := 0, cells := 0, slots := 0, locals := 0 } : Room)) (fun a U => a = #[(.ref v1), (.ref v2)] ∧ Z.Warmed39 U.vm ∧ U.heap = h0) (fun _ _ _ _ _ => True) (fun _ U o U' => ∃ v L, o = .returned v ∧ Q8_1 Z v1 v2 k1 k2 x1 y0 h0 n0 v U'.heap L ∧ FrameEnd U o U' L ({ frames := 0, cells := 0, slots := 0, locals := 0 } : Room).cells ({ frames := 0, cells := 0, slots := 0, locals := 0 } : Room).slots) := by
 refine MetFree.of_bodySF (plainFor_of_name pn_199) hisR ?_
 intro p e s m args below meth c s₁ Bd hml0 hP hK
 obtain ⟨rfl, hZ, hh⟩ := hP
 have hx := Bd.exec
 have hby := Bd.bytes
 have hml : c.maxLocals = 3 := hml0
 have hown : s.vm.findClass "java/lang/StringLatin1" = some m.cls := findClass_of_methodNamed Bd.named
 have hnm := (name_of_methodNamed Bd.named Bd.method).1
 have X0 : Stand p l e ({ frames := 0, cells := 0, slots := 0, locals := 0 } : Room) s m #[(.ref v1), (.ref v2)] below meth c s₁ [] 0 0 := Stand.of_body Bd
 have e0 : s₁.heap = h0 := by rw [← hh, Bd.state]; rfl
 have N0 := Fr.nil n0
 refine own_go (B := s₁.setTop (mkF m 0 #[.val (.ref v1), .val (.ref v2), .unset] [])) (fun t k => castTop (ef_8_1 m v1 v2) k) ?_
 refine own_go (B := s₁.setTop (mkF m 1 #[.val (.ref v1), .val (.ref v2), .unset] [(.ref v1)])) (fun t k => ?_) ?_
 ·refine XS.aloadN X0.here hx rfl (hb hby d8_0) rfl rfl ?_
  show Steps p.tables e below (s₁.setTop (mkF m 1 #[.val (.ref v1), .val (.ref v2), .unset] [(.ref v1)])) _
  exact k
 obtain ⟨cl226, Ar226, cq226, cS226, cN226, cH226, cG226⟩ := id V_1
 refine own_go (B := s₁.setTop (mkF m 3 #[.val (.ref v1), .val (.ref v2), .unset] [(.ref v2), (.int 1)])) (fun t k => ?_) ?_
 ·refine X0.arraylength hx (by rw [e0]; exact Ar226.1) (State.isArrayOf_alike hZ.alike Ar226.2.1) (g := (mkF m 1 #[.val (.ref v1), .val (.ref v2), .unset] [(.ref v1)])) rfl rfl (hb hby d8_1) _ ?_
  rw [len_of cS226 cN226]
  show Steps p.tables e below (s₁.setTop (mkF m 2 #[.val (.ref v1), .val (.ref v2), .unset] [(.int 1)])) _
  refine XS.aloadN X0.here hx rfl (hb hby d8_2) rfl rfl ?_
  show Steps p.tables e below (s₁.setTop (mkF m 3 #[.val (.ref v1), .val (.ref v2), .unset] [(.ref v2), (.int 1)])) _
  exact k
 obtain ⟨cl227, Ar227, cq227, cS227, cN227, cH227, cG227⟩ := id V_2
 refine own_go (B := s₁.setTop (mkF m 11 #[.val (.ref v1), .val (.ref v2), .val (.int 0)] [(.ref v1), (.int 0)])) (fun t k => ?_) ?_
 ·refine X0.arraylength hx (by rw [e0]; exact Ar227.1) (State.isArrayOf_alike hZ.alike Ar227.2.1) (g := (mkF m 3 #[.val (.ref v1), .val (.ref v2), .unset] [(.ref v2), (.int 1)])) rfl rfl (hb hby d8_3) _ ?_
  rw [len_of cS227 cN227]
  show Steps p.tables e below (s₁.setTop (mkF m 4 #[.val (.ref v1), .val (.ref v2), .unset] [(.int 1), (.int 1)])) _
  refine XS.icmpNo X0.here hx rfl (hb hby d8_4) rfl (teq (by decide : (1 : Int32) = (1 : Int32))).2 ?_
  show Steps p.tables e below (s₁.setTop (mkF m 7 #[.val (.ref v1), .val (.ref v2), .unset] [])) _
  refine XS.iconst X0.here hx rfl (hb hby d8_7) ?_
  show Steps p.tables e below (s₁.setTop (mkF m 8 #[.val (.ref v1), .val (.ref v2), .unset] [(.int 0)])) _
  refine XS.istoreN X0.here hx rfl (hb hby d8_8) rfl (l' := #[.val (.ref v1), .val (.ref v2), .val (.int 0)]) rfl ?_
  show Steps p.tables e below (s₁.setTop (mkF m 9 #[.val (.ref v1), .val (.ref v2), .val (.int 0)] [])) _
  refine XS.iloadN X0.here hx rfl (hb hby d8_9) rfl ?_
  show Steps p.tables e below (s₁.setTop (mkF m 10 #[.val (.ref v1), .val (.ref v2), .val (.int 0)] [(.int 0)])) _
  refine XS.aloadN X0.here hx rfl (hb hby d8_10) rfl rfl ?_
  show Steps p.tables e below (s₁.setTop (mkF m 11 #[.val (.ref v1), .val (.ref v2), .val (.int 0)] [(.ref v1), (.int 0)])) _
  exact k
 obtain ⟨cl228, Ar228, cq228, cS228, cN228, cH228, cG228⟩ := id V_1
 refine own_go (B := s₁.setTop (mkF m 17 #[.val (.ref v1), .val (.ref v2), .val (.int 0)] [(.int 0), (.ref v1)])) (fun t k => ?_) ?_
 ·refine X0.arraylength hx (by rw [e0]; exact Ar228.1) (State.isArrayOf_alike hZ.alike Ar228.2.1) (g := (mkF m 11 #[.val (.ref v1), .val (.ref v2), .val (.int 0)] [(.ref v1), (.int 0)])) rfl rfl (hb hby d8_11) _ ?_
  rw [len_of cS228 cN228]
  show Steps p.tables e below (s₁.setTop (mkF m 12 #[.val (.ref v1), .val (.ref v2), .val (.int 0)] [(.int 1), (.int 0)])) _
  refine XS.icmpNo X0.here hx rfl (hb hby d8_12) rfl (tlt (by decide : (0 : Int32) < (1 : Int32))).2.1 ?_
  show Steps p.tables e below (s₁.setTop (mkF m 15 #[.val (.ref v1), .val (.ref v2), .val (.int 0)] [])) _
  refine XS.aloadN X0.here hx rfl (hb hby d8_15) rfl rfl ?_
  show Steps p.tables e below (s₁.setTop (mkF m 16 #[.val (.ref v1), .val (.ref v2), .val (.int 0)] [(.ref v1)])) _
  refine XS.iloadN X0.here hx rfl (hb hby d8_16) rfl ?_
  show Steps p.tables e below (s₁.setTop (mkF m 17 #[.val (.ref v1), .val (.ref v2), .val (.int 0)] [(.int 0), (.ref v1)])) _
  exact k
 obtain ⟨cl229, Ar229, cq229, cS229, cN229, cH229, cG229⟩ := id V_1
 have hin229 := inb_of (j := (0 : Int32)) cS229 ⟨by decide, by decide⟩
 have hat229 : cl229.slots[((0 : Int32)).toNatClampNeg]? = some (.int x1) := Has.at cH229 hin229 rfl
 refine own_go (B := s₁.setTop (mkF m 20 #[.val (.ref v1), .val (.ref v2), .val (.int 0)] [(.int 0), (.ref v2), (.int x1)])) (fun t k => ?_) ?_
 ·refine X0.baloadBytes hx (j := (0 : Int32)) (v := (.int x1)) (by rw [e0]; exact Ar229.1) (State.isArrayOf_alike hZ.alike Ar229.2.1) Ar229.2.2 hin229 hat229 (g := (mkF m 17 #[.val (.ref v1), .val (.ref v2), .val (.int 0)] [(.int 0), (.ref v1)])) rfl rfl (hb hby d8_17) _ ?_
  show Steps p.tables e below (s₁.setTop (mkF m 18 #[.val (.ref v1), .val (.ref v2), .val (.int 0)] [(.int x1)])) _
  refine XS.aloadN X0.here hx rfl (hb hby d8_18) rfl rfl ?_
  show Steps p.tables e below (s₁.setTop (mkF m 19 #[.val (.ref v1), .val (.ref v2), .val (.int 0)] [(.ref v2), (.int x1)])) _
  refine XS.iloadN X0.here hx rfl (hb hby d8_19) rfl ?_
  show Steps p.tables e below (s₁.setTop (mkF m 20 #[.val (.ref v1), .val (.ref v2), .val (.int 0)] [(.int 0), (.ref v2), (.int x1)])) _
  exact k
 obtain ⟨cl230, Ar230, cq230, cS230, cN230, cH230, cG230⟩ := id V_2
 have hin230 := inb_of (j := (0 : Int32)) cS230 ⟨by decide, by decide⟩
 have hat230 : cl230.slots[((0 : Int32)).toNatClampNeg]? = some (.int y0) := Has.at cH230 hin230 rfl
 refine own_go (B := s₁.setTop (mkF m 21 #[.val (.ref v1), .val (.ref v2), .val (.int 0)] [(.int y0), (.int x1)])) (fun t k => ?_) ?_
 ·refine X0.baloadBytes hx (j := (0 : Int32)) (v := (.int y0)) (by rw [e0]; exact Ar230.1) (State.isArrayOf_alike hZ.alike Ar230.2.1) Ar230.2.2 hin230 hat230 (g := (mkF m 20 #[.val (.ref v1), .val (.ref v2), .val (.int 0)] [(.int 0), (.ref v2), (.int x1)])) rfl rfl (hb hby d8_20) _ ?_
  show Steps p.tables e below (s₁.setTop (mkF m 21 #[.val (.ref v1), .val (.ref v2), .val (.int 0)] [(.int y0), (.int x1)])) _
  exact k
 by_cases hc231 : x1 = y0
 ·refine own_go (B := s₁.setTop (mkF m 11 #[.val (.ref v1), .val (.ref v2), .val (.int 1)] [(.ref v1), (.int 1)])) (fun t k => ?_) ?_
  ·refine XS.icmpYes X0.here hx rfl (pc0 := 21) (pc' := 26) rfl (hb hby d8_21) rfl (teq hc231).1 (by decide) (by decide) ?_
   show Steps p.tables e below (s₁.setTop (mkF m 26 #[.val (.ref v1), .val (.ref v2), .val (.int 0)] [])) _
   refine XS.iinc X0.here hx rfl (hb hby d8_26) rfl (l' := #[.val (.ref v1), .val (.ref v2), .val (.int 1)]) rfl ?_
   show Steps p.tables e below (s₁.setTop (mkF m 29 #[.val (.ref v1), .val (.ref v2), .val (.int 1)] [])) _
   refine XS.goto X0.here hx rfl (pc0 := 29) (pc' := 9) rfl (hb hby d8_29) (by decide) (by decide) ?_
   show Steps p.tables e below (s₁.setTop (mkF m 9 #[.val (.ref v1), .val (.ref v2), .val (.int 1)] [])) _
   refine XS.iloadN X0.here hx rfl (hb hby d8_9) rfl ?_
   show Steps p.tables e below (s₁.setTop (mkF m 10 #[.val (.ref v1), .val (.ref v2), .val (.int 1)] [(.int 1)])) _
   refine XS.aloadN X0.here hx rfl (hb hby d8_10) rfl rfl ?_
   show Steps p.tables e below (s₁.setTop (mkF m 11 #[.val (.ref v1), .val (.ref v2), .val (.int 1)] [(.ref v1), (.int 1)])) _
   exact k
  obtain ⟨cl232, Ar232, cq232, cS232, cN232, cH232, cG232⟩ := id V_1
  refine own_go (B := s₁.setTop (mkF m 33 #[.val (.ref v1), .val (.ref v2), .val (.int 1)] [(.int 1)])) (fun t k => ?_) ?_
  ·refine X0.arraylength hx (by rw [e0]; exact Ar232.1) (State.isArrayOf_alike hZ.alike Ar232.2.1) (g := (mkF m 11 #[.val (.ref v1), .val (.ref v2), .val (.int 1)] [(.ref v1), (.int 1)])) rfl rfl (hb hby d8_11) _ ?_
   rw [len_of cS232 cN232]
   show Steps p.tables e below (s₁.setTop (mkF m 12 #[.val (.ref v1), .val (.ref v2), .val (.int 1)] [(.int 1), (.int 1)])) _
   refine XS.icmpYes X0.here hx rfl (pc0 := 12) (pc' := 32) rfl (hb hby d8_12) rfl (flt (by decide : ¬ ((1 : Int32) < (1 : Int32)))).2.1 (by decide) (by decide) ?_
   show Steps p.tables e below (s₁.setTop (mkF m 32 #[.val (.ref v1), .val (.ref v2), .val (.int 1)] [])) _
   refine XS.iconst X0.here hx rfl (hb hby d8_32) ?_
   show Steps p.tables e below (s₁.setTop (mkF m 33 #[.val (.ref v1), .val (.ref v2), .val (.int 1)] [(.int 1)])) _
   exact k
  obtain ⟨fs, hr, hrun, hended, hW, hsame⟩ := X0.leave (v := some (.int 1)) (fun h => by rw [Bd.returns] at h; cases h)
  refine ⟨_, _, ?_, hrun, hended, _, _, rfl, ?_, ⟨_, rfl⟩, hW, hsame.mono (by decide) (by decide)⟩
  ·exact retN X0 hx (t := .boolean) Bd.returns (by simp) (hb hby d8_33) hr
  ·show Q8_1 Z v1 v2 k1 k2 x1 y0 h0 n0 _ s₁.heap _
   rw [e0]
   exact ⟨(by rw [if_pos hc231]), N0, rfl⟩
 ·refine own_go (B := s₁.setTop (mkF m 25 #[.val (.ref v1), .val (.ref v2), .val (.int 0)] [(.int 0)])) (fun t k => ?_) ?_
  ·refine XS.icmpNo X0.here hx rfl (hb hby d8_21) rfl (feq hc231).1 ?_
   show Steps p.tables e below (s₁.setTop (mkF m 24 #[.val (.ref v1), .val (.ref v2), .val (.int 0)] [])) _
   refine XS.iconst X0.here hx rfl (hb hby d8_24) ?_
   show Steps p.tables e below (s₁.setTop (mkF m 25 #[.val (.ref v1), .val (.ref v2), .val (.int 0)] [(.int 0)])) _
   exact k
  obtain ⟨fs, hr, hrun, hended, hW, hsame⟩ := X0.leave (v := some (.int 0)) (fun h => by rw [Bd.returns] at h; cases h)
  refine ⟨_, _, ?_, hrun, hended, _, _, rfl, ?_, ⟨_, rfl⟩, hW, hsame.mono (by decide) (by decide)⟩
  ·exact retN X0 hx (t := .boolean) Bd.returns (by simp) (hb hby d8_25) hr
  ·show Q8_1 Z v1 v2 k1 k2 x1 y0 h0 n0 _ s₁.heap _
   rw [e0]
   exact ⟨(by rw [if_neg hc231]), N0, rfl⟩
theorem d7_50 : decode jdk_42_method_66_code 50 = .ok (.iconst 1, 1) := by decide +kernel
theorem d7_51 : decode jdk_42_method_66_code 51 = .ok (.goto 4, 3) := by decide +kernel
theorem ef_7_1 (m : MethodId) (a1 : Addr) (a2 : Addr) : entryFrame m #[(.ref a1), (.ref a2)] 3 = mkF m 0 #[.val (.ref a1), .val (.ref a2), .unset] [] := by first | (simp [entryFrame, mkF, argsToLocals, Value.category]; done) | rfl
def Q7_1 (Z : State) (a1 : Addr) (a2 : Addr) (w_COMPACT_STRINGS : Int32) (v1 : Addr) (v2 : Addr) (k1 : ClassId) (k2 : ClassId) (x1 : Int32) (y0 : Int32) (h0 : Heap) (n0 : Nat) (v : Option Value) (h : Heap) (L : List Loc) : Prop := v = some (.int (if x1 = y0 then (1 : Int32) else 0)) ∧ Fr n0 L ∧ h = h0
set_option maxRecDepth 65536 in
set_option maxHeartbeats 40000000 in
theorem rm7_1 (l : Launch) (Z : State) (a0 : Array Value) (hw : ∀ d ∈ tables_1, d.before a0 Z = true) (ws : List Jvm.Cond) (a1 : Addr) (a2 : Addr) (w_COMPACT_STRINGS : Int32) (v1 : Addr) (v2 : Addr) (k1 : ClassId) (k2 : ClassId) (x1 : Int32) (y0 : Int32) (h0 : Heap) (n0 : Nat) (Z0 : n0 ≤ h0.size) (S_COMPACT_STRINGS : Sta Z h0 "java/lang/String" "COMPACT_STRINGS" "Z" (.int w_COMPACT_STRINGS)) (N_COMPACT_STRINGS : ¬ w_COMPACT_STRINGS = (0 : Int32)) (E_2 : Exa Z h0 a2 "java/lang/String") (C_1 : Fld Z h0 a1 "java/lang/String" "coder" "B" (.int 0)) (C_2 : Fld Z h0 a2 "java/lang/String" "coder" "B" (.int 0)) (W_1 : Fld Z h0 a1 "java/lang/String" "value" "[B" (.ref v1)) (W_2 : Fld Z h0 a2 "java/lang/String" "value" "[B" (.ref v2)) (V_1 : Arv Z h0 v1 k1 .byte (1 : Int32) [(.int x1)] (.int 0)) (V_2 : Arv Z h0 v2 k2 .byte (1 : Int32) [(.int y0)] (.int 0)) (ne_ : a1 ≠ a2) :
  MetFree l (⟨"java/lang/String", "equals", "(Ljava/lang/Object;)Z"⟩ : MethodName) (head1 (Jvm.Cond.code (⟨"java/lang/String", "equals", "(Ljava/lang/Object;)Z"⟩ : MethodName) jdk_42_method_66_code 3 (some .boolean) :: ws) ({ frames := 1, cells := 0, slots := 0, locals := 14 } : Room)) (fun a U => a = #[(.ref a1), (.ref a2)] ∧ Z.Warmed39 U.vm ∧ U.heap = h0) (fun _ _ _ _ _ => True) (fun _ U o U' => ∃ v L, o = .returned v ∧ Q7_1 Z a1 a2 w_COMPACT_STRINGS v1 v2 k1 k2 x1 y0 h0 n0 v U'.heap L ∧ FrameEnd U o U' L ({ frames := 1, cells := 0, slots := 0, locals := 14 } : Room).cells ({ frames := 1, cells := 0, slots := 0, locals := 14 } : Room).slots) := by
 refine MetFree.of_bodySF (plainFor_of_name pn_118) hisR ?_
 intro p e s m args below meth c s₁ Bd hml0 hP hK
 obtain ⟨rfl, hZ, hh⟩ := hP
 have hx := Bd.exec
 have hby := Bd.bytes
 have hml : c.maxLocals = 3 := hml0
 have hown : s.vm.findClass "java/lang/String" = some m.cls := findClass_of_methodNamed Bd.named
 have hnm := (name_of_methodNamed Bd.named Bd.method).1
 have X0 : Stand p l e ({ frames := 1, cells := 0, slots := 0, locals := 14 } : Room) s m #[(.ref a1), (.ref a2)] below meth c s₁ [] 0 0 := Stand.of_body Bd
 have e0 : s₁.heap = h0 := by rw [← hh, Bd.state]; rfl
 have N0 := Fr.nil n0
 refine own_go (B := s₁.setTop (mkF m 0 #[.val (.ref a1), .val (.ref a2), .unset] [])) (fun t k => castTop (ef_7_1 m a1 a2) k) ?_
 refine own_go (B := s₁.setTop (mkF m 8 #[.val (.ref a1), .val (.ref a2), .unset] [(.ref a2)])) (fun t k => ?_) ?_
 ·refine XS.aloadN X0.here hx rfl (hb hby d7_0) rfl rfl ?_
  show Steps p.tables e below (s₁.setTop (mkF m 1 #[.val (.ref a1), .val (.ref a2), .unset] [(.ref a1)])) _
  refine XS.aloadN X0.here hx rfl (hb hby d7_1) rfl rfl ?_
  show Steps p.tables e below (s₁.setTop (mkF m 2 #[.val (.ref a1), .val (.ref a2), .unset] [(.ref a2), (.ref a1)])) _
  refine Jvm.RoadKit.acmp (g := (mkF m 2 #[.val (.ref a1), .val (.ref a2), .unset] [(.ref a2), (.ref a1)])) X0 hx rfl rfl rfl (pc0 := 2) (pc' := 7) (same := false) rfl (hb hby d7_2) rfl (decide_eq_false fun q => ne_ (Value.ref.inj q)) (by decide) (by decide) ?_
  show Steps p.tables e below (s₁.setTop (mkF m 7 #[.val (.ref a1), .val (.ref a2), .unset] [])) _
  refine XS.aloadN X0.here hx rfl (hb hby d7_7) rfl rfl ?_
  show Steps p.tables e below (s₁.setTop (mkF m 8 #[.val (.ref a1), .val (.ref a2), .unset] [(.ref a2)])) _
  exact k
 obtain ⟨T235, X235, e235, st235⟩ := instY X0 hx hZ hown (hw _ (List.mem_of_getElem? (i := 43) rfl)) e0 (Ins.self E_2) (g := (mkF m 8 #[.val (.ref a1), .val (.ref a2), .unset] [(.ref a2)])) rfl rfl (hb hby d7_8)
 refine own_go st235 ?_
 refine own_go (B := T235.setTop (mkF m 15 #[.val (.ref a1), .val (.ref a2), .unset] [(.ref a2)])) (fun t k => ?_) ?_
 ·refine XS.ifNo X235.here hx rfl (hb hby d7_11) rfl ((if0 _ _).trans (feq (by decide : ¬ ((1 : Int32) = (0 : Int32)))).1) ?_
  show Steps p.tables e below (T235.setTop (mkF m 14 #[.val (.ref a1), .val (.ref a2), .unset] [])) _
  refine XS.aloadN X235.here hx rfl (hb hby d7_14) rfl rfl ?_
  show Steps p.tables e below (T235.setTop (mkF m 15 #[.val (.ref a1), .val (.ref a2), .unset] [(.ref a2)])) _
  exact k
 obtain ⟨T236, X236, e236, st236⟩ := castY X235 hx hZ hown (hw _ (List.mem_of_getElem? (i := 43) rfl)) e235 (Ins.self E_2) (g := (mkF m 15 #[.val (.ref a1), .val (.ref a2), .unset] [(.ref a2)])) rfl rfl (hb hby d7_15)
 refine own_go st236 ?_
 refine own_go (B := T236.setTop (mkF m 19 #[.val (.ref a1), .val (.ref a2), .val (.ref a2)] [])) (fun t k => ?_) ?_
 ·refine XS.astoreN X236.here hx rfl (hb hby d7_18) rfl rfl (l' := #[.val (.ref a1), .val (.ref a2), .val (.ref a2)]) rfl ?_
  show Steps p.tables e below (T236.setTop (mkF m 19 #[.val (.ref a1), .val (.ref a2), .val (.ref a2)] [])) _
  exact k
 obtain ⟨T237, X237, e237, st237⟩ := getS2 X236 hx hZ hown (host := "") (Or.inl (hw _ (List.mem_of_getElem? (i := 44) rfl))) Via.refl e236 S_COMPACT_STRINGS (g := (mkF m 19 #[.val (.ref a1), .val (.ref a2), .val (.ref a2)] [])) rfl (hb hby d7_19)
 refine own_go st237 ?_
 refine own_go (B := T237.setTop (mkF m 26 #[.val (.ref a1), .val (.ref a2), .val (.ref a2)] [(.ref a1)])) (fun t k => ?_) ?_
 ·refine XS.ifNo X237.here hx rfl (hb hby d7_22) rfl ((if0 _ _).trans (feq (show ¬ (w_COMPACT_STRINGS = (0 : Int32)) from N_COMPACT_STRINGS)).1) ?_
  show Steps p.tables e below (T237.setTop (mkF m 25 #[.val (.ref a1), .val (.ref a2), .val (.ref a2)] [])) _
  refine XS.aloadN X237.here hx rfl (hb hby d7_25) rfl rfl ?_
  show Steps p.tables e below (T237.setTop (mkF m 26 #[.val (.ref a1), .val (.ref a2), .val (.ref a2)] [(.ref a1)])) _
  exact k
 obtain ⟨T238, X238, e238, st238⟩ := getF X237 hx hZ hown (host := "") (Or.inl (hw _ (List.mem_of_getElem? (i := 28) rfl))) Via.refl e237 C_1 (g := (mkF m 26 #[.val (.ref a1), .val (.ref a2), .val (.ref a2)] [(.ref a1)])) rfl rfl (hb hby d7_26)
 refine own_go st238 ?_
 refine own_go (B := T238.setTop (mkF m 30 #[.val (.ref a1), .val (.ref a2), .val (.ref a2)] [(.ref a2), (.int 0)])) (fun t k => ?_) ?_
 ·refine XS.aloadN X238.here hx rfl (hb hby d7_29) rfl rfl ?_
  show Steps p.tables e below (T238.setTop (mkF m 30 #[.val (.ref a1), .val (.ref a2), .val (.ref a2)] [(.ref a2), (.int 0)])) _
  exact k
 obtain ⟨T239, X239, e239, st239⟩ := getF X238 hx hZ hown (host := "") (Or.inl (hw _ (List.mem_of_getElem? (i := 28) rfl))) Via.refl e238 C_2 (g := (mkF m 30 #[.val (.ref a1), .val (.ref a2), .val (.ref a2)] [(.ref a2), (.int 0)])) rfl rfl (hb hby d7_30)
 refine own_go st239 ?_
 refine own_go (B := T239.setTop (mkF m 37 #[.val (.ref a1), .val (.ref a2), .val (.ref a2)] [(.ref a1)])) (fun t k => ?_) ?_
 ·refine XS.icmpNo X239.here hx rfl (hb hby d7_33) rfl (teq (by decide : (0 : Int32) = (0 : Int32))).2 ?_
  show Steps p.tables e below (T239.setTop (mkF m 36 #[.val (.ref a1), .val (.ref a2), .val (.ref a2)] [])) _
  refine XS.aloadN X239.here hx rfl (hb hby d7_36) rfl rfl ?_
  show Steps p.tables e below (T239.setTop (mkF m 37 #[.val (.ref a1), .val (.ref a2), .val (.ref a2)] [(.ref a1)])) _
  exact k
 obtain ⟨T240, X240, e240, st240⟩ := getF X239 hx hZ hown (host := "") (Or.inl (hw _ (List.mem_of_getElem? (i := 27) rfl))) Via.refl e239 W_1 (g := (mkF m 37 #[.val (.ref a1), .val (.ref a2), .val (.ref a2)] [(.ref a1)])) rfl rfl (hb hby d7_37)
 refine own_go st240 ?_
 refine own_go (B := T240.setTop (mkF m 41 #[.val (.ref a1), .val (.ref a2), .val (.ref a2)] [(.ref a2), (.ref v1)])) (fun t k => ?_) ?_
 ·refine XS.aloadN X240.here hx rfl (hb hby d7_40) rfl rfl ?_
  show Steps p.tables e below (T240.setTop (mkF m 41 #[.val (.ref a1), .val (.ref a2), .val (.ref a2)] [(.ref a2), (.ref v1)])) _
  exact k
 obtain ⟨T241, X241, e241, st241⟩ := getF X240 hx hZ hown (host := "") (Or.inl (hw _ (List.mem_of_getElem? (i := 27) rfl))) Via.refl e240 W_2 (g := (mkF m 41 #[.val (.ref a1), .val (.ref a2), .val (.ref a2)] [(.ref a2), (.ref v1)])) rfl rfl (hb hby d7_41)
 refine own_go st241 ?_
 obtain ⟨_, _, ⟨T242, L242, k242, n242⟩, -, X242, ⟨Lc242, hQ242, l242, y242, z242⟩, st242⟩ := Jvm.LawKit.callS X241 hx (y := (⟨"java/lang/StringLatin1", "equals", "([B[B)Z"⟩ : MethodName)) hown (mvT hZ (hw _ (List.mem_of_getElem? (i := 45) rfl))) (mvT hZ (hw _ (List.mem_of_getElem? (i := 46) rfl))) (mvT hZ (hw _ (List.mem_of_getElem? (i := 47) rfl))) (mvT hZ (hw _ (List.mem_of_getElem? (i := 48) rfl))) (by decide) (backOf (W := 0) (rm8_1 l Z a0 hw [] v1 v2 k1 k2 x1 y0 h0 n0 Z0 V_1 V_2) hZ (hw _ (List.mem_of_getElem? (i := 48) rfl)) (hw _ (List.mem_of_getElem? (i := 47) rfl)) (by decide) (by decide)) (g := (mkF m 44 #[.val (.ref a1), .val (.ref a2), .val (.ref a2)] [(.ref v2), (.ref v1)])) rfl (by rw [hml]; rfl) (argsL := [(.ref v1), (.ref v2)]) (rest := []) (lenOf pd_5 rfl) rfl (by show 2 * 0 + _ ≤ _; exact Nat.le_of_eq rfl) (hb hby d7_44) (fun _ _ => ⟨rfl, e241, (by decide : 0 + 0 ≤ _), (by decide : 0 + 0 ≤ _)⟩)
 dsimp only [Pt.U, Pt.locs, Pt.cells, Pt.slots] at X242 l242 y242 z242 st242 hQ242
 subst l242 y242 z242
 obtain ⟨rfl, M242, q242_0⟩ := hQ242
 have N242 := Fr.app N0 M242
 refine own_go st242 ?_
 by_cases hb243 : x1 = y0
 ·refine own_go (B := T242.setTop (mkF m 55 #[.val (.ref a1), .val (.ref a2), .val (.ref a2)] [(.int 1)])) (fun t k => ?_) ?_
  ·refine XS.ifNo X242.here hx rfl (hb hby d7_47) rfl ((if0 _ _).trans (feq (show ¬ ((if x1 = y0 then (1 : Int32) else 0) = (0 : Int32)) from (by rw [if_pos hb243] <;> decide))).1) ?_
   show Steps p.tables e below (T242.setTop (mkF m 50 #[.val (.ref a1), .val (.ref a2), .val (.ref a2)] [])) _
   refine XS.iconst X242.here hx rfl (hb hby d7_50) ?_
   show Steps p.tables e below (T242.setTop (mkF m 51 #[.val (.ref a1), .val (.ref a2), .val (.ref a2)] [(.int 1)])) _
   refine XS.goto X242.here hx rfl (pc0 := 51) (pc' := 55) rfl (hb hby d7_51) (by decide) (by decide) ?_
   show Steps p.tables e below (T242.setTop (mkF m 55 #[.val (.ref a1), .val (.ref a2), .val (.ref a2)] [(.int 1)])) _
   exact k
  obtain ⟨fs, hr, hrun, hended, hW, hsame⟩ := X242.leave (v := some (.int 1)) (fun h => by rw [Bd.returns] at h; cases h)
  refine ⟨_, _, ?_, hrun, hended, _, _, rfl, ?_, ⟨_, rfl⟩, hW, hsame.mono (by decide) (by decide)⟩
  ·exact retN X242 hx (t := .boolean) Bd.returns (by simp) (hb hby d7_55) hr
  ·show Q7_1 Z a1 a2 w_COMPACT_STRINGS v1 v2 k1 k2 x1 y0 h0 n0 _ T242.heap _
   rw [q242_0]
   exact ⟨(by rw [if_pos hb243]), N242, rfl⟩
 ·refine own_go (B := T242.setTop (mkF m 55 #[.val (.ref a1), .val (.ref a2), .val (.ref a2)] [(.int 0)])) (fun t k => ?_) ?_
  ·refine XS.ifYes X242.here hx rfl (pc0 := 47) (pc' := 54) rfl (hb hby d7_47) rfl ((if0 _ _).trans (teq (show (if x1 = y0 then (1 : Int32) else 0) = (0 : Int32) from (by rw [if_neg hb243] <;> decide))).1) (by decide) (by decide) ?_
   show Steps p.tables e below (T242.setTop (mkF m 54 #[.val (.ref a1), .val (.ref a2), .val (.ref a2)] [])) _
   refine XS.iconst X242.here hx rfl (hb hby d7_54) ?_
   show Steps p.tables e below (T242.setTop (mkF m 55 #[.val (.ref a1), .val (.ref a2), .val (.ref a2)] [(.int 0)])) _
   exact k
  obtain ⟨fs, hr, hrun, hended, hW, hsame⟩ := X242.leave (v := some (.int 0)) (fun h => by rw [Bd.returns] at h; cases h)
  refine ⟨_, _, ?_, hrun, hended, _, _, rfl, ?_, ⟨_, rfl⟩, hW, hsame.mono (by decide) (by decide)⟩
  ·exact retN X242 hx (t := .boolean) Bd.returns (by simp) (hb hby d7_55) hr
  ·show Q7_1 Z a1 a2 w_COMPACT_STRINGS v1 v2 k1 k2 x1 y0 h0 n0 _ T242.heap _
   rw [q242_0]
   exact ⟨(by rw [if_neg hb243]), N242, rfl⟩
theorem ef_8_2 (m : MethodId) (v1 : Addr) (v2 : Addr) : entryFrame m #[(.ref v1), (.ref v2)] 3 = mkF m 0 #[.val (.ref v1), .val (.ref v2), .unset] [] := by first | (simp [entryFrame, mkF, argsToLocals, Value.category]; done) | rfl
def Q8_2 (Z : State) (v1 : Addr) (v2 : Addr) (k1 : ClassId) (k2 : ClassId) (x1 : Int32) (y0 : Int32) (y1 : Int32) (h0 : Heap) (n0 : Nat) (v : Option Value) (h : Heap) (L : List Loc) : Prop := v = some (.int 0) ∧ Fr n0 L ∧ h = h0
set_option maxRecDepth 65536 in
set_option maxHeartbeats 40000000 in
theorem rm8_2 (l : Launch) (Z : State) (a0 : Array Value) (hw : ∀ d ∈ tables_1, d.before a0 Z = true) (ws : List Jvm.Cond) (v1 : Addr) (v2 : Addr) (k1 : ClassId) (k2 : ClassId) (x1 : Int32) (y0 : Int32) (y1 : Int32) (h0 : Heap) (n0 : Nat) (Z0 : n0 ≤ h0.size) (V_1 : Arv Z h0 v1 k1 .byte (1 : Int32) [(.int x1)] (.int 0)) (V_2 : Arv Z h0 v2 k2 .byte (2 : Int32) [(.int y0), (.int y1)] (.int 0)) :
  MetFree l (⟨"java/lang/StringLatin1", "equals", "([B[B)Z"⟩ : MethodName) (head1 (Jvm.Cond.code (⟨"java/lang/StringLatin1", "equals", "([B[B)Z"⟩ : MethodName) jdk_43_method_13_code 3 (some .boolean) :: ws) ({ frames := 0, cells := 0, slots := 0, locals := 0 } : Room)) (fun a U => a = #[(.ref v1), (.ref v2)] ∧ Z.Warmed39 U.vm ∧ U.heap = h0) (fun _ _ _ _ _ => True) (fun _ U o U' => ∃ v L, o = .returned v ∧ Q8_2 Z v1 v2 k1 k2 x1 y0 y1 h0 n0 v U'.heap L ∧ FrameEnd U o U' L ({ frames := 0, cells := 0, slots := 0, locals := 0 } : Room).cells ({ frames := 0, cells := 0, slots := 0, locals := 0 } : Room).slots) := by
 refine MetFree.of_bodySF (plainFor_of_name pn_199) hisR ?_
 intro p e s m args below meth c s₁ Bd hml0 hP hK
 obtain ⟨rfl, hZ, hh⟩ := hP
 have hx := Bd.exec
 have hby := Bd.bytes
 have hml : c.maxLocals = 3 := hml0
 have hown : s.vm.findClass "java/lang/StringLatin1" = some m.cls := findClass_of_methodNamed Bd.named
 have hnm := (name_of_methodNamed Bd.named Bd.method).1
 have X0 : Stand p l e ({ frames := 0, cells := 0, slots := 0, locals := 0 } : Room) s m #[(.ref v1), (.ref v2)] below meth c s₁ [] 0 0 := Stand.of_body Bd
 have e0 : s₁.heap = h0 := by rw [← hh, Bd.state]; rfl
 have N0 := Fr.nil n0
 refine own_go (B := s₁.setTop (mkF m 0 #[.val (.ref v1), .val (.ref v2), .unset] [])) (fun t k => castTop (ef_8_2 m v1 v2) k) ?_
 refine own_go (B := s₁.setTop (mkF m 1 #[.val (.ref v1), .val (.ref v2), .unset] [(.ref v1)])) (fun t k => ?_) ?_
 ·refine XS.aloadN X0.here hx rfl (hb hby d8_0) rfl rfl ?_
  show Steps p.tables e below (s₁.setTop (mkF m 1 #[.val (.ref v1), .val (.ref v2), .unset] [(.ref v1)])) _
  exact k
 obtain ⟨cl246, Ar246, cq246, cS246, cN246, cH246, cG246⟩ := id V_1
 refine own_go (B := s₁.setTop (mkF m 3 #[.val (.ref v1), .val (.ref v2), .unset] [(.ref v2), (.int 1)])) (fun t k => ?_) ?_
 ·refine X0.arraylength hx (by rw [e0]; exact Ar246.1) (State.isArrayOf_alike hZ.alike Ar246.2.1) (g := (mkF m 1 #[.val (.ref v1), .val (.ref v2), .unset] [(.ref v1)])) rfl rfl (hb hby d8_1) _ ?_
  rw [len_of cS246 cN246]
  show Steps p.tables e below (s₁.setTop (mkF m 2 #[.val (.ref v1), .val (.ref v2), .unset] [(.int 1)])) _
  refine XS.aloadN X0.here hx rfl (hb hby d8_2) rfl rfl ?_
  show Steps p.tables e below (s₁.setTop (mkF m 3 #[.val (.ref v1), .val (.ref v2), .unset] [(.ref v2), (.int 1)])) _
  exact k
 obtain ⟨cl247, Ar247, cq247, cS247, cN247, cH247, cG247⟩ := id V_2
 refine own_go (B := s₁.setTop (mkF m 35 #[.val (.ref v1), .val (.ref v2), .unset] [(.int 0)])) (fun t k => ?_) ?_
 ·refine X0.arraylength hx (by rw [e0]; exact Ar247.1) (State.isArrayOf_alike hZ.alike Ar247.2.1) (g := (mkF m 3 #[.val (.ref v1), .val (.ref v2), .unset] [(.ref v2), (.int 1)])) rfl rfl (hb hby d8_3) _ ?_
  rw [len_of cS247 cN247]
  show Steps p.tables e below (s₁.setTop (mkF m 4 #[.val (.ref v1), .val (.ref v2), .unset] [(.int 2), (.int 1)])) _
  refine XS.icmpYes X0.here hx rfl (pc0 := 4) (pc' := 34) rfl (hb hby d8_4) rfl (feq (by decide : ¬ ((1 : Int32) = (2 : Int32)))).2 (by decide) (by decide) ?_
  show Steps p.tables e below (s₁.setTop (mkF m 34 #[.val (.ref v1), .val (.ref v2), .unset] [])) _
  refine XS.iconst X0.here hx rfl (hb hby d8_34) ?_
  show Steps p.tables e below (s₁.setTop (mkF m 35 #[.val (.ref v1), .val (.ref v2), .unset] [(.int 0)])) _
  exact k
 obtain ⟨fs, hr, hrun, hended, hW, hsame⟩ := X0.leave (v := some (.int 0)) (fun h => by rw [Bd.returns] at h; cases h)
 refine ⟨_, _, ?_, hrun, hended, _, _, rfl, ?_, ⟨_, rfl⟩, hW, hsame.mono (by decide) (by decide)⟩
 ·exact retN X0 hx (t := .boolean) Bd.returns (by simp) (hb hby d8_35) hr
 ·show Q8_2 Z v1 v2 k1 k2 x1 y0 y1 h0 n0 _ s₁.heap _
  rw [e0]
  exact ⟨rfl, N0, rfl⟩
theorem ef_7_2 (m : MethodId) (a1 : Addr) (a2 : Addr) : entryFrame m #[(.ref a1), (.ref a2)] 3 = mkF m 0 #[.val (.ref a1), .val (.ref a2), .unset] [] := by first | (simp [entryFrame, mkF, argsToLocals, Value.category]; done) | rfl
def Q7_2 (Z : State) (a1 : Addr) (a2 : Addr) (w_COMPACT_STRINGS : Int32) (v1 : Addr) (v2 : Addr) (k1 : ClassId) (k2 : ClassId) (x1 : Int32) (y0 : Int32) (y1 : Int32) (h0 : Heap) (n0 : Nat) (v : Option Value) (h : Heap) (L : List Loc) : Prop := v = some (.int 0) ∧ Fr n0 L ∧ h = h0
set_option maxRecDepth 65536 in
set_option maxHeartbeats 40000000 in
theorem rm7_2 (l : Launch) (Z : State) (a0 : Array Value) (hw : ∀ d ∈ tables_1, d.before a0 Z = true) (ws : List Jvm.Cond) (a1 : Addr) (a2 : Addr) (w_COMPACT_STRINGS : Int32) (v1 : Addr) (v2 : Addr) (k1 : ClassId) (k2 : ClassId) (x1 : Int32) (y0 : Int32) (y1 : Int32) (h0 : Heap) (n0 : Nat) (Z0 : n0 ≤ h0.size) (S_COMPACT_STRINGS : Sta Z h0 "java/lang/String" "COMPACT_STRINGS" "Z" (.int w_COMPACT_STRINGS)) (N_COMPACT_STRINGS : ¬ w_COMPACT_STRINGS = (0 : Int32)) (E_2 : Exa Z h0 a2 "java/lang/String") (C_1 : Fld Z h0 a1 "java/lang/String" "coder" "B" (.int 0)) (C_2 : Fld Z h0 a2 "java/lang/String" "coder" "B" (.int 0)) (W_1 : Fld Z h0 a1 "java/lang/String" "value" "[B" (.ref v1)) (W_2 : Fld Z h0 a2 "java/lang/String" "value" "[B" (.ref v2)) (V_1 : Arv Z h0 v1 k1 .byte (1 : Int32) [(.int x1)] (.int 0)) (V_2 : Arv Z h0 v2 k2 .byte (2 : Int32) [(.int y0), (.int y1)] (.int 0)) (ne_ : a1 ≠ a2) :
  MetFree l (⟨"java/lang/String", "equals", "(Ljava/lang/Object;)Z"⟩ : MethodName) (head1 (Jvm.Cond.code (⟨"java/lang/String", "equals", "(Ljava/lang/Object;)Z"⟩ : MethodName) jdk_42_method_66_code 3 (some .boolean) :: ws) ({ frames := 1, cells := 0, slots := 0, locals := 14 } : Room)) (fun a U => a = #[(.ref a1), (.ref a2)] ∧ Z.Warmed39 U.vm ∧ U.heap = h0) (fun _ _ _ _ _ => True) (fun _ U o U' => ∃ v L, o = .returned v ∧ Q7_2 Z a1 a2 w_COMPACT_STRINGS v1 v2 k1 k2 x1 y0 y1 h0 n0 v U'.heap L ∧ FrameEnd U o U' L ({ frames := 1, cells := 0, slots := 0, locals := 14 } : Room).cells ({ frames := 1, cells := 0, slots := 0, locals := 14 } : Room).slots) := by
 refine MetFree.of_bodySF (plainFor_of_name pn_118) hisR ?_
 intro p e s m args below meth c s₁ Bd hml0 hP hK
 obtain ⟨rfl, hZ, hh⟩ := hP
 have hx := Bd.exec
 have hby := Bd.bytes
 have hml : c.maxLocals = 3 := hml0
 have hown : s.vm.findClass "java/lang/String" = some m.cls := findClass_of_methodNamed Bd.named
 have hnm := (name_of_methodNamed Bd.named Bd.method).1
 have X0 : Stand p l e ({ frames := 1, cells := 0, slots := 0, locals := 14 } : Room) s m #[(.ref a1), (.ref a2)] below meth c s₁ [] 0 0 := Stand.of_body Bd
 have e0 : s₁.heap = h0 := by rw [← hh, Bd.state]; rfl
 have N0 := Fr.nil n0
 refine own_go (B := s₁.setTop (mkF m 0 #[.val (.ref a1), .val (.ref a2), .unset] [])) (fun t k => castTop (ef_7_2 m a1 a2) k) ?_
 refine own_go (B := s₁.setTop (mkF m 8 #[.val (.ref a1), .val (.ref a2), .unset] [(.ref a2)])) (fun t k => ?_) ?_
 ·refine XS.aloadN X0.here hx rfl (hb hby d7_0) rfl rfl ?_
  show Steps p.tables e below (s₁.setTop (mkF m 1 #[.val (.ref a1), .val (.ref a2), .unset] [(.ref a1)])) _
  refine XS.aloadN X0.here hx rfl (hb hby d7_1) rfl rfl ?_
  show Steps p.tables e below (s₁.setTop (mkF m 2 #[.val (.ref a1), .val (.ref a2), .unset] [(.ref a2), (.ref a1)])) _
  refine Jvm.RoadKit.acmp (g := (mkF m 2 #[.val (.ref a1), .val (.ref a2), .unset] [(.ref a2), (.ref a1)])) X0 hx rfl rfl rfl (pc0 := 2) (pc' := 7) (same := false) rfl (hb hby d7_2) rfl (decide_eq_false fun q => ne_ (Value.ref.inj q)) (by decide) (by decide) ?_
  show Steps p.tables e below (s₁.setTop (mkF m 7 #[.val (.ref a1), .val (.ref a2), .unset] [])) _
  refine XS.aloadN X0.here hx rfl (hb hby d7_7) rfl rfl ?_
  show Steps p.tables e below (s₁.setTop (mkF m 8 #[.val (.ref a1), .val (.ref a2), .unset] [(.ref a2)])) _
  exact k
 obtain ⟨T249, X249, e249, st249⟩ := instY X0 hx hZ hown (hw _ (List.mem_of_getElem? (i := 43) rfl)) e0 (Ins.self E_2) (g := (mkF m 8 #[.val (.ref a1), .val (.ref a2), .unset] [(.ref a2)])) rfl rfl (hb hby d7_8)
 refine own_go st249 ?_
 refine own_go (B := T249.setTop (mkF m 15 #[.val (.ref a1), .val (.ref a2), .unset] [(.ref a2)])) (fun t k => ?_) ?_
 ·refine XS.ifNo X249.here hx rfl (hb hby d7_11) rfl ((if0 _ _).trans (feq (by decide : ¬ ((1 : Int32) = (0 : Int32)))).1) ?_
  show Steps p.tables e below (T249.setTop (mkF m 14 #[.val (.ref a1), .val (.ref a2), .unset] [])) _
  refine XS.aloadN X249.here hx rfl (hb hby d7_14) rfl rfl ?_
  show Steps p.tables e below (T249.setTop (mkF m 15 #[.val (.ref a1), .val (.ref a2), .unset] [(.ref a2)])) _
  exact k
 obtain ⟨T250, X250, e250, st250⟩ := castY X249 hx hZ hown (hw _ (List.mem_of_getElem? (i := 43) rfl)) e249 (Ins.self E_2) (g := (mkF m 15 #[.val (.ref a1), .val (.ref a2), .unset] [(.ref a2)])) rfl rfl (hb hby d7_15)
 refine own_go st250 ?_
 refine own_go (B := T250.setTop (mkF m 19 #[.val (.ref a1), .val (.ref a2), .val (.ref a2)] [])) (fun t k => ?_) ?_
 ·refine XS.astoreN X250.here hx rfl (hb hby d7_18) rfl rfl (l' := #[.val (.ref a1), .val (.ref a2), .val (.ref a2)]) rfl ?_
  show Steps p.tables e below (T250.setTop (mkF m 19 #[.val (.ref a1), .val (.ref a2), .val (.ref a2)] [])) _
  exact k
 obtain ⟨T251, X251, e251, st251⟩ := getS2 X250 hx hZ hown (host := "") (Or.inl (hw _ (List.mem_of_getElem? (i := 44) rfl))) Via.refl e250 S_COMPACT_STRINGS (g := (mkF m 19 #[.val (.ref a1), .val (.ref a2), .val (.ref a2)] [])) rfl (hb hby d7_19)
 refine own_go st251 ?_
 refine own_go (B := T251.setTop (mkF m 26 #[.val (.ref a1), .val (.ref a2), .val (.ref a2)] [(.ref a1)])) (fun t k => ?_) ?_
 ·refine XS.ifNo X251.here hx rfl (hb hby d7_22) rfl ((if0 _ _).trans (feq (show ¬ (w_COMPACT_STRINGS = (0 : Int32)) from N_COMPACT_STRINGS)).1) ?_
  show Steps p.tables e below (T251.setTop (mkF m 25 #[.val (.ref a1), .val (.ref a2), .val (.ref a2)] [])) _
  refine XS.aloadN X251.here hx rfl (hb hby d7_25) rfl rfl ?_
  show Steps p.tables e below (T251.setTop (mkF m 26 #[.val (.ref a1), .val (.ref a2), .val (.ref a2)] [(.ref a1)])) _
  exact k
 obtain ⟨T252, X252, e252, st252⟩ := getF X251 hx hZ hown (host := "") (Or.inl (hw _ (List.mem_of_getElem? (i := 28) rfl))) Via.refl e251 C_1 (g := (mkF m 26 #[.val (.ref a1), .val (.ref a2), .val (.ref a2)] [(.ref a1)])) rfl rfl (hb hby d7_26)
 refine own_go st252 ?_
 refine own_go (B := T252.setTop (mkF m 30 #[.val (.ref a1), .val (.ref a2), .val (.ref a2)] [(.ref a2), (.int 0)])) (fun t k => ?_) ?_
 ·refine XS.aloadN X252.here hx rfl (hb hby d7_29) rfl rfl ?_
  show Steps p.tables e below (T252.setTop (mkF m 30 #[.val (.ref a1), .val (.ref a2), .val (.ref a2)] [(.ref a2), (.int 0)])) _
  exact k
 obtain ⟨T253, X253, e253, st253⟩ := getF X252 hx hZ hown (host := "") (Or.inl (hw _ (List.mem_of_getElem? (i := 28) rfl))) Via.refl e252 C_2 (g := (mkF m 30 #[.val (.ref a1), .val (.ref a2), .val (.ref a2)] [(.ref a2), (.int 0)])) rfl rfl (hb hby d7_30)
 refine own_go st253 ?_
 refine own_go (B := T253.setTop (mkF m 37 #[.val (.ref a1), .val (.ref a2), .val (.ref a2)] [(.ref a1)])) (fun t k => ?_) ?_
 ·refine XS.icmpNo X253.here hx rfl (hb hby d7_33) rfl (teq (by decide : (0 : Int32) = (0 : Int32))).2 ?_
  show Steps p.tables e below (T253.setTop (mkF m 36 #[.val (.ref a1), .val (.ref a2), .val (.ref a2)] [])) _
  refine XS.aloadN X253.here hx rfl (hb hby d7_36) rfl rfl ?_
  show Steps p.tables e below (T253.setTop (mkF m 37 #[.val (.ref a1), .val (.ref a2), .val (.ref a2)] [(.ref a1)])) _
  exact k
 obtain ⟨T254, X254, e254, st254⟩ := getF X253 hx hZ hown (host := "") (Or.inl (hw _ (List.mem_of_getElem? (i := 27) rfl))) Via.refl e253 W_1 (g := (mkF m 37 #[.val (.ref a1), .val (.ref a2), .val (.ref a2)] [(.ref a1)])) rfl rfl (hb hby d7_37)
 refine own_go st254 ?_
 refine own_go (B := T254.setTop (mkF m 41 #[.val (.ref a1), .val (.ref a2), .val (.ref a2)] [(.ref a2), (.ref v1)])) (fun t k => ?_) ?_
 ·refine XS.aloadN X254.here hx rfl (hb hby d7_40) rfl rfl ?_
  show Steps p.tables e below (T254.setTop (mkF m 41 #[.val (.ref a1), .val (.ref a2), .val (.ref a2)] [(.ref a2), (.ref v1)])) _
  exact k
 obtain ⟨T255, X255, e255, st255⟩ := getF X254 hx hZ hown (host := "") (Or.inl (hw _ (List.mem_of_getElem? (i := 27) rfl))) Via.refl e254 W_2 (g := (mkF m 41 #[.val (.ref a1), .val (.ref a2), .val (.ref a2)] [(.ref a2), (.ref v1)])) rfl rfl (hb hby d7_41)
 refine own_go st255 ?_
 obtain ⟨_, _, ⟨T256, L256, k256, n256⟩, -, X256, ⟨Lc256, hQ256, l256, y256, z256⟩, st256⟩ := Jvm.LawKit.callS X255 hx (y := (⟨"java/lang/StringLatin1", "equals", "([B[B)Z"⟩ : MethodName)) hown (mvT hZ (hw _ (List.mem_of_getElem? (i := 45) rfl))) (mvT hZ (hw _ (List.mem_of_getElem? (i := 46) rfl))) (mvT hZ (hw _ (List.mem_of_getElem? (i := 47) rfl))) (mvT hZ (hw _ (List.mem_of_getElem? (i := 48) rfl))) (by decide) (backOf (W := 0) (rm8_2 l Z a0 hw [] v1 v2 k1 k2 x1 y0 y1 h0 n0 Z0 V_1 V_2) hZ (hw _ (List.mem_of_getElem? (i := 48) rfl)) (hw _ (List.mem_of_getElem? (i := 47) rfl)) (by decide) (by decide)) (g := (mkF m 44 #[.val (.ref a1), .val (.ref a2), .val (.ref a2)] [(.ref v2), (.ref v1)])) rfl (by rw [hml]; rfl) (argsL := [(.ref v1), (.ref v2)]) (rest := []) (lenOf pd_5 rfl) rfl (by show 2 * 0 + _ ≤ _; exact Nat.le_of_eq rfl) (hb hby d7_44) (fun _ _ => ⟨rfl, e255, (by decide : 0 + 0 ≤ _), (by decide : 0 + 0 ≤ _)⟩)
 dsimp only [Pt.U, Pt.locs, Pt.cells, Pt.slots] at X256 l256 y256 z256 st256 hQ256
 subst l256 y256 z256
 obtain ⟨rfl, M256, q256_0⟩ := hQ256
 have N256 := Fr.app N0 M256
 refine own_go st256 ?_
 refine own_go (B := T256.setTop (mkF m 55 #[.val (.ref a1), .val (.ref a2), .val (.ref a2)] [(.int 0)])) (fun t k => ?_) ?_
 ·refine XS.ifYes X256.here hx rfl (pc0 := 47) (pc' := 54) rfl (hb hby d7_47) rfl ((if0 _ _).trans (teq (by decide : (0 : Int32) = (0 : Int32))).1) (by decide) (by decide) ?_
  show Steps p.tables e below (T256.setTop (mkF m 54 #[.val (.ref a1), .val (.ref a2), .val (.ref a2)] [])) _
  refine XS.iconst X256.here hx rfl (hb hby d7_54) ?_
  show Steps p.tables e below (T256.setTop (mkF m 55 #[.val (.ref a1), .val (.ref a2), .val (.ref a2)] [(.int 0)])) _
  exact k
 obtain ⟨fs, hr, hrun, hended, hW, hsame⟩ := X256.leave (v := some (.int 0)) (fun h => by rw [Bd.returns] at h; cases h)
 refine ⟨_, _, ?_, hrun, hended, _, _, rfl, ?_, ⟨_, rfl⟩, hW, hsame.mono (by decide) (by decide)⟩
 ·exact retN X256 hx (t := .boolean) Bd.returns (by simp) (hb hby d7_55) hr
 ·show Q7_2 Z a1 a2 w_COMPACT_STRINGS v1 v2 k1 k2 x1 y0 y1 h0 n0 _ T256.heap _
  rw [q256_0]
  exact ⟨rfl, N256, rfl⟩
theorem ef_8_3 (m : MethodId) (v1 : Addr) (v2 : Addr) : entryFrame m #[(.ref v1), (.ref v2)] 3 = mkF m 0 #[.val (.ref v1), .val (.ref v2), .unset] [] := by first | (simp [entryFrame, mkF, argsToLocals, Value.category]; done) | rfl
def Q8_3 (Z : State) (v1 : Addr) (v2 : Addr) (k1 : ClassId) (k2 : ClassId) (x1 : Int32) (y0 : Int32) (y1 : Int32) (y2 : Int32) (h0 : Heap) (n0 : Nat) (v : Option Value) (h : Heap) (L : List Loc) : Prop := v = some (.int 0) ∧ Fr n0 L ∧ h = h0
set_option maxRecDepth 65536 in
set_option maxHeartbeats 40000000 in
theorem rm8_3 (l : Launch) (Z : State) (a0 : Array Value) (hw : ∀ d ∈ tables_1, d.before a0 Z = true) (ws : List Jvm.Cond) (v1 : Addr) (v2 : Addr) (k1 : ClassId) (k2 : ClassId) (x1 : Int32) (y0 : Int32) (y1 : Int32) (y2 : Int32) (h0 : Heap) (n0 : Nat) (Z0 : n0 ≤ h0.size) (V_1 : Arv Z h0 v1 k1 .byte (1 : Int32) [(.int x1)] (.int 0)) (V_2 : Arv Z h0 v2 k2 .byte (3 : Int32) [(.int y0), (.int y1), (.int y2)] (.int 0)) :
  MetFree l (⟨"java/lang/StringLatin1", "equals", "([B[B)Z"⟩ : MethodName) (head1 (Jvm.Cond.code (⟨"java/lang/StringLatin1", "equals", "([B[B)Z"⟩ : MethodName) jdk_43_method_13_code 3 (some .boolean) :: ws) ({ frames := 0, cells := 0, slots := 0, locals := 0 } : Room)) (fun a U => a = #[(.ref v1), (.ref v2)] ∧ Z.Warmed39 U.vm ∧ U.heap = h0) (fun _ _ _ _ _ => True) (fun _ U o U' => ∃ v L, o = .returned v ∧ Q8_3 Z v1 v2 k1 k2 x1 y0 y1 y2 h0 n0 v U'.heap L ∧ FrameEnd U o U' L ({ frames := 0, cells := 0, slots := 0, locals := 0 } : Room).cells ({ frames := 0, cells := 0, slots := 0, locals := 0 } : Room).slots) := by
 refine MetFree.of_bodySF (plainFor_of_name pn_199) hisR ?_
 intro p e s m args below meth c s₁ Bd hml0 hP hK
 obtain ⟨rfl, hZ, hh⟩ := hP
 have hx := Bd.exec
 have hby := Bd.bytes
 have hml : c.maxLocals = 3 := hml0
 have hown : s.vm.findClass "java/lang/StringLatin1" = some m.cls := findClass_of_methodNamed Bd.named
 have hnm := (name_of_methodNamed Bd.named Bd.method).1
 have X0 : Stand p l e ({ frames := 0, cells := 0, slots := 0, locals := 0 } : Room) s m #[(.ref v1), (.ref v2)] below meth c s₁ [] 0 0 := Stand.of_body Bd
 have e0 : s₁.heap = h0 := by rw [← hh, Bd.state]; rfl
 have N0 := Fr.nil n0
 refine own_go (B := s₁.setTop (mkF m 0 #[.val (.ref v1), .val (.ref v2), .unset] [])) (fun t k => castTop (ef_8_3 m v1 v2) k) ?_
 refine own_go (B := s₁.setTop (mkF m 1 #[.val (.ref v1), .val (.ref v2), .unset] [(.ref v1)])) (fun t k => ?_) ?_
 ·refine XS.aloadN X0.here hx rfl (hb hby d8_0) rfl rfl ?_
  show Steps p.tables e below (s₁.setTop (mkF m 1 #[.val (.ref v1), .val (.ref v2), .unset] [(.ref v1)])) _
  exact k
 obtain ⟨cl258, Ar258, cq258, cS258, cN258, cH258, cG258⟩ := id V_1
 refine own_go (B := s₁.setTop (mkF m 3 #[.val (.ref v1), .val (.ref v2), .unset] [(.ref v2), (.int 1)])) (fun t k => ?_) ?_
 ·refine X0.arraylength hx (by rw [e0]; exact Ar258.1) (State.isArrayOf_alike hZ.alike Ar258.2.1) (g := (mkF m 1 #[.val (.ref v1), .val (.ref v2), .unset] [(.ref v1)])) rfl rfl (hb hby d8_1) _ ?_
  rw [len_of cS258 cN258]
  show Steps p.tables e below (s₁.setTop (mkF m 2 #[.val (.ref v1), .val (.ref v2), .unset] [(.int 1)])) _
  refine XS.aloadN X0.here hx rfl (hb hby d8_2) rfl rfl ?_
  show Steps p.tables e below (s₁.setTop (mkF m 3 #[.val (.ref v1), .val (.ref v2), .unset] [(.ref v2), (.int 1)])) _
  exact k
 obtain ⟨cl259, Ar259, cq259, cS259, cN259, cH259, cG259⟩ := id V_2
 refine own_go (B := s₁.setTop (mkF m 35 #[.val (.ref v1), .val (.ref v2), .unset] [(.int 0)])) (fun t k => ?_) ?_
 ·refine X0.arraylength hx (by rw [e0]; exact Ar259.1) (State.isArrayOf_alike hZ.alike Ar259.2.1) (g := (mkF m 3 #[.val (.ref v1), .val (.ref v2), .unset] [(.ref v2), (.int 1)])) rfl rfl (hb hby d8_3) _ ?_
  rw [len_of cS259 cN259]
  show Steps p.tables e below (s₁.setTop (mkF m 4 #[.val (.ref v1), .val (.ref v2), .unset] [(.int 3), (.int 1)])) _
  refine XS.icmpYes X0.here hx rfl (pc0 := 4) (pc' := 34) rfl (hb hby d8_4) rfl (feq (by decide : ¬ ((1 : Int32) = (3 : Int32)))).2 (by decide) (by decide) ?_
  show Steps p.tables e below (s₁.setTop (mkF m 34 #[.val (.ref v1), .val (.ref v2), .unset] [])) _
  refine XS.iconst X0.here hx rfl (hb hby d8_34) ?_
  show Steps p.tables e below (s₁.setTop (mkF m 35 #[.val (.ref v1), .val (.ref v2), .unset] [(.int 0)])) _
  exact k
 obtain ⟨fs, hr, hrun, hended, hW, hsame⟩ := X0.leave (v := some (.int 0)) (fun h => by rw [Bd.returns] at h; cases h)
 refine ⟨_, _, ?_, hrun, hended, _, _, rfl, ?_, ⟨_, rfl⟩, hW, hsame.mono (by decide) (by decide)⟩
 ·exact retN X0 hx (t := .boolean) Bd.returns (by simp) (hb hby d8_35) hr
 ·show Q8_3 Z v1 v2 k1 k2 x1 y0 y1 y2 h0 n0 _ s₁.heap _
  rw [e0]
  exact ⟨rfl, N0, rfl⟩
theorem ef_7_3 (m : MethodId) (a1 : Addr) (a2 : Addr) : entryFrame m #[(.ref a1), (.ref a2)] 3 = mkF m 0 #[.val (.ref a1), .val (.ref a2), .unset] [] := by first | (simp [entryFrame, mkF, argsToLocals, Value.category]; done) | rfl
def Q7_3 (Z : State) (a1 : Addr) (a2 : Addr) (w_COMPACT_STRINGS : Int32) (v1 : Addr) (v2 : Addr) (k1 : ClassId) (k2 : ClassId) (x1 : Int32) (y0 : Int32) (y1 : Int32) (y2 : Int32) (h0 : Heap) (n0 : Nat) (v : Option Value) (h : Heap) (L : List Loc) : Prop := v = some (.int 0) ∧ Fr n0 L ∧ h = h0
set_option maxRecDepth 65536 in
set_option maxHeartbeats 40000000 in
theorem rm7_3 (l : Launch) (Z : State) (a0 : Array Value) (hw : ∀ d ∈ tables_1, d.before a0 Z = true) (ws : List Jvm.Cond) (a1 : Addr) (a2 : Addr) (w_COMPACT_STRINGS : Int32) (v1 : Addr) (v2 : Addr) (k1 : ClassId) (k2 : ClassId) (x1 : Int32) (y0 : Int32) (y1 : Int32) (y2 : Int32) (h0 : Heap) (n0 : Nat) (Z0 : n0 ≤ h0.size) (S_COMPACT_STRINGS : Sta Z h0 "java/lang/String" "COMPACT_STRINGS" "Z" (.int w_COMPACT_STRINGS)) (N_COMPACT_STRINGS : ¬ w_COMPACT_STRINGS = (0 : Int32)) (E_2 : Exa Z h0 a2 "java/lang/String") (C_1 : Fld Z h0 a1 "java/lang/String" "coder" "B" (.int 0)) (C_2 : Fld Z h0 a2 "java/lang/String" "coder" "B" (.int 0)) (W_1 : Fld Z h0 a1 "java/lang/String" "value" "[B" (.ref v1)) (W_2 : Fld Z h0 a2 "java/lang/String" "value" "[B" (.ref v2)) (V_1 : Arv Z h0 v1 k1 .byte (1 : Int32) [(.int x1)] (.int 0)) (V_2 : Arv Z h0 v2 k2 .byte (3 : Int32) [(.int y0), (.int y1), (.int y2)] (.int 0)) (ne_ : a1 ≠ a2) :
  MetFree l (⟨"java/lang/String", "equals", "(Ljava/lang/Object;)Z"⟩ : MethodName) (head1 (Jvm.Cond.code (⟨"java/lang/String", "equals", "(Ljava/lang/Object;)Z"⟩ : MethodName) jdk_42_method_66_code 3 (some .boolean) :: ws) ({ frames := 1, cells := 0, slots := 0, locals := 14 } : Room)) (fun a U => a = #[(.ref a1), (.ref a2)] ∧ Z.Warmed39 U.vm ∧ U.heap = h0) (fun _ _ _ _ _ => True) (fun _ U o U' => ∃ v L, o = .returned v ∧ Q7_3 Z a1 a2 w_COMPACT_STRINGS v1 v2 k1 k2 x1 y0 y1 y2 h0 n0 v U'.heap L ∧ FrameEnd U o U' L ({ frames := 1, cells := 0, slots := 0, locals := 14 } : Room).cells ({ frames := 1, cells := 0, slots := 0, locals := 14 } : Room).slots) := by
 refine MetFree.of_bodySF (plainFor_of_name pn_118) hisR ?_
 intro p e s m args below meth c s₁ Bd hml0 hP hK
 obtain ⟨rfl, hZ, hh⟩ := hP
 have hx := Bd.exec
 have hby := Bd.bytes
 have hml : c.maxLocals = 3 := hml0
 have hown : s.vm.findClass "java/lang/String" = some m.cls := findClass_of_methodNamed Bd.named
 have hnm := (name_of_methodNamed Bd.named Bd.method).1
 have X0 : Stand p l e ({ frames := 1, cells := 0, slots := 0, locals := 14 } : Room) s m #[(.ref a1), (.ref a2)] below meth c s₁ [] 0 0 := Stand.of_body Bd
 have e0 : s₁.heap = h0 := by rw [← hh, Bd.state]; rfl
 have N0 := Fr.nil n0
 refine own_go (B := s₁.setTop (mkF m 0 #[.val (.ref a1), .val (.ref a2), .unset] [])) (fun t k => castTop (ef_7_3 m a1 a2) k) ?_
 refine own_go (B := s₁.setTop (mkF m 8 #[.val (.ref a1), .val (.ref a2), .unset] [(.ref a2)])) (fun t k => ?_) ?_
 ·refine XS.aloadN X0.here hx rfl (hb hby d7_0) rfl rfl ?_
  show Steps p.tables e below (s₁.setTop (mkF m 1 #[.val (.ref a1), .val (.ref a2), .unset] [(.ref a1)])) _
  refine XS.aloadN X0.here hx rfl (hb hby d7_1) rfl rfl ?_
  show Steps p.tables e below (s₁.setTop (mkF m 2 #[.val (.ref a1), .val (.ref a2), .unset] [(.ref a2), (.ref a1)])) _
  refine Jvm.RoadKit.acmp (g := (mkF m 2 #[.val (.ref a1), .val (.ref a2), .unset] [(.ref a2), (.ref a1)])) X0 hx rfl rfl rfl (pc0 := 2) (pc' := 7) (same := false) rfl (hb hby d7_2) rfl (decide_eq_false fun q => ne_ (Value.ref.inj q)) (by decide) (by decide) ?_
  show Steps p.tables e below (s₁.setTop (mkF m 7 #[.val (.ref a1), .val (.ref a2), .unset] [])) _
  refine XS.aloadN X0.here hx rfl (hb hby d7_7) rfl rfl ?_
  show Steps p.tables e below (s₁.setTop (mkF m 8 #[.val (.ref a1), .val (.ref a2), .unset] [(.ref a2)])) _
  exact k
 obtain ⟨T261, X261, e261, st261⟩ := instY X0 hx hZ hown (hw _ (List.mem_of_getElem? (i := 43) rfl)) e0 (Ins.self E_2) (g := (mkF m 8 #[.val (.ref a1), .val (.ref a2), .unset] [(.ref a2)])) rfl rfl (hb hby d7_8)
 refine own_go st261 ?_
 refine own_go (B := T261.setTop (mkF m 15 #[.val (.ref a1), .val (.ref a2), .unset] [(.ref a2)])) (fun t k => ?_) ?_
 ·refine XS.ifNo X261.here hx rfl (hb hby d7_11) rfl ((if0 _ _).trans (feq (by decide : ¬ ((1 : Int32) = (0 : Int32)))).1) ?_
  show Steps p.tables e below (T261.setTop (mkF m 14 #[.val (.ref a1), .val (.ref a2), .unset] [])) _
  refine XS.aloadN X261.here hx rfl (hb hby d7_14) rfl rfl ?_
  show Steps p.tables e below (T261.setTop (mkF m 15 #[.val (.ref a1), .val (.ref a2), .unset] [(.ref a2)])) _
  exact k
 obtain ⟨T262, X262, e262, st262⟩ := castY X261 hx hZ hown (hw _ (List.mem_of_getElem? (i := 43) rfl)) e261 (Ins.self E_2) (g := (mkF m 15 #[.val (.ref a1), .val (.ref a2), .unset] [(.ref a2)])) rfl rfl (hb hby d7_15)
 refine own_go st262 ?_
 refine own_go (B := T262.setTop (mkF m 19 #[.val (.ref a1), .val (.ref a2), .val (.ref a2)] [])) (fun t k => ?_) ?_
 ·refine XS.astoreN X262.here hx rfl (hb hby d7_18) rfl rfl (l' := #[.val (.ref a1), .val (.ref a2), .val (.ref a2)]) rfl ?_
  show Steps p.tables e below (T262.setTop (mkF m 19 #[.val (.ref a1), .val (.ref a2), .val (.ref a2)] [])) _
  exact k
 obtain ⟨T263, X263, e263, st263⟩ := getS2 X262 hx hZ hown (host := "") (Or.inl (hw _ (List.mem_of_getElem? (i := 44) rfl))) Via.refl e262 S_COMPACT_STRINGS (g := (mkF m 19 #[.val (.ref a1), .val (.ref a2), .val (.ref a2)] [])) rfl (hb hby d7_19)
 refine own_go st263 ?_
 refine own_go (B := T263.setTop (mkF m 26 #[.val (.ref a1), .val (.ref a2), .val (.ref a2)] [(.ref a1)])) (fun t k => ?_) ?_
 ·refine XS.ifNo X263.here hx rfl (hb hby d7_22) rfl ((if0 _ _).trans (feq (show ¬ (w_COMPACT_STRINGS = (0 : Int32)) from N_COMPACT_STRINGS)).1) ?_
  show Steps p.tables e below (T263.setTop (mkF m 25 #[.val (.ref a1), .val (.ref a2), .val (.ref a2)] [])) _
  refine XS.aloadN X263.here hx rfl (hb hby d7_25) rfl rfl ?_
  show Steps p.tables e below (T263.setTop (mkF m 26 #[.val (.ref a1), .val (.ref a2), .val (.ref a2)] [(.ref a1)])) _
  exact k
 obtain ⟨T264, X264, e264, st264⟩ := getF X263 hx hZ hown (host := "") (Or.inl (hw _ (List.mem_of_getElem? (i := 28) rfl))) Via.refl e263 C_1 (g := (mkF m 26 #[.val (.ref a1), .val (.ref a2), .val (.ref a2)] [(.ref a1)])) rfl rfl (hb hby d7_26)
 refine own_go st264 ?_
 refine own_go (B := T264.setTop (mkF m 30 #[.val (.ref a1), .val (.ref a2), .val (.ref a2)] [(.ref a2), (.int 0)])) (fun t k => ?_) ?_
 ·refine XS.aloadN X264.here hx rfl (hb hby d7_29) rfl rfl ?_
  show Steps p.tables e below (T264.setTop (mkF m 30 #[.val (.ref a1), .val (.ref a2), .val (.ref a2)] [(.ref a2), (.int 0)])) _
  exact k
 obtain ⟨T265, X265, e265, st265⟩ := getF X264 hx hZ hown (host := "") (Or.inl (hw _ (List.mem_of_getElem? (i := 28) rfl))) Via.refl e264 C_2 (g := (mkF m 30 #[.val (.ref a1), .val (.ref a2), .val (.ref a2)] [(.ref a2), (.int 0)])) rfl rfl (hb hby d7_30)
 refine own_go st265 ?_
 refine own_go (B := T265.setTop (mkF m 37 #[.val (.ref a1), .val (.ref a2), .val (.ref a2)] [(.ref a1)])) (fun t k => ?_) ?_
 ·refine XS.icmpNo X265.here hx rfl (hb hby d7_33) rfl (teq (by decide : (0 : Int32) = (0 : Int32))).2 ?_
  show Steps p.tables e below (T265.setTop (mkF m 36 #[.val (.ref a1), .val (.ref a2), .val (.ref a2)] [])) _
  refine XS.aloadN X265.here hx rfl (hb hby d7_36) rfl rfl ?_
  show Steps p.tables e below (T265.setTop (mkF m 37 #[.val (.ref a1), .val (.ref a2), .val (.ref a2)] [(.ref a1)])) _
  exact k
 obtain ⟨T266, X266, e266, st266⟩ := getF X265 hx hZ hown (host := "") (Or.inl (hw _ (List.mem_of_getElem? (i := 27) rfl))) Via.refl e265 W_1 (g := (mkF m 37 #[.val (.ref a1), .val (.ref a2), .val (.ref a2)] [(.ref a1)])) rfl rfl (hb hby d7_37)
 refine own_go st266 ?_
 refine own_go (B := T266.setTop (mkF m 41 #[.val (.ref a1), .val (.ref a2), .val (.ref a2)] [(.ref a2), (.ref v1)])) (fun t k => ?_) ?_
 ·refine XS.aloadN X266.here hx rfl (hb hby d7_40) rfl rfl ?_
  show Steps p.tables e below (T266.setTop (mkF m 41 #[.val (.ref a1), .val (.ref a2), .val (.ref a2)] [(.ref a2), (.ref v1)])) _
  exact k
 obtain ⟨T267, X267, e267, st267⟩ := getF X266 hx hZ hown (host := "") (Or.inl (hw _ (List.mem_of_getElem? (i := 27) rfl))) Via.refl e266 W_2 (g := (mkF m 41 #[.val (.ref a1), .val (.ref a2), .val (.ref a2)] [(.ref a2), (.ref v1)])) rfl rfl (hb hby d7_41)
 refine own_go st267 ?_
 obtain ⟨_, _, ⟨T268, L268, k268, n268⟩, -, X268, ⟨Lc268, hQ268, l268, y268, z268⟩, st268⟩ := Jvm.LawKit.callS X267 hx (y := (⟨"java/lang/StringLatin1", "equals", "([B[B)Z"⟩ : MethodName)) hown (mvT hZ (hw _ (List.mem_of_getElem? (i := 45) rfl))) (mvT hZ (hw _ (List.mem_of_getElem? (i := 46) rfl))) (mvT hZ (hw _ (List.mem_of_getElem? (i := 47) rfl))) (mvT hZ (hw _ (List.mem_of_getElem? (i := 48) rfl))) (by decide) (backOf (W := 0) (rm8_3 l Z a0 hw [] v1 v2 k1 k2 x1 y0 y1 y2 h0 n0 Z0 V_1 V_2) hZ (hw _ (List.mem_of_getElem? (i := 48) rfl)) (hw _ (List.mem_of_getElem? (i := 47) rfl)) (by decide) (by decide)) (g := (mkF m 44 #[.val (.ref a1), .val (.ref a2), .val (.ref a2)] [(.ref v2), (.ref v1)])) rfl (by rw [hml]; rfl) (argsL := [(.ref v1), (.ref v2)]) (rest := []) (lenOf pd_5 rfl) rfl (by show 2 * 0 + _ ≤ _; exact Nat.le_of_eq rfl) (hb hby d7_44) (fun _ _ => ⟨rfl, e267, (by decide : 0 + 0 ≤ _), (by decide : 0 + 0 ≤ _)⟩)
 dsimp only [Pt.U, Pt.locs, Pt.cells, Pt.slots] at X268 l268 y268 z268 st268 hQ268
 subst l268 y268 z268
 obtain ⟨rfl, M268, q268_0⟩ := hQ268
 have N268 := Fr.app N0 M268
 refine own_go st268 ?_
 refine own_go (B := T268.setTop (mkF m 55 #[.val (.ref a1), .val (.ref a2), .val (.ref a2)] [(.int 0)])) (fun t k => ?_) ?_
 ·refine XS.ifYes X268.here hx rfl (pc0 := 47) (pc' := 54) rfl (hb hby d7_47) rfl ((if0 _ _).trans (teq (by decide : (0 : Int32) = (0 : Int32))).1) (by decide) (by decide) ?_
  show Steps p.tables e below (T268.setTop (mkF m 54 #[.val (.ref a1), .val (.ref a2), .val (.ref a2)] [])) _
  refine XS.iconst X268.here hx rfl (hb hby d7_54) ?_
  show Steps p.tables e below (T268.setTop (mkF m 55 #[.val (.ref a1), .val (.ref a2), .val (.ref a2)] [(.int 0)])) _
  exact k
 obtain ⟨fs, hr, hrun, hended, hW, hsame⟩ := X268.leave (v := some (.int 0)) (fun h => by rw [Bd.returns] at h; cases h)
 refine ⟨_, _, ?_, hrun, hended, _, _, rfl, ?_, ⟨_, rfl⟩, hW, hsame.mono (by decide) (by decide)⟩
 ·exact retN X268 hx (t := .boolean) Bd.returns (by simp) (hb hby d7_55) hr
 ·show Q7_3 Z a1 a2 w_COMPACT_STRINGS v1 v2 k1 k2 x1 y0 y1 y2 h0 n0 _ T268.heap _
  rw [q268_0]
  exact ⟨rfl, N268, rfl⟩
theorem pd_6 : parseMethodDescriptor "(Ljava/lang/Object;)Z" = some ⟨[(.object "java/lang/Object")], some .boolean⟩ := by decide +kernel
theorem pn_268 : plainName "com/example/restate/restate/MarkerStyle" = true := by first | (simp [plainName, overriddenIn]; done) | decide +kernel
theorem d6_0 : decode prog_61_method_5_code 0 = .ok (.getstatic 42, 3) := by decide +kernel
theorem d6_3 : decode prog_61_method_5_code 3 = .ok (.astore_n 1, 1) := by decide +kernel
theorem d6_4 : decode prog_61_method_5_code 4 = .ok (.aload_n 1, 1) := by decide +kernel
theorem d6_5 : decode prog_61_method_5_code 5 = .ok (.arraylength, 1) := by decide +kernel
theorem d6_6 : decode prog_61_method_5_code 6 = .ok (.istore_n 2, 1) := by decide +kernel
theorem d6_7 : decode prog_61_method_5_code 7 = .ok (.iconst 0, 1) := by decide +kernel
theorem d6_8 : decode prog_61_method_5_code 8 = .ok (.istore_n 3, 1) := by decide +kernel
theorem d6_9 : decode prog_61_method_5_code 9 = .ok (.iload_n 3, 1) := by decide +kernel
theorem d6_10 : decode prog_61_method_5_code 10 = .ok (.iload_n 2, 1) := by decide +kernel
theorem d6_11 : decode prog_61_method_5_code 11 = .ok (.if_icmp .ge 29, 3) := by decide +kernel
theorem d6_14 : decode prog_61_method_5_code 14 = .ok (.aload_n 1, 1) := by decide +kernel
theorem d6_15 : decode prog_61_method_5_code 15 = .ok (.iload_n 3, 1) := by decide +kernel
theorem d6_16 : decode prog_61_method_5_code 16 = .ok (.aaload, 1) := by decide +kernel
theorem d6_17 : decode prog_61_method_5_code 17 = .ok (.astore 4, 2) := by decide +kernel
theorem d6_19 : decode prog_61_method_5_code 19 = .ok (.aload 4, 2) := by decide +kernel
theorem d6_21 : decode prog_61_method_5_code 21 = .ok (.getfield 38, 3) := by decide +kernel
theorem d6_24 : decode prog_61_method_5_code 24 = .ok (.aload_n 0, 1) := by decide +kernel
theorem d6_25 : decode prog_61_method_5_code 25 = .ok (.invokevirtual 45, 3) := by decide +kernel
theorem d6_28 : decode prog_61_method_5_code 28 = .ok (.ifCond .eq 6, 3) := by decide +kernel
theorem d6_34 : decode prog_61_method_5_code 34 = .ok (.iinc 3 1, 3) := by decide +kernel
theorem d6_37 : decode prog_61_method_5_code 37 = .ok (.goto (-28), 3) := by decide +kernel
theorem d6_40 : decode prog_61_method_5_code 40 = .ok (.aconst_null, 1) := by decide +kernel
theorem d6_41 : decode prog_61_method_5_code 41 = .ok (.areturn, 1) := by decide +kernel
theorem ef_6_0 (m : MethodId) (a1 : Addr) : entryFrame m #[(.ref a1)] 5 = mkF m 0 #[.val (.ref a1), .unset, .unset, .unset, .unset] [] := by first | (simp [entryFrame, mkF, argsToLocals, Value.category]; done) | rfl
def Q6_0 (Z : State) (a1 : Addr) (w_STYLES : Addr) (w_NUMBER : Addr) (w_NUMBER_first : Addr) (w_NUMBER_first_value : Addr) (w_LOWER_LETTER : Addr) (w_LOWER_LETTER_first : Addr) (w_LOWER_LETTER_first_value : Addr) (w_UPPER_LETTER : Addr) (w_UPPER_LETTER_first : Addr) (w_UPPER_LETTER_first_value : Addr) (w_LOWER_ROMAN : Addr) (w_LOWER_ROMAN_first : Addr) (w_LOWER_ROMAN_first_value : Addr) (w_UPPER_ROMAN : Addr) (w_UPPER_ROMAN_first : Addr) (w_UPPER_ROMAN_first_value : Addr) (w_COMPACT_STRINGS : Int32) (k_STYLES : ClassId) (k_NUMBER_first_value : ClassId) (k_LOWER_LETTER_first_value : ClassId) (k_UPPER_LETTER_first_value : ClassId) (k_LOWER_ROMAN_first_value : ClassId) (k_UPPER_ROMAN_first_value : ClassId) (vs : Addr) (ks : ClassId) (h0 : Heap) (n0 : Nat) (v : Option Value) (h : Heap) (L : List Loc) : Prop := v = some .null ∧ Fr n0 L ∧ h = h0
set_option maxRecDepth 65536 in
set_option maxHeartbeats 40000000 in
theorem rm6_0 (l : Launch) (Z : State) (a0 : Array Value) (hw : ∀ d ∈ tables_1, d.before a0 Z = true) (ws : List Jvm.Cond) (a1 : Addr) (w_STYLES : Addr) (w_NUMBER : Addr) (w_NUMBER_first : Addr) (w_NUMBER_first_value : Addr) (w_LOWER_LETTER : Addr) (w_LOWER_LETTER_first : Addr) (w_LOWER_LETTER_first_value : Addr) (w_UPPER_LETTER : Addr) (w_UPPER_LETTER_first : Addr) (w_UPPER_LETTER_first_value : Addr) (w_LOWER_ROMAN : Addr) (w_LOWER_ROMAN_first : Addr) (w_LOWER_ROMAN_first_value : Addr) (w_UPPER_ROMAN : Addr) (w_UPPER_ROMAN_first : Addr) (w_UPPER_ROMAN_first_value : Addr) (w_COMPACT_STRINGS : Int32) (k_STYLES : ClassId) (k_NUMBER_first_value : ClassId) (k_LOWER_LETTER_first_value : ClassId) (k_UPPER_LETTER_first_value : ClassId) (k_LOWER_ROMAN_first_value : ClassId) (k_UPPER_ROMAN_first_value : ClassId) (vs : Addr) (ks : ClassId) (h0 : Heap) (n0 : Nat) (Z0 : n0 ≤ h0.size) (S_STYLES : Sta Z h0 "com/example/restate/restate/MarkerStyle" "STYLES" "[Lcom/example/restate/restate/MarkerStyle;" (.ref w_STYLES)) (S_NUMBER : Sta Z h0 "com/example/restate/restate/MarkerStyle" "NUMBER" "Lcom/example/restate/restate/MarkerStyle;" (.ref w_NUMBER)) (E_NUMBER : Exa Z h0 w_NUMBER "com/example/restate/restate/MarkerStyle") (F_NUMBER_first : Fld Z h0 w_NUMBER "com/example/restate/restate/MarkerStyle" "first" "Ljava/lang/String;" (.ref w_NUMBER_first)) (E_NUMBER_first : Exa Z h0 w_NUMBER_first "java/lang/String") (F_NUMBER_first_value : Fld Z h0 w_NUMBER_first "java/lang/String" "value" "[B" (.ref w_NUMBER_first_value)) (S_LOWER_LETTER : Sta Z h0 "com/example/restate/restate/MarkerStyle" "LOWER_LETTER" "Lcom/example/restate/restate/MarkerStyle;" (.ref w_LOWER_LETTER)) (E_LOWER_LETTER : Exa Z h0 w_LOWER_LETTER "com/example/restate/restate/MarkerStyle") (F_LOWER_LETTER_first : Fld Z h0 w_LOWER_LETTER "com/example/restate/restate/MarkerStyle" "first" "Ljava/lang/String;" (.ref w_LOWER_LETTER_first)) (E_LOWER_LETTER_first : Exa Z h0 w_LOWER_LETTER_first "java/lang/String") (F_LOWER_LETTER_first_value : Fld Z h0 w_LOWER_LETTER_first "java/lang/String" "value" "[B" (.ref w_LOWER_LETTER_first_value)) (S_UPPER_LETTER : Sta Z h0 "com/example/restate/restate/MarkerStyle" "UPPER_LETTER" "Lcom/example/restate/restate/MarkerStyle;" (.ref w_UPPER_LETTER)) (E_UPPER_LETTER : Exa Z h0 w_UPPER_LETTER "com/example/restate/restate/MarkerStyle") (F_UPPER_LETTER_first : Fld Z h0 w_UPPER_LETTER "com/example/restate/restate/MarkerStyle" "first" "Ljava/lang/String;" (.ref w_UPPER_LETTER_first)) (E_UPPER_LETTER_first : Exa Z h0 w_UPPER_LETTER_first "java/lang/String") (F_UPPER_LETTER_first_value : Fld Z h0 w_UPPER_LETTER_first "java/lang/String" "value" "[B" (.ref w_UPPER_LETTER_first_value)) (S_LOWER_ROMAN : Sta Z h0 "com/example/restate/restate/MarkerStyle" "LOWER_ROMAN" "Lcom/example/restate/restate/MarkerStyle;" (.ref w_LOWER_ROMAN)) (E_LOWER_ROMAN : Exa Z h0 w_LOWER_ROMAN "com/example/restate/restate/MarkerStyle") (F_LOWER_ROMAN_first : Fld Z h0 w_LOWER_ROMAN "com/example/restate/restate/MarkerStyle" "first" "Ljava/lang/String;" (.ref w_LOWER_ROMAN_first)) (E_LOWER_ROMAN_first : Exa Z h0 w_LOWER_ROMAN_first "java/lang/String") (F_LOWER_ROMAN_first_value : Fld Z h0 w_LOWER_ROMAN_first "java/lang/String" "value" "[B" (.ref w_LOWER_ROMAN_first_value)) (S_UPPER_ROMAN : Sta Z h0 "com/example/restate/restate/MarkerStyle" "UPPER_ROMAN" "Lcom/example/restate/restate/MarkerStyle;" (.ref w_UPPER_ROMAN)) (E_UPPER_ROMAN : Exa Z h0 w_UPPER_ROMAN "com/example/restate/restate/MarkerStyle") (F_UPPER_ROMAN_first : Fld Z h0 w_UPPER_ROMAN "com/example/restate/restate/MarkerStyle" "first" "Ljava/lang/String;" (.ref w_UPPER_ROMAN_first)) (E_UPPER_ROMAN_first : Exa Z h0 w_UPPER_ROMAN_first "java/lang/String") (F_UPPER_ROMAN_first_value : Fld Z h0 w_UPPER_ROMAN_first "java/lang/String" "value" "[B" (.ref w_UPPER_ROMAN_first_value)) (S_COMPACT_STRINGS : Sta Z h0 "java/lang/String" "COMPACT_STRINGS" "Z" (.int w_COMPACT_STRINGS)) (F_NUMBER_first_coder : Fld Z h0 w_NUMBER_first "java/lang/String" "coder" "B" (.int 0)) (F_LOWER_LETTER_first_coder : Fld Z h0 w_LOWER_LETTER_first "java/lang/String" "coder" "B" (.int 0)) (F_UPPER_LETTER_first_coder : Fld Z h0 w_UPPER_LETTER_first "java/lang/String" "coder" "B" (.int 0)) (F_LOWER_ROMAN_first_coder : Fld Z h0 w_LOWER_ROMAN_first "java/lang/String" "coder" "B" (.int 0)) (F_UPPER_ROMAN_first_coder : Fld Z h0 w_UPPER_ROMAN_first "java/lang/String" "coder" "B" (.int 0)) (N_COMPACT_STRINGS : ¬ w_COMPACT_STRINGS = (0 : Int32)) (V_STYLES : Arv Z h0 w_STYLES k_STYLES (.object "com/example/restate/restate/MarkerStyle") (5 : Int32) [(.ref w_NUMBER), (.ref w_LOWER_LETTER), (.ref w_UPPER_LETTER), (.ref w_LOWER_ROMAN), (.ref w_UPPER_ROMAN)] .null) (V_NUMBER_first_value : Arv Z h0 w_NUMBER_first_value k_NUMBER_first_value .byte (1 : Int32) [(.int 49)] (.int 0)) (V_LOWER_LETTER_first_value : Arv Z h0 w_LOWER_LETTER_first_value k_LOWER_LETTER_first_value .byte (1 : Int32) [(.int 97)] (.int 0)) (V_UPPER_LETTER_first_value : Arv Z h0 w_UPPER_LETTER_first_value k_UPPER_LETTER_first_value .byte (1 : Int32) [(.int 65)] (.int 0)) (V_LOWER_ROMAN_first_value : Arv Z h0 w_LOWER_ROMAN_first_value k_LOWER_ROMAN_first_value .byte (1 : Int32) [(.int 105)] (.int 0)) (V_UPPER_ROMAN_first_value : Arv Z h0 w_UPPER_ROMAN_first_value k_UPPER_ROMAN_first_value .byte (1 : Int32) [(.int 73)] (.int 0)) (E_s : Exa Z h0 a1 "java/lang/String") (C_s : Fld Z h0 a1 "java/lang/String" "coder" "B" (.int 0)) (W_s : Fld Z h0 a1 "java/lang/String" "value" "[B" (.ref vs)) (V_s : Arv Z h0 vs ks .byte (0 : Int32) [] (.int 0)) (ne_NUMBER : w_NUMBER_first ≠ a1) (ne_LOWER_LETTER : w_LOWER_LETTER_first ≠ a1) (ne_UPPER_LETTER : w_UPPER_LETTER_first ≠ a1) (ne_LOWER_ROMAN : w_LOWER_ROMAN_first ≠ a1) (ne_UPPER_ROMAN : w_UPPER_ROMAN_first ≠ a1) :
  MetFree l (⟨"com/example/restate/restate/MarkerStyle", "openedBy", "(Ljava/lang/String;)Lcom/example/restate/restate/MarkerStyle;"⟩ : MethodName) (head1 (Jvm.Cond.code (⟨"com/example/restate/restate/MarkerStyle", "openedBy", "(Ljava/lang/String;)Lcom/example/restate/restate/MarkerStyle;"⟩ : MethodName) prog_61_method_5_code 5 (some (.object "com/example/restate/restate/MarkerStyle")) :: ws) ({ frames := 2, cells := 0, slots := 0, locals := 28 } : Room)) (fun a U => a = #[(.ref a1)] ∧ Z.Warmed39 U.vm ∧ U.heap = h0) (fun _ _ _ _ _ => True) (fun _ U o U' => ∃ v L, o = .returned v ∧ Q6_0 Z a1 w_STYLES w_NUMBER w_NUMBER_first w_NUMBER_first_value w_LOWER_LETTER w_LOWER_LETTER_first w_LOWER_LETTER_first_value w_UPPER_LETTER w_UPPER_LETTER_first w_UPPER_LETTER_first_value w_LOWER_ROMAN w_LOWER_ROMAN_first w_LOWER_ROMAN_first_value w_UPPER_ROMAN w_UPPER_ROMAN_first w_UPPER_ROMAN_first_value w_COMPACT_STRINGS k_STYLES k_NUMBER_first_value k_LOWER_LETTER_first_value k_UPPER_LETTER_first_value k_LOWER_ROMAN_first_value k_UPPER_ROMAN_first_value vs ks h0 n0 v U'.heap L ∧ FrameEnd U o U' L ({ frames := 2, cells := 0, slots := 0, locals := 28 } : Room).cells ({ frames := 2, cells := 0, slots := 0, locals := 28 } : Room).slots) := by
 refine MetFree.of_bodySF (plainFor_of_name pn_268) hisR ?_
 intro p e s m args below meth c s₁ Bd hml0 hP hK
 obtain ⟨rfl, hZ, hh⟩ := hP
 have hx := Bd.exec
 have hby := Bd.bytes
 have hml : c.maxLocals = 5 := hml0
 have hown : s.vm.findClass "com/example/restate/restate/MarkerStyle" = some m.cls := findClass_of_methodNamed Bd.named
 have hnm := (name_of_methodNamed Bd.named Bd.method).1
 have X0 : Stand p l e ({ frames := 2, cells := 0, slots := 0, locals := 28 } : Room) s m #[(.ref a1)] below meth c s₁ [] 0 0 := Stand.of_body Bd
 have e0 : s₁.heap = h0 := by rw [← hh, Bd.state]; rfl
 have N0 := Fr.nil n0
 refine own_go (B := s₁.setTop (mkF m 0 #[.val (.ref a1), .unset, .unset, .unset, .unset] [])) (fun t k => castTop (ef_6_0 m a1) k) ?_
 obtain ⟨T270, X270, e270, st270⟩ := getS2 X0 hx hZ hown (host := "") (Or.inl (hw _ (List.mem_of_getElem? (i := 33) rfl))) Via.refl e0 S_STYLES (g := (mkF m 0 #[.val (.ref a1), .unset, .unset, .unset, .unset] [])) rfl (hb hby d6_0)
 refine own_go st270 ?_
 refine own_go (B := T270.setTop (mkF m 5 #[.val (.ref a1), .val (.ref w_STYLES), .unset, .unset, .unset] [(.ref w_STYLES)])) (fun t k => ?_) ?_
 ·refine XS.astoreN X270.here hx rfl (hb hby d6_3) rfl rfl (l' := #[.val (.ref a1), .val (.ref w_STYLES), .unset, .unset, .unset]) rfl ?_
  show Steps p.tables e below (T270.setTop (mkF m 4 #[.val (.ref a1), .val (.ref w_STYLES), .unset, .unset, .unset] [])) _
  refine XS.aloadN X270.here hx rfl (hb hby d6_4) rfl rfl ?_
  show Steps p.tables e below (T270.setTop (mkF m 5 #[.val (.ref a1), .val (.ref w_STYLES), .unset, .unset, .unset] [(.ref w_STYLES)])) _
  exact k
 obtain ⟨cl271, Ar271, cq271, cS271, cN271, cH271, cG271⟩ := id V_STYLES
 refine own_go (B := T270.setTop (mkF m 16 #[.val (.ref a1), .val (.ref w_STYLES), .val (.int 5), .val (.int 0), .unset] [(.int 0), (.ref w_STYLES)])) (fun t k => ?_) ?_
 ·refine X270.arraylength hx (by rw [e270]; exact Ar271.1) (State.isArrayOf_alike hZ.alike Ar271.2.1) (g := (mkF m 5 #[.val (.ref a1), .val (.ref w_STYLES), .unset, .unset, .unset] [(.ref w_STYLES)])) rfl rfl (hb hby d6_5) _ ?_
  rw [len_of cS271 cN271]
  show Steps p.tables e below (T270.setTop (mkF m 6 #[.val (.ref a1), .val (.ref w_STYLES), .unset, .unset, .unset] [(.int 5)])) _
  refine XS.istoreN X270.here hx rfl (hb hby d6_6) rfl (l' := #[.val (.ref a1), .val (.ref w_STYLES), .val (.int 5), .unset, .unset]) rfl ?_
  show Steps p.tables e below (T270.setTop (mkF m 7 #[.val (.ref a1), .val (.ref w_STYLES), .val (.int 5), .unset, .unset] [])) _
  refine XS.iconst X270.here hx rfl (hb hby d6_7) ?_
  show Steps p.tables e below (T270.setTop (mkF m 8 #[.val (.ref a1), .val (.ref w_STYLES), .val (.int 5), .unset, .unset] [(.int 0)])) _
  refine XS.istoreN X270.here hx rfl (hb hby d6_8) rfl (l' := #[.val (.ref a1), .val (.ref w_STYLES), .val (.int 5), .val (.int 0), .unset]) rfl ?_
  show Steps p.tables e below (T270.setTop (mkF m 9 #[.val (.ref a1), .val (.ref w_STYLES), .val (.int 5), .val (.int 0), .unset] [])) _
  refine XS.iloadN X270.here hx rfl (hb hby d6_9) rfl ?_
  show Steps p.tables e below (T270.setTop (mkF m 10 #[.val (.ref a1), .val (.ref w_STYLES), .val (.int 5), .val (.int 0), .unset] [(.int 0)])) _
  refine XS.iloadN X270.here hx rfl (hb hby d6_10) rfl ?_
  show Steps p.tables e below (T270.setTop (mkF m 11 #[.val (.ref a1), .val (.ref w_STYLES), .val (.int 5), .val (.int 0), .unset] [(.int 5), (.int 0)])) _
  refine XS.icmpNo X270.here hx rfl (hb hby d6_11) rfl (tlt (by decide : (0 : Int32) < (5 : Int32))).2.1 ?_
  show Steps p.tables e below (T270.setTop (mkF m 14 #[.val (.ref a1), .val (.ref w_STYLES), .val (.int 5), .val (.int 0), .unset] [])) _
  refine XS.aloadN X270.here hx rfl (hb hby d6_14) rfl rfl ?_
  show Steps p.tables e below (T270.setTop (mkF m 15 #[.val (.ref a1), .val (.ref w_STYLES), .val (.int 5), .val (.int 0), .unset] [(.ref w_STYLES)])) _
  refine XS.iloadN X270.here hx rfl (hb hby d6_15) rfl ?_
  show Steps p.tables e below (T270.setTop (mkF m 16 #[.val (.ref a1), .val (.ref w_STYLES), .val (.int 5), .val (.int 0), .unset] [(.int 0), (.ref w_STYLES)])) _
  exact k
 obtain ⟨cl272, Ar272, cq272, cS272, cN272, cH272, cG272⟩ := id V_STYLES
 have hin272 := inb_of (j := (0 : Int32)) cS272 ⟨by decide, by decide⟩
 have hat272 : cl272.slots[((0 : Int32)).toNatClampNeg]? = some (.ref w_NUMBER) := Has.at cH272 hin272 rfl
 refine own_go (B := T270.setTop (mkF m 21 #[.val (.ref a1), .val (.ref w_STYLES), .val (.int 5), .val (.int 0), .val (.ref w_NUMBER)] [(.ref w_NUMBER)])) (fun t k => ?_) ?_
 ·refine X270.aaload hx (j := (0 : Int32)) (v := (.ref w_NUMBER)) (by rw [e270]; exact Ar272.1) (State.isArrayOf_alike hZ.alike Ar272.2.1) rfl Ar272.2.2 hin272 hat272 (g := (mkF m 16 #[.val (.ref a1), .val (.ref w_STYLES), .val (.int 5), .val (.int 0), .unset] [(.int 0), (.ref w_STYLES)])) rfl rfl (hb hby d6_16) _ ?_
  show Steps p.tables e below (T270.setTop (mkF m 17 #[.val (.ref a1), .val (.ref w_STYLES), .val (.int 5), .val (.int 0), .unset] [(.ref w_NUMBER)])) _
  refine XS.astore X270.here hx rfl (hb hby d6_17) rfl rfl (l' := #[.val (.ref a1), .val (.ref w_STYLES), .val (.int 5), .val (.int 0), .val (.ref w_NUMBER)]) rfl ?_
  show Steps p.tables e below (T270.setTop (mkF m 19 #[.val (.ref a1), .val (.ref w_STYLES), .val (.int 5), .val (.int 0), .val (.ref w_NUMBER)] [])) _
  refine XS.aload X270.here hx rfl (hb hby d6_19) rfl rfl ?_
  show Steps p.tables e below (T270.setTop (mkF m 21 #[.val (.ref a1), .val (.ref w_STYLES), .val (.int 5), .val (.int 0), .val (.ref w_NUMBER)] [(.ref w_NUMBER)])) _
  exact k
 obtain ⟨T273, X273, e273, st273⟩ := getF X270 hx hZ hown (host := "") (Or.inl (hw _ (List.mem_of_getElem? (i := 36) rfl))) Via.refl e270 F_NUMBER_first (g := (mkF m 21 #[.val (.ref a1), .val (.ref w_STYLES), .val (.int 5), .val (.int 0), .val (.ref w_NUMBER)] [(.ref w_NUMBER)])) rfl rfl (hb hby d6_21)
 refine own_go st273 ?_
 refine own_go (B := T273.setTop (mkF m 25 #[.val (.ref a1), .val (.ref w_STYLES), .val (.int 5), .val (.int 0), .val (.ref w_NUMBER)] [(.ref a1), (.ref w_NUMBER_first)])) (fun t k => ?_) ?_
 ·refine XS.aloadN X273.here hx rfl (hb hby d6_24) rfl rfl ?_
  show Steps p.tables e below (T273.setTop (mkF m 25 #[.val (.ref a1), .val (.ref w_STYLES), .val (.int 5), .val (.int 0), .val (.ref w_NUMBER)] [(.ref a1), (.ref w_NUMBER_first)])) _
  exact k
 obtain ⟨cq274, kq274, q274a, q274b, q274c⟩ := isOf hZ e273 E_NUMBER_first
 obtain ⟨_, _, ⟨T274, L274, k274, n274⟩, -, X274, ⟨Lc274, hQ274, l274, y274, z274⟩, st274⟩ := X273.virtualBack hx (y := (⟨"java/lang/String", "equals", "(Ljava/lang/Object;)Z"⟩ : MethodName)) (z := (⟨"java/lang/String", "equals", "(Ljava/lang/Object;)Z"⟩ : MethodName)) hown (mvT hZ (hw _ (List.mem_of_getElem? (i := 38) rfl))) (mvT hZ (hw _ (List.mem_of_getElem? (i := 39) rfl))) (notFace_of_selects (args := #[]) (mvT hZ (hw _ (List.mem_of_getElem? (i := 41) rfl)))) (mvT hZ (hw _ (List.mem_of_getElem? (i := 41) rfl))) (mvT hZ (hw _ (List.mem_of_getElem? (i := 40) rfl))) (by decide) (backOf (W := 0) (rm7_0 l Z a0 hw [] w_NUMBER_first a1 w_COMPACT_STRINGS w_NUMBER_first_value vs k_NUMBER_first_value ks (49 : Int32) h0 n0 Z0 S_COMPACT_STRINGS (N_COMPACT_STRINGS) E_s F_NUMBER_first_coder C_s F_NUMBER_first_value W_s V_NUMBER_first_value V_s ne_NUMBER) hZ (hw _ (List.mem_of_getElem? (i := 42) rfl)) (hw _ (List.mem_of_getElem? (i := 10) rfl)) (by decide) (by decide)) q274a q274c (g := (mkF m 25 #[.val (.ref a1), .val (.ref w_STYLES), .val (.int 5), .val (.int 0), .val (.ref w_NUMBER)] [(.ref a1), (.ref w_NUMBER_first)])) rfl (by rw [hml]; rfl) (Steps.refl _) (argsL := [(.ref a1)]) (rest := []) (lenOf pd_6 rfl) rfl (by show 2 * 0 + _ ≤ _; exact Nat.le_of_eq rfl) (hb hby d6_25) (fun _ _ => ⟨rfl, e273, (by decide : 0 + 0 ≤ _), (by decide : 0 + 0 ≤ _)⟩)
 dsimp only [Pt.U, Pt.locs, Pt.cells, Pt.slots] at X274 l274 y274 z274 st274 hQ274
 subst l274 y274 z274
 obtain ⟨rfl, M274, q274_0⟩ := hQ274
 have N274 := Fr.app N0 M274
 refine own_go (fun t k => st274.trans k) ?_
 refine own_go (B := T274.setTop (mkF m 16 #[.val (.ref a1), .val (.ref w_STYLES), .val (.int 5), .val (.int 1), .val (.ref w_NUMBER)] [(.int 1), (.ref w_STYLES)])) (fun t k => ?_) ?_
 ·refine XS.ifYes X274.here hx rfl (pc0 := 28) (pc' := 34) rfl (hb hby d6_28) rfl ((if0 _ _).trans (teq (by decide : (0 : Int32) = (0 : Int32))).1) (by decide) (by decide) ?_
  show Steps p.tables e below (T274.setTop (mkF m 34 #[.val (.ref a1), .val (.ref w_STYLES), .val (.int 5), .val (.int 0), .val (.ref w_NUMBER)] [])) _
  refine XS.iinc X274.here hx rfl (hb hby d6_34) rfl (l' := #[.val (.ref a1), .val (.ref w_STYLES), .val (.int 5), .val (.int 1), .val (.ref w_NUMBER)]) rfl ?_
  show Steps p.tables e below (T274.setTop (mkF m 37 #[.val (.ref a1), .val (.ref w_STYLES), .val (.int 5), .val (.int 1), .val (.ref w_NUMBER)] [])) _
  refine XS.goto X274.here hx rfl (pc0 := 37) (pc' := 9) rfl (hb hby d6_37) (by decide) (by decide) ?_
  show Steps p.tables e below (T274.setTop (mkF m 9 #[.val (.ref a1), .val (.ref w_STYLES), .val (.int 5), .val (.int 1), .val (.ref w_NUMBER)] [])) _
  refine XS.iloadN X274.here hx rfl (hb hby d6_9) rfl ?_
  show Steps p.tables e below (T274.setTop (mkF m 10 #[.val (.ref a1), .val (.ref w_STYLES), .val (.int 5), .val (.int 1), .val (.ref w_NUMBER)] [(.int 1)])) _
  refine XS.iloadN X274.here hx rfl (hb hby d6_10) rfl ?_
  show Steps p.tables e below (T274.setTop (mkF m 11 #[.val (.ref a1), .val (.ref w_STYLES), .val (.int 5), .val (.int 1), .val (.ref w_NUMBER)] [(.int 5), (.int 1)])) _
  refine XS.icmpNo X274.here hx rfl (hb hby d6_11) rfl (tlt (by decide : (1 : Int32) < (5 : Int32))).2.1 ?_
  show Steps p.tables e below (T274.setTop (mkF m 14 #[.val (.ref a1), .val (.ref w_STYLES), .val (.int 5), .val (.int 1), .val (.ref w_NUMBER)] [])) _
  refine XS.aloadN X274.here hx rfl (hb hby d6_14) rfl rfl ?_
  show Steps p.tables e below (T274.setTop (mkF m 15 #[.val (.ref a1), .val (.ref w_STYLES), .val (.int 5), .val (.int 1), .val (.ref w_NUMBER)] [(.ref w_STYLES)])) _
  refine XS.iloadN X274.here hx rfl (hb hby d6_15) rfl ?_
  show Steps p.tables e below (T274.setTop (mkF m 16 #[.val (.ref a1), .val (.ref w_STYLES), .val (.int 5), .val (.int 1), .val (.ref w_NUMBER)] [(.int 1), (.ref w_STYLES)])) _
  exact k
 obtain ⟨cl275, Ar275, cq275, cS275, cN275, cH275, cG275⟩ := id V_STYLES
 have hin275 := inb_of (j := (1 : Int32)) cS275 ⟨by decide, by decide⟩
 have hat275 : cl275.slots[((1 : Int32)).toNatClampNeg]? = some (.ref w_LOWER_LETTER) := Has.at cH275 hin275 rfl
 refine own_go (B := T274.setTop (mkF m 21 #[.val (.ref a1), .val (.ref w_STYLES), .val (.int 5), .val (.int 1), .val (.ref w_LOWER_LETTER)] [(.ref w_LOWER_LETTER)])) (fun t k => ?_) ?_
 ·refine X274.aaload hx (j := (1 : Int32)) (v := (.ref w_LOWER_LETTER)) (by rw [q274_0]; exact Ar275.1) (State.isArrayOf_alike hZ.alike Ar275.2.1) rfl Ar275.2.2 hin275 hat275 (g := (mkF m 16 #[.val (.ref a1), .val (.ref w_STYLES), .val (.int 5), .val (.int 1), .val (.ref w_NUMBER)] [(.int 1), (.ref w_STYLES)])) rfl rfl (hb hby d6_16) _ ?_
  show Steps p.tables e below (T274.setTop (mkF m 17 #[.val (.ref a1), .val (.ref w_STYLES), .val (.int 5), .val (.int 1), .val (.ref w_NUMBER)] [(.ref w_LOWER_LETTER)])) _
  refine XS.astore X274.here hx rfl (hb hby d6_17) rfl rfl (l' := #[.val (.ref a1), .val (.ref w_STYLES), .val (.int 5), .val (.int 1), .val (.ref w_LOWER_LETTER)]) rfl ?_
  show Steps p.tables e below (T274.setTop (mkF m 19 #[.val (.ref a1), .val (.ref w_STYLES), .val (.int 5), .val (.int 1), .val (.ref w_LOWER_LETTER)] [])) _
  refine XS.aload X274.here hx rfl (hb hby d6_19) rfl rfl ?_
  show Steps p.tables e below (T274.setTop (mkF m 21 #[.val (.ref a1), .val (.ref w_STYLES), .val (.int 5), .val (.int 1), .val (.ref w_LOWER_LETTER)] [(.ref w_LOWER_LETTER)])) _
  exact k
 obtain ⟨T276, X276, e276, st276⟩ := getF X274 hx hZ hown (host := "") (Or.inl (hw _ (List.mem_of_getElem? (i := 36) rfl))) Via.refl q274_0 F_LOWER_LETTER_first (g := (mkF m 21 #[.val (.ref a1), .val (.ref w_STYLES), .val (.int 5), .val (.int 1), .val (.ref w_LOWER_LETTER)] [(.ref w_LOWER_LETTER)])) rfl rfl (hb hby d6_21)
 refine own_go st276 ?_
 refine own_go (B := T276.setTop (mkF m 25 #[.val (.ref a1), .val (.ref w_STYLES), .val (.int 5), .val (.int 1), .val (.ref w_LOWER_LETTER)] [(.ref a1), (.ref w_LOWER_LETTER_first)])) (fun t k => ?_) ?_
 ·refine XS.aloadN X276.here hx rfl (hb hby d6_24) rfl rfl ?_
  show Steps p.tables e below (T276.setTop (mkF m 25 #[.val (.ref a1), .val (.ref w_STYLES), .val (.int 5), .val (.int 1), .val (.ref w_LOWER_LETTER)] [(.ref a1), (.ref w_LOWER_LETTER_first)])) _
  exact k
 obtain ⟨cq277, kq277, q277a, q277b, q277c⟩ := isOf hZ e276 E_LOWER_LETTER_first
 obtain ⟨_, _, ⟨T277, L277, k277, n277⟩, -, X277, ⟨Lc277, hQ277, l277, y277, z277⟩, st277⟩ := X276.virtualBack hx (y := (⟨"java/lang/String", "equals", "(Ljava/lang/Object;)Z"⟩ : MethodName)) (z := (⟨"java/lang/String", "equals", "(Ljava/lang/Object;)Z"⟩ : MethodName)) hown (mvT hZ (hw _ (List.mem_of_getElem? (i := 38) rfl))) (mvT hZ (hw _ (List.mem_of_getElem? (i := 39) rfl))) (notFace_of_selects (args := #[]) (mvT hZ (hw _ (List.mem_of_getElem? (i := 41) rfl)))) (mvT hZ (hw _ (List.mem_of_getElem? (i := 41) rfl))) (mvT hZ (hw _ (List.mem_of_getElem? (i := 40) rfl))) (by decide) (backOf (W := 0) (rm7_0 l Z a0 hw [] w_LOWER_LETTER_first a1 w_COMPACT_STRINGS w_LOWER_LETTER_first_value vs k_LOWER_LETTER_first_value ks (97 : Int32) h0 n0 Z0 S_COMPACT_STRINGS (N_COMPACT_STRINGS) E_s F_LOWER_LETTER_first_coder C_s F_LOWER_LETTER_first_value W_s V_LOWER_LETTER_first_value V_s ne_LOWER_LETTER) hZ (hw _ (List.mem_of_getElem? (i := 42) rfl)) (hw _ (List.mem_of_getElem? (i := 10) rfl)) (by decide) (by decide)) q277a q277c (g := (mkF m 25 #[.val (.ref a1), .val (.ref w_STYLES), .val (.int 5), .val (.int 1), .val (.ref w_LOWER_LETTER)] [(.ref a1), (.ref w_LOWER_LETTER_first)])) rfl (by rw [hml]; rfl) (Steps.refl _) (argsL := [(.ref a1)]) (rest := []) (lenOf pd_6 rfl) rfl (by show 2 * 0 + _ ≤ _; exact Nat.le_of_eq rfl) (hb hby d6_25) (fun _ _ => ⟨rfl, e276, (by decide : 0 + 0 ≤ _), (by decide : 0 + 0 ≤ _)⟩)
 dsimp only [Pt.U, Pt.locs, Pt.cells, Pt.slots] at X277 l277 y277 z277 st277 hQ277
 subst l277 y277 z277
 obtain ⟨rfl, M277, q277_0⟩ := hQ277
 have N277 := Fr.app N274 M277
 refine own_go (fun t k => st277.trans k) ?_
 refine own_go (B := T277.setTop (mkF m 16 #[.val (.ref a1), .val (.ref w_STYLES), .val (.int 5), .val (.int 2), .val (.ref w_LOWER_LETTER)] [(.int 2), (.ref w_STYLES)])) (fun t k => ?_) ?_
 ·refine XS.ifYes X277.here hx rfl (pc0 := 28) (pc' := 34) rfl (hb hby d6_28) rfl ((if0 _ _).trans (teq (by decide : (0 : Int32) = (0 : Int32))).1) (by decide) (by decide) ?_
  show Steps p.tables e below (T277.setTop (mkF m 34 #[.val (.ref a1), .val (.ref w_STYLES), .val (.int 5), .val (.int 1), .val (.ref w_LOWER_LETTER)] [])) _
  refine XS.iinc X277.here hx rfl (hb hby d6_34) rfl (l' := #[.val (.ref a1), .val (.ref w_STYLES), .val (.int 5), .val (.int 2), .val (.ref w_LOWER_LETTER)]) rfl ?_
  show Steps p.tables e below (T277.setTop (mkF m 37 #[.val (.ref a1), .val (.ref w_STYLES), .val (.int 5), .val (.int 2), .val (.ref w_LOWER_LETTER)] [])) _
  refine XS.goto X277.here hx rfl (pc0 := 37) (pc' := 9) rfl (hb hby d6_37) (by decide) (by decide) ?_
  show Steps p.tables e below (T277.setTop (mkF m 9 #[.val (.ref a1), .val (.ref w_STYLES), .val (.int 5), .val (.int 2), .val (.ref w_LOWER_LETTER)] [])) _
  refine XS.iloadN X277.here hx rfl (hb hby d6_9) rfl ?_
  show Steps p.tables e below (T277.setTop (mkF m 10 #[.val (.ref a1), .val (.ref w_STYLES), .val (.int 5), .val (.int 2), .val (.ref w_LOWER_LETTER)] [(.int 2)])) _
  refine XS.iloadN X277.here hx rfl (hb hby d6_10) rfl ?_
  show Steps p.tables e below (T277.setTop (mkF m 11 #[.val (.ref a1), .val (.ref w_STYLES), .val (.int 5), .val (.int 2), .val (.ref w_LOWER_LETTER)] [(.int 5), (.int 2)])) _
  refine XS.icmpNo X277.here hx rfl (hb hby d6_11) rfl (tlt (by decide : (2 : Int32) < (5 : Int32))).2.1 ?_
  show Steps p.tables e below (T277.setTop (mkF m 14 #[.val (.ref a1), .val (.ref w_STYLES), .val (.int 5), .val (.int 2), .val (.ref w_LOWER_LETTER)] [])) _
  refine XS.aloadN X277.here hx rfl (hb hby d6_14) rfl rfl ?_
  show Steps p.tables e below (T277.setTop (mkF m 15 #[.val (.ref a1), .val (.ref w_STYLES), .val (.int 5), .val (.int 2), .val (.ref w_LOWER_LETTER)] [(.ref w_STYLES)])) _
  refine XS.iloadN X277.here hx rfl (hb hby d6_15) rfl ?_
  show Steps p.tables e below (T277.setTop (mkF m 16 #[.val (.ref a1), .val (.ref w_STYLES), .val (.int 5), .val (.int 2), .val (.ref w_LOWER_LETTER)] [(.int 2), (.ref w_STYLES)])) _
  exact k
 obtain ⟨cl278, Ar278, cq278, cS278, cN278, cH278, cG278⟩ := id V_STYLES
 have hin278 := inb_of (j := (2 : Int32)) cS278 ⟨by decide, by decide⟩
 have hat278 : cl278.slots[((2 : Int32)).toNatClampNeg]? = some (.ref w_UPPER_LETTER) := Has.at cH278 hin278 rfl
 refine own_go (B := T277.setTop (mkF m 21 #[.val (.ref a1), .val (.ref w_STYLES), .val (.int 5), .val (.int 2), .val (.ref w_UPPER_LETTER)] [(.ref w_UPPER_LETTER)])) (fun t k => ?_) ?_
 ·refine X277.aaload hx (j := (2 : Int32)) (v := (.ref w_UPPER_LETTER)) (by rw [q277_0]; exact Ar278.1) (State.isArrayOf_alike hZ.alike Ar278.2.1) rfl Ar278.2.2 hin278 hat278 (g := (mkF m 16 #[.val (.ref a1), .val (.ref w_STYLES), .val (.int 5), .val (.int 2), .val (.ref w_LOWER_LETTER)] [(.int 2), (.ref w_STYLES)])) rfl rfl (hb hby d6_16) _ ?_
  show Steps p.tables e below (T277.setTop (mkF m 17 #[.val (.ref a1), .val (.ref w_STYLES), .val (.int 5), .val (.int 2), .val (.ref w_LOWER_LETTER)] [(.ref w_UPPER_LETTER)])) _
  refine XS.astore X277.here hx rfl (hb hby d6_17) rfl rfl (l' := #[.val (.ref a1), .val (.ref w_STYLES), .val (.int 5), .val (.int 2), .val (.ref w_UPPER_LETTER)]) rfl ?_
  show Steps p.tables e below (T277.setTop (mkF m 19 #[.val (.ref a1), .val (.ref w_STYLES), .val (.int 5), .val (.int 2), .val (.ref w_UPPER_LETTER)] [])) _
  refine XS.aload X277.here hx rfl (hb hby d6_19) rfl rfl ?_
  show Steps p.tables e below (T277.setTop (mkF m 21 #[.val (.ref a1), .val (.ref w_STYLES), .val (.int 5), .val (.int 2), .val (.ref w_UPPER_LETTER)] [(.ref w_UPPER_LETTER)])) _
  exact k
 obtain ⟨T279, X279, e279, st279⟩ := getF X277 hx hZ hown (host := "") (Or.inl (hw _ (List.mem_of_getElem? (i := 36) rfl))) Via.refl q277_0 F_UPPER_LETTER_first (g := (mkF m 21 #[.val (.ref a1), .val (.ref w_STYLES), .val (.int 5), .val (.int 2), .val (.ref w_UPPER_LETTER)] [(.ref w_UPPER_LETTER)])) rfl rfl (hb hby d6_21)
 refine own_go st279 ?_
 refine own_go (B := T279.setTop (mkF m 25 #[.val (.ref a1), .val (.ref w_STYLES), .val (.int 5), .val (.int 2), .val (.ref w_UPPER_LETTER)] [(.ref a1), (.ref w_UPPER_LETTER_first)])) (fun t k => ?_) ?_
 ·refine XS.aloadN X279.here hx rfl (hb hby d6_24) rfl rfl ?_
  show Steps p.tables e below (T279.setTop (mkF m 25 #[.val (.ref a1), .val (.ref w_STYLES), .val (.int 5), .val (.int 2), .val (.ref w_UPPER_LETTER)] [(.ref a1), (.ref w_UPPER_LETTER_first)])) _
  exact k
 obtain ⟨cq280, kq280, q280a, q280b, q280c⟩ := isOf hZ e279 E_UPPER_LETTER_first
 obtain ⟨_, _, ⟨T280, L280, k280, n280⟩, -, X280, ⟨Lc280, hQ280, l280, y280, z280⟩, st280⟩ := X279.virtualBack hx (y := (⟨"java/lang/String", "equals", "(Ljava/lang/Object;)Z"⟩ : MethodName)) (z := (⟨"java/lang/String", "equals", "(Ljava/lang/Object;)Z"⟩ : MethodName)) hown (mvT hZ (hw _ (List.mem_of_getElem? (i := 38) rfl))) (mvT hZ (hw _ (List.mem_of_getElem? (i := 39) rfl))) (notFace_of_selects (args := #[]) (mvT hZ (hw _ (List.mem_of_getElem? (i := 41) rfl)))) (mvT hZ (hw _ (List.mem_of_getElem? (i := 41) rfl))) (mvT hZ (hw _ (List.mem_of_getElem? (i := 40) rfl))) (by decide) (backOf (W := 0) (rm7_0 l Z a0 hw [] w_UPPER_LETTER_first a1 w_COMPACT_STRINGS w_UPPER_LETTER_first_value vs k_UPPER_LETTER_first_value ks (65 : Int32) h0 n0 Z0 S_COMPACT_STRINGS (N_COMPACT_STRINGS) E_s F_UPPER_LETTER_first_coder C_s F_UPPER_LETTER_first_value W_s V_UPPER_LETTER_first_value V_s ne_UPPER_LETTER) hZ (hw _ (List.mem_of_getElem? (i := 42) rfl)) (hw _ (List.mem_of_getElem? (i := 10) rfl)) (by decide) (by decide)) q280a q280c (g := (mkF m 25 #[.val (.ref a1), .val (.ref w_STYLES), .val (.int 5), .val (.int 2), .val (.ref w_UPPER_LETTER)] [(.ref a1), (.ref w_UPPER_LETTER_first)])) rfl (by rw [hml]; rfl) (Steps.refl _) (argsL := [(.ref a1)]) (rest := []) (lenOf pd_6 rfl) rfl (by show 2 * 0 + _ ≤ _; exact Nat.le_of_eq rfl) (hb hby d6_25) (fun _ _ => ⟨rfl, e279, (by decide : 0 + 0 ≤ _), (by decide : 0 + 0 ≤ _)⟩)
 dsimp only [Pt.U, Pt.locs, Pt.cells, Pt.slots] at X280 l280 y280 z280 st280 hQ280
 subst l280 y280 z280
 obtain ⟨rfl, M280, q280_0⟩ := hQ280
 have N280 := Fr.app N277 M280
 refine own_go (fun t k => st280.trans k) ?_
 refine own_go (B := T280.setTop (mkF m 16 #[.val (.ref a1), .val (.ref w_STYLES), .val (.int 5), .val (.int 3), .val (.ref w_UPPER_LETTER)] [(.int 3), (.ref w_STYLES)])) (fun t k => ?_) ?_
 ·refine XS.ifYes X280.here hx rfl (pc0 := 28) (pc' := 34) rfl (hb hby d6_28) rfl ((if0 _ _).trans (teq (by decide : (0 : Int32) = (0 : Int32))).1) (by decide) (by decide) ?_
  show Steps p.tables e below (T280.setTop (mkF m 34 #[.val (.ref a1), .val (.ref w_STYLES), .val (.int 5), .val (.int 2), .val (.ref w_UPPER_LETTER)] [])) _
  refine XS.iinc X280.here hx rfl (hb hby d6_34) rfl (l' := #[.val (.ref a1), .val (.ref w_STYLES), .val (.int 5), .val (.int 3), .val (.ref w_UPPER_LETTER)]) rfl ?_
  show Steps p.tables e below (T280.setTop (mkF m 37 #[.val (.ref a1), .val (.ref w_STYLES), .val (.int 5), .val (.int 3), .val (.ref w_UPPER_LETTER)] [])) _
  refine XS.goto X280.here hx rfl (pc0 := 37) (pc' := 9) rfl (hb hby d6_37) (by decide) (by decide) ?_
  show Steps p.tables e below (T280.setTop (mkF m 9 #[.val (.ref a1), .val (.ref w_STYLES), .val (.int 5), .val (.int 3), .val (.ref w_UPPER_LETTER)] [])) _
  refine XS.iloadN X280.here hx rfl (hb hby d6_9) rfl ?_
  show Steps p.tables e below (T280.setTop (mkF m 10 #[.val (.ref a1), .val (.ref w_STYLES), .val (.int 5), .val (.int 3), .val (.ref w_UPPER_LETTER)] [(.int 3)])) _
  refine XS.iloadN X280.here hx rfl (hb hby d6_10) rfl ?_
  show Steps p.tables e below (T280.setTop (mkF m 11 #[.val (.ref a1), .val (.ref w_STYLES), .val (.int 5), .val (.int 3), .val (.ref w_UPPER_LETTER)] [(.int 5), (.int 3)])) _
  refine XS.icmpNo X280.here hx rfl (hb hby d6_11) rfl (tlt (by decide : (3 : Int32) < (5 : Int32))).2.1 ?_
  show Steps p.tables e below (T280.setTop (mkF m 14 #[.val (.ref a1), .val (.ref w_STYLES), .val (.int 5), .val (.int 3), .val (.ref w_UPPER_LETTER)] [])) _
  refine XS.aloadN X280.here hx rfl (hb hby d6_14) rfl rfl ?_
  show Steps p.tables e below (T280.setTop (mkF m 15 #[.val (.ref a1), .val (.ref w_STYLES), .val (.int 5), .val (.int 3), .val (.ref w_UPPER_LETTER)] [(.ref w_STYLES)])) _
  refine XS.iloadN X280.here hx rfl (hb hby d6_15) rfl ?_
  show Steps p.tables e below (T280.setTop (mkF m 16 #[.val (.ref a1), .val (.ref w_STYLES), .val (.int 5), .val (.int 3), .val (.ref w_UPPER_LETTER)] [(.int 3), (.ref w_STYLES)])) _
  exact k
 obtain ⟨cl281, Ar281, cq281, cS281, cN281, cH281, cG281⟩ := id V_STYLES
 have hin281 := inb_of (j := (3 : Int32)) cS281 ⟨by decide, by decide⟩
 have hat281 : cl281.slots[((3 : Int32)).toNatClampNeg]? = some (.ref w_LOWER_ROMAN) := Has.at cH281 hin281 rfl
 refine own_go (B := T280.setTop (mkF m 21 #[.val (.ref a1), .val (.ref w_STYLES), .val (.int 5), .val (.int 3), .val (.ref w_LOWER_ROMAN)] [(.ref w_LOWER_ROMAN)])) (fun t k => ?_) ?_
 ·refine X280.aaload hx (j := (3 : Int32)) (v := (.ref w_LOWER_ROMAN)) (by rw [q280_0]; exact Ar281.1) (State.isArrayOf_alike hZ.alike Ar281.2.1) rfl Ar281.2.2 hin281 hat281 (g := (mkF m 16 #[.val (.ref a1), .val (.ref w_STYLES), .val (.int 5), .val (.int 3), .val (.ref w_UPPER_LETTER)] [(.int 3), (.ref w_STYLES)])) rfl rfl (hb hby d6_16) _ ?_
  show Steps p.tables e below (T280.setTop (mkF m 17 #[.val (.ref a1), .val (.ref w_STYLES), .val (.int 5), .val (.int 3), .val (.ref w_UPPER_LETTER)] [(.ref w_LOWER_ROMAN)])) _
  refine XS.astore X280.here hx rfl (hb hby d6_17) rfl rfl (l' := #[.val (.ref a1), .val (.ref w_STYLES), .val (.int 5), .val (.int 3), .val (.ref w_LOWER_ROMAN)]) rfl ?_
  show Steps p.tables e below (T280.setTop (mkF m 19 #[.val (.ref a1), .val (.ref w_STYLES), .val (.int 5), .val (.int 3), .val (.ref w_LOWER_ROMAN)] [])) _
  refine XS.aload X280.here hx rfl (hb hby d6_19) rfl rfl ?_
  show Steps p.tables e below (T280.setTop (mkF m 21 #[.val (.ref a1), .val (.ref w_STYLES), .val (.int 5), .val (.int 3), .val (.ref w_LOWER_ROMAN)] [(.ref w_LOWER_ROMAN)])) _
  exact k
 obtain ⟨T282, X282, e282, st282⟩ := getF X280 hx hZ hown (host := "") (Or.inl (hw _ (List.mem_of_getElem? (i := 36) rfl))) Via.refl q280_0 F_LOWER_ROMAN_first (g := (mkF m 21 #[.val (.ref a1), .val (.ref w_STYLES), .val (.int 5), .val (.int 3), .val (.ref w_LOWER_ROMAN)] [(.ref w_LOWER_ROMAN)])) rfl rfl (hb hby d6_21)
 refine own_go st282 ?_
 refine own_go (B := T282.setTop (mkF m 25 #[.val (.ref a1), .val (.ref w_STYLES), .val (.int 5), .val (.int 3), .val (.ref w_LOWER_ROMAN)] [(.ref a1), (.ref w_LOWER_ROMAN_first)])) (fun t k => ?_) ?_
 ·refine XS.aloadN X282.here hx rfl (hb hby d6_24) rfl rfl ?_
  show Steps p.tables e below (T282.setTop (mkF m 25 #[.val (.ref a1), .val (.ref w_STYLES), .val (.int 5), .val (.int 3), .val (.ref w_LOWER_ROMAN)] [(.ref a1), (.ref w_LOWER_ROMAN_first)])) _
  exact k
 obtain ⟨cq283, kq283, q283a, q283b, q283c⟩ := isOf hZ e282 E_LOWER_ROMAN_first
 obtain ⟨_, _, ⟨T283, L283, k283, n283⟩, -, X283, ⟨Lc283, hQ283, l283, y283, z283⟩, st283⟩ := X282.virtualBack hx (y := (⟨"java/lang/String", "equals", "(Ljava/lang/Object;)Z"⟩ : MethodName)) (z := (⟨"java/lang/String", "equals", "(Ljava/lang/Object;)Z"⟩ : MethodName)) hown (mvT hZ (hw _ (List.mem_of_getElem? (i := 38) rfl))) (mvT hZ (hw _ (List.mem_of_getElem? (i := 39) rfl))) (notFace_of_selects (args := #[]) (mvT hZ (hw _ (List.mem_of_getElem? (i := 41) rfl)))) (mvT hZ (hw _ (List.mem_of_getElem? (i := 41) rfl))) (mvT hZ (hw _ (List.mem_of_getElem? (i := 40) rfl))) (by decide) (backOf (W := 0) (rm7_0 l Z a0 hw [] w_LOWER_ROMAN_first a1 w_COMPACT_STRINGS w_LOWER_ROMAN_first_value vs k_LOWER_ROMAN_first_value ks (105 : Int32) h0 n0 Z0 S_COMPACT_STRINGS (N_COMPACT_STRINGS) E_s F_LOWER_ROMAN_first_coder C_s F_LOWER_ROMAN_first_value W_s V_LOWER_ROMAN_first_value V_s ne_LOWER_ROMAN) hZ (hw _ (List.mem_of_getElem? (i := 42) rfl)) (hw _ (List.mem_of_getElem? (i := 10) rfl)) (by decide) (by decide)) q283a q283c (g := (mkF m 25 #[.val (.ref a1), .val (.ref w_STYLES), .val (.int 5), .val (.int 3), .val (.ref w_LOWER_ROMAN)] [(.ref a1), (.ref w_LOWER_ROMAN_first)])) rfl (by rw [hml]; rfl) (Steps.refl _) (argsL := [(.ref a1)]) (rest := []) (lenOf pd_6 rfl) rfl (by show 2 * 0 + _ ≤ _; exact Nat.le_of_eq rfl) (hb hby d6_25) (fun _ _ => ⟨rfl, e282, (by decide : 0 + 0 ≤ _), (by decide : 0 + 0 ≤ _)⟩)
 dsimp only [Pt.U, Pt.locs, Pt.cells, Pt.slots] at X283 l283 y283 z283 st283 hQ283
 subst l283 y283 z283
 obtain ⟨rfl, M283, q283_0⟩ := hQ283
 have N283 := Fr.app N280 M283
 refine own_go (fun t k => st283.trans k) ?_
 refine own_go (B := T283.setTop (mkF m 16 #[.val (.ref a1), .val (.ref w_STYLES), .val (.int 5), .val (.int 4), .val (.ref w_LOWER_ROMAN)] [(.int 4), (.ref w_STYLES)])) (fun t k => ?_) ?_
 ·refine XS.ifYes X283.here hx rfl (pc0 := 28) (pc' := 34) rfl (hb hby d6_28) rfl ((if0 _ _).trans (teq (by decide : (0 : Int32) = (0 : Int32))).1) (by decide) (by decide) ?_
  show Steps p.tables e below (T283.setTop (mkF m 34 #[.val (.ref a1), .val (.ref w_STYLES), .val (.int 5), .val (.int 3), .val (.ref w_LOWER_ROMAN)] [])) _
  refine XS.iinc X283.here hx rfl (hb hby d6_34) rfl (l' := #[.val (.ref a1), .val (.ref w_STYLES), .val (.int 5), .val (.int 4), .val (.ref w_LOWER_ROMAN)]) rfl ?_
  show Steps p.tables e below (T283.setTop (mkF m 37 #[.val (.ref a1), .val (.ref w_STYLES), .val (.int 5), .val (.int 4), .val (.ref w_LOWER_ROMAN)] [])) _
  refine XS.goto X283.here hx rfl (pc0 := 37) (pc' := 9) rfl (hb hby d6_37) (by decide) (by decide) ?_
  show Steps p.tables e below (T283.setTop (mkF m 9 #[.val (.ref a1), .val (.ref w_STYLES), .val (.int 5), .val (.int 4), .val (.ref w_LOWER_ROMAN)] [])) _
  refine XS.iloadN X283.here hx rfl (hb hby d6_9) rfl ?_
  show Steps p.tables e below (T283.setTop (mkF m 10 #[.val (.ref a1), .val (.ref w_STYLES), .val (.int 5), .val (.int 4), .val (.ref w_LOWER_ROMAN)] [(.int 4)])) _
  refine XS.iloadN X283.here hx rfl (hb hby d6_10) rfl ?_
  show Steps p.tables e below (T283.setTop (mkF m 11 #[.val (.ref a1), .val (.ref w_STYLES), .val (.int 5), .val (.int 4), .val (.ref w_LOWER_ROMAN)] [(.int 5), (.int 4)])) _
  refine XS.icmpNo X283.here hx rfl (hb hby d6_11) rfl (tlt (by decide : (4 : Int32) < (5 : Int32))).2.1 ?_
  show Steps p.tables e below (T283.setTop (mkF m 14 #[.val (.ref a1), .val (.ref w_STYLES), .val (.int 5), .val (.int 4), .val (.ref w_LOWER_ROMAN)] [])) _
  refine XS.aloadN X283.here hx rfl (hb hby d6_14) rfl rfl ?_
  show Steps p.tables e below (T283.setTop (mkF m 15 #[.val (.ref a1), .val (.ref w_STYLES), .val (.int 5), .val (.int 4), .val (.ref w_LOWER_ROMAN)] [(.ref w_STYLES)])) _
  refine XS.iloadN X283.here hx rfl (hb hby d6_15) rfl ?_
  show Steps p.tables e below (T283.setTop (mkF m 16 #[.val (.ref a1), .val (.ref w_STYLES), .val (.int 5), .val (.int 4), .val (.ref w_LOWER_ROMAN)] [(.int 4), (.ref w_STYLES)])) _
  exact k
 obtain ⟨cl284, Ar284, cq284, cS284, cN284, cH284, cG284⟩ := id V_STYLES
 have hin284 := inb_of (j := (4 : Int32)) cS284 ⟨by decide, by decide⟩
 have hat284 : cl284.slots[((4 : Int32)).toNatClampNeg]? = some (.ref w_UPPER_ROMAN) := Has.at cH284 hin284 rfl
 refine own_go (B := T283.setTop (mkF m 21 #[.val (.ref a1), .val (.ref w_STYLES), .val (.int 5), .val (.int 4), .val (.ref w_UPPER_ROMAN)] [(.ref w_UPPER_ROMAN)])) (fun t k => ?_) ?_
 ·refine X283.aaload hx (j := (4 : Int32)) (v := (.ref w_UPPER_ROMAN)) (by rw [q283_0]; exact Ar284.1) (State.isArrayOf_alike hZ.alike Ar284.2.1) rfl Ar284.2.2 hin284 hat284 (g := (mkF m 16 #[.val (.ref a1), .val (.ref w_STYLES), .val (.int 5), .val (.int 4), .val (.ref w_LOWER_ROMAN)] [(.int 4), (.ref w_STYLES)])) rfl rfl (hb hby d6_16) _ ?_
  show Steps p.tables e below (T283.setTop (mkF m 17 #[.val (.ref a1), .val (.ref w_STYLES), .val (.int 5), .val (.int 4), .val (.ref w_LOWER_ROMAN)] [(.ref w_UPPER_ROMAN)])) _
  refine XS.astore X283.here hx rfl (hb hby d6_17) rfl rfl (l' := #[.val (.ref a1), .val (.ref w_STYLES), .val (.int 5), .val (.int 4), .val (.ref w_UPPER_ROMAN)]) rfl ?_
  show Steps p.tables e below (T283.setTop (mkF m 19 #[.val (.ref a1), .val (.ref w_STYLES), .val (.int 5), .val (.int 4), .val (.ref w_UPPER_ROMAN)] [])) _
  refine XS.aload X283.here hx rfl (hb hby d6_19) rfl rfl ?_
  show Steps p.tables e below (T283.setTop (mkF m 21 #[.val (.ref a1), .val (.ref w_STYLES), .val (.int 5), .val (.int 4), .val (.ref w_UPPER_ROMAN)] [(.ref w_UPPER_ROMAN)])) _
  exact k
 obtain ⟨T285, X285, e285, st285⟩ := getF X283 hx hZ hown (host := "") (Or.inl (hw _ (List.mem_of_getElem? (i := 36) rfl))) Via.refl q283_0 F_UPPER_ROMAN_first (g := (mkF m 21 #[.val (.ref a1), .val (.ref w_STYLES), .val (.int 5), .val (.int 4), .val (.ref w_UPPER_ROMAN)] [(.ref w_UPPER_ROMAN)])) rfl rfl (hb hby d6_21)
 refine own_go st285 ?_
 refine own_go (B := T285.setTop (mkF m 25 #[.val (.ref a1), .val (.ref w_STYLES), .val (.int 5), .val (.int 4), .val (.ref w_UPPER_ROMAN)] [(.ref a1), (.ref w_UPPER_ROMAN_first)])) (fun t k => ?_) ?_
 ·refine XS.aloadN X285.here hx rfl (hb hby d6_24) rfl rfl ?_
  show Steps p.tables e below (T285.setTop (mkF m 25 #[.val (.ref a1), .val (.ref w_STYLES), .val (.int 5), .val (.int 4), .val (.ref w_UPPER_ROMAN)] [(.ref a1), (.ref w_UPPER_ROMAN_first)])) _
  exact k
 obtain ⟨cq286, kq286, q286a, q286b, q286c⟩ := isOf hZ e285 E_UPPER_ROMAN_first
 obtain ⟨_, _, ⟨T286, L286, k286, n286⟩, -, X286, ⟨Lc286, hQ286, l286, y286, z286⟩, st286⟩ := X285.virtualBack hx (y := (⟨"java/lang/String", "equals", "(Ljava/lang/Object;)Z"⟩ : MethodName)) (z := (⟨"java/lang/String", "equals", "(Ljava/lang/Object;)Z"⟩ : MethodName)) hown (mvT hZ (hw _ (List.mem_of_getElem? (i := 38) rfl))) (mvT hZ (hw _ (List.mem_of_getElem? (i := 39) rfl))) (notFace_of_selects (args := #[]) (mvT hZ (hw _ (List.mem_of_getElem? (i := 41) rfl)))) (mvT hZ (hw _ (List.mem_of_getElem? (i := 41) rfl))) (mvT hZ (hw _ (List.mem_of_getElem? (i := 40) rfl))) (by decide) (backOf (W := 0) (rm7_0 l Z a0 hw [] w_UPPER_ROMAN_first a1 w_COMPACT_STRINGS w_UPPER_ROMAN_first_value vs k_UPPER_ROMAN_first_value ks (73 : Int32) h0 n0 Z0 S_COMPACT_STRINGS (N_COMPACT_STRINGS) E_s F_UPPER_ROMAN_first_coder C_s F_UPPER_ROMAN_first_value W_s V_UPPER_ROMAN_first_value V_s ne_UPPER_ROMAN) hZ (hw _ (List.mem_of_getElem? (i := 42) rfl)) (hw _ (List.mem_of_getElem? (i := 10) rfl)) (by decide) (by decide)) q286a q286c (g := (mkF m 25 #[.val (.ref a1), .val (.ref w_STYLES), .val (.int 5), .val (.int 4), .val (.ref w_UPPER_ROMAN)] [(.ref a1), (.ref w_UPPER_ROMAN_first)])) rfl (by rw [hml]; rfl) (Steps.refl _) (argsL := [(.ref a1)]) (rest := []) (lenOf pd_6 rfl) rfl (by show 2 * 0 + _ ≤ _; exact Nat.le_of_eq rfl) (hb hby d6_25) (fun _ _ => ⟨rfl, e285, (by decide : 0 + 0 ≤ _), (by decide : 0 + 0 ≤ _)⟩)
 dsimp only [Pt.U, Pt.locs, Pt.cells, Pt.slots] at X286 l286 y286 z286 st286 hQ286
 subst l286 y286 z286
 obtain ⟨rfl, M286, q286_0⟩ := hQ286
 have N286 := Fr.app N283 M286
 refine own_go (fun t k => st286.trans k) ?_
 refine own_go (B := T286.setTop (mkF m 41 #[.val (.ref a1), .val (.ref w_STYLES), .val (.int 5), .val (.int 5), .val (.ref w_UPPER_ROMAN)] [.null])) (fun t k => ?_) ?_
 ·refine XS.ifYes X286.here hx rfl (pc0 := 28) (pc' := 34) rfl (hb hby d6_28) rfl ((if0 _ _).trans (teq (by decide : (0 : Int32) = (0 : Int32))).1) (by decide) (by decide) ?_
  show Steps p.tables e below (T286.setTop (mkF m 34 #[.val (.ref a1), .val (.ref w_STYLES), .val (.int 5), .val (.int 4), .val (.ref w_UPPER_ROMAN)] [])) _
  refine XS.iinc X286.here hx rfl (hb hby d6_34) rfl (l' := #[.val (.ref a1), .val (.ref w_STYLES), .val (.int 5), .val (.int 5), .val (.ref w_UPPER_ROMAN)]) rfl ?_
  show Steps p.tables e below (T286.setTop (mkF m 37 #[.val (.ref a1), .val (.ref w_STYLES), .val (.int 5), .val (.int 5), .val (.ref w_UPPER_ROMAN)] [])) _
  refine XS.goto X286.here hx rfl (pc0 := 37) (pc' := 9) rfl (hb hby d6_37) (by decide) (by decide) ?_
  show Steps p.tables e below (T286.setTop (mkF m 9 #[.val (.ref a1), .val (.ref w_STYLES), .val (.int 5), .val (.int 5), .val (.ref w_UPPER_ROMAN)] [])) _
  refine XS.iloadN X286.here hx rfl (hb hby d6_9) rfl ?_
  show Steps p.tables e below (T286.setTop (mkF m 10 #[.val (.ref a1), .val (.ref w_STYLES), .val (.int 5), .val (.int 5), .val (.ref w_UPPER_ROMAN)] [(.int 5)])) _
  refine XS.iloadN X286.here hx rfl (hb hby d6_10) rfl ?_
  show Steps p.tables e below (T286.setTop (mkF m 11 #[.val (.ref a1), .val (.ref w_STYLES), .val (.int 5), .val (.int 5), .val (.ref w_UPPER_ROMAN)] [(.int 5), (.int 5)])) _
  refine XS.icmpYes X286.here hx rfl (pc0 := 11) (pc' := 40) rfl (hb hby d6_11) rfl (flt (by decide : ¬ ((5 : Int32) < (5 : Int32)))).2.1 (by decide) (by decide) ?_
  show Steps p.tables e below (T286.setTop (mkF m 40 #[.val (.ref a1), .val (.ref w_STYLES), .val (.int 5), .val (.int 5), .val (.ref w_UPPER_ROMAN)] [])) _
  refine XS.aconstNull X286.here hx rfl (hb hby d6_40) ?_
  show Steps p.tables e below (T286.setTop (mkF m 41 #[.val (.ref a1), .val (.ref w_STYLES), .val (.int 5), .val (.int 5), .val (.ref w_UPPER_ROMAN)] [.null])) _
  exact k
 obtain ⟨fs, hr, hrun, hended, hW, hsame⟩ := X286.leave (v := some .null) (fun h => by rw [Bd.returns] at h; cases h)
 refine ⟨_, _, ?_, hrun, hended, _, _, rfl, ?_, ⟨_, rfl⟩, hW, hsame.mono (by decide) (by decide)⟩
 ·exact own_retR X286 hx Bd.returns rfl rfl (hb hby d6_41) hr
 ·show Q6_0 Z a1 w_STYLES w_NUMBER w_NUMBER_first w_NUMBER_first_value w_LOWER_LETTER w_LOWER_LETTER_first w_LOWER_LETTER_first_value w_UPPER_LETTER w_UPPER_LETTER_first w_UPPER_LETTER_first_value w_LOWER_ROMAN w_LOWER_ROMAN_first w_LOWER_ROMAN_first_value w_UPPER_ROMAN w_UPPER_ROMAN_first w_UPPER_ROMAN_first_value w_COMPACT_STRINGS k_STYLES k_NUMBER_first_value k_LOWER_LETTER_first_value k_UPPER_LETTER_first_value k_LOWER_ROMAN_first_value k_UPPER_ROMAN_first_value vs ks h0 n0 _ T286.heap _
  rw [q286_0]
  exact ⟨rfl, N286, rfl⟩
theorem ef_6_2 (m : MethodId) (a1 : Addr) : entryFrame m #[(.ref a1)] 5 = mkF m 0 #[.val (.ref a1), .unset, .unset, .unset, .unset] [] := by first | (simp [entryFrame, mkF, argsToLocals, Value.category]; done) | rfl
def Q6_2 (Z : State) (a1 : Addr) (w_STYLES : Addr) (w_NUMBER : Addr) (w_NUMBER_first : Addr) (w_NUMBER_first_value : Addr) (w_LOWER_LETTER : Addr) (w_LOWER_LETTER_first : Addr) (w_LOWER_LETTER_first_value : Addr) (w_UPPER_LETTER : Addr) (w_UPPER_LETTER_first : Addr) (w_UPPER_LETTER_first_value : Addr) (w_LOWER_ROMAN : Addr) (w_LOWER_ROMAN_first : Addr) (w_LOWER_ROMAN_first_value : Addr) (w_UPPER_ROMAN : Addr) (w_UPPER_ROMAN_first : Addr) (w_UPPER_ROMAN_first_value : Addr) (w_COMPACT_STRINGS : Int32) (k_STYLES : ClassId) (k_NUMBER_first_value : ClassId) (k_LOWER_LETTER_first_value : ClassId) (k_UPPER_LETTER_first_value : ClassId) (k_LOWER_ROMAN_first_value : ClassId) (k_UPPER_ROMAN_first_value : ClassId) (vs : Addr) (ks : ClassId) (y0 : Int32) (y1 : Int32) (h0 : Heap) (n0 : Nat) (v : Option Value) (h : Heap) (L : List Loc) : Prop := v = some .null ∧ Fr n0 L ∧ h = h0
set_option maxRecDepth 65536 in
set_option maxHeartbeats 40000000 in
theorem rm6_2 (l : Launch) (Z : State) (a0 : Array Value) (hw : ∀ d ∈ tables_1, d.before a0 Z = true) (ws : List Jvm.Cond) (a1 : Addr) (w_STYLES : Addr) (w_NUMBER : Addr) (w_NUMBER_first : Addr) (w_NUMBER_first_value : Addr) (w_LOWER_LETTER : Addr) (w_LOWER_LETTER_first : Addr) (w_LOWER_LETTER_first_value : Addr) (w_UPPER_LETTER : Addr) (w_UPPER_LETTER_first : Addr) (w_UPPER_LETTER_first_value : Addr) (w_LOWER_ROMAN : Addr) (w_LOWER_ROMAN_first : Addr) (w_LOWER_ROMAN_first_value : Addr) (w_UPPER_ROMAN : Addr) (w_UPPER_ROMAN_first : Addr) (w_UPPER_ROMAN_first_value : Addr) (w_COMPACT_STRINGS : Int32) (k_STYLES : ClassId) (k_NUMBER_first_value : ClassId) (k_LOWER_LETTER_first_value : ClassId) (k_UPPER_LETTER_first_value : ClassId) (k_LOWER_ROMAN_first_value : ClassId) (k_UPPER_ROMAN_first_value : ClassId) (vs : Addr) (ks : ClassId) (y0 : Int32) (y1 : Int32) (h0 : Heap) (n0 : Nat) (Z0 : n0 ≤ h0.size) (S_STYLES : Sta Z h0 "com/example/restate/restate/MarkerStyle" "STYLES" "[Lcom/example/restate/restate/MarkerStyle;" (.ref w_STYLES)) (S_NUMBER : Sta Z h0 "com/example/restate/restate/MarkerStyle" "NUMBER" "Lcom/example/restate/restate/MarkerStyle;" (.ref w_NUMBER)) (E_NUMBER : Exa Z h0 w_NUMBER "com/example/restate/restate/MarkerStyle") (F_NUMBER_first : Fld Z h0 w_NUMBER "com/example/restate/restate/MarkerStyle" "first" "Ljava/lang/String;" (.ref w_NUMBER_first)) (E_NUMBER_first : Exa Z h0 w_NUMBER_first "java/lang/String") (F_NUMBER_first_value : Fld Z h0 w_NUMBER_first "java/lang/String" "value" "[B" (.ref w_NUMBER_first_value)) (S_LOWER_LETTER : Sta Z h0 "com/example/restate/restate/MarkerStyle" "LOWER_LETTER" "Lcom/example/restate/restate/MarkerStyle;" (.ref w_LOWER_LETTER)) (E_LOWER_LETTER : Exa Z h0 w_LOWER_LETTER "com/example/restate/restate/MarkerStyle") (F_LOWER_LETTER_first : Fld Z h0 w_LOWER_LETTER "com/example/restate/restate/MarkerStyle" "first" "Ljava/lang/String;" (.ref w_LOWER_LETTER_first)) (E_LOWER_LETTER_first : Exa Z h0 w_LOWER_LETTER_first "java/lang/String") (F_LOWER_LETTER_first_value : Fld Z h0 w_LOWER_LETTER_first "java/lang/String" "value" "[B" (.ref w_LOWER_LETTER_first_value)) (S_UPPER_LETTER : Sta Z h0 "com/example/restate/restate/MarkerStyle" "UPPER_LETTER" "Lcom/example/restate/restate/MarkerStyle;" (.ref w_UPPER_LETTER)) (E_UPPER_LETTER : Exa Z h0 w_UPPER_LETTER "com/example/restate/restate/MarkerStyle") (F_UPPER_LETTER_first : Fld Z h0 w_UPPER_LETTER "com/example/restate/restate/MarkerStyle" "first" "Ljava/lang/String;" (.ref w_UPPER_LETTER_first)) (E_UPPER_LETTER_first : Exa Z h0 w_UPPER_LETTER_first "java/lang/String") (F_UPPER_LETTER_first_value : Fld Z h0 w_UPPER_LETTER_first "java/lang/String" "value" "[B" (.ref w_UPPER_LETTER_first_value)) (S_LOWER_ROMAN : Sta Z h0 "com/example/restate/restate/MarkerStyle" "LOWER_ROMAN" "Lcom/example/restate/restate/MarkerStyle;" (.ref w_LOWER_ROMAN)) (E_LOWER_ROMAN : Exa Z h0 w_LOWER_ROMAN "com/example/restate/restate/MarkerStyle") (F_LOWER_ROMAN_first : Fld Z h0 w_LOWER_ROMAN "com/example/restate/restate/MarkerStyle" "first" "Ljava/lang/String;" (.ref w_LOWER_ROMAN_first)) (E_LOWER_ROMAN_first : Exa Z h0 w_LOWER_ROMAN_first "java/lang/String") (F_LOWER_ROMAN_first_value : Fld Z h0 w_LOWER_ROMAN_first "java/lang/String" "value" "[B" (.ref w_LOWER_ROMAN_first_value)) (S_UPPER_ROMAN : Sta Z h0 "com/example/restate/restate/MarkerStyle" "UPPER_ROMAN" "Lcom/example/restate/restate/MarkerStyle;" (.ref w_UPPER_ROMAN)) (E_UPPER_ROMAN : Exa Z h0 w_UPPER_ROMAN "com/example/restate/restate/MarkerStyle") (F_UPPER_ROMAN_first : Fld Z h0 w_UPPER_ROMAN "com/example/restate/restate/MarkerStyle" "first" "Ljava/lang/String;" (.ref w_UPPER_ROMAN_first)) (E_UPPER_ROMAN_first : Exa Z h0 w_UPPER_ROMAN_first "java/lang/String") (F_UPPER_ROMAN_first_value : Fld Z h0 w_UPPER_ROMAN_first "java/lang/String" "value" "[B" (.ref w_UPPER_ROMAN_first_value)) (S_COMPACT_STRINGS : Sta Z h0 "java/lang/String" "COMPACT_STRINGS" "Z" (.int w_COMPACT_STRINGS)) (F_NUMBER_first_coder : Fld Z h0 w_NUMBER_first "java/lang/String" "coder" "B" (.int 0)) (F_LOWER_LETTER_first_coder : Fld Z h0 w_LOWER_LETTER_first "java/lang/String" "coder" "B" (.int 0)) (F_UPPER_LETTER_first_coder : Fld Z h0 w_UPPER_LETTER_first "java/lang/String" "coder" "B" (.int 0)) (F_LOWER_ROMAN_first_coder : Fld Z h0 w_LOWER_ROMAN_first "java/lang/String" "coder" "B" (.int 0)) (F_UPPER_ROMAN_first_coder : Fld Z h0 w_UPPER_ROMAN_first "java/lang/String" "coder" "B" (.int 0)) (N_COMPACT_STRINGS : ¬ w_COMPACT_STRINGS = (0 : Int32)) (V_STYLES : Arv Z h0 w_STYLES k_STYLES (.object "com/example/restate/restate/MarkerStyle") (5 : Int32) [(.ref w_NUMBER), (.ref w_LOWER_LETTER), (.ref w_UPPER_LETTER), (.ref w_LOWER_ROMAN), (.ref w_UPPER_ROMAN)] .null) (V_NUMBER_first_value : Arv Z h0 w_NUMBER_first_value k_NUMBER_first_value .byte (1 : Int32) [(.int 49)] (.int 0)) (V_LOWER_LETTER_first_value : Arv Z h0 w_LOWER_LETTER_first_value k_LOWER_LETTER_first_value .byte (1 : Int32) [(.int 97)] (.int 0)) (V_UPPER_LETTER_first_value : Arv Z h0 w_UPPER_LETTER_first_value k_UPPER_LETTER_first_value .byte (1 : Int32) [(.int 65)] (.int 0)) (V_LOWER_ROMAN_first_value : Arv Z h0 w_LOWER_ROMAN_first_value k_LOWER_ROMAN_first_value .byte (1 : Int32) [(.int 105)] (.int 0)) (V_UPPER_ROMAN_first_value : Arv Z h0 w_UPPER_ROMAN_first_value k_UPPER_ROMAN_first_value .byte (1 : Int32) [(.int 73)] (.int 0)) (E_s : Exa Z h0 a1 "java/lang/String") (C_s : Fld Z h0 a1 "java/lang/String" "coder" "B" (.int 0)) (W_s : Fld Z h0 a1 "java/lang/String" "value" "[B" (.ref vs)) (V_s : Arv Z h0 vs ks .byte (2 : Int32) [(.int y0), (.int y1)] (.int 0)) (ne_NUMBER : w_NUMBER_first ≠ a1) (ne_LOWER_LETTER : w_LOWER_LETTER_first ≠ a1) (ne_UPPER_LETTER : w_UPPER_LETTER_first ≠ a1) (ne_LOWER_ROMAN : w_LOWER_ROMAN_first ≠ a1) (ne_UPPER_ROMAN : w_UPPER_ROMAN_first ≠ a1) :
  MetFree l (⟨"com/example/restate/restate/MarkerStyle", "openedBy", "(Ljava/lang/String;)Lcom/example/restate/restate/MarkerStyle;"⟩ : MethodName) (head1 (Jvm.Cond.code (⟨"com/example/restate/restate/MarkerStyle", "openedBy", "(Ljava/lang/String;)Lcom/example/restate/restate/MarkerStyle;"⟩ : MethodName) prog_61_method_5_code 5 (some (.object "com/example/restate/restate/MarkerStyle")) :: ws) ({ frames := 2, cells := 0, slots := 0, locals := 28 } : Room)) (fun a U => a = #[(.ref a1)] ∧ Z.Warmed39 U.vm ∧ U.heap = h0) (fun _ _ _ _ _ => True) (fun _ U o U' => ∃ v L, o = .returned v ∧ Q6_2 Z a1 w_STYLES w_NUMBER w_NUMBER_first w_NUMBER_first_value w_LOWER_LETTER w_LOWER_LETTER_first w_LOWER_LETTER_first_value w_UPPER_LETTER w_UPPER_LETTER_first w_UPPER_LETTER_first_value w_LOWER_ROMAN w_LOWER_ROMAN_first w_LOWER_ROMAN_first_value w_UPPER_ROMAN w_UPPER_ROMAN_first w_UPPER_ROMAN_first_value w_COMPACT_STRINGS k_STYLES k_NUMBER_first_value k_LOWER_LETTER_first_value k_UPPER_LETTER_first_value k_LOWER_ROMAN_first_value k_UPPER_ROMAN_first_value vs ks y0 y1 h0 n0 v U'.heap L ∧ FrameEnd U o U' L ({ frames := 2, cells := 0, slots := 0, locals := 28 } : Room).cells ({ frames := 2, cells := 0, slots := 0, locals := 28 } : Room).slots) := by
 refine MetFree.of_bodySF (plainFor_of_name pn_268) hisR ?_
 intro p e s m args below meth c s₁ Bd hml0 hP hK
 obtain ⟨rfl, hZ, hh⟩ := hP
 have hx := Bd.exec
 have hby := Bd.bytes
 have hml : c.maxLocals = 5 := hml0
 have hown : s.vm.findClass "com/example/restate/restate/MarkerStyle" = some m.cls := findClass_of_methodNamed Bd.named
 have hnm := (name_of_methodNamed Bd.named Bd.method).1
 have X0 : Stand p l e ({ frames := 2, cells := 0, slots := 0, locals := 28 } : Room) s m #[(.ref a1)] below meth c s₁ [] 0 0 := Stand.of_body Bd
 have e0 : s₁.heap = h0 := by rw [← hh, Bd.state]; rfl
 have N0 := Fr.nil n0
 refine own_go (B := s₁.setTop (mkF m 0 #[.val (.ref a1), .unset, .unset, .unset, .unset] [])) (fun t k => castTop (ef_6_2 m a1) k) ?_
 obtain ⟨T288, X288, e288, st288⟩ := getS2 X0 hx hZ hown (host := "") (Or.inl (hw _ (List.mem_of_getElem? (i := 33) rfl))) Via.refl e0 S_STYLES (g := (mkF m 0 #[.val (.ref a1), .unset, .unset, .unset, .unset] [])) rfl (hb hby d6_0)
 refine own_go st288 ?_
 refine own_go (B := T288.setTop (mkF m 5 #[.val (.ref a1), .val (.ref w_STYLES), .unset, .unset, .unset] [(.ref w_STYLES)])) (fun t k => ?_) ?_
 ·refine XS.astoreN X288.here hx rfl (hb hby d6_3) rfl rfl (l' := #[.val (.ref a1), .val (.ref w_STYLES), .unset, .unset, .unset]) rfl ?_
  show Steps p.tables e below (T288.setTop (mkF m 4 #[.val (.ref a1), .val (.ref w_STYLES), .unset, .unset, .unset] [])) _
  refine XS.aloadN X288.here hx rfl (hb hby d6_4) rfl rfl ?_
  show Steps p.tables e below (T288.setTop (mkF m 5 #[.val (.ref a1), .val (.ref w_STYLES), .unset, .unset, .unset] [(.ref w_STYLES)])) _
  exact k
 obtain ⟨cl289, Ar289, cq289, cS289, cN289, cH289, cG289⟩ := id V_STYLES
 refine own_go (B := T288.setTop (mkF m 16 #[.val (.ref a1), .val (.ref w_STYLES), .val (.int 5), .val (.int 0), .unset] [(.int 0), (.ref w_STYLES)])) (fun t k => ?_) ?_
 ·refine X288.arraylength hx (by rw [e288]; exact Ar289.1) (State.isArrayOf_alike hZ.alike Ar289.2.1) (g := (mkF m 5 #[.val (.ref a1), .val (.ref w_STYLES), .unset, .unset, .unset] [(.ref w_STYLES)])) rfl rfl (hb hby d6_5) _ ?_
  rw [len_of cS289 cN289]
  show Steps p.tables e below (T288.setTop (mkF m 6 #[.val (.ref a1), .val (.ref w_STYLES), .unset, .unset, .unset] [(.int 5)])) _
  refine XS.istoreN X288.here hx rfl (hb hby d6_6) rfl (l' := #[.val (.ref a1), .val (.ref w_STYLES), .val (.int 5), .unset, .unset]) rfl ?_
  show Steps p.tables e below (T288.setTop (mkF m 7 #[.val (.ref a1), .val (.ref w_STYLES), .val (.int 5), .unset, .unset] [])) _
  refine XS.iconst X288.here hx rfl (hb hby d6_7) ?_
  show Steps p.tables e below (T288.setTop (mkF m 8 #[.val (.ref a1), .val (.ref w_STYLES), .val (.int 5), .unset, .unset] [(.int 0)])) _
  refine XS.istoreN X288.here hx rfl (hb hby d6_8) rfl (l' := #[.val (.ref a1), .val (.ref w_STYLES), .val (.int 5), .val (.int 0), .unset]) rfl ?_
  show Steps p.tables e below (T288.setTop (mkF m 9 #[.val (.ref a1), .val (.ref w_STYLES), .val (.int 5), .val (.int 0), .unset] [])) _
  refine XS.iloadN X288.here hx rfl (hb hby d6_9) rfl ?_
  show Steps p.tables e below (T288.setTop (mkF m 10 #[.val (.ref a1), .val (.ref w_STYLES), .val (.int 5), .val (.int 0), .unset] [(.int 0)])) _
  refine XS.iloadN X288.here hx rfl (hb hby d6_10) rfl ?_
  show Steps p.tables e below (T288.setTop (mkF m 11 #[.val (.ref a1), .val (.ref w_STYLES), .val (.int 5), .val (.int 0), .unset] [(.int 5), (.int 0)])) _
  refine XS.icmpNo X288.here hx rfl (hb hby d6_11) rfl (tlt (by decide : (0 : Int32) < (5 : Int32))).2.1 ?_
  show Steps p.tables e below (T288.setTop (mkF m 14 #[.val (.ref a1), .val (.ref w_STYLES), .val (.int 5), .val (.int 0), .unset] [])) _
  refine XS.aloadN X288.here hx rfl (hb hby d6_14) rfl rfl ?_
  show Steps p.tables e below (T288.setTop (mkF m 15 #[.val (.ref a1), .val (.ref w_STYLES), .val (.int 5), .val (.int 0), .unset] [(.ref w_STYLES)])) _
  refine XS.iloadN X288.here hx rfl (hb hby d6_15) rfl ?_
  show Steps p.tables e below (T288.setTop (mkF m 16 #[.val (.ref a1), .val (.ref w_STYLES), .val (.int 5), .val (.int 0), .unset] [(.int 0), (.ref w_STYLES)])) _
  exact k
 obtain ⟨cl290, Ar290, cq290, cS290, cN290, cH290, cG290⟩ := id V_STYLES
 have hin290 := inb_of (j := (0 : Int32)) cS290 ⟨by decide, by decide⟩
 have hat290 : cl290.slots[((0 : Int32)).toNatClampNeg]? = some (.ref w_NUMBER) := Has.at cH290 hin290 rfl
 refine own_go (B := T288.setTop (mkF m 21 #[.val (.ref a1), .val (.ref w_STYLES), .val (.int 5), .val (.int 0), .val (.ref w_NUMBER)] [(.ref w_NUMBER)])) (fun t k => ?_) ?_
 ·refine X288.aaload hx (j := (0 : Int32)) (v := (.ref w_NUMBER)) (by rw [e288]; exact Ar290.1) (State.isArrayOf_alike hZ.alike Ar290.2.1) rfl Ar290.2.2 hin290 hat290 (g := (mkF m 16 #[.val (.ref a1), .val (.ref w_STYLES), .val (.int 5), .val (.int 0), .unset] [(.int 0), (.ref w_STYLES)])) rfl rfl (hb hby d6_16) _ ?_
  show Steps p.tables e below (T288.setTop (mkF m 17 #[.val (.ref a1), .val (.ref w_STYLES), .val (.int 5), .val (.int 0), .unset] [(.ref w_NUMBER)])) _
  refine XS.astore X288.here hx rfl (hb hby d6_17) rfl rfl (l' := #[.val (.ref a1), .val (.ref w_STYLES), .val (.int 5), .val (.int 0), .val (.ref w_NUMBER)]) rfl ?_
  show Steps p.tables e below (T288.setTop (mkF m 19 #[.val (.ref a1), .val (.ref w_STYLES), .val (.int 5), .val (.int 0), .val (.ref w_NUMBER)] [])) _
  refine XS.aload X288.here hx rfl (hb hby d6_19) rfl rfl ?_
  show Steps p.tables e below (T288.setTop (mkF m 21 #[.val (.ref a1), .val (.ref w_STYLES), .val (.int 5), .val (.int 0), .val (.ref w_NUMBER)] [(.ref w_NUMBER)])) _
  exact k
 obtain ⟨T291, X291, e291, st291⟩ := getF X288 hx hZ hown (host := "") (Or.inl (hw _ (List.mem_of_getElem? (i := 36) rfl))) Via.refl e288 F_NUMBER_first (g := (mkF m 21 #[.val (.ref a1), .val (.ref w_STYLES), .val (.int 5), .val (.int 0), .val (.ref w_NUMBER)] [(.ref w_NUMBER)])) rfl rfl (hb hby d6_21)
 refine own_go st291 ?_
 refine own_go (B := T291.setTop (mkF m 25 #[.val (.ref a1), .val (.ref w_STYLES), .val (.int 5), .val (.int 0), .val (.ref w_NUMBER)] [(.ref a1), (.ref w_NUMBER_first)])) (fun t k => ?_) ?_
 ·refine XS.aloadN X291.here hx rfl (hb hby d6_24) rfl rfl ?_
  show Steps p.tables e below (T291.setTop (mkF m 25 #[.val (.ref a1), .val (.ref w_STYLES), .val (.int 5), .val (.int 0), .val (.ref w_NUMBER)] [(.ref a1), (.ref w_NUMBER_first)])) _
  exact k
 obtain ⟨cq292, kq292, q292a, q292b, q292c⟩ := isOf hZ e291 E_NUMBER_first
 obtain ⟨_, _, ⟨T292, L292, k292, n292⟩, -, X292, ⟨Lc292, hQ292, l292, y292, z292⟩, st292⟩ := X291.virtualBack hx (y := (⟨"java/lang/String", "equals", "(Ljava/lang/Object;)Z"⟩ : MethodName)) (z := (⟨"java/lang/String", "equals", "(Ljava/lang/Object;)Z"⟩ : MethodName)) hown (mvT hZ (hw _ (List.mem_of_getElem? (i := 38) rfl))) (mvT hZ (hw _ (List.mem_of_getElem? (i := 39) rfl))) (notFace_of_selects (args := #[]) (mvT hZ (hw _ (List.mem_of_getElem? (i := 41) rfl)))) (mvT hZ (hw _ (List.mem_of_getElem? (i := 41) rfl))) (mvT hZ (hw _ (List.mem_of_getElem? (i := 40) rfl))) (by decide) (backOf (W := 0) (rm7_2 l Z a0 hw [] w_NUMBER_first a1 w_COMPACT_STRINGS w_NUMBER_first_value vs k_NUMBER_first_value ks (49 : Int32) y0 y1 h0 n0 Z0 S_COMPACT_STRINGS (N_COMPACT_STRINGS) E_s F_NUMBER_first_coder C_s F_NUMBER_first_value W_s V_NUMBER_first_value V_s ne_NUMBER) hZ (hw _ (List.mem_of_getElem? (i := 42) rfl)) (hw _ (List.mem_of_getElem? (i := 10) rfl)) (by decide) (by decide)) q292a q292c (g := (mkF m 25 #[.val (.ref a1), .val (.ref w_STYLES), .val (.int 5), .val (.int 0), .val (.ref w_NUMBER)] [(.ref a1), (.ref w_NUMBER_first)])) rfl (by rw [hml]; rfl) (Steps.refl _) (argsL := [(.ref a1)]) (rest := []) (lenOf pd_6 rfl) rfl (by show 2 * 0 + _ ≤ _; exact Nat.le_of_eq rfl) (hb hby d6_25) (fun _ _ => ⟨rfl, e291, (by decide : 0 + 0 ≤ _), (by decide : 0 + 0 ≤ _)⟩)
 dsimp only [Pt.U, Pt.locs, Pt.cells, Pt.slots] at X292 l292 y292 z292 st292 hQ292
 subst l292 y292 z292
 obtain ⟨rfl, M292, q292_0⟩ := hQ292
 have N292 := Fr.app N0 M292
 refine own_go (fun t k => st292.trans k) ?_
 refine own_go (B := T292.setTop (mkF m 16 #[.val (.ref a1), .val (.ref w_STYLES), .val (.int 5), .val (.int 1), .val (.ref w_NUMBER)] [(.int 1), (.ref w_STYLES)])) (fun t k => ?_) ?_
 ·refine XS.ifYes X292.here hx rfl (pc0 := 28) (pc' := 34) rfl (hb hby d6_28) rfl ((if0 _ _).trans (teq (by decide : (0 : Int32) = (0 : Int32))).1) (by decide) (by decide) ?_
  show Steps p.tables e below (T292.setTop (mkF m 34 #[.val (.ref a1), .val (.ref w_STYLES), .val (.int 5), .val (.int 0), .val (.ref w_NUMBER)] [])) _
  refine XS.iinc X292.here hx rfl (hb hby d6_34) rfl (l' := #[.val (.ref a1), .val (.ref w_STYLES), .val (.int 5), .val (.int 1), .val (.ref w_NUMBER)]) rfl ?_
  show Steps p.tables e below (T292.setTop (mkF m 37 #[.val (.ref a1), .val (.ref w_STYLES), .val (.int 5), .val (.int 1), .val (.ref w_NUMBER)] [])) _
  refine XS.goto X292.here hx rfl (pc0 := 37) (pc' := 9) rfl (hb hby d6_37) (by decide) (by decide) ?_
  show Steps p.tables e below (T292.setTop (mkF m 9 #[.val (.ref a1), .val (.ref w_STYLES), .val (.int 5), .val (.int 1), .val (.ref w_NUMBER)] [])) _
  refine XS.iloadN X292.here hx rfl (hb hby d6_9) rfl ?_
  show Steps p.tables e below (T292.setTop (mkF m 10 #[.val (.ref a1), .val (.ref w_STYLES), .val (.int 5), .val (.int 1), .val (.ref w_NUMBER)] [(.int 1)])) _
  refine XS.iloadN X292.here hx rfl (hb hby d6_10) rfl ?_
  show Steps p.tables e below (T292.setTop (mkF m 11 #[.val (.ref a1), .val (.ref w_STYLES), .val (.int 5), .val (.int 1), .val (.ref w_NUMBER)] [(.int 5), (.int 1)])) _
  refine XS.icmpNo X292.here hx rfl (hb hby d6_11) rfl (tlt (by decide : (1 : Int32) < (5 : Int32))).2.1 ?_
  show Steps p.tables e below (T292.setTop (mkF m 14 #[.val (.ref a1), .val (.ref w_STYLES), .val (.int 5), .val (.int 1), .val (.ref w_NUMBER)] [])) _
  refine XS.aloadN X292.here hx rfl (hb hby d6_14) rfl rfl ?_
  show Steps p.tables e below (T292.setTop (mkF m 15 #[.val (.ref a1), .val (.ref w_STYLES), .val (.int 5), .val (.int 1), .val (.ref w_NUMBER)] [(.ref w_STYLES)])) _
  refine XS.iloadN X292.here hx rfl (hb hby d6_15) rfl ?_
  show Steps p.tables e below (T292.setTop (mkF m 16 #[.val (.ref a1), .val (.ref w_STYLES), .val (.int 5), .val (.int 1), .val (.ref w_NUMBER)] [(.int 1), (.ref w_STYLES)])) _
  exact k
 obtain ⟨cl293, Ar293, cq293, cS293, cN293, cH293, cG293⟩ := id V_STYLES
 have hin293 := inb_of (j := (1 : Int32)) cS293 ⟨by decide, by decide⟩
 have hat293 : cl293.slots[((1 : Int32)).toNatClampNeg]? = some (.ref w_LOWER_LETTER) := Has.at cH293 hin293 rfl
 refine own_go (B := T292.setTop (mkF m 21 #[.val (.ref a1), .val (.ref w_STYLES), .val (.int 5), .val (.int 1), .val (.ref w_LOWER_LETTER)] [(.ref w_LOWER_LETTER)])) (fun t k => ?_) ?_
 ·refine X292.aaload hx (j := (1 : Int32)) (v := (.ref w_LOWER_LETTER)) (by rw [q292_0]; exact Ar293.1) (State.isArrayOf_alike hZ.alike Ar293.2.1) rfl Ar293.2.2 hin293 hat293 (g := (mkF m 16 #[.val (.ref a1), .val (.ref w_STYLES), .val (.int 5), .val (.int 1), .val (.ref w_NUMBER)] [(.int 1), (.ref w_STYLES)])) rfl rfl (hb hby d6_16) _ ?_
  show Steps p.tables e below (T292.setTop (mkF m 17 #[.val (.ref a1), .val (.ref w_STYLES), .val (.int 5), .val (.int 1), .val (.ref w_NUMBER)] [(.ref w_LOWER_LETTER)])) _
  refine XS.astore X292.here hx rfl (hb hby d6_17) rfl rfl (l' := #[.val (.ref a1), .val (.ref w_STYLES), .val (.int 5), .val (.int 1), .val (.ref w_LOWER_LETTER)]) rfl ?_
  show Steps p.tables e below (T292.setTop (mkF m 19 #[.val (.ref a1), .val (.ref w_STYLES), .val (.int 5), .val (.int 1), .val (.ref w_LOWER_LETTER)] [])) _
  refine XS.aload X292.here hx rfl (hb hby d6_19) rfl rfl ?_
  show Steps p.tables e below (T292.setTop (mkF m 21 #[.val (.ref a1), .val (.ref w_STYLES), .val (.int 5), .val (.int 1), .val (.ref w_LOWER_LETTER)] [(.ref w_LOWER_LETTER)])) _
  exact k
 obtain ⟨T294, X294, e294, st294⟩ := getF X292 hx hZ hown (host := "") (Or.inl (hw _ (List.mem_of_getElem? (i := 36) rfl))) Via.refl q292_0 F_LOWER_LETTER_first (g := (mkF m 21 #[.val (.ref a1), .val (.ref w_STYLES), .val (.int 5), .val (.int 1), .val (.ref w_LOWER_LETTER)] [(.ref w_LOWER_LETTER)])) rfl rfl (hb hby d6_21)
 refine own_go st294 ?_
 refine own_go (B := T294.setTop (mkF m 25 #[.val (.ref a1), .val (.ref w_STYLES), .val (.int 5), .val (.int 1), .val (.ref w_LOWER_LETTER)] [(.ref a1), (.ref w_LOWER_LETTER_first)])) (fun t k => ?_) ?_
 ·refine XS.aloadN X294.here hx rfl (hb hby d6_24) rfl rfl ?_
  show Steps p.tables e below (T294.setTop (mkF m 25 #[.val (.ref a1), .val (.ref w_STYLES), .val (.int 5), .val (.int 1), .val (.ref w_LOWER_LETTER)] [(.ref a1), (.ref w_LOWER_LETTER_first)])) _
  exact k
 obtain ⟨cq295, kq295, q295a, q295b, q295c⟩ := isOf hZ e294 E_LOWER_LETTER_first
 obtain ⟨_, _, ⟨T295, L295, k295, n295⟩, -, X295, ⟨Lc295, hQ295, l295, y295, z295⟩, st295⟩ := X294.virtualBack hx (y := (⟨"java/lang/String", "equals", "(Ljava/lang/Object;)Z"⟩ : MethodName)) (z := (⟨"java/lang/String", "equals", "(Ljava/lang/Object;)Z"⟩ : MethodName)) hown (mvT hZ (hw _ (List.mem_of_getElem? (i := 38) rfl))) (mvT hZ (hw _ (List.mem_of_getElem? (i := 39) rfl))) (notFace_of_selects (args := #[]) (mvT hZ (hw _ (List.mem_of_getElem? (i := 41) rfl)))) (mvT hZ (hw _ (List.mem_of_getElem? (i := 41) rfl))) (mvT hZ (hw _ (List.mem_of_getElem? (i := 40) rfl))) (by decide) (backOf (W := 0) (rm7_2 l Z a0 hw [] w_LOWER_LETTER_first a1 w_COMPACT_STRINGS w_LOWER_LETTER_first_value vs k_LOWER_LETTER_first_value ks (97 : Int32) y0 y1 h0 n0 Z0 S_COMPACT_STRINGS (N_COMPACT_STRINGS) E_s F_LOWER_LETTER_first_coder C_s F_LOWER_LETTER_first_value W_s V_LOWER_LETTER_first_value V_s ne_LOWER_LETTER) hZ (hw _ (List.mem_of_getElem? (i := 42) rfl)) (hw _ (List.mem_of_getElem? (i := 10) rfl)) (by decide) (by decide)) q295a q295c (g := (mkF m 25 #[.val (.ref a1), .val (.ref w_STYLES), .val (.int 5), .val (.int 1), .val (.ref w_LOWER_LETTER)] [(.ref a1), (.ref w_LOWER_LETTER_first)])) rfl (by rw [hml]; rfl) (Steps.refl _) (argsL := [(.ref a1)]) (rest := []) (lenOf pd_6 rfl) rfl (by show 2 * 0 + _ ≤ _; exact Nat.le_of_eq rfl) (hb hby d6_25) (fun _ _ => ⟨rfl, e294, (by decide : 0 + 0 ≤ _), (by decide : 0 + 0 ≤ _)⟩)
 dsimp only [Pt.U, Pt.locs, Pt.cells, Pt.slots] at X295 l295 y295 z295 st295 hQ295
 subst l295 y295 z295
 obtain ⟨rfl, M295, q295_0⟩ := hQ295
 have N295 := Fr.app N292 M295
 refine own_go (fun t k => st295.trans k) ?_
 refine own_go (B := T295.setTop (mkF m 16 #[.val (.ref a1), .val (.ref w_STYLES), .val (.int 5), .val (.int 2), .val (.ref w_LOWER_LETTER)] [(.int 2), (.ref w_STYLES)])) (fun t k => ?_) ?_
 ·refine XS.ifYes X295.here hx rfl (pc0 := 28) (pc' := 34) rfl (hb hby d6_28) rfl ((if0 _ _).trans (teq (by decide : (0 : Int32) = (0 : Int32))).1) (by decide) (by decide) ?_
  show Steps p.tables e below (T295.setTop (mkF m 34 #[.val (.ref a1), .val (.ref w_STYLES), .val (.int 5), .val (.int 1), .val (.ref w_LOWER_LETTER)] [])) _
  refine XS.iinc X295.here hx rfl (hb hby d6_34) rfl (l' := #[.val (.ref a1), .val (.ref w_STYLES), .val (.int 5), .val (.int 2), .val (.ref w_LOWER_LETTER)]) rfl ?_
  show Steps p.tables e below (T295.setTop (mkF m 37 #[.val (.ref a1), .val (.ref w_STYLES), .val (.int 5), .val (.int 2), .val (.ref w_LOWER_LETTER)] [])) _
  refine XS.goto X295.here hx rfl (pc0 := 37) (pc' := 9) rfl (hb hby d6_37) (by decide) (by decide) ?_
  show Steps p.tables e below (T295.setTop (mkF m 9 #[.val (.ref a1), .val (.ref w_STYLES), .val (.int 5), .val (.int 2), .val (.ref w_LOWER_LETTER)] [])) _
  refine XS.iloadN X295.here hx rfl (hb hby d6_9) rfl ?_
  show Steps p.tables e below (T295.setTop (mkF m 10 #[.val (.ref a1), .val (.ref w_STYLES), .val (.int 5), .val (.int 2), .val (.ref w_LOWER_LETTER)] [(.int 2)])) _
  refine XS.iloadN X295.here hx rfl (hb hby d6_10) rfl ?_
  show Steps p.tables e below (T295.setTop (mkF m 11 #[.val (.ref a1), .val (.ref w_STYLES), .val (.int 5), .val (.int 2), .val (.ref w_LOWER_LETTER)] [(.int 5), (.int 2)])) _
  refine XS.icmpNo X295.here hx rfl (hb hby d6_11) rfl (tlt (by decide : (2 : Int32) < (5 : Int32))).2.1 ?_
  show Steps p.tables e below (T295.setTop (mkF m 14 #[.val (.ref a1), .val (.ref w_STYLES), .val (.int 5), .val (.int 2), .val (.ref w_LOWER_LETTER)] [])) _
  refine XS.aloadN X295.here hx rfl (hb hby d6_14) rfl rfl ?_
  show Steps p.tables e below (T295.setTop (mkF m 15 #[.val (.ref a1), .val (.ref w_STYLES), .val (.int 5), .val (.int 2), .val (.ref w_LOWER_LETTER)] [(.ref w_STYLES)])) _
  refine XS.iloadN X295.here hx rfl (hb hby d6_15) rfl ?_
  show Steps p.tables e below (T295.setTop (mkF m 16 #[.val (.ref a1), .val (.ref w_STYLES), .val (.int 5), .val (.int 2), .val (.ref w_LOWER_LETTER)] [(.int 2), (.ref w_STYLES)])) _
  exact k
 obtain ⟨cl296, Ar296, cq296, cS296, cN296, cH296, cG296⟩ := id V_STYLES
 have hin296 := inb_of (j := (2 : Int32)) cS296 ⟨by decide, by decide⟩
 have hat296 : cl296.slots[((2 : Int32)).toNatClampNeg]? = some (.ref w_UPPER_LETTER) := Has.at cH296 hin296 rfl
 refine own_go (B := T295.setTop (mkF m 21 #[.val (.ref a1), .val (.ref w_STYLES), .val (.int 5), .val (.int 2), .val (.ref w_UPPER_LETTER)] [(.ref w_UPPER_LETTER)])) (fun t k => ?_) ?_
 ·refine X295.aaload hx (j := (2 : Int32)) (v := (.ref w_UPPER_LETTER)) (by rw [q295_0]; exact Ar296.1) (State.isArrayOf_alike hZ.alike Ar296.2.1) rfl Ar296.2.2 hin296 hat296 (g := (mkF m 16 #[.val (.ref a1), .val (.ref w_STYLES), .val (.int 5), .val (.int 2), .val (.ref w_LOWER_LETTER)] [(.int 2), (.ref w_STYLES)])) rfl rfl (hb hby d6_16) _ ?_
  show Steps p.tables e below (T295.setTop (mkF m 17 #[.val (.ref a1), .val (.ref w_STYLES), .val (.int 5), .val (.int 2), .val (.ref w_LOWER_LETTER)] [(.ref w_UPPER_LETTER)])) _
  refine XS.astore X295.here hx rfl (hb hby d6_17) rfl rfl (l' := #[.val (.ref a1), .val (.ref w_STYLES), .val (.int 5), .val (.int 2), .val (.ref w_UPPER_LETTER)]) rfl ?_
  show Steps p.tables e below (T295.setTop (mkF m 19 #[.val (.ref a1), .val (.ref w_STYLES), .val (.int 5), .val (.int 2), .val (.ref w_UPPER_LETTER)] [])) _
  refine XS.aload X295.here hx rfl (hb hby d6_19) rfl rfl ?_
  show Steps p.tables e below (T295.setTop (mkF m 21 #[.val (.ref a1), .val (.ref w_STYLES), .val (.int 5), .val (.int 2), .val (.ref w_UPPER_LETTER)] [(.ref w_UPPER_LETTER)])) _
  exact k
 obtain ⟨T297, X297, e297, st297⟩ := getF X295 hx hZ hown (host := "") (Or.inl (hw _ (List.mem_of_getElem? (i := 36) rfl))) Via.refl q295_0 F_UPPER_LETTER_first (g := (mkF m 21 #[.val (.ref a1), .val (.ref w_STYLES), .val (.int 5), .val (.int 2), .val (.ref w_UPPER_LETTER)] [(.ref w_UPPER_LETTER)])) rfl rfl (hb hby d6_21)
 refine own_go st297 ?_
 refine own_go (B := T297.setTop (mkF m 25 #[.val (.ref a1), .val (.ref w_STYLES), .val (.int 5), .val (.int 2), .val (.ref w_UPPER_LETTER)] [(.ref a1), (.ref w_UPPER_LETTER_first)])) (fun t k => ?_) ?_
 ·refine XS.aloadN X297.here hx rfl (hb hby d6_24) rfl rfl ?_
  show Steps p.tables e below (T297.setTop (mkF m 25 #[.val (.ref a1), .val (.ref w_STYLES), .val (.int 5), .val (.int 2), .val (.ref w_UPPER_LETTER)] [(.ref a1), (.ref w_UPPER_LETTER_first)])) _
  exact k
 obtain ⟨cq298, kq298, q298a, q298b, q298c⟩ := isOf hZ e297 E_UPPER_LETTER_first
 obtain ⟨_, _, ⟨T298, L298, k298, n298⟩, -, X298, ⟨Lc298, hQ298, l298, y298, z298⟩, st298⟩ := X297.virtualBack hx (y := (⟨"java/lang/String", "equals", "(Ljava/lang/Object;)Z"⟩ : MethodName)) (z := (⟨"java/lang/String", "equals", "(Ljava/lang/Object;)Z"⟩ : MethodName)) hown (mvT hZ (hw _ (List.mem_of_getElem? (i := 38) rfl))) (mvT hZ (hw _ (List.mem_of_getElem? (i := 39) rfl))) (notFace_of_selects (args := #[]) (mvT hZ (hw _ (List.mem_of_getElem? (i := 41) rfl)))) (mvT hZ (hw _ (List.mem_of_getElem? (i := 41) rfl))) (mvT hZ (hw _ (List.mem_of_getElem? (i := 40) rfl))) (by decide) (backOf (W := 0) (rm7_2 l Z a0 hw [] w_UPPER_LETTER_first a1 w_COMPACT_STRINGS w_UPPER_LETTER_first_value vs k_UPPER_LETTER_first_value ks (65 : Int32) y0 y1 h0 n0 Z0 S_COMPACT_STRINGS (N_COMPACT_STRINGS) E_s F_UPPER_LETTER_first_coder C_s F_UPPER_LETTER_first_value W_s V_UPPER_LETTER_first_value V_s ne_UPPER_LETTER) hZ (hw _ (List.mem_of_getElem? (i := 42) rfl)) (hw _ (List.mem_of_getElem? (i := 10) rfl)) (by decide) (by decide)) q298a q298c (g := (mkF m 25 #[.val (.ref a1), .val (.ref w_STYLES), .val (.int 5), .val (.int 2), .val (.ref w_UPPER_LETTER)] [(.ref a1), (.ref w_UPPER_LETTER_first)])) rfl (by rw [hml]; rfl) (Steps.refl _) (argsL := [(.ref a1)]) (rest := []) (lenOf pd_6 rfl) rfl (by show 2 * 0 + _ ≤ _; exact Nat.le_of_eq rfl) (hb hby d6_25) (fun _ _ => ⟨rfl, e297, (by decide : 0 + 0 ≤ _), (by decide : 0 + 0 ≤ _)⟩)
 dsimp only [Pt.U, Pt.locs, Pt.cells, Pt.slots] at X298 l298 y298 z298 st298 hQ298
 subst l298 y298 z298
 obtain ⟨rfl, M298, q298_0⟩ := hQ298
 have N298 := Fr.app N295 M298
 refine own_go (fun t k => st298.trans k) ?_
 refine own_go (B := T298.setTop (mkF m 16 #[.val (.ref a1), .val (.ref w_STYLES), .val (.int 5), .val (.int 3), .val (.ref w_UPPER_LETTER)] [(.int 3), (.ref w_STYLES)])) (fun t k => ?_) ?_
 ·refine XS.ifYes X298.here hx rfl (pc0 := 28) (pc' := 34) rfl (hb hby d6_28) rfl ((if0 _ _).trans (teq (by decide : (0 : Int32) = (0 : Int32))).1) (by decide) (by decide) ?_
  show Steps p.tables e below (T298.setTop (mkF m 34 #[.val (.ref a1), .val (.ref w_STYLES), .val (.int 5), .val (.int 2), .val (.ref w_UPPER_LETTER)] [])) _
  refine XS.iinc X298.here hx rfl (hb hby d6_34) rfl (l' := #[.val (.ref a1), .val (.ref w_STYLES), .val (.int 5), .val (.int 3), .val (.ref w_UPPER_LETTER)]) rfl ?_
  show Steps p.tables e below (T298.setTop (mkF m 37 #[.val (.ref a1), .val (.ref w_STYLES), .val (.int 5), .val (.int 3), .val (.ref w_UPPER_LETTER)] [])) _
  refine XS.goto X298.here hx rfl (pc0 := 37) (pc' := 9) rfl (hb hby d6_37) (by decide) (by decide) ?_
  show Steps p.tables e below (T298.setTop (mkF m 9 #[.val (.ref a1), .val (.ref w_STYLES), .val (.int 5), .val (.int 3), .val (.ref w_UPPER_LETTER)] [])) _
  refine XS.iloadN X298.here hx rfl (hb hby d6_9) rfl ?_
  show Steps p.tables e below (T298.setTop (mkF m 10 #[.val (.ref a1), .val (.ref w_STYLES), .val (.int 5), .val (.int 3), .val (.ref w_UPPER_LETTER)] [(.int 3)])) _
  refine XS.iloadN X298.here hx rfl (hb hby d6_10) rfl ?_
  show Steps p.tables e below (T298.setTop (mkF m 11 #[.val (.ref a1), .val (.ref w_STYLES), .val (.int 5), .val (.int 3), .val (.ref w_UPPER_LETTER)] [(.int 5), (.int 3)])) _
  refine XS.icmpNo X298.here hx rfl (hb hby d6_11) rfl (tlt (by decide : (3 : Int32) < (5 : Int32))).2.1 ?_
  show Steps p.tables e below (T298.setTop (mkF m 14 #[.val (.ref a1), .val (.ref w_STYLES), .val (.int 5), .val (.int 3), .val (.ref w_UPPER_LETTER)] [])) _
  refine XS.aloadN X298.here hx rfl (hb hby d6_14) rfl rfl ?_
  show Steps p.tables e below (T298.setTop (mkF m 15 #[.val (.ref a1), .val (.ref w_STYLES), .val (.int 5), .val (.int 3), .val (.ref w_UPPER_LETTER)] [(.ref w_STYLES)])) _
  refine XS.iloadN X298.here hx rfl (hb hby d6_15) rfl ?_
  show Steps p.tables e below (T298.setTop (mkF m 16 #[.val (.ref a1), .val (.ref w_STYLES), .val (.int 5), .val (.int 3), .val (.ref w_UPPER_LETTER)] [(.int 3), (.ref w_STYLES)])) _
  exact k
 obtain ⟨cl299, Ar299, cq299, cS299, cN299, cH299, cG299⟩ := id V_STYLES
 have hin299 := inb_of (j := (3 : Int32)) cS299 ⟨by decide, by decide⟩
 have hat299 : cl299.slots[((3 : Int32)).toNatClampNeg]? = some (.ref w_LOWER_ROMAN) := Has.at cH299 hin299 rfl
 refine own_go (B := T298.setTop (mkF m 21 #[.val (.ref a1), .val (.ref w_STYLES), .val (.int 5), .val (.int 3), .val (.ref w_LOWER_ROMAN)] [(.ref w_LOWER_ROMAN)])) (fun t k => ?_) ?_
 ·refine X298.aaload hx (j := (3 : Int32)) (v := (.ref w_LOWER_ROMAN)) (by rw [q298_0]; exact Ar299.1) (State.isArrayOf_alike hZ.alike Ar299.2.1) rfl Ar299.2.2 hin299 hat299 (g := (mkF m 16 #[.val (.ref a1), .val (.ref w_STYLES), .val (.int 5), .val (.int 3), .val (.ref w_UPPER_LETTER)] [(.int 3), (.ref w_STYLES)])) rfl rfl (hb hby d6_16) _ ?_
  show Steps p.tables e below (T298.setTop (mkF m 17 #[.val (.ref a1), .val (.ref w_STYLES), .val (.int 5), .val (.int 3), .val (.ref w_UPPER_LETTER)] [(.ref w_LOWER_ROMAN)])) _
  refine XS.astore X298.here hx rfl (hb hby d6_17) rfl rfl (l' := #[.val (.ref a1), .val (.ref w_STYLES), .val (.int 5), .val (.int 3), .val (.ref w_LOWER_ROMAN)]) rfl ?_
  show Steps p.tables e below (T298.setTop (mkF m 19 #[.val (.ref a1), .val (.ref w_STYLES), .val (.int 5), .val (.int 3), .val (.ref w_LOWER_ROMAN)] [])) _
  refine XS.aload X298.here hx rfl (hb hby d6_19) rfl rfl ?_
  show Steps p.tables e below (T298.setTop (mkF m 21 #[.val (.ref a1), .val (.ref w_STYLES), .val (.int 5), .val (.int 3), .val (.ref w_LOWER_ROMAN)] [(.ref w_LOWER_ROMAN)])) _
  exact k
 obtain ⟨T300, X300, e300, st300⟩ := getF X298 hx hZ hown (host := "") (Or.inl (hw _ (List.mem_of_getElem? (i := 36) rfl))) Via.refl q298_0 F_LOWER_ROMAN_first (g := (mkF m 21 #[.val (.ref a1), .val (.ref w_STYLES), .val (.int 5), .val (.int 3), .val (.ref w_LOWER_ROMAN)] [(.ref w_LOWER_ROMAN)])) rfl rfl (hb hby d6_21)
 refine own_go st300 ?_
 refine own_go (B := T300.setTop (mkF m 25 #[.val (.ref a1), .val (.ref w_STYLES), .val (.int 5), .val (.int 3), .val (.ref w_LOWER_ROMAN)] [(.ref a1), (.ref w_LOWER_ROMAN_first)])) (fun t k => ?_) ?_
 ·refine XS.aloadN X300.here hx rfl (hb hby d6_24) rfl rfl ?_
  show Steps p.tables e below (T300.setTop (mkF m 25 #[.val (.ref a1), .val (.ref w_STYLES), .val (.int 5), .val (.int 3), .val (.ref w_LOWER_ROMAN)] [(.ref a1), (.ref w_LOWER_ROMAN_first)])) _
  exact k
 obtain ⟨cq301, kq301, q301a, q301b, q301c⟩ := isOf hZ e300 E_LOWER_ROMAN_first
 obtain ⟨_, _, ⟨T301, L301, k301, n301⟩, -, X301, ⟨Lc301, hQ301, l301, y301, z301⟩, st301⟩ := X300.virtualBack hx (y := (⟨"java/lang/String", "equals", "(Ljava/lang/Object;)Z"⟩ : MethodName)) (z := (⟨"java/lang/String", "equals", "(Ljava/lang/Object;)Z"⟩ : MethodName)) hown (mvT hZ (hw _ (List.mem_of_getElem? (i := 38) rfl))) (mvT hZ (hw _ (List.mem_of_getElem? (i := 39) rfl))) (notFace_of_selects (args := #[]) (mvT hZ (hw _ (List.mem_of_getElem? (i := 41) rfl)))) (mvT hZ (hw _ (List.mem_of_getElem? (i := 41) rfl))) (mvT hZ (hw _ (List.mem_of_getElem? (i := 40) rfl))) (by decide) (backOf (W := 0) (rm7_2 l Z a0 hw [] w_LOWER_ROMAN_first a1 w_COMPACT_STRINGS w_LOWER_ROMAN_first_value vs k_LOWER_ROMAN_first_value ks (105 : Int32) y0 y1 h0 n0 Z0 S_COMPACT_STRINGS (N_COMPACT_STRINGS) E_s F_LOWER_ROMAN_first_coder C_s F_LOWER_ROMAN_first_value W_s V_LOWER_ROMAN_first_value V_s ne_LOWER_ROMAN) hZ (hw _ (List.mem_of_getElem? (i := 42) rfl)) (hw _ (List.mem_of_getElem? (i := 10) rfl)) (by decide) (by decide)) q301a q301c (g := (mkF m 25 #[.val (.ref a1), .val (.ref w_STYLES), .val (.int 5), .val (.int 3), .val (.ref w_LOWER_ROMAN)] [(.ref a1), (.ref w_LOWER_ROMAN_first)])) rfl (by rw [hml]; rfl) (Steps.refl _) (argsL := [(.ref a1)]) (rest := []) (lenOf pd_6 rfl) rfl (by show 2 * 0 + _ ≤ _; exact Nat.le_of_eq rfl) (hb hby d6_25) (fun _ _ => ⟨rfl, e300, (by decide : 0 + 0 ≤ _), (by decide : 0 + 0 ≤ _)⟩)
 dsimp only [Pt.U, Pt.locs, Pt.cells, Pt.slots] at X301 l301 y301 z301 st301 hQ301
 subst l301 y301 z301
 obtain ⟨rfl, M301, q301_0⟩ := hQ301
 have N301 := Fr.app N298 M301
 refine own_go (fun t k => st301.trans k) ?_
 refine own_go (B := T301.setTop (mkF m 16 #[.val (.ref a1), .val (.ref w_STYLES), .val (.int 5), .val (.int 4), .val (.ref w_LOWER_ROMAN)] [(.int 4), (.ref w_STYLES)])) (fun t k => ?_) ?_
 ·refine XS.ifYes X301.here hx rfl (pc0 := 28) (pc' := 34) rfl (hb hby d6_28) rfl ((if0 _ _).trans (teq (by decide : (0 : Int32) = (0 : Int32))).1) (by decide) (by decide) ?_
  show Steps p.tables e below (T301.setTop (mkF m 34 #[.val (.ref a1), .val (.ref w_STYLES), .val (.int 5), .val (.int 3), .val (.ref w_LOWER_ROMAN)] [])) _
  refine XS.iinc X301.here hx rfl (hb hby d6_34) rfl (l' := #[.val (.ref a1), .val (.ref w_STYLES), .val (.int 5), .val (.int 4), .val (.ref w_LOWER_ROMAN)]) rfl ?_
  show Steps p.tables e below (T301.setTop (mkF m 37 #[.val (.ref a1), .val (.ref w_STYLES), .val (.int 5), .val (.int 4), .val (.ref w_LOWER_ROMAN)] [])) _
  refine XS.goto X301.here hx rfl (pc0 := 37) (pc' := 9) rfl (hb hby d6_37) (by decide) (by decide) ?_
  show Steps p.tables e below (T301.setTop (mkF m 9 #[.val (.ref a1), .val (.ref w_STYLES), .val (.int 5), .val (.int 4), .val (.ref w_LOWER_ROMAN)] [])) _
  refine XS.iloadN X301.here hx rfl (hb hby d6_9) rfl ?_
  show Steps p.tables e below (T301.setTop (mkF m 10 #[.val (.ref a1), .val (.ref w_STYLES), .val (.int 5), .val (.int 4), .val (.ref w_LOWER_ROMAN)] [(.int 4)])) _
  refine XS.iloadN X301.here hx rfl (hb hby d6_10) rfl ?_
  show Steps p.tables e below (T301.setTop (mkF m 11 #[.val (.ref a1), .val (.ref w_STYLES), .val (.int 5), .val (.int 4), .val (.ref w_LOWER_ROMAN)] [(.int 5), (.int 4)])) _
  refine XS.icmpNo X301.here hx rfl (hb hby d6_11) rfl (tlt (by decide : (4 : Int32) < (5 : Int32))).2.1 ?_
  show Steps p.tables e below (T301.setTop (mkF m 14 #[.val (.ref a1), .val (.ref w_STYLES), .val (.int 5), .val (.int 4), .val (.ref w_LOWER_ROMAN)] [])) _
  refine XS.aloadN X301.here hx rfl (hb hby d6_14) rfl rfl ?_
  show Steps p.tables e below (T301.setTop (mkF m 15 #[.val (.ref a1), .val (.ref w_STYLES), .val (.int 5), .val (.int 4), .val (.ref w_LOWER_ROMAN)] [(.ref w_STYLES)])) _
  refine XS.iloadN X301.here hx rfl (hb hby d6_15) rfl ?_
  show Steps p.tables e below (T301.setTop (mkF m 16 #[.val (.ref a1), .val (.ref w_STYLES), .val (.int 5), .val (.int 4), .val (.ref w_LOWER_ROMAN)] [(.int 4), (.ref w_STYLES)])) _
  exact k
 obtain ⟨cl302, Ar302, cq302, cS302, cN302, cH302, cG302⟩ := id V_STYLES
 have hin302 := inb_of (j := (4 : Int32)) cS302 ⟨by decide, by decide⟩
 have hat302 : cl302.slots[((4 : Int32)).toNatClampNeg]? = some (.ref w_UPPER_ROMAN) := Has.at cH302 hin302 rfl
 refine own_go (B := T301.setTop (mkF m 21 #[.val (.ref a1), .val (.ref w_STYLES), .val (.int 5), .val (.int 4), .val (.ref w_UPPER_ROMAN)] [(.ref w_UPPER_ROMAN)])) (fun t k => ?_) ?_
 ·refine X301.aaload hx (j := (4 : Int32)) (v := (.ref w_UPPER_ROMAN)) (by rw [q301_0]; exact Ar302.1) (State.isArrayOf_alike hZ.alike Ar302.2.1) rfl Ar302.2.2 hin302 hat302 (g := (mkF m 16 #[.val (.ref a1), .val (.ref w_STYLES), .val (.int 5), .val (.int 4), .val (.ref w_LOWER_ROMAN)] [(.int 4), (.ref w_STYLES)])) rfl rfl (hb hby d6_16) _ ?_
  show Steps p.tables e below (T301.setTop (mkF m 17 #[.val (.ref a1), .val (.ref w_STYLES), .val (.int 5), .val (.int 4), .val (.ref w_LOWER_ROMAN)] [(.ref w_UPPER_ROMAN)])) _
  refine XS.astore X301.here hx rfl (hb hby d6_17) rfl rfl (l' := #[.val (.ref a1), .val (.ref w_STYLES), .val (.int 5), .val (.int 4), .val (.ref w_UPPER_ROMAN)]) rfl ?_
  show Steps p.tables e below (T301.setTop (mkF m 19 #[.val (.ref a1), .val (.ref w_STYLES), .val (.int 5), .val (.int 4), .val (.ref w_UPPER_ROMAN)] [])) _
  refine XS.aload X301.here hx rfl (hb hby d6_19) rfl rfl ?_
  show Steps p.tables e below (T301.setTop (mkF m 21 #[.val (.ref a1), .val (.ref w_STYLES), .val (.int 5), .val (.int 4), .val (.ref w_UPPER_ROMAN)] [(.ref w_UPPER_ROMAN)])) _
  exact k
 obtain ⟨T303, X303, e303, st303⟩ := getF X301 hx hZ hown (host := "") (Or.inl (hw _ (List.mem_of_getElem? (i := 36) rfl))) Via.refl q301_0 F_UPPER_ROMAN_first (g := (mkF m 21 #[.val (.ref a1), .val (.ref w_STYLES), .val (.int 5), .val (.int 4), .val (.ref w_UPPER_ROMAN)] [(.ref w_UPPER_ROMAN)])) rfl rfl (hb hby d6_21)
 refine own_go st303 ?_
 refine own_go (B := T303.setTop (mkF m 25 #[.val (.ref a1), .val (.ref w_STYLES), .val (.int 5), .val (.int 4), .val (.ref w_UPPER_ROMAN)] [(.ref a1), (.ref w_UPPER_ROMAN_first)])) (fun t k => ?_) ?_
 ·refine XS.aloadN X303.here hx rfl (hb hby d6_24) rfl rfl ?_
  show Steps p.tables e below (T303.setTop (mkF m 25 #[.val (.ref a1), .val (.ref w_STYLES), .val (.int 5), .val (.int 4), .val (.ref w_UPPER_ROMAN)] [(.ref a1), (.ref w_UPPER_ROMAN_first)])) _
  exact k
 obtain ⟨cq304, kq304, q304a, q304b, q304c⟩ := isOf hZ e303 E_UPPER_ROMAN_first
 obtain ⟨_, _, ⟨T304, L304, k304, n304⟩, -, X304, ⟨Lc304, hQ304, l304, y304, z304⟩, st304⟩ := X303.virtualBack hx (y := (⟨"java/lang/String", "equals", "(Ljava/lang/Object;)Z"⟩ : MethodName)) (z := (⟨"java/lang/String", "equals", "(Ljava/lang/Object;)Z"⟩ : MethodName)) hown (mvT hZ (hw _ (List.mem_of_getElem? (i := 38) rfl))) (mvT hZ (hw _ (List.mem_of_getElem? (i := 39) rfl))) (notFace_of_selects (args := #[]) (mvT hZ (hw _ (List.mem_of_getElem? (i := 41) rfl)))) (mvT hZ (hw _ (List.mem_of_getElem? (i := 41) rfl))) (mvT hZ (hw _ (List.mem_of_getElem? (i := 40) rfl))) (by decide) (backOf (W := 0) (rm7_2 l Z a0 hw [] w_UPPER_ROMAN_first a1 w_COMPACT_STRINGS w_UPPER_ROMAN_first_value vs k_UPPER_ROMAN_first_value ks (73 : Int32) y0 y1 h0 n0 Z0 S_COMPACT_STRINGS (N_COMPACT_STRINGS) E_s F_UPPER_ROMAN_first_coder C_s F_UPPER_ROMAN_first_value W_s V_UPPER_ROMAN_first_value V_s ne_UPPER_ROMAN) hZ (hw _ (List.mem_of_getElem? (i := 42) rfl)) (hw _ (List.mem_of_getElem? (i := 10) rfl)) (by decide) (by decide)) q304a q304c (g := (mkF m 25 #[.val (.ref a1), .val (.ref w_STYLES), .val (.int 5), .val (.int 4), .val (.ref w_UPPER_ROMAN)] [(.ref a1), (.ref w_UPPER_ROMAN_first)])) rfl (by rw [hml]; rfl) (Steps.refl _) (argsL := [(.ref a1)]) (rest := []) (lenOf pd_6 rfl) rfl (by show 2 * 0 + _ ≤ _; exact Nat.le_of_eq rfl) (hb hby d6_25) (fun _ _ => ⟨rfl, e303, (by decide : 0 + 0 ≤ _), (by decide : 0 + 0 ≤ _)⟩)
 dsimp only [Pt.U, Pt.locs, Pt.cells, Pt.slots] at X304 l304 y304 z304 st304 hQ304
 subst l304 y304 z304
 obtain ⟨rfl, M304, q304_0⟩ := hQ304
 have N304 := Fr.app N301 M304
 refine own_go (fun t k => st304.trans k) ?_
 refine own_go (B := T304.setTop (mkF m 41 #[.val (.ref a1), .val (.ref w_STYLES), .val (.int 5), .val (.int 5), .val (.ref w_UPPER_ROMAN)] [.null])) (fun t k => ?_) ?_
 ·refine XS.ifYes X304.here hx rfl (pc0 := 28) (pc' := 34) rfl (hb hby d6_28) rfl ((if0 _ _).trans (teq (by decide : (0 : Int32) = (0 : Int32))).1) (by decide) (by decide) ?_
  show Steps p.tables e below (T304.setTop (mkF m 34 #[.val (.ref a1), .val (.ref w_STYLES), .val (.int 5), .val (.int 4), .val (.ref w_UPPER_ROMAN)] [])) _
  refine XS.iinc X304.here hx rfl (hb hby d6_34) rfl (l' := #[.val (.ref a1), .val (.ref w_STYLES), .val (.int 5), .val (.int 5), .val (.ref w_UPPER_ROMAN)]) rfl ?_
  show Steps p.tables e below (T304.setTop (mkF m 37 #[.val (.ref a1), .val (.ref w_STYLES), .val (.int 5), .val (.int 5), .val (.ref w_UPPER_ROMAN)] [])) _
  refine XS.goto X304.here hx rfl (pc0 := 37) (pc' := 9) rfl (hb hby d6_37) (by decide) (by decide) ?_
  show Steps p.tables e below (T304.setTop (mkF m 9 #[.val (.ref a1), .val (.ref w_STYLES), .val (.int 5), .val (.int 5), .val (.ref w_UPPER_ROMAN)] [])) _
  refine XS.iloadN X304.here hx rfl (hb hby d6_9) rfl ?_
  show Steps p.tables e below (T304.setTop (mkF m 10 #[.val (.ref a1), .val (.ref w_STYLES), .val (.int 5), .val (.int 5), .val (.ref w_UPPER_ROMAN)] [(.int 5)])) _
  refine XS.iloadN X304.here hx rfl (hb hby d6_10) rfl ?_
  show Steps p.tables e below (T304.setTop (mkF m 11 #[.val (.ref a1), .val (.ref w_STYLES), .val (.int 5), .val (.int 5), .val (.ref w_UPPER_ROMAN)] [(.int 5), (.int 5)])) _
  refine XS.icmpYes X304.here hx rfl (pc0 := 11) (pc' := 40) rfl (hb hby d6_11) rfl (flt (by decide : ¬ ((5 : Int32) < (5 : Int32)))).2.1 (by decide) (by decide) ?_
  show Steps p.tables e below (T304.setTop (mkF m 40 #[.val (.ref a1), .val (.ref w_STYLES), .val (.int 5), .val (.int 5), .val (.ref w_UPPER_ROMAN)] [])) _
  refine XS.aconstNull X304.here hx rfl (hb hby d6_40) ?_
  show Steps p.tables e below (T304.setTop (mkF m 41 #[.val (.ref a1), .val (.ref w_STYLES), .val (.int 5), .val (.int 5), .val (.ref w_UPPER_ROMAN)] [.null])) _
  exact k
 obtain ⟨fs, hr, hrun, hended, hW, hsame⟩ := X304.leave (v := some .null) (fun h => by rw [Bd.returns] at h; cases h)
 refine ⟨_, _, ?_, hrun, hended, _, _, rfl, ?_, ⟨_, rfl⟩, hW, hsame.mono (by decide) (by decide)⟩
 ·exact own_retR X304 hx Bd.returns rfl rfl (hb hby d6_41) hr
 ·show Q6_2 Z a1 w_STYLES w_NUMBER w_NUMBER_first w_NUMBER_first_value w_LOWER_LETTER w_LOWER_LETTER_first w_LOWER_LETTER_first_value w_UPPER_LETTER w_UPPER_LETTER_first w_UPPER_LETTER_first_value w_LOWER_ROMAN w_LOWER_ROMAN_first w_LOWER_ROMAN_first_value w_UPPER_ROMAN w_UPPER_ROMAN_first w_UPPER_ROMAN_first_value w_COMPACT_STRINGS k_STYLES k_NUMBER_first_value k_LOWER_LETTER_first_value k_UPPER_LETTER_first_value k_LOWER_ROMAN_first_value k_UPPER_ROMAN_first_value vs ks y0 y1 h0 n0 _ T304.heap _
  rw [q304_0]
  exact ⟨rfl, N304, rfl⟩
theorem ef_6_3 (m : MethodId) (a1 : Addr) : entryFrame m #[(.ref a1)] 5 = mkF m 0 #[.val (.ref a1), .unset, .unset, .unset, .unset] [] := by first | (simp [entryFrame, mkF, argsToLocals, Value.category]; done) | rfl
def Q6_3 (Z : State) (a1 : Addr) (w_STYLES : Addr) (w_NUMBER : Addr) (w_NUMBER_first : Addr) (w_NUMBER_first_value : Addr) (w_LOWER_LETTER : Addr) (w_LOWER_LETTER_first : Addr) (w_LOWER_LETTER_first_value : Addr) (w_UPPER_LETTER : Addr) (w_UPPER_LETTER_first : Addr) (w_UPPER_LETTER_first_value : Addr) (w_LOWER_ROMAN : Addr) (w_LOWER_ROMAN_first : Addr) (w_LOWER_ROMAN_first_value : Addr) (w_UPPER_ROMAN : Addr) (w_UPPER_ROMAN_first : Addr) (w_UPPER_ROMAN_first_value : Addr) (w_COMPACT_STRINGS : Int32) (k_STYLES : ClassId) (k_NUMBER_first_value : ClassId) (k_LOWER_LETTER_first_value : ClassId) (k_UPPER_LETTER_first_value : ClassId) (k_LOWER_ROMAN_first_value : ClassId) (k_UPPER_ROMAN_first_value : ClassId) (vs : Addr) (ks : ClassId) (y0 : Int32) (y1 : Int32) (y2 : Int32) (h0 : Heap) (n0 : Nat) (v : Option Value) (h : Heap) (L : List Loc) : Prop := v = some .null ∧ Fr n0 L ∧ h = h0
set_option maxRecDepth 65536 in
set_option maxHeartbeats 40000000 in
theorem rm6_3 (l : Launch) (Z : State) (a0 : Array Value) (hw : ∀ d ∈ tables_1, d.before a0 Z = true) (ws : List Jvm.Cond) (a1 : Addr) (w_STYLES : Addr) (w_NUMBER : Addr) (w_NUMBER_first : Addr) (w_NUMBER_first_value : Addr) (w_LOWER_LETTER : Addr) (w_LOWER_LETTER_first : Addr) (w_LOWER_LETTER_first_value : Addr) (w_UPPER_LETTER : Addr) (w_UPPER_LETTER_first : Addr) (w_UPPER_LETTER_first_value : Addr) (w_LOWER_ROMAN : Addr) (w_LOWER_ROMAN_first : Addr) (w_LOWER_ROMAN_first_value : Addr) (w_UPPER_ROMAN : Addr) (w_UPPER_ROMAN_first : Addr) (w_UPPER_ROMAN_first_value : Addr) (w_COMPACT_STRINGS : Int32) (k_STYLES : ClassId) (k_NUMBER_first_value : ClassId) (k_LOWER_LETTER_first_value : ClassId) (k_UPPER_LETTER_first_value : ClassId) (k_LOWER_ROMAN_first_value : ClassId) (k_UPPER_ROMAN_first_value : ClassId) (vs : Addr) (ks : ClassId) (y0 : Int32) (y1 : Int32) (y2 : Int32) (h0 : Heap) (n0 : Nat) (Z0 : n0 ≤ h0.size) (S_STYLES : Sta Z h0 "com/example/restate/restate/MarkerStyle" "STYLES" "[Lcom/example/restate/restate/MarkerStyle;" (.ref w_STYLES)) (S_NUMBER : Sta Z h0 "com/example/restate/restate/MarkerStyle" "NUMBER" "Lcom/example/restate/restate/MarkerStyle;" (.ref w_NUMBER)) (E_NUMBER : Exa Z h0 w_NUMBER "com/example/restate/restate/MarkerStyle") (F_NUMBER_first : Fld Z h0 w_NUMBER "com/example/restate/restate/MarkerStyle" "first" "Ljava/lang/String;" (.ref w_NUMBER_first)) (E_NUMBER_first : Exa Z h0 w_NUMBER_first "java/lang/String") (F_NUMBER_first_value : Fld Z h0 w_NUMBER_first "java/lang/String" "value" "[B" (.ref w_NUMBER_first_value)) (S_LOWER_LETTER : Sta Z h0 "com/example/restate/restate/MarkerStyle" "LOWER_LETTER" "Lcom/example/restate/restate/MarkerStyle;" (.ref w_LOWER_LETTER)) (E_LOWER_LETTER : Exa Z h0 w_LOWER_LETTER "com/example/restate/restate/MarkerStyle") (F_LOWER_LETTER_first : Fld Z h0 w_LOWER_LETTER "com/example/restate/restate/MarkerStyle" "first" "Ljava/lang/String;" (.ref w_LOWER_LETTER_first)) (E_LOWER_LETTER_first : Exa Z h0 w_LOWER_LETTER_first "java/lang/String") (F_LOWER_LETTER_first_value : Fld Z h0 w_LOWER_LETTER_first "java/lang/String" "value" "[B" (.ref w_LOWER_LETTER_first_value)) (S_UPPER_LETTER : Sta Z h0 "com/example/restate/restate/MarkerStyle" "UPPER_LETTER" "Lcom/example/restate/restate/MarkerStyle;" (.ref w_UPPER_LETTER)) (E_UPPER_LETTER : Exa Z h0 w_UPPER_LETTER "com/example/restate/restate/MarkerStyle") (F_UPPER_LETTER_first : Fld Z h0 w_UPPER_LETTER "com/example/restate/restate/MarkerStyle" "first" "Ljava/lang/String;" (.ref w_UPPER_LETTER_first)) (E_UPPER_LETTER_first : Exa Z h0 w_UPPER_LETTER_first "java/lang/String") (F_UPPER_LETTER_first_value : Fld Z h0 w_UPPER_LETTER_first "java/lang/String" "value" "[B" (.ref w_UPPER_LETTER_first_value)) (S_LOWER_ROMAN : Sta Z h0 "com/example/restate/restate/MarkerStyle" "LOWER_ROMAN" "Lcom/example/restate/restate/MarkerStyle;" (.ref w_LOWER_ROMAN)) (E_LOWER_ROMAN : Exa Z h0 w_LOWER_ROMAN "com/example/restate/restate/MarkerStyle") (F_LOWER_ROMAN_first : Fld Z h0 w_LOWER_ROMAN "com/example/restate/restate/MarkerStyle" "first" "Ljava/lang/String;" (.ref w_LOWER_ROMAN_first)) (E_LOWER_ROMAN_first : Exa Z h0 w_LOWER_ROMAN_first "java/lang/String") (F_LOWER_ROMAN_first_value : Fld Z h0 w_LOWER_ROMAN_first "java/lang/String" "value" "[B" (.ref w_LOWER_ROMAN_first_value)) (S_UPPER_ROMAN : Sta Z h0 "com/example/restate/restate/MarkerStyle" "UPPER_ROMAN" "Lcom/example/restate/restate/MarkerStyle;" (.ref w_UPPER_ROMAN)) (E_UPPER_ROMAN : Exa Z h0 w_UPPER_ROMAN "com/example/restate/restate/MarkerStyle") (F_UPPER_ROMAN_first : Fld Z h0 w_UPPER_ROMAN "com/example/restate/restate/MarkerStyle" "first" "Ljava/lang/String;" (.ref w_UPPER_ROMAN_first)) (E_UPPER_ROMAN_first : Exa Z h0 w_UPPER_ROMAN_first "java/lang/String") (F_UPPER_ROMAN_first_value : Fld Z h0 w_UPPER_ROMAN_first "java/lang/String" "value" "[B" (.ref w_UPPER_ROMAN_first_value)) (S_COMPACT_STRINGS : Sta Z h0 "java/lang/String" "COMPACT_STRINGS" "Z" (.int w_COMPACT_STRINGS)) (F_NUMBER_first_coder : Fld Z h0 w_NUMBER_first "java/lang/String" "coder" "B" (.int 0)) (F_LOWER_LETTER_first_coder : Fld Z h0 w_LOWER_LETTER_first "java/lang/String" "coder" "B" (.int 0)) (F_UPPER_LETTER_first_coder : Fld Z h0 w_UPPER_LETTER_first "java/lang/String" "coder" "B" (.int 0)) (F_LOWER_ROMAN_first_coder : Fld Z h0 w_LOWER_ROMAN_first "java/lang/String" "coder" "B" (.int 0)) (F_UPPER_ROMAN_first_coder : Fld Z h0 w_UPPER_ROMAN_first "java/lang/String" "coder" "B" (.int 0)) (N_COMPACT_STRINGS : ¬ w_COMPACT_STRINGS = (0 : Int32)) (V_STYLES : Arv Z h0 w_STYLES k_STYLES (.object "com/example/restate/restate/MarkerStyle") (5 : Int32) [(.ref w_NUMBER), (.ref w_LOWER_LETTER), (.ref w_UPPER_LETTER), (.ref w_LOWER_ROMAN), (.ref w_UPPER_ROMAN)] .null) (V_NUMBER_first_value : Arv Z h0 w_NUMBER_first_value k_NUMBER_first_value .byte (1 : Int32) [(.int 49)] (.int 0)) (V_LOWER_LETTER_first_value : Arv Z h0 w_LOWER_LETTER_first_value k_LOWER_LETTER_first_value .byte (1 : Int32) [(.int 97)] (.int 0)) (V_UPPER_LETTER_first_value : Arv Z h0 w_UPPER_LETTER_first_value k_UPPER_LETTER_first_value .byte (1 : Int32) [(.int 65)] (.int 0)) (V_LOWER_ROMAN_first_value : Arv Z h0 w_LOWER_ROMAN_first_value k_LOWER_ROMAN_first_value .byte (1 : Int32) [(.int 105)] (.int 0)) (V_UPPER_ROMAN_first_value : Arv Z h0 w_UPPER_ROMAN_first_value k_UPPER_ROMAN_first_value .byte (1 : Int32) [(.int 73)] (.int 0)) (E_s : Exa Z h0 a1 "java/lang/String") (C_s : Fld Z h0 a1 "java/lang/String" "coder" "B" (.int 0)) (W_s : Fld Z h0 a1 "java/lang/String" "value" "[B" (.ref vs)) (V_s : Arv Z h0 vs ks .byte (3 : Int32) [(.int y0), (.int y1), (.int y2)] (.int 0)) (ne_NUMBER : w_NUMBER_first ≠ a1) (ne_LOWER_LETTER : w_LOWER_LETTER_first ≠ a1) (ne_UPPER_LETTER : w_UPPER_LETTER_first ≠ a1) (ne_LOWER_ROMAN : w_LOWER_ROMAN_first ≠ a1) (ne_UPPER_ROMAN : w_UPPER_ROMAN_first ≠ a1) :
  MetFree l (⟨"com/example/restate/restate/MarkerStyle", "openedBy", "(Ljava/lang/String;)Lcom/example/restate/restate/MarkerStyle;"⟩ : MethodName) (head1 (Jvm.Cond.code (⟨"com/example/restate/restate/MarkerStyle", "openedBy", "(Ljava/lang/String;)Lcom/example/restate/restate/MarkerStyle;"⟩ : MethodName) prog_61_method_5_code 5 (some (.object "com/example/restate/restate/MarkerStyle")) :: ws) ({ frames := 2, cells := 0, slots := 0, locals := 28 } : Room)) (fun a U => a = #[(.ref a1)] ∧ Z.Warmed39 U.vm ∧ U.heap = h0) (fun _ _ _ _ _ => True) (fun _ U o U' => ∃ v L, o = .returned v ∧ Q6_3 Z a1 w_STYLES w_NUMBER w_NUMBER_first w_NUMBER_first_value w_LOWER_LETTER w_LOWER_LETTER_first w_LOWER_LETTER_first_value w_UPPER_LETTER w_UPPER_LETTER_first w_UPPER_LETTER_first_value w_LOWER_ROMAN w_LOWER_ROMAN_first w_LOWER_ROMAN_first_value w_UPPER_ROMAN w_UPPER_ROMAN_first w_UPPER_ROMAN_first_value w_COMPACT_STRINGS k_STYLES k_NUMBER_first_value k_LOWER_LETTER_first_value k_UPPER_LETTER_first_value k_LOWER_ROMAN_first_value k_UPPER_ROMAN_first_value vs ks y0 y1 y2 h0 n0 v U'.heap L ∧ FrameEnd U o U' L ({ frames := 2, cells := 0, slots := 0, locals := 28 } : Room).cells ({ frames := 2, cells := 0, slots := 0, locals := 28 } : Room).slots) := by
 refine MetFree.of_bodySF (plainFor_of_name pn_268) hisR ?_
 intro p e s m args below meth c s₁ Bd hml0 hP hK
 obtain ⟨rfl, hZ, hh⟩ := hP
 have hx := Bd.exec
 have hby := Bd.bytes
 have hml : c.maxLocals = 5 := hml0
 have hown : s.vm.findClass "com/example/restate/restate/MarkerStyle" = some m.cls := findClass_of_methodNamed Bd.named
 have hnm := (name_of_methodNamed Bd.named Bd.method).1
 have X0 : Stand p l e ({ frames := 2, cells := 0, slots := 0, locals := 28 } : Room) s m #[(.ref a1)] below meth c s₁ [] 0 0 := Stand.of_body Bd
 have e0 : s₁.heap = h0 := by rw [← hh, Bd.state]; rfl
 have N0 := Fr.nil n0
 refine own_go (B := s₁.setTop (mkF m 0 #[.val (.ref a1), .unset, .unset, .unset, .unset] [])) (fun t k => castTop (ef_6_3 m a1) k) ?_
 obtain ⟨T306, X306, e306, st306⟩ := getS2 X0 hx hZ hown (host := "") (Or.inl (hw _ (List.mem_of_getElem? (i := 33) rfl))) Via.refl e0 S_STYLES (g := (mkF m 0 #[.val (.ref a1), .unset, .unset, .unset, .unset] [])) rfl (hb hby d6_0)
 refine own_go st306 ?_
 refine own_go (B := T306.setTop (mkF m 5 #[.val (.ref a1), .val (.ref w_STYLES), .unset, .unset, .unset] [(.ref w_STYLES)])) (fun t k => ?_) ?_
 ·refine XS.astoreN X306.here hx rfl (hb hby d6_3) rfl rfl (l' := #[.val (.ref a1), .val (.ref w_STYLES), .unset, .unset, .unset]) rfl ?_
  show Steps p.tables e below (T306.setTop (mkF m 4 #[.val (.ref a1), .val (.ref w_STYLES), .unset, .unset, .unset] [])) _
  refine XS.aloadN X306.here hx rfl (hb hby d6_4) rfl rfl ?_
  show Steps p.tables e below (T306.setTop (mkF m 5 #[.val (.ref a1), .val (.ref w_STYLES), .unset, .unset, .unset] [(.ref w_STYLES)])) _
  exact k
 obtain ⟨cl307, Ar307, cq307, cS307, cN307, cH307, cG307⟩ := id V_STYLES
 refine own_go (B := T306.setTop (mkF m 16 #[.val (.ref a1), .val (.ref w_STYLES), .val (.int 5), .val (.int 0), .unset] [(.int 0), (.ref w_STYLES)])) (fun t k => ?_) ?_
 ·refine X306.arraylength hx (by rw [e306]; exact Ar307.1) (State.isArrayOf_alike hZ.alike Ar307.2.1) (g := (mkF m 5 #[.val (.ref a1), .val (.ref w_STYLES), .unset, .unset, .unset] [(.ref w_STYLES)])) rfl rfl (hb hby d6_5) _ ?_
  rw [len_of cS307 cN307]
  show Steps p.tables e below (T306.setTop (mkF m 6 #[.val (.ref a1), .val (.ref w_STYLES), .unset, .unset, .unset] [(.int 5)])) _
  refine XS.istoreN X306.here hx rfl (hb hby d6_6) rfl (l' := #[.val (.ref a1), .val (.ref w_STYLES), .val (.int 5), .unset, .unset]) rfl ?_
  show Steps p.tables e below (T306.setTop (mkF m 7 #[.val (.ref a1), .val (.ref w_STYLES), .val (.int 5), .unset, .unset] [])) _
  refine XS.iconst X306.here hx rfl (hb hby d6_7) ?_
  show Steps p.tables e below (T306.setTop (mkF m 8 #[.val (.ref a1), .val (.ref w_STYLES), .val (.int 5), .unset, .unset] [(.int 0)])) _
  refine XS.istoreN X306.here hx rfl (hb hby d6_8) rfl (l' := #[.val (.ref a1), .val (.ref w_STYLES), .val (.int 5), .val (.int 0), .unset]) rfl ?_
  show Steps p.tables e below (T306.setTop (mkF m 9 #[.val (.ref a1), .val (.ref w_STYLES), .val (.int 5), .val (.int 0), .unset] [])) _
  refine XS.iloadN X306.here hx rfl (hb hby d6_9) rfl ?_
  show Steps p.tables e below (T306.setTop (mkF m 10 #[.val (.ref a1), .val (.ref w_STYLES), .val (.int 5), .val (.int 0), .unset] [(.int 0)])) _
  refine XS.iloadN X306.here hx rfl (hb hby d6_10) rfl ?_
  show Steps p.tables e below (T306.setTop (mkF m 11 #[.val (.ref a1), .val (.ref w_STYLES), .val (.int 5), .val (.int 0), .unset] [(.int 5), (.int 0)])) _
  refine XS.icmpNo X306.here hx rfl (hb hby d6_11) rfl (tlt (by decide : (0 : Int32) < (5 : Int32))).2.1 ?_
  show Steps p.tables e below (T306.setTop (mkF m 14 #[.val (.ref a1), .val (.ref w_STYLES), .val (.int 5), .val (.int 0), .unset] [])) _
  refine XS.aloadN X306.here hx rfl (hb hby d6_14) rfl rfl ?_
  show Steps p.tables e below (T306.setTop (mkF m 15 #[.val (.ref a1), .val (.ref w_STYLES), .val (.int 5), .val (.int 0), .unset] [(.ref w_STYLES)])) _
  refine XS.iloadN X306.here hx rfl (hb hby d6_15) rfl ?_
  show Steps p.tables e below (T306.setTop (mkF m 16 #[.val (.ref a1), .val (.ref w_STYLES), .val (.int 5), .val (.int 0), .unset] [(.int 0), (.ref w_STYLES)])) _
  exact k
 obtain ⟨cl308, Ar308, cq308, cS308, cN308, cH308, cG308⟩ := id V_STYLES
 have hin308 := inb_of (j := (0 : Int32)) cS308 ⟨by decide, by decide⟩
 have hat308 : cl308.slots[((0 : Int32)).toNatClampNeg]? = some (.ref w_NUMBER) := Has.at cH308 hin308 rfl
 refine own_go (B := T306.setTop (mkF m 21 #[.val (.ref a1), .val (.ref w_STYLES), .val (.int 5), .val (.int 0), .val (.ref w_NUMBER)] [(.ref w_NUMBER)])) (fun t k => ?_) ?_
 ·refine X306.aaload hx (j := (0 : Int32)) (v := (.ref w_NUMBER)) (by rw [e306]; exact Ar308.1) (State.isArrayOf_alike hZ.alike Ar308.2.1) rfl Ar308.2.2 hin308 hat308 (g := (mkF m 16 #[.val (.ref a1), .val (.ref w_STYLES), .val (.int 5), .val (.int 0), .unset] [(.int 0), (.ref w_STYLES)])) rfl rfl (hb hby d6_16) _ ?_
  show Steps p.tables e below (T306.setTop (mkF m 17 #[.val (.ref a1), .val (.ref w_STYLES), .val (.int 5), .val (.int 0), .unset] [(.ref w_NUMBER)])) _
  refine XS.astore X306.here hx rfl (hb hby d6_17) rfl rfl (l' := #[.val (.ref a1), .val (.ref w_STYLES), .val (.int 5), .val (.int 0), .val (.ref w_NUMBER)]) rfl ?_
  show Steps p.tables e below (T306.setTop (mkF m 19 #[.val (.ref a1), .val (.ref w_STYLES), .val (.int 5), .val (.int 0), .val (.ref w_NUMBER)] [])) _
  refine XS.aload X306.here hx rfl (hb hby d6_19) rfl rfl ?_
  show Steps p.tables e below (T306.setTop (mkF m 21 #[.val (.ref a1), .val (.ref w_STYLES), .val (.int 5), .val (.int 0), .val (.ref w_NUMBER)] [(.ref w_NUMBER)])) _
  exact k
 obtain ⟨T309, X309, e309, st309⟩ := getF X306 hx hZ hown (host := "") (Or.inl (hw _ (List.mem_of_getElem? (i := 36) rfl))) Via.refl e306 F_NUMBER_first (g := (mkF m 21 #[.val (.ref a1), .val (.ref w_STYLES), .val (.int 5), .val (.int 0), .val (.ref w_NUMBER)] [(.ref w_NUMBER)])) rfl rfl (hb hby d6_21)
 refine own_go st309 ?_
 refine own_go (B := T309.setTop (mkF m 25 #[.val (.ref a1), .val (.ref w_STYLES), .val (.int 5), .val (.int 0), .val (.ref w_NUMBER)] [(.ref a1), (.ref w_NUMBER_first)])) (fun t k => ?_) ?_
 ·refine XS.aloadN X309.here hx rfl (hb hby d6_24) rfl rfl ?_
  show Steps p.tables e below (T309.setTop (mkF m 25 #[.val (.ref a1), .val (.ref w_STYLES), .val (.int 5), .val (.int 0), .val (.ref w_NUMBER)] [(.ref a1), (.ref w_NUMBER_first)])) _
  exact k
 obtain ⟨cq310, kq310, q310a, q310b, q310c⟩ := isOf hZ e309 E_NUMBER_first
 obtain ⟨_, _, ⟨T310, L310, k310, n310⟩, -, X310, ⟨Lc310, hQ310, l310, y310, z310⟩, st310⟩ := X309.virtualBack hx (y := (⟨"java/lang/String", "equals", "(Ljava/lang/Object;)Z"⟩ : MethodName)) (z := (⟨"java/lang/String", "equals", "(Ljava/lang/Object;)Z"⟩ : MethodName)) hown (mvT hZ (hw _ (List.mem_of_getElem? (i := 38) rfl))) (mvT hZ (hw _ (List.mem_of_getElem? (i := 39) rfl))) (notFace_of_selects (args := #[]) (mvT hZ (hw _ (List.mem_of_getElem? (i := 41) rfl)))) (mvT hZ (hw _ (List.mem_of_getElem? (i := 41) rfl))) (mvT hZ (hw _ (List.mem_of_getElem? (i := 40) rfl))) (by decide) (backOf (W := 0) (rm7_3 l Z a0 hw [] w_NUMBER_first a1 w_COMPACT_STRINGS w_NUMBER_first_value vs k_NUMBER_first_value ks (49 : Int32) y0 y1 y2 h0 n0 Z0 S_COMPACT_STRINGS (N_COMPACT_STRINGS) E_s F_NUMBER_first_coder C_s F_NUMBER_first_value W_s V_NUMBER_first_value V_s ne_NUMBER) hZ (hw _ (List.mem_of_getElem? (i := 42) rfl)) (hw _ (List.mem_of_getElem? (i := 10) rfl)) (by decide) (by decide)) q310a q310c (g := (mkF m 25 #[.val (.ref a1), .val (.ref w_STYLES), .val (.int 5), .val (.int 0), .val (.ref w_NUMBER)] [(.ref a1), (.ref w_NUMBER_first)])) rfl (by rw [hml]; rfl) (Steps.refl _) (argsL := [(.ref a1)]) (rest := []) (lenOf pd_6 rfl) rfl (by show 2 * 0 + _ ≤ _; exact Nat.le_of_eq rfl) (hb hby d6_25) (fun _ _ => ⟨rfl, e309, (by decide : 0 + 0 ≤ _), (by decide : 0 + 0 ≤ _)⟩)
 dsimp only [Pt.U, Pt.locs, Pt.cells, Pt.slots] at X310 l310 y310 z310 st310 hQ310
 subst l310 y310 z310
 obtain ⟨rfl, M310, q310_0⟩ := hQ310
 have N310 := Fr.app N0 M310
 refine own_go (fun t k => st310.trans k) ?_
 refine own_go (B := T310.setTop (mkF m 16 #[.val (.ref a1), .val (.ref w_STYLES), .val (.int 5), .val (.int 1), .val (.ref w_NUMBER)] [(.int 1), (.ref w_STYLES)])) (fun t k => ?_) ?_
 ·refine XS.ifYes X310.here hx rfl (pc0 := 28) (pc' := 34) rfl (hb hby d6_28) rfl ((if0 _ _).trans (teq (by decide : (0 : Int32) = (0 : Int32))).1) (by decide) (by decide) ?_
  show Steps p.tables e below (T310.setTop (mkF m 34 #[.val (.ref a1), .val (.ref w_STYLES), .val (.int 5), .val (.int 0), .val (.ref w_NUMBER)] [])) _
  refine XS.iinc X310.here hx rfl (hb hby d6_34) rfl (l' := #[.val (.ref a1), .val (.ref w_STYLES), .val (.int 5), .val (.int 1), .val (.ref w_NUMBER)]) rfl ?_
  show Steps p.tables e below (T310.setTop (mkF m 37 #[.val (.ref a1), .val (.ref w_STYLES), .val (.int 5), .val (.int 1), .val (.ref w_NUMBER)] [])) _
  refine XS.goto X310.here hx rfl (pc0 := 37) (pc' := 9) rfl (hb hby d6_37) (by decide) (by decide) ?_
  show Steps p.tables e below (T310.setTop (mkF m 9 #[.val (.ref a1), .val (.ref w_STYLES), .val (.int 5), .val (.int 1), .val (.ref w_NUMBER)] [])) _
  refine XS.iloadN X310.here hx rfl (hb hby d6_9) rfl ?_
  show Steps p.tables e below (T310.setTop (mkF m 10 #[.val (.ref a1), .val (.ref w_STYLES), .val (.int 5), .val (.int 1), .val (.ref w_NUMBER)] [(.int 1)])) _
  refine XS.iloadN X310.here hx rfl (hb hby d6_10) rfl ?_
  show Steps p.tables e below (T310.setTop (mkF m 11 #[.val (.ref a1), .val (.ref w_STYLES), .val (.int 5), .val (.int 1), .val (.ref w_NUMBER)] [(.int 5), (.int 1)])) _
  refine XS.icmpNo X310.here hx rfl (hb hby d6_11) rfl (tlt (by decide : (1 : Int32) < (5 : Int32))).2.1 ?_
  show Steps p.tables e below (T310.setTop (mkF m 14 #[.val (.ref a1), .val (.ref w_STYLES), .val (.int 5), .val (.int 1), .val (.ref w_NUMBER)] [])) _
  refine XS.aloadN X310.here hx rfl (hb hby d6_14) rfl rfl ?_
  show Steps p.tables e below (T310.setTop (mkF m 15 #[.val (.ref a1), .val (.ref w_STYLES), .val (.int 5), .val (.int 1), .val (.ref w_NUMBER)] [(.ref w_STYLES)])) _
  refine XS.iloadN X310.here hx rfl (hb hby d6_15) rfl ?_
  show Steps p.tables e below (T310.setTop (mkF m 16 #[.val (.ref a1), .val (.ref w_STYLES), .val (.int 5), .val (.int 1), .val (.ref w_NUMBER)] [(.int 1), (.ref w_STYLES)])) _
  exact k
 obtain ⟨cl311, Ar311, cq311, cS311, cN311, cH311, cG311⟩ := id V_STYLES
 have hin311 := inb_of (j := (1 : Int32)) cS311 ⟨by decide, by decide⟩
 have hat311 : cl311.slots[((1 : Int32)).toNatClampNeg]? = some (.ref w_LOWER_LETTER) := Has.at cH311 hin311 rfl
 refine own_go (B := T310.setTop (mkF m 21 #[.val (.ref a1), .val (.ref w_STYLES), .val (.int 5), .val (.int 1), .val (.ref w_LOWER_LETTER)] [(.ref w_LOWER_LETTER)])) (fun t k => ?_) ?_
 ·refine X310.aaload hx (j := (1 : Int32)) (v := (.ref w_LOWER_LETTER)) (by rw [q310_0]; exact Ar311.1) (State.isArrayOf_alike hZ.alike Ar311.2.1) rfl Ar311.2.2 hin311 hat311 (g := (mkF m 16 #[.val (.ref a1), .val (.ref w_STYLES), .val (.int 5), .val (.int 1), .val (.ref w_NUMBER)] [(.int 1), (.ref w_STYLES)])) rfl rfl (hb hby d6_16) _ ?_
  show Steps p.tables e below (T310.setTop (mkF m 17 #[.val (.ref a1), .val (.ref w_STYLES), .val (.int 5), .val (.int 1), .val (.ref w_NUMBER)] [(.ref w_LOWER_LETTER)])) _
  refine XS.astore X310.here hx rfl (hb hby d6_17) rfl rfl (l' := #[.val (.ref a1), .val (.ref w_STYLES), .val (.int 5), .val (.int 1), .val (.ref w_LOWER_LETTER)]) rfl ?_
  show Steps p.tables e below (T310.setTop (mkF m 19 #[.val (.ref a1), .val (.ref w_STYLES), .val (.int 5), .val (.int 1), .val (.ref w_LOWER_LETTER)] [])) _
  refine XS.aload X310.here hx rfl (hb hby d6_19) rfl rfl ?_
  show Steps p.tables e below (T310.setTop (mkF m 21 #[.val (.ref a1), .val (.ref w_STYLES), .val (.int 5), .val (.int 1), .val (.ref w_LOWER_LETTER)] [(.ref w_LOWER_LETTER)])) _
  exact k
 obtain ⟨T312, X312, e312, st312⟩ := getF X310 hx hZ hown (host := "") (Or.inl (hw _ (List.mem_of_getElem? (i := 36) rfl))) Via.refl q310_0 F_LOWER_LETTER_first (g := (mkF m 21 #[.val (.ref a1), .val (.ref w_STYLES), .val (.int 5), .val (.int 1), .val (.ref w_LOWER_LETTER)] [(.ref w_LOWER_LETTER)])) rfl rfl (hb hby d6_21)
 refine own_go st312 ?_
 refine own_go (B := T312.setTop (mkF m 25 #[.val (.ref a1), .val (.ref w_STYLES), .val (.int 5), .val (.int 1), .val (.ref w_LOWER_LETTER)] [(.ref a1), (.ref w_LOWER_LETTER_first)])) (fun t k => ?_) ?_
 ·refine XS.aloadN X312.here hx rfl (hb hby d6_24) rfl rfl ?_
  show Steps p.tables e below (T312.setTop (mkF m 25 #[.val (.ref a1), .val (.ref w_STYLES), .val (.int 5), .val (.int 1), .val (.ref w_LOWER_LETTER)] [(.ref a1), (.ref w_LOWER_LETTER_first)])) _
  exact k
 obtain ⟨cq313, kq313, q313a, q313b, q313c⟩ := isOf hZ e312 E_LOWER_LETTER_first
 obtain ⟨_, _, ⟨T313, L313, k313, n313⟩, -, X313, ⟨Lc313, hQ313, l313, y313, z313⟩, st313⟩ := X312.virtualBack hx (y := (⟨"java/lang/String", "equals", "(Ljava/lang/Object;)Z"⟩ : MethodName)) (z := (⟨"java/lang/String", "equals", "(Ljava/lang/Object;)Z"⟩ : MethodName)) hown (mvT hZ (hw _ (List.mem_of_getElem? (i := 38) rfl))) (mvT hZ (hw _ (List.mem_of_getElem? (i := 39) rfl))) (notFace_of_selects (args := #[]) (mvT hZ (hw _ (List.mem_of_getElem? (i := 41) rfl)))) (mvT hZ (hw _ (List.mem_of_getElem? (i := 41) rfl))) (mvT hZ (hw _ (List.mem_of_getElem? (i := 40) rfl))) (by decide) (backOf (W := 0) (rm7_3 l Z a0 hw [] w_LOWER_LETTER_first a1 w_COMPACT_STRINGS w_LOWER_LETTER_first_value vs k_LOWER_LETTER_first_value ks (97 : Int32) y0 y1 y2 h0 n0 Z0 S_COMPACT_STRINGS (N_COMPACT_STRINGS) E_s F_LOWER_LETTER_first_coder C_s F_LOWER_LETTER_first_value W_s V_LOWER_LETTER_first_value V_s ne_LOWER_LETTER) hZ (hw _ (List.mem_of_getElem? (i := 42) rfl)) (hw _ (List.mem_of_getElem? (i := 10) rfl)) (by decide) (by decide)) q313a q313c (g := (mkF m 25 #[.val (.ref a1), .val (.ref w_STYLES), .val (.int 5), .val (.int 1), .val (.ref w_LOWER_LETTER)] [(.ref a1), (.ref w_LOWER_LETTER_first)])) rfl (by rw [hml]; rfl) (Steps.refl _) (argsL := [(.ref a1)]) (rest := []) (lenOf pd_6 rfl) rfl (by show 2 * 0 + _ ≤ _; exact Nat.le_of_eq rfl) (hb hby d6_25) (fun _ _ => ⟨rfl, e312, (by decide : 0 + 0 ≤ _), (by decide : 0 + 0 ≤ _)⟩)
 dsimp only [Pt.U, Pt.locs, Pt.cells, Pt.slots] at X313 l313 y313 z313 st313 hQ313
 subst l313 y313 z313
 obtain ⟨rfl, M313, q313_0⟩ := hQ313
 have N313 := Fr.app N310 M313
 refine own_go (fun t k => st313.trans k) ?_
 refine own_go (B := T313.setTop (mkF m 16 #[.val (.ref a1), .val (.ref w_STYLES), .val (.int 5), .val (.int 2), .val (.ref w_LOWER_LETTER)] [(.int 2), (.ref w_STYLES)])) (fun t k => ?_) ?_
 ·refine XS.ifYes X313.here hx rfl (pc0 := 28) (pc' := 34) rfl (hb hby d6_28) rfl ((if0 _ _).trans (teq (by decide : (0 : Int32) = (0 : Int32))).1) (by decide) (by decide) ?_
  show Steps p.tables e below (T313.setTop (mkF m 34 #[.val (.ref a1), .val (.ref w_STYLES), .val (.int 5), .val (.int 1), .val (.ref w_LOWER_LETTER)] [])) _
  refine XS.iinc X313.here hx rfl (hb hby d6_34) rfl (l' := #[.val (.ref a1), .val (.ref w_STYLES), .val (.int 5), .val (.int 2), .val (.ref w_LOWER_LETTER)]) rfl ?_
  show Steps p.tables e below (T313.setTop (mkF m 37 #[.val (.ref a1), .val (.ref w_STYLES), .val (.int 5), .val (.int 2), .val (.ref w_LOWER_LETTER)] [])) _
  refine XS.goto X313.here hx rfl (pc0 := 37) (pc' := 9) rfl (hb hby d6_37) (by decide) (by decide) ?_
  show Steps p.tables e below (T313.setTop (mkF m 9 #[.val (.ref a1), .val (.ref w_STYLES), .val (.int 5), .val (.int 2), .val (.ref w_LOWER_LETTER)] [])) _
  refine XS.iloadN X313.here hx rfl (hb hby d6_9) rfl ?_
  show Steps p.tables e below (T313.setTop (mkF m 10 #[.val (.ref a1), .val (.ref w_STYLES), .val (.int 5), .val (.int 2), .val (.ref w_LOWER_LETTER)] [(.int 2)])) _
  refine XS.iloadN X313.here hx rfl (hb hby d6_10) rfl ?_
  show Steps p.tables e below (T313.setTop (mkF m 11 #[.val (.ref a1), .val (.ref w_STYLES), .val (.int 5), .val (.int 2), .val (.ref w_LOWER_LETTER)] [(.int 5), (.int 2)])) _
  refine XS.icmpNo X313.here hx rfl (hb hby d6_11) rfl (tlt (by decide : (2 : Int32) < (5 : Int32))).2.1 ?_
  show Steps p.tables e below (T313.setTop (mkF m 14 #[.val (.ref a1), .val (.ref w_STYLES), .val (.int 5), .val (.int 2), .val (.ref w_LOWER_LETTER)] [])) _
  refine XS.aloadN X313.here hx rfl (hb hby d6_14) rfl rfl ?_
  show Steps p.tables e below (T313.setTop (mkF m 15 #[.val (.ref a1), .val (.ref w_STYLES), .val (.int 5), .val (.int 2), .val (.ref w_LOWER_LETTER)] [(.ref w_STYLES)])) _
  refine XS.iloadN X313.here hx rfl (hb hby d6_15) rfl ?_
  show Steps p.tables e below (T313.setTop (mkF m 16 #[.val (.ref a1), .val (.ref w_STYLES), .val (.int 5), .val (.int 2), .val (.ref w_LOWER_LETTER)] [(.int 2), (.ref w_STYLES)])) _
  exact k
 obtain ⟨cl314, Ar314, cq314, cS314, cN314, cH314, cG314⟩ := id V_STYLES
 have hin314 := inb_of (j := (2 : Int32)) cS314 ⟨by decide, by decide⟩
 have hat314 : cl314.slots[((2 : Int32)).toNatClampNeg]? = some (.ref w_UPPER_LETTER) := Has.at cH314 hin314 rfl
 refine own_go (B := T313.setTop (mkF m 21 #[.val (.ref a1), .val (.ref w_STYLES), .val (.int 5), .val (.int 2), .val (.ref w_UPPER_LETTER)] [(.ref w_UPPER_LETTER)])) (fun t k => ?_) ?_
 ·refine X313.aaload hx (j := (2 : Int32)) (v := (.ref w_UPPER_LETTER)) (by rw [q313_0]; exact Ar314.1) (State.isArrayOf_alike hZ.alike Ar314.2.1) rfl Ar314.2.2 hin314 hat314 (g := (mkF m 16 #[.val (.ref a1), .val (.ref w_STYLES), .val (.int 5), .val (.int 2), .val (.ref w_LOWER_LETTER)] [(.int 2), (.ref w_STYLES)])) rfl rfl (hb hby d6_16) _ ?_
  show Steps p.tables e below (T313.setTop (mkF m 17 #[.val (.ref a1), .val (.ref w_STYLES), .val (.int 5), .val (.int 2), .val (.ref w_LOWER_LETTER)] [(.ref w_UPPER_LETTER)])) _
  refine XS.astore X313.here hx rfl (hb hby d6_17) rfl rfl (l' := #[.val (.ref a1), .val (.ref w_STYLES), .val (.int 5), .val (.int 2), .val (.ref w_UPPER_LETTER)]) rfl ?_
  show Steps p.tables e below (T313.setTop (mkF m 19 #[.val (.ref a1), .val (.ref w_STYLES), .val (.int 5), .val (.int 2), .val (.ref w_UPPER_LETTER)] [])) _
  refine XS.aload X313.here hx rfl (hb hby d6_19) rfl rfl ?_
  show Steps p.tables e below (T313.setTop (mkF m 21 #[.val (.ref a1), .val (.ref w_STYLES), .val (.int 5), .val (.int 2), .val (.ref w_UPPER_LETTER)] [(.ref w_UPPER_LETTER)])) _
  exact k
 obtain ⟨T315, X315, e315, st315⟩ := getF X313 hx hZ hown (host := "") (Or.inl (hw _ (List.mem_of_getElem? (i := 36) rfl))) Via.refl q313_0 F_UPPER_LETTER_first (g := (mkF m 21 #[.val (.ref a1), .val (.ref w_STYLES), .val (.int 5), .val (.int 2), .val (.ref w_UPPER_LETTER)] [(.ref w_UPPER_LETTER)])) rfl rfl (hb hby d6_21)
 refine own_go st315 ?_
 refine own_go (B := T315.setTop (mkF m 25 #[.val (.ref a1), .val (.ref w_STYLES), .val (.int 5), .val (.int 2), .val (.ref w_UPPER_LETTER)] [(.ref a1), (.ref w_UPPER_LETTER_first)])) (fun t k => ?_) ?_
 ·refine XS.aloadN X315.here hx rfl (hb hby d6_24) rfl rfl ?_
  show Steps p.tables e below (T315.setTop (mkF m 25 #[.val (.ref a1), .val (.ref w_STYLES), .val (.int 5), .val (.int 2), .val (.ref w_UPPER_LETTER)] [(.ref a1), (.ref w_UPPER_LETTER_first)])) _
  exact k
 obtain ⟨cq316, kq316, q316a, q316b, q316c⟩ := isOf hZ e315 E_UPPER_LETTER_first
 obtain ⟨_, _, ⟨T316, L316, k316, n316⟩, -, X316, ⟨Lc316, hQ316, l316, y316, z316⟩, st316⟩ := X315.virtualBack hx (y := (⟨"java/lang/String", "equals", "(Ljava/lang/Object;)Z"⟩ : MethodName)) (z := (⟨"java/lang/String", "equals", "(Ljava/lang/Object;)Z"⟩ : MethodName)) hown (mvT hZ (hw _ (List.mem_of_getElem? (i := 38) rfl))) (mvT hZ (hw _ (List.mem_of_getElem? (i := 39) rfl))) (notFace_of_selects (args := #[]) (mvT hZ (hw _ (List.mem_of_getElem? (i := 41) rfl)))) (mvT hZ (hw _ (List.mem_of_getElem? (i := 41) rfl))) (mvT hZ (hw _ (List.mem_of_getElem? (i := 40) rfl))) (by decide) (backOf (W := 0) (rm7_3 l Z a0 hw [] w_UPPER_LETTER_first a1 w_COMPACT_STRINGS w_UPPER_LETTER_first_value vs k_UPPER_LETTER_first_value ks (65 : Int32) y0 y1 y2 h0 n0 Z0 S_COMPACT_STRINGS (N_COMPACT_STRINGS) E_s F_UPPER_LETTER_first_coder C_s F_UPPER_LETTER_first_value W_s V_UPPER_LETTER_first_value V_s ne_UPPER_LETTER) hZ (hw _ (List.mem_of_getElem? (i := 42) rfl)) (hw _ (List.mem_of_getElem? (i := 10) rfl)) (by decide) (by decide)) q316a q316c (g := (mkF m 25 #[.val (.ref a1), .val (.ref w_STYLES), .val (.int 5), .val (.int 2), .val (.ref w_UPPER_LETTER)] [(.ref a1), (.ref w_UPPER_LETTER_first)])) rfl (by rw [hml]; rfl) (Steps.refl _) (argsL := [(.ref a1)]) (rest := []) (lenOf pd_6 rfl) rfl (by show 2 * 0 + _ ≤ _; exact Nat.le_of_eq rfl) (hb hby d6_25) (fun _ _ => ⟨rfl, e315, (by decide : 0 + 0 ≤ _), (by decide : 0 + 0 ≤ _)⟩)
 dsimp only [Pt.U, Pt.locs, Pt.cells, Pt.slots] at X316 l316 y316 z316 st316 hQ316
 subst l316 y316 z316
 obtain ⟨rfl, M316, q316_0⟩ := hQ316
 have N316 := Fr.app N313 M316
 refine own_go (fun t k => st316.trans k) ?_
 refine own_go (B := T316.setTop (mkF m 16 #[.val (.ref a1), .val (.ref w_STYLES), .val (.int 5), .val (.int 3), .val (.ref w_UPPER_LETTER)] [(.int 3), (.ref w_STYLES)])) (fun t k => ?_) ?_
 ·refine XS.ifYes X316.here hx rfl (pc0 := 28) (pc' := 34) rfl (hb hby d6_28) rfl ((if0 _ _).trans (teq (by decide : (0 : Int32) = (0 : Int32))).1) (by decide) (by decide) ?_
  show Steps p.tables e below (T316.setTop (mkF m 34 #[.val (.ref a1), .val (.ref w_STYLES), .val (.int 5), .val (.int 2), .val (.ref w_UPPER_LETTER)] [])) _
  refine XS.iinc X316.here hx rfl (hb hby d6_34) rfl (l' := #[.val (.ref a1), .val (.ref w_STYLES), .val (.int 5), .val (.int 3), .val (.ref w_UPPER_LETTER)]) rfl ?_
  show Steps p.tables e below (T316.setTop (mkF m 37 #[.val (.ref a1), .val (.ref w_STYLES), .val (.int 5), .val (.int 3), .val (.ref w_UPPER_LETTER)] [])) _
  refine XS.goto X316.here hx rfl (pc0 := 37) (pc' := 9) rfl (hb hby d6_37) (by decide) (by decide) ?_
  show Steps p.tables e below (T316.setTop (mkF m 9 #[.val (.ref a1), .val (.ref w_STYLES), .val (.int 5), .val (.int 3), .val (.ref w_UPPER_LETTER)] [])) _
  refine XS.iloadN X316.here hx rfl (hb hby d6_9) rfl ?_
  show Steps p.tables e below (T316.setTop (mkF m 10 #[.val (.ref a1), .val (.ref w_STYLES), .val (.int 5), .val (.int 3), .val (.ref w_UPPER_LETTER)] [(.int 3)])) _
  refine XS.iloadN X316.here hx rfl (hb hby d6_10) rfl ?_
  show Steps p.tables e below (T316.setTop (mkF m 11 #[.val (.ref a1), .val (.ref w_STYLES), .val (.int 5), .val (.int 3), .val (.ref w_UPPER_LETTER)] [(.int 5), (.int 3)])) _
  refine XS.icmpNo X316.here hx rfl (hb hby d6_11) rfl (tlt (by decide : (3 : Int32) < (5 : Int32))).2.1 ?_
  show Steps p.tables e below (T316.setTop (mkF m 14 #[.val (.ref a1), .val (.ref w_STYLES), .val (.int 5), .val (.int 3), .val (.ref w_UPPER_LETTER)] [])) _
  refine XS.aloadN X316.here hx rfl (hb hby d6_14) rfl rfl ?_
  show Steps p.tables e below (T316.setTop (mkF m 15 #[.val (.ref a1), .val (.ref w_STYLES), .val (.int 5), .val (.int 3), .val (.ref w_UPPER_LETTER)] [(.ref w_STYLES)])) _
  refine XS.iloadN X316.here hx rfl (hb hby d6_15) rfl ?_
  show Steps p.tables e below (T316.setTop (mkF m 16 #[.val (.ref a1), .val (.ref w_STYLES), .val (.int 5), .val (.int 3), .val (.ref w_UPPER_LETTER)] [(.int 3), (.ref w_STYLES)])) _
  exact k
 obtain ⟨cl317, Ar317, cq317, cS317, cN317, cH317, cG317⟩ := id V_STYLES
 have hin317 := inb_of (j := (3 : Int32)) cS317 ⟨by decide, by decide⟩
 have hat317 : cl317.slots[((3 : Int32)).toNatClampNeg]? = some (.ref w_LOWER_ROMAN) := Has.at cH317 hin317 rfl
 refine own_go (B := T316.setTop (mkF m 21 #[.val (.ref a1), .val (.ref w_STYLES), .val (.int 5), .val (.int 3), .val (.ref w_LOWER_ROMAN)] [(.ref w_LOWER_ROMAN)])) (fun t k => ?_) ?_
 ·refine X316.aaload hx (j := (3 : Int32)) (v := (.ref w_LOWER_ROMAN)) (by rw [q316_0]; exact Ar317.1) (State.isArrayOf_alike hZ.alike Ar317.2.1) rfl Ar317.2.2 hin317 hat317 (g := (mkF m 16 #[.val (.ref a1), .val (.ref w_STYLES), .val (.int 5), .val (.int 3), .val (.ref w_UPPER_LETTER)] [(.int 3), (.ref w_STYLES)])) rfl rfl (hb hby d6_16) _ ?_
  show Steps p.tables e below (T316.setTop (mkF m 17 #[.val (.ref a1), .val (.ref w_STYLES), .val (.int 5), .val (.int 3), .val (.ref w_UPPER_LETTER)] [(.ref w_LOWER_ROMAN)])) _
  refine XS.astore X316.here hx rfl (hb hby d6_17) rfl rfl (l' := #[.val (.ref a1), .val (.ref w_STYLES), .val (.int 5), .val (.int 3), .val (.ref w_LOWER_ROMAN)]) rfl ?_
  show Steps p.tables e below (T316.setTop (mkF m 19 #[.val (.ref a1), .val (.ref w_STYLES), .val (.int 5), .val (.int 3), .val (.ref w_LOWER_ROMAN)] [])) _
  refine XS.aload X316.here hx rfl (hb hby d6_19) rfl rfl ?_
  show Steps p.tables e below (T316.setTop (mkF m 21 #[.val (.ref a1), .val (.ref w_STYLES), .val (.int 5), .val (.int 3), .val (.ref w_LOWER_ROMAN)] [(.ref w_LOWER_ROMAN)])) _
  exact k
 obtain ⟨T318, X318, e318, st318⟩ := getF X316 hx hZ hown (host := "") (Or.inl (hw _ (List.mem_of_getElem? (i := 36) rfl))) Via.refl q316_0 F_LOWER_ROMAN_first (g := (mkF m 21 #[.val (.ref a1), .val (.ref w_STYLES), .val (.int 5), .val (.int 3), .val (.ref w_LOWER_ROMAN)] [(.ref w_LOWER_ROMAN)])) rfl rfl (hb hby d6_21)
 refine own_go st318 ?_
 refine own_go (B := T318.setTop (mkF m 25 #[.val (.ref a1), .val (.ref w_STYLES), .val (.int 5), .val (.int 3), .val (.ref w_LOWER_ROMAN)] [(.ref a1), (.ref w_LOWER_ROMAN_first)])) (fun t k => ?_) ?_
 ·refine XS.aloadN X318.here hx rfl (hb hby d6_24) rfl rfl ?_
  show Steps p.tables e below (T318.setTop (mkF m 25 #[.val (.ref a1), .val (.ref w_STYLES), .val (.int 5), .val (.int 3), .val (.ref w_LOWER_ROMAN)] [(.ref a1), (.ref w_LOWER_ROMAN_first)])) _
  exact k
 obtain ⟨cq319, kq319, q319a, q319b, q319c⟩ := isOf hZ e318 E_LOWER_ROMAN_first
 obtain ⟨_, _, ⟨T319, L319, k319, n319⟩, -, X319, ⟨Lc319, hQ319, l319, y319, z319⟩, st319⟩ := X318.virtualBack hx (y := (⟨"java/lang/String", "equals", "(Ljava/lang/Object;)Z"⟩ : MethodName)) (z := (⟨"java/lang/String", "equals", "(Ljava/lang/Object;)Z"⟩ : MethodName)) hown (mvT hZ (hw _ (List.mem_of_getElem? (i := 38) rfl))) (mvT hZ (hw _ (List.mem_of_getElem? (i := 39) rfl))) (notFace_of_selects (args := #[]) (mvT hZ (hw _ (List.mem_of_getElem? (i := 41) rfl)))) (mvT hZ (hw _ (List.mem_of_getElem? (i := 41) rfl))) (mvT hZ (hw _ (List.mem_of_getElem? (i := 40) rfl))) (by decide) (backOf (W := 0) (rm7_3 l Z a0 hw [] w_LOWER_ROMAN_first a1 w_COMPACT_STRINGS w_LOWER_ROMAN_first_value vs k_LOWER_ROMAN_first_value ks (105 : Int32) y0 y1 y2 h0 n0 Z0 S_COMPACT_STRINGS (N_COMPACT_STRINGS) E_s F_LOWER_ROMAN_first_coder C_s F_LOWER_ROMAN_first_value W_s V_LOWER_ROMAN_first_value V_s ne_LOWER_ROMAN) hZ (hw _ (List.mem_of_getElem? (i := 42) rfl)) (hw _ (List.mem_of_getElem? (i := 10) rfl)) (by decide) (by decide)) q319a q319c (g := (mkF m 25 #[.val (.ref a1), .val (.ref w_STYLES), .val (.int 5), .val (.int 3), .val (.ref w_LOWER_ROMAN)] [(.ref a1), (.ref w_LOWER_ROMAN_first)])) rfl (by rw [hml]; rfl) (Steps.refl _) (argsL := [(.ref a1)]) (rest := []) (lenOf pd_6 rfl) rfl (by show 2 * 0 + _ ≤ _; exact Nat.le_of_eq rfl) (hb hby d6_25) (fun _ _ => ⟨rfl, e318, (by decide : 0 + 0 ≤ _), (by decide : 0 + 0 ≤ _)⟩)
 dsimp only [Pt.U, Pt.locs, Pt.cells, Pt.slots] at X319 l319 y319 z319 st319 hQ319
 subst l319 y319 z319
 obtain ⟨rfl, M319, q319_0⟩ := hQ319
 have N319 := Fr.app N316 M319
 refine own_go (fun t k => st319.trans k) ?_
 refine own_go (B := T319.setTop (mkF m 16 #[.val (.ref a1), .val (.ref w_STYLES), .val (.int 5), .val (.int 4), .val (.ref w_LOWER_ROMAN)] [(.int 4), (.ref w_STYLES)])) (fun t k => ?_) ?_
 ·refine XS.ifYes X319.here hx rfl (pc0 := 28) (pc' := 34) rfl (hb hby d6_28) rfl ((if0 _ _).trans (teq (by decide : (0 : Int32) = (0 : Int32))).1) (by decide) (by decide) ?_
  show Steps p.tables e below (T319.setTop (mkF m 34 #[.val (.ref a1), .val (.ref w_STYLES), .val (.int 5), .val (.int 3), .val (.ref w_LOWER_ROMAN)] [])) _
  refine XS.iinc X319.here hx rfl (hb hby d6_34) rfl (l' := #[.val (.ref a1), .val (.ref w_STYLES), .val (.int 5), .val (.int 4), .val (.ref w_LOWER_ROMAN)]) rfl ?_
  show Steps p.tables e below (T319.setTop (mkF m 37 #[.val (.ref a1), .val (.ref w_STYLES), .val (.int 5), .val (.int 4), .val (.ref w_LOWER_ROMAN)] [])) _
  refine XS.goto X319.here hx rfl (pc0 := 37) (pc' := 9) rfl (hb hby d6_37) (by decide) (by decide) ?_
  show Steps p.tables e below (T319.setTop (mkF m 9 #[.val (.ref a1), .val (.ref w_STYLES), .val (.int 5), .val (.int 4), .val (.ref w_LOWER_ROMAN)] [])) _
  refine XS.iloadN X319.here hx rfl (hb hby d6_9) rfl ?_
  show Steps p.tables e below (T319.setTop (mkF m 10 #[.val (.ref a1), .val (.ref w_STYLES), .val (.int 5), .val (.int 4), .val (.ref w_LOWER_ROMAN)] [(.int 4)])) _
  refine XS.iloadN X319.here hx rfl (hb hby d6_10) rfl ?_
  show Steps p.tables e below (T319.setTop (mkF m 11 #[.val (.ref a1), .val (.ref w_STYLES), .val (.int 5), .val (.int 4), .val (.ref w_LOWER_ROMAN)] [(.int 5), (.int 4)])) _
  refine XS.icmpNo X319.here hx rfl (hb hby d6_11) rfl (tlt (by decide : (4 : Int32) < (5 : Int32))).2.1 ?_
  show Steps p.tables e below (T319.setTop (mkF m 14 #[.val (.ref a1), .val (.ref w_STYLES), .val (.int 5), .val (.int 4), .val (.ref w_LOWER_ROMAN)] [])) _
  refine XS.aloadN X319.here hx rfl (hb hby d6_14) rfl rfl ?_
  show Steps p.tables e below (T319.setTop (mkF m 15 #[.val (.ref a1), .val (.ref w_STYLES), .val (.int 5), .val (.int 4), .val (.ref w_LOWER_ROMAN)] [(.ref w_STYLES)])) _
  refine XS.iloadN X319.here hx rfl (hb hby d6_15) rfl ?_
  show Steps p.tables e below (T319.setTop (mkF m 16 #[.val (.ref a1), .val (.ref w_STYLES), .val (.int 5), .val (.int 4), .val (.ref w_LOWER_ROMAN)] [(.int 4), (.ref w_STYLES)])) _
  exact k
 obtain ⟨cl320, Ar320, cq320, cS320, cN320, cH320, cG320⟩ := id V_STYLES
 have hin320 := inb_of (j := (4 : Int32)) cS320 ⟨by decide, by decide⟩
 have hat320 : cl320.slots[((4 : Int32)).toNatClampNeg]? = some (.ref w_UPPER_ROMAN) := Has.at cH320 hin320 rfl
 refine own_go (B := T319.setTop (mkF m 21 #[.val (.ref a1), .val (.ref w_STYLES), .val (.int 5), .val (.int 4), .val (.ref w_UPPER_ROMAN)] [(.ref w_UPPER_ROMAN)])) (fun t k => ?_) ?_
 ·refine X319.aaload hx (j := (4 : Int32)) (v := (.ref w_UPPER_ROMAN)) (by rw [q319_0]; exact Ar320.1) (State.isArrayOf_alike hZ.alike Ar320.2.1) rfl Ar320.2.2 hin320 hat320 (g := (mkF m 16 #[.val (.ref a1), .val (.ref w_STYLES), .val (.int 5), .val (.int 4), .val (.ref w_LOWER_ROMAN)] [(.int 4), (.ref w_STYLES)])) rfl rfl (hb hby d6_16) _ ?_
  show Steps p.tables e below (T319.setTop (mkF m 17 #[.val (.ref a1), .val (.ref w_STYLES), .val (.int 5), .val (.int 4), .val (.ref w_LOWER_ROMAN)] [(.ref w_UPPER_ROMAN)])) _
  refine XS.astore X319.here hx rfl (hb hby d6_17) rfl rfl (l' := #[.val (.ref a1), .val (.ref w_STYLES), .val (.int 5), .val (.int 4), .val (.ref w_UPPER_ROMAN)]) rfl ?_
  show Steps p.tables e below (T319.setTop (mkF m 19 #[.val (.ref a1), .val (.ref w_STYLES), .val (.int 5), .val (.int 4), .val (.ref w_UPPER_ROMAN)] [])) _
  refine XS.aload X319.here hx rfl (hb hby d6_19) rfl rfl ?_
  show Steps p.tables e below (T319.setTop (mkF m 21 #[.val (.ref a1), .val (.ref w_STYLES), .val (.int 5), .val (.int 4), .val (.ref w_UPPER_ROMAN)] [(.ref w_UPPER_ROMAN)])) _
  exact k
 obtain ⟨T321, X321, e321, st321⟩ := getF X319 hx hZ hown (host := "") (Or.inl (hw _ (List.mem_of_getElem? (i := 36) rfl))) Via.refl q319_0 F_UPPER_ROMAN_first (g := (mkF m 21 #[.val (.ref a1), .val (.ref w_STYLES), .val (.int 5), .val (.int 4), .val (.ref w_UPPER_ROMAN)] [(.ref w_UPPER_ROMAN)])) rfl rfl (hb hby d6_21)
 refine own_go st321 ?_
 refine own_go (B := T321.setTop (mkF m 25 #[.val (.ref a1), .val (.ref w_STYLES), .val (.int 5), .val (.int 4), .val (.ref w_UPPER_ROMAN)] [(.ref a1), (.ref w_UPPER_ROMAN_first)])) (fun t k => ?_) ?_
 ·refine XS.aloadN X321.here hx rfl (hb hby d6_24) rfl rfl ?_
  show Steps p.tables e below (T321.setTop (mkF m 25 #[.val (.ref a1), .val (.ref w_STYLES), .val (.int 5), .val (.int 4), .val (.ref w_UPPER_ROMAN)] [(.ref a1), (.ref w_UPPER_ROMAN_first)])) _
  exact k
 obtain ⟨cq322, kq322, q322a, q322b, q322c⟩ := isOf hZ e321 E_UPPER_ROMAN_first
 obtain ⟨_, _, ⟨T322, L322, k322, n322⟩, -, X322, ⟨Lc322, hQ322, l322, y322, z322⟩, st322⟩ := X321.virtualBack hx (y := (⟨"java/lang/String", "equals", "(Ljava/lang/Object;)Z"⟩ : MethodName)) (z := (⟨"java/lang/String", "equals", "(Ljava/lang/Object;)Z"⟩ : MethodName)) hown (mvT hZ (hw _ (List.mem_of_getElem? (i := 38) rfl))) (mvT hZ (hw _ (List.mem_of_getElem? (i := 39) rfl))) (notFace_of_selects (args := #[]) (mvT hZ (hw _ (List.mem_of_getElem? (i := 41) rfl)))) (mvT hZ (hw _ (List.mem_of_getElem? (i := 41) rfl))) (mvT hZ (hw _ (List.mem_of_getElem? (i := 40) rfl))) (by decide) (backOf (W := 0) (rm7_3 l Z a0 hw [] w_UPPER_ROMAN_first a1 w_COMPACT_STRINGS w_UPPER_ROMAN_first_value vs k_UPPER_ROMAN_first_value ks (73 : Int32) y0 y1 y2 h0 n0 Z0 S_COMPACT_STRINGS (N_COMPACT_STRINGS) E_s F_UPPER_ROMAN_first_coder C_s F_UPPER_ROMAN_first_value W_s V_UPPER_ROMAN_first_value V_s ne_UPPER_ROMAN) hZ (hw _ (List.mem_of_getElem? (i := 42) rfl)) (hw _ (List.mem_of_getElem? (i := 10) rfl)) (by decide) (by decide)) q322a q322c (g := (mkF m 25 #[.val (.ref a1), .val (.ref w_STYLES), .val (.int 5), .val (.int 4), .val (.ref w_UPPER_ROMAN)] [(.ref a1), (.ref w_UPPER_ROMAN_first)])) rfl (by rw [hml]; rfl) (Steps.refl _) (argsL := [(.ref a1)]) (rest := []) (lenOf pd_6 rfl) rfl (by show 2 * 0 + _ ≤ _; exact Nat.le_of_eq rfl) (hb hby d6_25) (fun _ _ => ⟨rfl, e321, (by decide : 0 + 0 ≤ _), (by decide : 0 + 0 ≤ _)⟩)
 dsimp only [Pt.U, Pt.locs, Pt.cells, Pt.slots] at X322 l322 y322 z322 st322 hQ322
 subst l322 y322 z322
 obtain ⟨rfl, M322, q322_0⟩ := hQ322
 have N322 := Fr.app N319 M322
 refine own_go (fun t k => st322.trans k) ?_
 refine own_go (B := T322.setTop (mkF m 41 #[.val (.ref a1), .val (.ref w_STYLES), .val (.int 5), .val (.int 5), .val (.ref w_UPPER_ROMAN)] [.null])) (fun t k => ?_) ?_
 ·refine XS.ifYes X322.here hx rfl (pc0 := 28) (pc' := 34) rfl (hb hby d6_28) rfl ((if0 _ _).trans (teq (by decide : (0 : Int32) = (0 : Int32))).1) (by decide) (by decide) ?_
  show Steps p.tables e below (T322.setTop (mkF m 34 #[.val (.ref a1), .val (.ref w_STYLES), .val (.int 5), .val (.int 4), .val (.ref w_UPPER_ROMAN)] [])) _
  refine XS.iinc X322.here hx rfl (hb hby d6_34) rfl (l' := #[.val (.ref a1), .val (.ref w_STYLES), .val (.int 5), .val (.int 5), .val (.ref w_UPPER_ROMAN)]) rfl ?_
  show Steps p.tables e below (T322.setTop (mkF m 37 #[.val (.ref a1), .val (.ref w_STYLES), .val (.int 5), .val (.int 5), .val (.ref w_UPPER_ROMAN)] [])) _
  refine XS.goto X322.here hx rfl (pc0 := 37) (pc' := 9) rfl (hb hby d6_37) (by decide) (by decide) ?_
  show Steps p.tables e below (T322.setTop (mkF m 9 #[.val (.ref a1), .val (.ref w_STYLES), .val (.int 5), .val (.int 5), .val (.ref w_UPPER_ROMAN)] [])) _
  refine XS.iloadN X322.here hx rfl (hb hby d6_9) rfl ?_
  show Steps p.tables e below (T322.setTop (mkF m 10 #[.val (.ref a1), .val (.ref w_STYLES), .val (.int 5), .val (.int 5), .val (.ref w_UPPER_ROMAN)] [(.int 5)])) _
  refine XS.iloadN X322.here hx rfl (hb hby d6_10) rfl ?_
  show Steps p.tables e below (T322.setTop (mkF m 11 #[.val (.ref a1), .val (.ref w_STYLES), .val (.int 5), .val (.int 5), .val (.ref w_UPPER_ROMAN)] [(.int 5), (.int 5)])) _
  refine XS.icmpYes X322.here hx rfl (pc0 := 11) (pc' := 40) rfl (hb hby d6_11) rfl (flt (by decide : ¬ ((5 : Int32) < (5 : Int32)))).2.1 (by decide) (by decide) ?_
  show Steps p.tables e below (T322.setTop (mkF m 40 #[.val (.ref a1), .val (.ref w_STYLES), .val (.int 5), .val (.int 5), .val (.ref w_UPPER_ROMAN)] [])) _
  refine XS.aconstNull X322.here hx rfl (hb hby d6_40) ?_
  show Steps p.tables e below (T322.setTop (mkF m 41 #[.val (.ref a1), .val (.ref w_STYLES), .val (.int 5), .val (.int 5), .val (.ref w_UPPER_ROMAN)] [.null])) _
  exact k
 obtain ⟨fs, hr, hrun, hended, hW, hsame⟩ := X322.leave (v := some .null) (fun h => by rw [Bd.returns] at h; cases h)
 refine ⟨_, _, ?_, hrun, hended, _, _, rfl, ?_, ⟨_, rfl⟩, hW, hsame.mono (by decide) (by decide)⟩
 ·exact own_retR X322 hx Bd.returns rfl rfl (hb hby d6_41) hr
 ·show Q6_3 Z a1 w_STYLES w_NUMBER w_NUMBER_first w_NUMBER_first_value w_LOWER_LETTER w_LOWER_LETTER_first w_LOWER_LETTER_first_value w_UPPER_LETTER w_UPPER_LETTER_first w_UPPER_LETTER_first_value w_LOWER_ROMAN w_LOWER_ROMAN_first w_LOWER_ROMAN_first_value w_UPPER_ROMAN w_UPPER_ROMAN_first w_UPPER_ROMAN_first_value w_COMPACT_STRINGS k_STYLES k_NUMBER_first_value k_LOWER_LETTER_first_value k_UPPER_LETTER_first_value k_LOWER_ROMAN_first_value k_UPPER_ROMAN_first_value vs ks y0 y1 y2 h0 n0 _ T322.heap _
  rw [q322_0]
  exact ⟨rfl, N322, rfl⟩
theorem d6_31 : decode prog_61_method_5_code 31 = .ok (.aload 4, 2) := by decide +kernel
theorem d6_33 : decode prog_61_method_5_code 33 = .ok (.areturn, 1) := by decide +kernel
theorem ef_6_1c0 (m : MethodId) (a1 : Addr) : entryFrame m #[(.ref a1)] 5 = mkF m 0 #[.val (.ref a1), .unset, .unset, .unset, .unset] [] := by first | (simp [entryFrame, mkF, argsToLocals, Value.category]; done) | rfl
def Q6_1c0 (Z : State) (a1 : Addr) (w_STYLES : Addr) (w_NUMBER : Addr) (w_NUMBER_first : Addr) (w_NUMBER_first_value : Addr) (w_LOWER_LETTER : Addr) (w_LOWER_LETTER_first : Addr) (w_LOWER_LETTER_first_value : Addr) (w_UPPER_LETTER : Addr) (w_UPPER_LETTER_first : Addr) (w_UPPER_LETTER_first_value : Addr) (w_LOWER_ROMAN : Addr) (w_LOWER_ROMAN_first : Addr) (w_LOWER_ROMAN_first_value : Addr) (w_UPPER_ROMAN : Addr) (w_UPPER_ROMAN_first : Addr) (w_UPPER_ROMAN_first_value : Addr) (w_COMPACT_STRINGS : Int32) (k_STYLES : ClassId) (k_NUMBER_first_value : ClassId) (k_LOWER_LETTER_first_value : ClassId) (k_UPPER_LETTER_first_value : ClassId) (k_LOWER_ROMAN_first_value : ClassId) (k_UPPER_ROMAN_first_value : ClassId) (vs : Addr) (ks : ClassId) (y0 : Int32) (h0 : Heap) (n0 : Nat) (v : Option Value) (h : Heap) (L : List Loc) : Prop := v = some (.ref w_NUMBER) ∧ Fr n0 L ∧ h = h0
set_option maxRecDepth 65536 in
set_option maxHeartbeats 40000000 in
theorem rm6_1c0 (l : Launch) (Z : State) (a0 : Array Value) (hw : ∀ d ∈ tables_1, d.before a0 Z = true) (ws : List Jvm.Cond) (a1 : Addr) (w_STYLES : Addr) (w_NUMBER : Addr) (w_NUMBER_first : Addr) (w_NUMBER_first_value : Addr) (w_LOWER_LETTER : Addr) (w_LOWER_LETTER_first : Addr) (w_LOWER_LETTER_first_value : Addr) (w_UPPER_LETTER : Addr) (w_UPPER_LETTER_first : Addr) (w_UPPER_LETTER_first_value : Addr) (w_LOWER_ROMAN : Addr) (w_LOWER_ROMAN_first : Addr) (w_LOWER_ROMAN_first_value : Addr) (w_UPPER_ROMAN : Addr) (w_UPPER_ROMAN_first : Addr) (w_UPPER_ROMAN_first_value : Addr) (w_COMPACT_STRINGS : Int32) (k_STYLES : ClassId) (k_NUMBER_first_value : ClassId) (k_LOWER_LETTER_first_value : ClassId) (k_UPPER_LETTER_first_value : ClassId) (k_LOWER_ROMAN_first_value : ClassId) (k_UPPER_ROMAN_first_value : ClassId) (vs : Addr) (ks : ClassId) (y0 : Int32) (h0 : Heap) (n0 : Nat) (Z0 : n0 ≤ h0.size) (S_STYLES : Sta Z h0 "com/example/restate/restate/MarkerStyle" "STYLES" "[Lcom/example/restate/restate/MarkerStyle;" (.ref w_STYLES)) (S_NUMBER : Sta Z h0 "com/example/restate/restate/MarkerStyle" "NUMBER" "Lcom/example/restate/restate/MarkerStyle;" (.ref w_NUMBER)) (E_NUMBER : Exa Z h0 w_NUMBER "com/example/restate/restate/MarkerStyle") (F_NUMBER_first : Fld Z h0 w_NUMBER "com/example/restate/restate/MarkerStyle" "first" "Ljava/lang/String;" (.ref w_NUMBER_first)) (E_NUMBER_first : Exa Z h0 w_NUMBER_first "java/lang/String") (F_NUMBER_first_value : Fld Z h0 w_NUMBER_first "java/lang/String" "value" "[B" (.ref w_NUMBER_first_value)) (S_LOWER_LETTER : Sta Z h0 "com/example/restate/restate/MarkerStyle" "LOWER_LETTER" "Lcom/example/restate/restate/MarkerStyle;" (.ref w_LOWER_LETTER)) (E_LOWER_LETTER : Exa Z h0 w_LOWER_LETTER "com/example/restate/restate/MarkerStyle") (F_LOWER_LETTER_first : Fld Z h0 w_LOWER_LETTER "com/example/restate/restate/MarkerStyle" "first" "Ljava/lang/String;" (.ref w_LOWER_LETTER_first)) (E_LOWER_LETTER_first : Exa Z h0 w_LOWER_LETTER_first "java/lang/String") (F_LOWER_LETTER_first_value : Fld Z h0 w_LOWER_LETTER_first "java/lang/String" "value" "[B" (.ref w_LOWER_LETTER_first_value)) (S_UPPER_LETTER : Sta Z h0 "com/example/restate/restate/MarkerStyle" "UPPER_LETTER" "Lcom/example/restate/restate/MarkerStyle;" (.ref w_UPPER_LETTER)) (E_UPPER_LETTER : Exa Z h0 w_UPPER_LETTER "com/example/restate/restate/MarkerStyle") (F_UPPER_LETTER_first : Fld Z h0 w_UPPER_LETTER "com/example/restate/restate/MarkerStyle" "first" "Ljava/lang/String;" (.ref w_UPPER_LETTER_first)) (E_UPPER_LETTER_first : Exa Z h0 w_UPPER_LETTER_first "java/lang/String") (F_UPPER_LETTER_first_value : Fld Z h0 w_UPPER_LETTER_first "java/lang/String" "value" "[B" (.ref w_UPPER_LETTER_first_value)) (S_LOWER_ROMAN : Sta Z h0 "com/example/restate/restate/MarkerStyle" "LOWER_ROMAN" "Lcom/example/restate/restate/MarkerStyle;" (.ref w_LOWER_ROMAN)) (E_LOWER_ROMAN : Exa Z h0 w_LOWER_ROMAN "com/example/restate/restate/MarkerStyle") (F_LOWER_ROMAN_first : Fld Z h0 w_LOWER_ROMAN "com/example/restate/restate/MarkerStyle" "first" "Ljava/lang/String;" (.ref w_LOWER_ROMAN_first)) (E_LOWER_ROMAN_first : Exa Z h0 w_LOWER_ROMAN_first "java/lang/String") (F_LOWER_ROMAN_first_value : Fld Z h0 w_LOWER_ROMAN_first "java/lang/String" "value" "[B" (.ref w_LOWER_ROMAN_first_value)) (S_UPPER_ROMAN : Sta Z h0 "com/example/restate/restate/MarkerStyle" "UPPER_ROMAN" "Lcom/example/restate/restate/MarkerStyle;" (.ref w_UPPER_ROMAN)) (E_UPPER_ROMAN : Exa Z h0 w_UPPER_ROMAN "com/example/restate/restate/MarkerStyle") (F_UPPER_ROMAN_first : Fld Z h0 w_UPPER_ROMAN "com/example/restate/restate/MarkerStyle" "first" "Ljava/lang/String;" (.ref w_UPPER_ROMAN_first)) (E_UPPER_ROMAN_first : Exa Z h0 w_UPPER_ROMAN_first "java/lang/String") (F_UPPER_ROMAN_first_value : Fld Z h0 w_UPPER_ROMAN_first "java/lang/String" "value" "[B" (.ref w_UPPER_ROMAN_first_value)) (S_COMPACT_STRINGS : Sta Z h0 "java/lang/String" "COMPACT_STRINGS" "Z" (.int w_COMPACT_STRINGS)) (F_NUMBER_first_coder : Fld Z h0 w_NUMBER_first "java/lang/String" "coder" "B" (.int 0)) (F_LOWER_LETTER_first_coder : Fld Z h0 w_LOWER_LETTER_first "java/lang/String" "coder" "B" (.int 0)) (F_UPPER_LETTER_first_coder : Fld Z h0 w_UPPER_LETTER_first "java/lang/String" "coder" "B" (.int 0)) (F_LOWER_ROMAN_first_coder : Fld Z h0 w_LOWER_ROMAN_first "java/lang/String" "coder" "B" (.int 0)) (F_UPPER_ROMAN_first_coder : Fld Z h0 w_UPPER_ROMAN_first "java/lang/String" "coder" "B" (.int 0)) (N_COMPACT_STRINGS : ¬ w_COMPACT_STRINGS = (0 : Int32)) (V_STYLES : Arv Z h0 w_STYLES k_STYLES (.object "com/example/restate/restate/MarkerStyle") (5 : Int32) [(.ref w_NUMBER), (.ref w_LOWER_LETTER), (.ref w_UPPER_LETTER), (.ref w_LOWER_ROMAN), (.ref w_UPPER_ROMAN)] .null) (V_NUMBER_first_value : Arv Z h0 w_NUMBER_first_value k_NUMBER_first_value .byte (1 : Int32) [(.int 49)] (.int 0)) (V_LOWER_LETTER_first_value : Arv Z h0 w_LOWER_LETTER_first_value k_LOWER_LETTER_first_value .byte (1 : Int32) [(.int 97)] (.int 0)) (V_UPPER_LETTER_first_value : Arv Z h0 w_UPPER_LETTER_first_value k_UPPER_LETTER_first_value .byte (1 : Int32) [(.int 65)] (.int 0)) (V_LOWER_ROMAN_first_value : Arv Z h0 w_LOWER_ROMAN_first_value k_LOWER_ROMAN_first_value .byte (1 : Int32) [(.int 105)] (.int 0)) (V_UPPER_ROMAN_first_value : Arv Z h0 w_UPPER_ROMAN_first_value k_UPPER_ROMAN_first_value .byte (1 : Int32) [(.int 73)] (.int 0)) (E_s : Exa Z h0 a1 "java/lang/String") (C_s : Fld Z h0 a1 "java/lang/String" "coder" "B" (.int 0)) (W_s : Fld Z h0 a1 "java/lang/String" "value" "[B" (.ref vs)) (V_s : Arv Z h0 vs ks .byte (1 : Int32) [(.int y0)] (.int 0)) (ne_NUMBER : w_NUMBER_first ≠ a1) (ne_LOWER_LETTER : w_LOWER_LETTER_first ≠ a1) (ne_UPPER_LETTER : w_UPPER_LETTER_first ≠ a1) (ne_LOWER_ROMAN : w_LOWER_ROMAN_first ≠ a1) (ne_UPPER_ROMAN : w_UPPER_ROMAN_first ≠ a1) (hy : y0 = (49 : Int32)) :
  MetFree l (⟨"com/example/restate/restate/MarkerStyle", "openedBy", "(Ljava/lang/String;)Lcom/example/restate/restate/MarkerStyle;"⟩ : MethodName) (head1 (Jvm.Cond.code (⟨"com/example/restate/restate/MarkerStyle", "openedBy", "(Ljava/lang/String;)Lcom/example/restate/restate/MarkerStyle;"⟩ : MethodName) prog_61_method_5_code 5 (some (.object "com/example/restate/restate/MarkerStyle")) :: ws) ({ frames := 2, cells := 0, slots := 0, locals := 28 } : Room)) (fun a U => a = #[(.ref a1)] ∧ Z.Warmed39 U.vm ∧ U.heap = h0) (fun _ _ _ _ _ => True) (fun _ U o U' => ∃ v L, o = .returned v ∧ Q6_1c0 Z a1 w_STYLES w_NUMBER w_NUMBER_first w_NUMBER_first_value w_LOWER_LETTER w_LOWER_LETTER_first w_LOWER_LETTER_first_value w_UPPER_LETTER w_UPPER_LETTER_first w_UPPER_LETTER_first_value w_LOWER_ROMAN w_LOWER_ROMAN_first w_LOWER_ROMAN_first_value w_UPPER_ROMAN w_UPPER_ROMAN_first w_UPPER_ROMAN_first_value w_COMPACT_STRINGS k_STYLES k_NUMBER_first_value k_LOWER_LETTER_first_value k_UPPER_LETTER_first_value k_LOWER_ROMAN_first_value k_UPPER_ROMAN_first_value vs ks y0 h0 n0 v U'.heap L ∧ FrameEnd U o U' L ({ frames := 2, cells := 0, slots := 0, locals := 28 } : Room).cells ({ frames := 2, cells := 0, slots := 0, locals := 28 } : Room).slots) := by
 refine MetFree.of_bodySF (plainFor_of_name pn_268) hisR ?_
 intro p e s m args below meth c s₁ Bd hml0 hP hK
 obtain ⟨rfl, hZ, hh⟩ := hP
 have hx := Bd.exec
 have hby := Bd.bytes
 have hml : c.maxLocals = 5 := hml0
 have hown : s.vm.findClass "com/example/restate/restate/MarkerStyle" = some m.cls := findClass_of_methodNamed Bd.named
 have hnm := (name_of_methodNamed Bd.named Bd.method).1
 have X0 : Stand p l e ({ frames := 2, cells := 0, slots := 0, locals := 28 } : Room) s m #[(.ref a1)] below meth c s₁ [] 0 0 := Stand.of_body Bd
 have e0 : s₁.heap = h0 := by rw [← hh, Bd.state]; rfl
 have N0 := Fr.nil n0
 refine own_go (B := s₁.setTop (mkF m 0 #[.val (.ref a1), .unset, .unset, .unset, .unset] [])) (fun t k => castTop (ef_6_1c0 m a1) k) ?_
 obtain ⟨T324, X324, e324, st324⟩ := getS2 X0 hx hZ hown (host := "") (Or.inl (hw _ (List.mem_of_getElem? (i := 33) rfl))) Via.refl e0 S_STYLES (g := (mkF m 0 #[.val (.ref a1), .unset, .unset, .unset, .unset] [])) rfl (hb hby d6_0)
 refine own_go st324 ?_
 refine own_go (B := T324.setTop (mkF m 5 #[.val (.ref a1), .val (.ref w_STYLES), .unset, .unset, .unset] [(.ref w_STYLES)])) (fun t k => ?_) ?_
 ·refine XS.astoreN X324.here hx rfl (hb hby d6_3) rfl rfl (l' := #[.val (.ref a1), .val (.ref w_STYLES), .unset, .unset, .unset]) rfl ?_
  show Steps p.tables e below (T324.setTop (mkF m 4 #[.val (.ref a1), .val (.ref w_STYLES), .unset, .unset, .unset] [])) _
  refine XS.aloadN X324.here hx rfl (hb hby d6_4) rfl rfl ?_
  show Steps p.tables e below (T324.setTop (mkF m 5 #[.val (.ref a1), .val (.ref w_STYLES), .unset, .unset, .unset] [(.ref w_STYLES)])) _
  exact k
 obtain ⟨cl325, Ar325, cq325, cS325, cN325, cH325, cG325⟩ := id V_STYLES
 refine own_go (B := T324.setTop (mkF m 16 #[.val (.ref a1), .val (.ref w_STYLES), .val (.int 5), .val (.int 0), .unset] [(.int 0), (.ref w_STYLES)])) (fun t k => ?_) ?_
 ·refine X324.arraylength hx (by rw [e324]; exact Ar325.1) (State.isArrayOf_alike hZ.alike Ar325.2.1) (g := (mkF m 5 #[.val (.ref a1), .val (.ref w_STYLES), .unset, .unset, .unset] [(.ref w_STYLES)])) rfl rfl (hb hby d6_5) _ ?_
  rw [len_of cS325 cN325]
  show Steps p.tables e below (T324.setTop (mkF m 6 #[.val (.ref a1), .val (.ref w_STYLES), .unset, .unset, .unset] [(.int 5)])) _
  refine XS.istoreN X324.here hx rfl (hb hby d6_6) rfl (l' := #[.val (.ref a1), .val (.ref w_STYLES), .val (.int 5), .unset, .unset]) rfl ?_
  show Steps p.tables e below (T324.setTop (mkF m 7 #[.val (.ref a1), .val (.ref w_STYLES), .val (.int 5), .unset, .unset] [])) _
  refine XS.iconst X324.here hx rfl (hb hby d6_7) ?_
  show Steps p.tables e below (T324.setTop (mkF m 8 #[.val (.ref a1), .val (.ref w_STYLES), .val (.int 5), .unset, .unset] [(.int 0)])) _
  refine XS.istoreN X324.here hx rfl (hb hby d6_8) rfl (l' := #[.val (.ref a1), .val (.ref w_STYLES), .val (.int 5), .val (.int 0), .unset]) rfl ?_
  show Steps p.tables e below (T324.setTop (mkF m 9 #[.val (.ref a1), .val (.ref w_STYLES), .val (.int 5), .val (.int 0), .unset] [])) _
  refine XS.iloadN X324.here hx rfl (hb hby d6_9) rfl ?_
  show Steps p.tables e below (T324.setTop (mkF m 10 #[.val (.ref a1), .val (.ref w_STYLES), .val (.int 5), .val (.int 0), .unset] [(.int 0)])) _
  refine XS.iloadN X324.here hx rfl (hb hby d6_10) rfl ?_
  show Steps p.tables e below (T324.setTop (mkF m 11 #[.val (.ref a1), .val (.ref w_STYLES), .val (.int 5), .val (.int 0), .unset] [(.int 5), (.int 0)])) _
  refine XS.icmpNo X324.here hx rfl (hb hby d6_11) rfl (tlt (by decide : (0 : Int32) < (5 : Int32))).2.1 ?_
  show Steps p.tables e below (T324.setTop (mkF m 14 #[.val (.ref a1), .val (.ref w_STYLES), .val (.int 5), .val (.int 0), .unset] [])) _
  refine XS.aloadN X324.here hx rfl (hb hby d6_14) rfl rfl ?_
  show Steps p.tables e below (T324.setTop (mkF m 15 #[.val (.ref a1), .val (.ref w_STYLES), .val (.int 5), .val (.int 0), .unset] [(.ref w_STYLES)])) _
  refine XS.iloadN X324.here hx rfl (hb hby d6_15) rfl ?_
  show Steps p.tables e below (T324.setTop (mkF m 16 #[.val (.ref a1), .val (.ref w_STYLES), .val (.int 5), .val (.int 0), .unset] [(.int 0), (.ref w_STYLES)])) _
  exact k
 obtain ⟨cl326, Ar326, cq326, cS326, cN326, cH326, cG326⟩ := id V_STYLES
 have hin326 := inb_of (j := (0 : Int32)) cS326 ⟨by decide, by decide⟩
 have hat326 : cl326.slots[((0 : Int32)).toNatClampNeg]? = some (.ref w_NUMBER) := Has.at cH326 hin326 rfl
 refine own_go (B := T324.setTop (mkF m 21 #[.val (.ref a1), .val (.ref w_STYLES), .val (.int 5), .val (.int 0), .val (.ref w_NUMBER)] [(.ref w_NUMBER)])) (fun t k => ?_) ?_
 ·refine X324.aaload hx (j := (0 : Int32)) (v := (.ref w_NUMBER)) (by rw [e324]; exact Ar326.1) (State.isArrayOf_alike hZ.alike Ar326.2.1) rfl Ar326.2.2 hin326 hat326 (g := (mkF m 16 #[.val (.ref a1), .val (.ref w_STYLES), .val (.int 5), .val (.int 0), .unset] [(.int 0), (.ref w_STYLES)])) rfl rfl (hb hby d6_16) _ ?_
  show Steps p.tables e below (T324.setTop (mkF m 17 #[.val (.ref a1), .val (.ref w_STYLES), .val (.int 5), .val (.int 0), .unset] [(.ref w_NUMBER)])) _
  refine XS.astore X324.here hx rfl (hb hby d6_17) rfl rfl (l' := #[.val (.ref a1), .val (.ref w_STYLES), .val (.int 5), .val (.int 0), .val (.ref w_NUMBER)]) rfl ?_
  show Steps p.tables e below (T324.setTop (mkF m 19 #[.val (.ref a1), .val (.ref w_STYLES), .val (.int 5), .val (.int 0), .val (.ref w_NUMBER)] [])) _
  refine XS.aload X324.here hx rfl (hb hby d6_19) rfl rfl ?_
  show Steps p.tables e below (T324.setTop (mkF m 21 #[.val (.ref a1), .val (.ref w_STYLES), .val (.int 5), .val (.int 0), .val (.ref w_NUMBER)] [(.ref w_NUMBER)])) _
  exact k
 obtain ⟨T327, X327, e327, st327⟩ := getF X324 hx hZ hown (host := "") (Or.inl (hw _ (List.mem_of_getElem? (i := 36) rfl))) Via.refl e324 F_NUMBER_first (g := (mkF m 21 #[.val (.ref a1), .val (.ref w_STYLES), .val (.int 5), .val (.int 0), .val (.ref w_NUMBER)] [(.ref w_NUMBER)])) rfl rfl (hb hby d6_21)
 refine own_go st327 ?_
 refine own_go (B := T327.setTop (mkF m 25 #[.val (.ref a1), .val (.ref w_STYLES), .val (.int 5), .val (.int 0), .val (.ref w_NUMBER)] [(.ref a1), (.ref w_NUMBER_first)])) (fun t k => ?_) ?_
 ·refine XS.aloadN X327.here hx rfl (hb hby d6_24) rfl rfl ?_
  show Steps p.tables e below (T327.setTop (mkF m 25 #[.val (.ref a1), .val (.ref w_STYLES), .val (.int 5), .val (.int 0), .val (.ref w_NUMBER)] [(.ref a1), (.ref w_NUMBER_first)])) _
  exact k
 obtain ⟨cq328, kq328, q328a, q328b, q328c⟩ := isOf hZ e327 E_NUMBER_first
 obtain ⟨_, _, ⟨T328, L328, k328, n328⟩, -, X328, ⟨Lc328, hQ328, l328, y328, z328⟩, st328⟩ := X327.virtualBack hx (y := (⟨"java/lang/String", "equals", "(Ljava/lang/Object;)Z"⟩ : MethodName)) (z := (⟨"java/lang/String", "equals", "(Ljava/lang/Object;)Z"⟩ : MethodName)) hown (mvT hZ (hw _ (List.mem_of_getElem? (i := 38) rfl))) (mvT hZ (hw _ (List.mem_of_getElem? (i := 39) rfl))) (notFace_of_selects (args := #[]) (mvT hZ (hw _ (List.mem_of_getElem? (i := 41) rfl)))) (mvT hZ (hw _ (List.mem_of_getElem? (i := 41) rfl))) (mvT hZ (hw _ (List.mem_of_getElem? (i := 40) rfl))) (by decide) (backOf (W := 0) (rm7_1 l Z a0 hw [] w_NUMBER_first a1 w_COMPACT_STRINGS w_NUMBER_first_value vs k_NUMBER_first_value ks (49 : Int32) y0 h0 n0 Z0 S_COMPACT_STRINGS (N_COMPACT_STRINGS) E_s F_NUMBER_first_coder C_s F_NUMBER_first_value W_s V_NUMBER_first_value V_s ne_NUMBER) hZ (hw _ (List.mem_of_getElem? (i := 42) rfl)) (hw _ (List.mem_of_getElem? (i := 10) rfl)) (by decide) (by decide)) q328a q328c (g := (mkF m 25 #[.val (.ref a1), .val (.ref w_STYLES), .val (.int 5), .val (.int 0), .val (.ref w_NUMBER)] [(.ref a1), (.ref w_NUMBER_first)])) rfl (by rw [hml]; rfl) (Steps.refl _) (argsL := [(.ref a1)]) (rest := []) (lenOf pd_6 rfl) rfl (by show 2 * 0 + _ ≤ _; exact Nat.le_of_eq rfl) (hb hby d6_25) (fun _ _ => ⟨rfl, e327, (by decide : 0 + 0 ≤ _), (by decide : 0 + 0 ≤ _)⟩)
 dsimp only [Pt.U, Pt.locs, Pt.cells, Pt.slots] at X328 l328 y328 z328 st328 hQ328
 subst l328 y328 z328
 obtain ⟨rfl, M328, q328_0⟩ := hQ328
 have N328 := Fr.app N0 M328
 refine own_go (fun t k => st328.trans k) ?_
 refine own_go (B := T328.setTop (mkF m 33 #[.val (.ref a1), .val (.ref w_STYLES), .val (.int 5), .val (.int 0), .val (.ref w_NUMBER)] [(.ref w_NUMBER)])) (fun t k => ?_) ?_
 ·refine XS.ifNo X328.here hx rfl (hb hby d6_28) rfl ((if0 _ _).trans (feq (show ¬ ((if (49 : Int32) = y0 then (1 : Int32) else 0) = (0 : Int32)) from (by rw [if_pos (show (49 : Int32) = y0 from hy.symm)] <;> decide))).1) ?_
  show Steps p.tables e below (T328.setTop (mkF m 31 #[.val (.ref a1), .val (.ref w_STYLES), .val (.int 5), .val (.int 0), .val (.ref w_NUMBER)] [])) _
  refine XS.aload X328.here hx rfl (hb hby d6_31) rfl rfl ?_
  show Steps p.tables e below (T328.setTop (mkF m 33 #[.val (.ref a1), .val (.ref w_STYLES), .val (.int 5), .val (.int 0), .val (.ref w_NUMBER)] [(.ref w_NUMBER)])) _
  exact k
 obtain ⟨fs, hr, hrun, hended, hW, hsame⟩ := X328.leave (v := some (.ref w_NUMBER)) (fun h => by rw [Bd.returns] at h; cases h)
 refine ⟨_, _, ?_, hrun, hended, _, _, rfl, ?_, ⟨_, rfl⟩, hW, hsame.mono (by decide) (by decide)⟩
 ·exact own_retR X328 hx Bd.returns rfl rfl (hb hby d6_33) hr
 ·show Q6_1c0 Z a1 w_STYLES w_NUMBER w_NUMBER_first w_NUMBER_first_value w_LOWER_LETTER w_LOWER_LETTER_first w_LOWER_LETTER_first_value w_UPPER_LETTER w_UPPER_LETTER_first w_UPPER_LETTER_first_value w_LOWER_ROMAN w_LOWER_ROMAN_first w_LOWER_ROMAN_first_value w_UPPER_ROMAN w_UPPER_ROMAN_first w_UPPER_ROMAN_first_value w_COMPACT_STRINGS k_STYLES k_NUMBER_first_value k_LOWER_LETTER_first_value k_UPPER_LETTER_first_value k_LOWER_ROMAN_first_value k_UPPER_ROMAN_first_value vs ks y0 h0 n0 _ T328.heap _
  rw [q328_0]
  exact ⟨rfl, N328, rfl⟩
theorem ef_6_1c1 (m : MethodId) (a1 : Addr) : entryFrame m #[(.ref a1)] 5 = mkF m 0 #[.val (.ref a1), .unset, .unset, .unset, .unset] [] := by first | (simp [entryFrame, mkF, argsToLocals, Value.category]; done) | rfl
def Q6_1c1 (Z : State) (a1 : Addr) (w_STYLES : Addr) (w_NUMBER : Addr) (w_NUMBER_first : Addr) (w_NUMBER_first_value : Addr) (w_LOWER_LETTER : Addr) (w_LOWER_LETTER_first : Addr) (w_LOWER_LETTER_first_value : Addr) (w_UPPER_LETTER : Addr) (w_UPPER_LETTER_first : Addr) (w_UPPER_LETTER_first_value : Addr) (w_LOWER_ROMAN : Addr) (w_LOWER_ROMAN_first : Addr) (w_LOWER_ROMAN_first_value : Addr) (w_UPPER_ROMAN : Addr) (w_UPPER_ROMAN_first : Addr) (w_UPPER_ROMAN_first_value : Addr) (w_COMPACT_STRINGS : Int32) (k_STYLES : ClassId) (k_NUMBER_first_value : ClassId) (k_LOWER_LETTER_first_value : ClassId) (k_UPPER_LETTER_first_value : ClassId) (k_LOWER_ROMAN_first_value : ClassId) (k_UPPER_ROMAN_first_value : ClassId) (vs : Addr) (ks : ClassId) (y0 : Int32) (h0 : Heap) (n0 : Nat) (v : Option Value) (h : Heap) (L : List Loc) : Prop := v = some (.ref w_LOWER_LETTER) ∧ Fr n0 L ∧ h = h0
set_option maxRecDepth 65536 in
set_option maxHeartbeats 40000000 in
theorem rm6_1c1 (l : Launch) (Z : State) (a0 : Array Value) (hw : ∀ d ∈ tables_1, d.before a0 Z = true) (ws : List Jvm.Cond) (a1 : Addr) (w_STYLES : Addr) (w_NUMBER : Addr) (w_NUMBER_first : Addr) (w_NUMBER_first_value : Addr) (w_LOWER_LETTER : Addr) (w_LOWER_LETTER_first : Addr) (w_LOWER_LETTER_first_value : Addr) (w_UPPER_LETTER : Addr) (w_UPPER_LETTER_first : Addr) (w_UPPER_LETTER_first_value : Addr) (w_LOWER_ROMAN : Addr) (w_LOWER_ROMAN_first : Addr) (w_LOWER_ROMAN_first_value : Addr) (w_UPPER_ROMAN : Addr) (w_UPPER_ROMAN_first : Addr) (w_UPPER_ROMAN_first_value : Addr) (w_COMPACT_STRINGS : Int32) (k_STYLES : ClassId) (k_NUMBER_first_value : ClassId) (k_LOWER_LETTER_first_value : ClassId) (k_UPPER_LETTER_first_value : ClassId) (k_LOWER_ROMAN_first_value : ClassId) (k_UPPER_ROMAN_first_value : ClassId) (vs : Addr) (ks : ClassId) (y0 : Int32) (h0 : Heap) (n0 : Nat) (Z0 : n0 ≤ h0.size) (S_STYLES : Sta Z h0 "com/example/restate/restate/MarkerStyle" "STYLES" "[Lcom/example/restate/restate/MarkerStyle;" (.ref w_STYLES)) (S_NUMBER : Sta Z h0 "com/example/restate/restate/MarkerStyle" "NUMBER" "Lcom/example/restate/restate/MarkerStyle;" (.ref w_NUMBER)) (E_NUMBER : Exa Z h0 w_NUMBER "com/example/restate/restate/MarkerStyle") (F_NUMBER_first : Fld Z h0 w_NUMBER "com/example/restate/restate/MarkerStyle" "first" "Ljava/lang/String;" (.ref w_NUMBER_first)) (E_NUMBER_first : Exa Z h0 w_NUMBER_first "java/lang/String") (F_NUMBER_first_value : Fld Z h0 w_NUMBER_first "java/lang/String" "value" "[B" (.ref w_NUMBER_first_value)) (S_LOWER_LETTER : Sta Z h0 "com/example/restate/restate/MarkerStyle" "LOWER_LETTER" "Lcom/example/restate/restate/MarkerStyle;" (.ref w_LOWER_LETTER)) (E_LOWER_LETTER : Exa Z h0 w_LOWER_LETTER "com/example/restate/restate/MarkerStyle") (F_LOWER_LETTER_first : Fld Z h0 w_LOWER_LETTER "com/example/restate/restate/MarkerStyle" "first" "Ljava/lang/String;" (.ref w_LOWER_LETTER_first)) (E_LOWER_LETTER_first : Exa Z h0 w_LOWER_LETTER_first "java/lang/String") (F_LOWER_LETTER_first_value : Fld Z h0 w_LOWER_LETTER_first "java/lang/String" "value" "[B" (.ref w_LOWER_LETTER_first_value)) (S_UPPER_LETTER : Sta Z h0 "com/example/restate/restate/MarkerStyle" "UPPER_LETTER" "Lcom/example/restate/restate/MarkerStyle;" (.ref w_UPPER_LETTER)) (E_UPPER_LETTER : Exa Z h0 w_UPPER_LETTER "com/example/restate/restate/MarkerStyle") (F_UPPER_LETTER_first : Fld Z h0 w_UPPER_LETTER "com/example/restate/restate/MarkerStyle" "first" "Ljava/lang/String;" (.ref w_UPPER_LETTER_first)) (E_UPPER_LETTER_first : Exa Z h0 w_UPPER_LETTER_first "java/lang/String") (F_UPPER_LETTER_first_value : Fld Z h0 w_UPPER_LETTER_first "java/lang/String" "value" "[B" (.ref w_UPPER_LETTER_first_value)) (S_LOWER_ROMAN : Sta Z h0 "com/example/restate/restate/MarkerStyle" "LOWER_ROMAN" "Lcom/example/restate/restate/MarkerStyle;" (.ref w_LOWER_ROMAN)) (E_LOWER_ROMAN : Exa Z h0 w_LOWER_ROMAN "com/example/restate/restate/MarkerStyle") (F_LOWER_ROMAN_first : Fld Z h0 w_LOWER_ROMAN "com/example/restate/restate/MarkerStyle" "first" "Ljava/lang/String;" (.ref w_LOWER_ROMAN_first)) (E_LOWER_ROMAN_first : Exa Z h0 w_LOWER_ROMAN_first "java/lang/String") (F_LOWER_ROMAN_first_value : Fld Z h0 w_LOWER_ROMAN_first "java/lang/String" "value" "[B" (.ref w_LOWER_ROMAN_first_value)) (S_UPPER_ROMAN : Sta Z h0 "com/example/restate/restate/MarkerStyle" "UPPER_ROMAN" "Lcom/example/restate/restate/MarkerStyle;" (.ref w_UPPER_ROMAN)) (E_UPPER_ROMAN : Exa Z h0 w_UPPER_ROMAN "com/example/restate/restate/MarkerStyle") (F_UPPER_ROMAN_first : Fld Z h0 w_UPPER_ROMAN "com/example/restate/restate/MarkerStyle" "first" "Ljava/lang/String;" (.ref w_UPPER_ROMAN_first)) (E_UPPER_ROMAN_first : Exa Z h0 w_UPPER_ROMAN_first "java/lang/String") (F_UPPER_ROMAN_first_value : Fld Z h0 w_UPPER_ROMAN_first "java/lang/String" "value" "[B" (.ref w_UPPER_ROMAN_first_value)) (S_COMPACT_STRINGS : Sta Z h0 "java/lang/String" "COMPACT_STRINGS" "Z" (.int w_COMPACT_STRINGS)) (F_NUMBER_first_coder : Fld Z h0 w_NUMBER_first "java/lang/String" "coder" "B" (.int 0)) (F_LOWER_LETTER_first_coder : Fld Z h0 w_LOWER_LETTER_first "java/lang/String" "coder" "B" (.int 0)) (F_UPPER_LETTER_first_coder : Fld Z h0 w_UPPER_LETTER_first "java/lang/String" "coder" "B" (.int 0)) (F_LOWER_ROMAN_first_coder : Fld Z h0 w_LOWER_ROMAN_first "java/lang/String" "coder" "B" (.int 0)) (F_UPPER_ROMAN_first_coder : Fld Z h0 w_UPPER_ROMAN_first "java/lang/String" "coder" "B" (.int 0)) (N_COMPACT_STRINGS : ¬ w_COMPACT_STRINGS = (0 : Int32)) (V_STYLES : Arv Z h0 w_STYLES k_STYLES (.object "com/example/restate/restate/MarkerStyle") (5 : Int32) [(.ref w_NUMBER), (.ref w_LOWER_LETTER), (.ref w_UPPER_LETTER), (.ref w_LOWER_ROMAN), (.ref w_UPPER_ROMAN)] .null) (V_NUMBER_first_value : Arv Z h0 w_NUMBER_first_value k_NUMBER_first_value .byte (1 : Int32) [(.int 49)] (.int 0)) (V_LOWER_LETTER_first_value : Arv Z h0 w_LOWER_LETTER_first_value k_LOWER_LETTER_first_value .byte (1 : Int32) [(.int 97)] (.int 0)) (V_UPPER_LETTER_first_value : Arv Z h0 w_UPPER_LETTER_first_value k_UPPER_LETTER_first_value .byte (1 : Int32) [(.int 65)] (.int 0)) (V_LOWER_ROMAN_first_value : Arv Z h0 w_LOWER_ROMAN_first_value k_LOWER_ROMAN_first_value .byte (1 : Int32) [(.int 105)] (.int 0)) (V_UPPER_ROMAN_first_value : Arv Z h0 w_UPPER_ROMAN_first_value k_UPPER_ROMAN_first_value .byte (1 : Int32) [(.int 73)] (.int 0)) (E_s : Exa Z h0 a1 "java/lang/String") (C_s : Fld Z h0 a1 "java/lang/String" "coder" "B" (.int 0)) (W_s : Fld Z h0 a1 "java/lang/String" "value" "[B" (.ref vs)) (V_s : Arv Z h0 vs ks .byte (1 : Int32) [(.int y0)] (.int 0)) (ne_NUMBER : w_NUMBER_first ≠ a1) (ne_LOWER_LETTER : w_LOWER_LETTER_first ≠ a1) (ne_UPPER_LETTER : w_UPPER_LETTER_first ≠ a1) (ne_LOWER_ROMAN : w_LOWER_ROMAN_first ≠ a1) (ne_UPPER_ROMAN : w_UPPER_ROMAN_first ≠ a1) (hy : y0 = (97 : Int32)) :
  MetFree l (⟨"com/example/restate/restate/MarkerStyle", "openedBy", "(Ljava/lang/String;)Lcom/example/restate/restate/MarkerStyle;"⟩ : MethodName) (head1 (Jvm.Cond.code (⟨"com/example/restate/restate/MarkerStyle", "openedBy", "(Ljava/lang/String;)Lcom/example/restate/restate/MarkerStyle;"⟩ : MethodName) prog_61_method_5_code 5 (some (.object "com/example/restate/restate/MarkerStyle")) :: ws) ({ frames := 2, cells := 0, slots := 0, locals := 28 } : Room)) (fun a U => a = #[(.ref a1)] ∧ Z.Warmed39 U.vm ∧ U.heap = h0) (fun _ _ _ _ _ => True) (fun _ U o U' => ∃ v L, o = .returned v ∧ Q6_1c1 Z a1 w_STYLES w_NUMBER w_NUMBER_first w_NUMBER_first_value w_LOWER_LETTER w_LOWER_LETTER_first w_LOWER_LETTER_first_value w_UPPER_LETTER w_UPPER_LETTER_first w_UPPER_LETTER_first_value w_LOWER_ROMAN w_LOWER_ROMAN_first w_LOWER_ROMAN_first_value w_UPPER_ROMAN w_UPPER_ROMAN_first w_UPPER_ROMAN_first_value w_COMPACT_STRINGS k_STYLES k_NUMBER_first_value k_LOWER_LETTER_first_value k_UPPER_LETTER_first_value k_LOWER_ROMAN_first_value k_UPPER_ROMAN_first_value vs ks y0 h0 n0 v U'.heap L ∧ FrameEnd U o U' L ({ frames := 2, cells := 0, slots := 0, locals := 28 } : Room).cells ({ frames := 2, cells := 0, slots := 0, locals := 28 } : Room).slots) := by
 refine MetFree.of_bodySF (plainFor_of_name pn_268) hisR ?_
 intro p e s m args below meth c s₁ Bd hml0 hP hK
 obtain ⟨rfl, hZ, hh⟩ := hP
 have hx := Bd.exec
 have hby := Bd.bytes
 have hml : c.maxLocals = 5 := hml0
 have hown : s.vm.findClass "com/example/restate/restate/MarkerStyle" = some m.cls := findClass_of_methodNamed Bd.named
 have hnm := (name_of_methodNamed Bd.named Bd.method).1
 have X0 : Stand p l e ({ frames := 2, cells := 0, slots := 0, locals := 28 } : Room) s m #[(.ref a1)] below meth c s₁ [] 0 0 := Stand.of_body Bd
 have e0 : s₁.heap = h0 := by rw [← hh, Bd.state]; rfl
 have N0 := Fr.nil n0
 refine own_go (B := s₁.setTop (mkF m 0 #[.val (.ref a1), .unset, .unset, .unset, .unset] [])) (fun t k => castTop (ef_6_1c1 m a1) k) ?_
 obtain ⟨T330, X330, e330, st330⟩ := getS2 X0 hx hZ hown (host := "") (Or.inl (hw _ (List.mem_of_getElem? (i := 33) rfl))) Via.refl e0 S_STYLES (g := (mkF m 0 #[.val (.ref a1), .unset, .unset, .unset, .unset] [])) rfl (hb hby d6_0)
 refine own_go st330 ?_
 refine own_go (B := T330.setTop (mkF m 5 #[.val (.ref a1), .val (.ref w_STYLES), .unset, .unset, .unset] [(.ref w_STYLES)])) (fun t k => ?_) ?_
 ·refine XS.astoreN X330.here hx rfl (hb hby d6_3) rfl rfl (l' := #[.val (.ref a1), .val (.ref w_STYLES), .unset, .unset, .unset]) rfl ?_
  show Steps p.tables e below (T330.setTop (mkF m 4 #[.val (.ref a1), .val (.ref w_STYLES), .unset, .unset, .unset] [])) _
  refine XS.aloadN X330.here hx rfl (hb hby d6_4) rfl rfl ?_
  show Steps p.tables e below (T330.setTop (mkF m 5 #[.val (.ref a1), .val (.ref w_STYLES), .unset, .unset, .unset] [(.ref w_STYLES)])) _
  exact k
 obtain ⟨cl331, Ar331, cq331, cS331, cN331, cH331, cG331⟩ := id V_STYLES
 refine own_go (B := T330.setTop (mkF m 16 #[.val (.ref a1), .val (.ref w_STYLES), .val (.int 5), .val (.int 0), .unset] [(.int 0), (.ref w_STYLES)])) (fun t k => ?_) ?_
 ·refine X330.arraylength hx (by rw [e330]; exact Ar331.1) (State.isArrayOf_alike hZ.alike Ar331.2.1) (g := (mkF m 5 #[.val (.ref a1), .val (.ref w_STYLES), .unset, .unset, .unset] [(.ref w_STYLES)])) rfl rfl (hb hby d6_5) _ ?_
  rw [len_of cS331 cN331]
  show Steps p.tables e below (T330.setTop (mkF m 6 #[.val (.ref a1), .val (.ref w_STYLES), .unset, .unset, .unset] [(.int 5)])) _
  refine XS.istoreN X330.here hx rfl (hb hby d6_6) rfl (l' := #[.val (.ref a1), .val (.ref w_STYLES), .val (.int 5), .unset, .unset]) rfl ?_
  show Steps p.tables e below (T330.setTop (mkF m 7 #[.val (.ref a1), .val (.ref w_STYLES), .val (.int 5), .unset, .unset] [])) _
  refine XS.iconst X330.here hx rfl (hb hby d6_7) ?_
  show Steps p.tables e below (T330.setTop (mkF m 8 #[.val (.ref a1), .val (.ref w_STYLES), .val (.int 5), .unset, .unset] [(.int 0)])) _
  refine XS.istoreN X330.here hx rfl (hb hby d6_8) rfl (l' := #[.val (.ref a1), .val (.ref w_STYLES), .val (.int 5), .val (.int 0), .unset]) rfl ?_
  show Steps p.tables e below (T330.setTop (mkF m 9 #[.val (.ref a1), .val (.ref w_STYLES), .val (.int 5), .val (.int 0), .unset] [])) _
  refine XS.iloadN X330.here hx rfl (hb hby d6_9) rfl ?_
  show Steps p.tables e below (T330.setTop (mkF m 10 #[.val (.ref a1), .val (.ref w_STYLES), .val (.int 5), .val (.int 0), .unset] [(.int 0)])) _
  refine XS.iloadN X330.here hx rfl (hb hby d6_10) rfl ?_
  show Steps p.tables e below (T330.setTop (mkF m 11 #[.val (.ref a1), .val (.ref w_STYLES), .val (.int 5), .val (.int 0), .unset] [(.int 5), (.int 0)])) _
  refine XS.icmpNo X330.here hx rfl (hb hby d6_11) rfl (tlt (by decide : (0 : Int32) < (5 : Int32))).2.1 ?_
  show Steps p.tables e below (T330.setTop (mkF m 14 #[.val (.ref a1), .val (.ref w_STYLES), .val (.int 5), .val (.int 0), .unset] [])) _
  refine XS.aloadN X330.here hx rfl (hb hby d6_14) rfl rfl ?_
  show Steps p.tables e below (T330.setTop (mkF m 15 #[.val (.ref a1), .val (.ref w_STYLES), .val (.int 5), .val (.int 0), .unset] [(.ref w_STYLES)])) _
  refine XS.iloadN X330.here hx rfl (hb hby d6_15) rfl ?_
  show Steps p.tables e below (T330.setTop (mkF m 16 #[.val (.ref a1), .val (.ref w_STYLES), .val (.int 5), .val (.int 0), .unset] [(.int 0), (.ref w_STYLES)])) _
  exact k
 obtain ⟨cl332, Ar332, cq332, cS332, cN332, cH332, cG332⟩ := id V_STYLES
 have hin332 := inb_of (j := (0 : Int32)) cS332 ⟨by decide, by decide⟩
 have hat332 : cl332.slots[((0 : Int32)).toNatClampNeg]? = some (.ref w_NUMBER) := Has.at cH332 hin332 rfl
 refine own_go (B := T330.setTop (mkF m 21 #[.val (.ref a1), .val (.ref w_STYLES), .val (.int 5), .val (.int 0), .val (.ref w_NUMBER)] [(.ref w_NUMBER)])) (fun t k => ?_) ?_
 ·refine X330.aaload hx (j := (0 : Int32)) (v := (.ref w_NUMBER)) (by rw [e330]; exact Ar332.1) (State.isArrayOf_alike hZ.alike Ar332.2.1) rfl Ar332.2.2 hin332 hat332 (g := (mkF m 16 #[.val (.ref a1), .val (.ref w_STYLES), .val (.int 5), .val (.int 0), .unset] [(.int 0), (.ref w_STYLES)])) rfl rfl (hb hby d6_16) _ ?_
  show Steps p.tables e below (T330.setTop (mkF m 17 #[.val (.ref a1), .val (.ref w_STYLES), .val (.int 5), .val (.int 0), .unset] [(.ref w_NUMBER)])) _
  refine XS.astore X330.here hx rfl (hb hby d6_17) rfl rfl (l' := #[.val (.ref a1), .val (.ref w_STYLES), .val (.int 5), .val (.int 0), .val (.ref w_NUMBER)]) rfl ?_
  show Steps p.tables e below (T330.setTop (mkF m 19 #[.val (.ref a1), .val (.ref w_STYLES), .val (.int 5), .val (.int 0), .val (.ref w_NUMBER)] [])) _
  refine XS.aload X330.here hx rfl (hb hby d6_19) rfl rfl ?_
  show Steps p.tables e below (T330.setTop (mkF m 21 #[.val (.ref a1), .val (.ref w_STYLES), .val (.int 5), .val (.int 0), .val (.ref w_NUMBER)] [(.ref w_NUMBER)])) _
  exact k
 obtain ⟨T333, X333, e333, st333⟩ := getF X330 hx hZ hown (host := "") (Or.inl (hw _ (List.mem_of_getElem? (i := 36) rfl))) Via.refl e330 F_NUMBER_first (g := (mkF m 21 #[.val (.ref a1), .val (.ref w_STYLES), .val (.int 5), .val (.int 0), .val (.ref w_NUMBER)] [(.ref w_NUMBER)])) rfl rfl (hb hby d6_21)
 refine own_go st333 ?_
 refine own_go (B := T333.setTop (mkF m 25 #[.val (.ref a1), .val (.ref w_STYLES), .val (.int 5), .val (.int 0), .val (.ref w_NUMBER)] [(.ref a1), (.ref w_NUMBER_first)])) (fun t k => ?_) ?_
 ·refine XS.aloadN X333.here hx rfl (hb hby d6_24) rfl rfl ?_
  show Steps p.tables e below (T333.setTop (mkF m 25 #[.val (.ref a1), .val (.ref w_STYLES), .val (.int 5), .val (.int 0), .val (.ref w_NUMBER)] [(.ref a1), (.ref w_NUMBER_first)])) _
  exact k
 obtain ⟨cq334, kq334, q334a, q334b, q334c⟩ := isOf hZ e333 E_NUMBER_first
 obtain ⟨_, _, ⟨T334, L334, k334, n334⟩, -, X334, ⟨Lc334, hQ334, l334, y334, z334⟩, st334⟩ := X333.virtualBack hx (y := (⟨"java/lang/String", "equals", "(Ljava/lang/Object;)Z"⟩ : MethodName)) (z := (⟨"java/lang/String", "equals", "(Ljava/lang/Object;)Z"⟩ : MethodName)) hown (mvT hZ (hw _ (List.mem_of_getElem? (i := 38) rfl))) (mvT hZ (hw _ (List.mem_of_getElem? (i := 39) rfl))) (notFace_of_selects (args := #[]) (mvT hZ (hw _ (List.mem_of_getElem? (i := 41) rfl)))) (mvT hZ (hw _ (List.mem_of_getElem? (i := 41) rfl))) (mvT hZ (hw _ (List.mem_of_getElem? (i := 40) rfl))) (by decide) (backOf (W := 0) (rm7_1 l Z a0 hw [] w_NUMBER_first a1 w_COMPACT_STRINGS w_NUMBER_first_value vs k_NUMBER_first_value ks (49 : Int32) y0 h0 n0 Z0 S_COMPACT_STRINGS (N_COMPACT_STRINGS) E_s F_NUMBER_first_coder C_s F_NUMBER_first_value W_s V_NUMBER_first_value V_s ne_NUMBER) hZ (hw _ (List.mem_of_getElem? (i := 42) rfl)) (hw _ (List.mem_of_getElem? (i := 10) rfl)) (by decide) (by decide)) q334a q334c (g := (mkF m 25 #[.val (.ref a1), .val (.ref w_STYLES), .val (.int 5), .val (.int 0), .val (.ref w_NUMBER)] [(.ref a1), (.ref w_NUMBER_first)])) rfl (by rw [hml]; rfl) (Steps.refl _) (argsL := [(.ref a1)]) (rest := []) (lenOf pd_6 rfl) rfl (by show 2 * 0 + _ ≤ _; exact Nat.le_of_eq rfl) (hb hby d6_25) (fun _ _ => ⟨rfl, e333, (by decide : 0 + 0 ≤ _), (by decide : 0 + 0 ≤ _)⟩)
 dsimp only [Pt.U, Pt.locs, Pt.cells, Pt.slots] at X334 l334 y334 z334 st334 hQ334
 subst l334 y334 z334
 obtain ⟨rfl, M334, q334_0⟩ := hQ334
 have N334 := Fr.app N0 M334
 refine own_go (fun t k => st334.trans k) ?_
 refine own_go (B := T334.setTop (mkF m 16 #[.val (.ref a1), .val (.ref w_STYLES), .val (.int 5), .val (.int 1), .val (.ref w_NUMBER)] [(.int 1), (.ref w_STYLES)])) (fun t k => ?_) ?_
 ·refine XS.ifYes X334.here hx rfl (pc0 := 28) (pc' := 34) rfl (hb hby d6_28) rfl ((if0 _ _).trans (teq (show (if (49 : Int32) = y0 then (1 : Int32) else 0) = (0 : Int32) from (by rw [if_neg (show ¬ ((49 : Int32) = y0) from (by rw [hy]; decide))] <;> decide))).1) (by decide) (by decide) ?_
  show Steps p.tables e below (T334.setTop (mkF m 34 #[.val (.ref a1), .val (.ref w_STYLES), .val (.int 5), .val (.int 0), .val (.ref w_NUMBER)] [])) _
  refine XS.iinc X334.here hx rfl (hb hby d6_34) rfl (l' := #[.val (.ref a1), .val (.ref w_STYLES), .val (.int 5), .val (.int 1), .val (.ref w_NUMBER)]) rfl ?_
  show Steps p.tables e below (T334.setTop (mkF m 37 #[.val (.ref a1), .val (.ref w_STYLES), .val (.int 5), .val (.int 1), .val (.ref w_NUMBER)] [])) _
  refine XS.goto X334.here hx rfl (pc0 := 37) (pc' := 9) rfl (hb hby d6_37) (by decide) (by decide) ?_
  show Steps p.tables e below (T334.setTop (mkF m 9 #[.val (.ref a1), .val (.ref w_STYLES), .val (.int 5), .val (.int 1), .val (.ref w_NUMBER)] [])) _
  refine XS.iloadN X334.here hx rfl (hb hby d6_9) rfl ?_
  show Steps p.tables e below (T334.setTop (mkF m 10 #[.val (.ref a1), .val (.ref w_STYLES), .val (.int 5), .val (.int 1), .val (.ref w_NUMBER)] [(.int 1)])) _
  refine XS.iloadN X334.here hx rfl (hb hby d6_10) rfl ?_
  show Steps p.tables e below (T334.setTop (mkF m 11 #[.val (.ref a1), .val (.ref w_STYLES), .val (.int 5), .val (.int 1), .val (.ref w_NUMBER)] [(.int 5), (.int 1)])) _
  refine XS.icmpNo X334.here hx rfl (hb hby d6_11) rfl (tlt (by decide : (1 : Int32) < (5 : Int32))).2.1 ?_
  show Steps p.tables e below (T334.setTop (mkF m 14 #[.val (.ref a1), .val (.ref w_STYLES), .val (.int 5), .val (.int 1), .val (.ref w_NUMBER)] [])) _
  refine XS.aloadN X334.here hx rfl (hb hby d6_14) rfl rfl ?_
  show Steps p.tables e below (T334.setTop (mkF m 15 #[.val (.ref a1), .val (.ref w_STYLES), .val (.int 5), .val (.int 1), .val (.ref w_NUMBER)] [(.ref w_STYLES)])) _
  refine XS.iloadN X334.here hx rfl (hb hby d6_15) rfl ?_
  show Steps p.tables e below (T334.setTop (mkF m 16 #[.val (.ref a1), .val (.ref w_STYLES), .val (.int 5), .val (.int 1), .val (.ref w_NUMBER)] [(.int 1), (.ref w_STYLES)])) _
  exact k
 obtain ⟨cl335, Ar335, cq335, cS335, cN335, cH335, cG335⟩ := id V_STYLES
 have hin335 := inb_of (j := (1 : Int32)) cS335 ⟨by decide, by decide⟩
 have hat335 : cl335.slots[((1 : Int32)).toNatClampNeg]? = some (.ref w_LOWER_LETTER) := Has.at cH335 hin335 rfl
 refine own_go (B := T334.setTop (mkF m 21 #[.val (.ref a1), .val (.ref w_STYLES), .val (.int 5), .val (.int 1), .val (.ref w_LOWER_LETTER)] [(.ref w_LOWER_LETTER)])) (fun t k => ?_) ?_
 ·refine X334.aaload hx (j := (1 : Int32)) (v := (.ref w_LOWER_LETTER)) (by rw [q334_0]; exact Ar335.1) (State.isArrayOf_alike hZ.alike Ar335.2.1) rfl Ar335.2.2 hin335 hat335 (g := (mkF m 16 #[.val (.ref a1), .val (.ref w_STYLES), .val (.int 5), .val (.int 1), .val (.ref w_NUMBER)] [(.int 1), (.ref w_STYLES)])) rfl rfl (hb hby d6_16) _ ?_
  show Steps p.tables e below (T334.setTop (mkF m 17 #[.val (.ref a1), .val (.ref w_STYLES), .val (.int 5), .val (.int 1), .val (.ref w_NUMBER)] [(.ref w_LOWER_LETTER)])) _
  refine XS.astore X334.here hx rfl (hb hby d6_17) rfl rfl (l' := #[.val (.ref a1), .val (.ref w_STYLES), .val (.int 5), .val (.int 1), .val (.ref w_LOWER_LETTER)]) rfl ?_
  show Steps p.tables e below (T334.setTop (mkF m 19 #[.val (.ref a1), .val (.ref w_STYLES), .val (.int 5), .val (.int 1), .val (.ref w_LOWER_LETTER)] [])) _
  refine XS.aload X334.here hx rfl (hb hby d6_19) rfl rfl ?_
  show Steps p.tables e below (T334.setTop (mkF m 21 #[.val (.ref a1), .val (.ref w_STYLES), .val (.int 5), .val (.int 1), .val (.ref w_LOWER_LETTER)] [(.ref w_LOWER_LETTER)])) _
  exact k
 obtain ⟨T336, X336, e336, st336⟩ := getF X334 hx hZ hown (host := "") (Or.inl (hw _ (List.mem_of_getElem? (i := 36) rfl))) Via.refl q334_0 F_LOWER_LETTER_first (g := (mkF m 21 #[.val (.ref a1), .val (.ref w_STYLES), .val (.int 5), .val (.int 1), .val (.ref w_LOWER_LETTER)] [(.ref w_LOWER_LETTER)])) rfl rfl (hb hby d6_21)
 refine own_go st336 ?_
 refine own_go (B := T336.setTop (mkF m 25 #[.val (.ref a1), .val (.ref w_STYLES), .val (.int 5), .val (.int 1), .val (.ref w_LOWER_LETTER)] [(.ref a1), (.ref w_LOWER_LETTER_first)])) (fun t k => ?_) ?_
 ·refine XS.aloadN X336.here hx rfl (hb hby d6_24) rfl rfl ?_
  show Steps p.tables e below (T336.setTop (mkF m 25 #[.val (.ref a1), .val (.ref w_STYLES), .val (.int 5), .val (.int 1), .val (.ref w_LOWER_LETTER)] [(.ref a1), (.ref w_LOWER_LETTER_first)])) _
  exact k
 obtain ⟨cq337, kq337, q337a, q337b, q337c⟩ := isOf hZ e336 E_LOWER_LETTER_first
 obtain ⟨_, _, ⟨T337, L337, k337, n337⟩, -, X337, ⟨Lc337, hQ337, l337, y337, z337⟩, st337⟩ := X336.virtualBack hx (y := (⟨"java/lang/String", "equals", "(Ljava/lang/Object;)Z"⟩ : MethodName)) (z := (⟨"java/lang/String", "equals", "(Ljava/lang/Object;)Z"⟩ : MethodName)) hown (mvT hZ (hw _ (List.mem_of_getElem? (i := 38) rfl))) (mvT hZ (hw _ (List.mem_of_getElem? (i := 39) rfl))) (notFace_of_selects (args := #[]) (mvT hZ (hw _ (List.mem_of_getElem? (i := 41) rfl)))) (mvT hZ (hw _ (List.mem_of_getElem? (i := 41) rfl))) (mvT hZ (hw _ (List.mem_of_getElem? (i := 40) rfl))) (by decide) (backOf (W := 0) (rm7_1 l Z a0 hw [] w_LOWER_LETTER_first a1 w_COMPACT_STRINGS w_LOWER_LETTER_first_value vs k_LOWER_LETTER_first_value ks (97 : Int32) y0 h0 n0 Z0 S_COMPACT_STRINGS (N_COMPACT_STRINGS) E_s F_LOWER_LETTER_first_coder C_s F_LOWER_LETTER_first_value W_s V_LOWER_LETTER_first_value V_s ne_LOWER_LETTER) hZ (hw _ (List.mem_of_getElem? (i := 42) rfl)) (hw _ (List.mem_of_getElem? (i := 10) rfl)) (by decide) (by decide)) q337a q337c (g := (mkF m 25 #[.val (.ref a1), .val (.ref w_STYLES), .val (.int 5), .val (.int 1), .val (.ref w_LOWER_LETTER)] [(.ref a1), (.ref w_LOWER_LETTER_first)])) rfl (by rw [hml]; rfl) (Steps.refl _) (argsL := [(.ref a1)]) (rest := []) (lenOf pd_6 rfl) rfl (by show 2 * 0 + _ ≤ _; exact Nat.le_of_eq rfl) (hb hby d6_25) (fun _ _ => ⟨rfl, e336, (by decide : 0 + 0 ≤ _), (by decide : 0 + 0 ≤ _)⟩)
 dsimp only [Pt.U, Pt.locs, Pt.cells, Pt.slots] at X337 l337 y337 z337 st337 hQ337
 subst l337 y337 z337
 obtain ⟨rfl, M337, q337_0⟩ := hQ337
 have N337 := Fr.app N334 M337
 refine own_go (fun t k => st337.trans k) ?_
 refine own_go (B := T337.setTop (mkF m 33 #[.val (.ref a1), .val (.ref w_STYLES), .val (.int 5), .val (.int 1), .val (.ref w_LOWER_LETTER)] [(.ref w_LOWER_LETTER)])) (fun t k => ?_) ?_
 ·refine XS.ifNo X337.here hx rfl (hb hby d6_28) rfl ((if0 _ _).trans (feq (show ¬ ((if (97 : Int32) = y0 then (1 : Int32) else 0) = (0 : Int32)) from (by rw [if_pos (show (97 : Int32) = y0 from hy.symm)] <;> decide))).1) ?_
  show Steps p.tables e below (T337.setTop (mkF m 31 #[.val (.ref a1), .val (.ref w_STYLES), .val (.int 5), .val (.int 1), .val (.ref w_LOWER_LETTER)] [])) _
  refine XS.aload X337.here hx rfl (hb hby d6_31) rfl rfl ?_
  show Steps p.tables e below (T337.setTop (mkF m 33 #[.val (.ref a1), .val (.ref w_STYLES), .val (.int 5), .val (.int 1), .val (.ref w_LOWER_LETTER)] [(.ref w_LOWER_LETTER)])) _
  exact k
 obtain ⟨fs, hr, hrun, hended, hW, hsame⟩ := X337.leave (v := some (.ref w_LOWER_LETTER)) (fun h => by rw [Bd.returns] at h; cases h)
 refine ⟨_, _, ?_, hrun, hended, _, _, rfl, ?_, ⟨_, rfl⟩, hW, hsame.mono (by decide) (by decide)⟩
 ·exact own_retR X337 hx Bd.returns rfl rfl (hb hby d6_33) hr
 ·show Q6_1c1 Z a1 w_STYLES w_NUMBER w_NUMBER_first w_NUMBER_first_value w_LOWER_LETTER w_LOWER_LETTER_first w_LOWER_LETTER_first_value w_UPPER_LETTER w_UPPER_LETTER_first w_UPPER_LETTER_first_value w_LOWER_ROMAN w_LOWER_ROMAN_first w_LOWER_ROMAN_first_value w_UPPER_ROMAN w_UPPER_ROMAN_first w_UPPER_ROMAN_first_value w_COMPACT_STRINGS k_STYLES k_NUMBER_first_value k_LOWER_LETTER_first_value k_UPPER_LETTER_first_value k_LOWER_ROMAN_first_value k_UPPER_ROMAN_first_value vs ks y0 h0 n0 _ T337.heap _
  rw [q337_0]
  exact ⟨rfl, N337, rfl⟩
theorem ef_6_1c2 (m : MethodId) (a1 : Addr) : entryFrame m #[(.ref a1)] 5 = mkF m 0 #[.val (.ref a1), .unset, .unset, .unset, .unset] [] := by first | (simp [entryFrame, mkF, argsToLocals, Value.category]; done) | rfl
def Q6_1c2 (Z : State) (a1 : Addr) (w_STYLES : Addr) (w_NUMBER : Addr) (w_NUMBER_first : Addr) (w_NUMBER_first_value : Addr) (w_LOWER_LETTER : Addr) (w_LOWER_LETTER_first : Addr) (w_LOWER_LETTER_first_value : Addr) (w_UPPER_LETTER : Addr) (w_UPPER_LETTER_first : Addr) (w_UPPER_LETTER_first_value : Addr) (w_LOWER_ROMAN : Addr) (w_LOWER_ROMAN_first : Addr) (w_LOWER_ROMAN_first_value : Addr) (w_UPPER_ROMAN : Addr) (w_UPPER_ROMAN_first : Addr) (w_UPPER_ROMAN_first_value : Addr) (w_COMPACT_STRINGS : Int32) (k_STYLES : ClassId) (k_NUMBER_first_value : ClassId) (k_LOWER_LETTER_first_value : ClassId) (k_UPPER_LETTER_first_value : ClassId) (k_LOWER_ROMAN_first_value : ClassId) (k_UPPER_ROMAN_first_value : ClassId) (vs : Addr) (ks : ClassId) (y0 : Int32) (h0 : Heap) (n0 : Nat) (v : Option Value) (h : Heap) (L : List Loc) : Prop := v = some (.ref w_UPPER_LETTER) ∧ Fr n0 L ∧ h = h0
set_option maxRecDepth 65536 in
set_option maxHeartbeats 40000000 in
theorem rm6_1c2 (l : Launch) (Z : State) (a0 : Array Value) (hw : ∀ d ∈ tables_1, d.before a0 Z = true) (ws : List Jvm.Cond) (a1 : Addr) (w_STYLES : Addr) (w_NUMBER : Addr) (w_NUMBER_first : Addr) (w_NUMBER_first_value : Addr) (w_LOWER_LETTER : Addr) (w_LOWER_LETTER_first : Addr) (w_LOWER_LETTER_first_value : Addr) (w_UPPER_LETTER : Addr) (w_UPPER_LETTER_first : Addr) (w_UPPER_LETTER_first_value : Addr) (w_LOWER_ROMAN : Addr) (w_LOWER_ROMAN_first : Addr) (w_LOWER_ROMAN_first_value : Addr) (w_UPPER_ROMAN : Addr) (w_UPPER_ROMAN_first : Addr) (w_UPPER_ROMAN_first_value : Addr) (w_COMPACT_STRINGS : Int32) (k_STYLES : ClassId) (k_NUMBER_first_value : ClassId) (k_LOWER_LETTER_first_value : ClassId) (k_UPPER_LETTER_first_value : ClassId) (k_LOWER_ROMAN_first_value : ClassId) (k_UPPER_ROMAN_first_value : ClassId) (vs : Addr) (ks : ClassId) (y0 : Int32) (h0 : Heap) (n0 : Nat) (Z0 : n0 ≤ h0.size) (S_STYLES : Sta Z h0 "com/example/restate/restate/MarkerStyle" "STYLES" "[Lcom/example/restate/restate/MarkerStyle;" (.ref w_STYLES)) (S_NUMBER : Sta Z h0 "com/example/restate/restate/MarkerStyle" "NUMBER" "Lcom/example/restate/restate/MarkerStyle;" (.ref w_NUMBER)) (E_NUMBER : Exa Z h0 w_NUMBER "com/example/restate/restate/MarkerStyle") (F_NUMBER_first : Fld Z h0 w_NUMBER "com/example/restate/restate/MarkerStyle" "first" "Ljava/lang/String;" (.ref w_NUMBER_first)) (E_NUMBER_first : Exa Z h0 w_NUMBER_first "java/lang/String") (F_NUMBER_first_value : Fld Z h0 w_NUMBER_first "java/lang/String" "value" "[B" (.ref w_NUMBER_first_value)) (S_LOWER_LETTER : Sta Z h0 "com/example/restate/restate/MarkerStyle" "LOWER_LETTER" "Lcom/example/restate/restate/MarkerStyle;" (.ref w_LOWER_LETTER)) (E_LOWER_LETTER : Exa Z h0 w_LOWER_LETTER "com/example/restate/restate/MarkerStyle") (F_LOWER_LETTER_first : Fld Z h0 w_LOWER_LETTER "com/example/restate/restate/MarkerStyle" "first" "Ljava/lang/String;" (.ref w_LOWER_LETTER_first)) (E_LOWER_LETTER_first : Exa Z h0 w_LOWER_LETTER_first "java/lang/String") (F_LOWER_LETTER_first_value : Fld Z h0 w_LOWER_LETTER_first "java/lang/String" "value" "[B" (.ref w_LOWER_LETTER_first_value)) (S_UPPER_LETTER : Sta Z h0 "com/example/restate/restate/MarkerStyle" "UPPER_LETTER" "Lcom/example/restate/restate/MarkerStyle;" (.ref w_UPPER_LETTER)) (E_UPPER_LETTER : Exa Z h0 w_UPPER_LETTER "com/example/restate/restate/MarkerStyle") (F_UPPER_LETTER_first : Fld Z h0 w_UPPER_LETTER "com/example/restate/restate/MarkerStyle" "first" "Ljava/lang/String;" (.ref w_UPPER_LETTER_first)) (E_UPPER_LETTER_first : Exa Z h0 w_UPPER_LETTER_first "java/lang/String") (F_UPPER_LETTER_first_value : Fld Z h0 w_UPPER_LETTER_first "java/lang/String" "value" "[B" (.ref w_UPPER_LETTER_first_value)) (S_LOWER_ROMAN : Sta Z h0 "com/example/restate/restate/MarkerStyle" "LOWER_ROMAN" "Lcom/example/restate/restate/MarkerStyle;" (.ref w_LOWER_ROMAN)) (E_LOWER_ROMAN : Exa Z h0 w_LOWER_ROMAN "com/example/restate/restate/MarkerStyle") (F_LOWER_ROMAN_first : Fld Z h0 w_LOWER_ROMAN "com/example/restate/restate/MarkerStyle" "first" "Ljava/lang/String;" (.ref w_LOWER_ROMAN_first)) (E_LOWER_ROMAN_first : Exa Z h0 w_LOWER_ROMAN_first "java/lang/String") (F_LOWER_ROMAN_first_value : Fld Z h0 w_LOWER_ROMAN_first "java/lang/String" "value" "[B" (.ref w_LOWER_ROMAN_first_value)) (S_UPPER_ROMAN : Sta Z h0 "com/example/restate/restate/MarkerStyle" "UPPER_ROMAN" "Lcom/example/restate/restate/MarkerStyle;" (.ref w_UPPER_ROMAN)) (E_UPPER_ROMAN : Exa Z h0 w_UPPER_ROMAN "com/example/restate/restate/MarkerStyle") (F_UPPER_ROMAN_first : Fld Z h0 w_UPPER_ROMAN "com/example/restate/restate/MarkerStyle" "first" "Ljava/lang/String;" (.ref w_UPPER_ROMAN_first)) (E_UPPER_ROMAN_first : Exa Z h0 w_UPPER_ROMAN_first "java/lang/String") (F_UPPER_ROMAN_first_value : Fld Z h0 w_UPPER_ROMAN_first "java/lang/String" "value" "[B" (.ref w_UPPER_ROMAN_first_value)) (S_COMPACT_STRINGS : Sta Z h0 "java/lang/String" "COMPACT_STRINGS" "Z" (.int w_COMPACT_STRINGS)) (F_NUMBER_first_coder : Fld Z h0 w_NUMBER_first "java/lang/String" "coder" "B" (.int 0)) (F_LOWER_LETTER_first_coder : Fld Z h0 w_LOWER_LETTER_first "java/lang/String" "coder" "B" (.int 0)) (F_UPPER_LETTER_first_coder : Fld Z h0 w_UPPER_LETTER_first "java/lang/String" "coder" "B" (.int 0)) (F_LOWER_ROMAN_first_coder : Fld Z h0 w_LOWER_ROMAN_first "java/lang/String" "coder" "B" (.int 0)) (F_UPPER_ROMAN_first_coder : Fld Z h0 w_UPPER_ROMAN_first "java/lang/String" "coder" "B" (.int 0)) (N_COMPACT_STRINGS : ¬ w_COMPACT_STRINGS = (0 : Int32)) (V_STYLES : Arv Z h0 w_STYLES k_STYLES (.object "com/example/restate/restate/MarkerStyle") (5 : Int32) [(.ref w_NUMBER), (.ref w_LOWER_LETTER), (.ref w_UPPER_LETTER), (.ref w_LOWER_ROMAN), (.ref w_UPPER_ROMAN)] .null) (V_NUMBER_first_value : Arv Z h0 w_NUMBER_first_value k_NUMBER_first_value .byte (1 : Int32) [(.int 49)] (.int 0)) (V_LOWER_LETTER_first_value : Arv Z h0 w_LOWER_LETTER_first_value k_LOWER_LETTER_first_value .byte (1 : Int32) [(.int 97)] (.int 0)) (V_UPPER_LETTER_first_value : Arv Z h0 w_UPPER_LETTER_first_value k_UPPER_LETTER_first_value .byte (1 : Int32) [(.int 65)] (.int 0)) (V_LOWER_ROMAN_first_value : Arv Z h0 w_LOWER_ROMAN_first_value k_LOWER_ROMAN_first_value .byte (1 : Int32) [(.int 105)] (.int 0)) (V_UPPER_ROMAN_first_value : Arv Z h0 w_UPPER_ROMAN_first_value k_UPPER_ROMAN_first_value .byte (1 : Int32) [(.int 73)] (.int 0)) (E_s : Exa Z h0 a1 "java/lang/String") (C_s : Fld Z h0 a1 "java/lang/String" "coder" "B" (.int 0)) (W_s : Fld Z h0 a1 "java/lang/String" "value" "[B" (.ref vs)) (V_s : Arv Z h0 vs ks .byte (1 : Int32) [(.int y0)] (.int 0)) (ne_NUMBER : w_NUMBER_first ≠ a1) (ne_LOWER_LETTER : w_LOWER_LETTER_first ≠ a1) (ne_UPPER_LETTER : w_UPPER_LETTER_first ≠ a1) (ne_LOWER_ROMAN : w_LOWER_ROMAN_first ≠ a1) (ne_UPPER_ROMAN : w_UPPER_ROMAN_first ≠ a1) (hy : y0 = (65 : Int32)) :
  MetFree l (⟨"com/example/restate/restate/MarkerStyle", "openedBy", "(Ljava/lang/String;)Lcom/example/restate/restate/MarkerStyle;"⟩ : MethodName) (head1 (Jvm.Cond.code (⟨"com/example/restate/restate/MarkerStyle", "openedBy", "(Ljava/lang/String;)Lcom/example/restate/restate/MarkerStyle;"⟩ : MethodName) prog_61_method_5_code 5 (some (.object "com/example/restate/restate/MarkerStyle")) :: ws) ({ frames := 2, cells := 0, slots := 0, locals := 28 } : Room)) (fun a U => a = #[(.ref a1)] ∧ Z.Warmed39 U.vm ∧ U.heap = h0) (fun _ _ _ _ _ => True) (fun _ U o U' => ∃ v L, o = .returned v ∧ Q6_1c2 Z a1 w_STYLES w_NUMBER w_NUMBER_first w_NUMBER_first_value w_LOWER_LETTER w_LOWER_LETTER_first w_LOWER_LETTER_first_value w_UPPER_LETTER w_UPPER_LETTER_first w_UPPER_LETTER_first_value w_LOWER_ROMAN w_LOWER_ROMAN_first w_LOWER_ROMAN_first_value w_UPPER_ROMAN w_UPPER_ROMAN_first w_UPPER_ROMAN_first_value w_COMPACT_STRINGS k_STYLES k_NUMBER_first_value k_LOWER_LETTER_first_value k_UPPER_LETTER_first_value k_LOWER_ROMAN_first_value k_UPPER_ROMAN_first_value vs ks y0 h0 n0 v U'.heap L ∧ FrameEnd U o U' L ({ frames := 2, cells := 0, slots := 0, locals := 28 } : Room).cells ({ frames := 2, cells := 0, slots := 0, locals := 28 } : Room).slots) := by
 refine MetFree.of_bodySF (plainFor_of_name pn_268) hisR ?_
 intro p e s m args below meth c s₁ Bd hml0 hP hK
 obtain ⟨rfl, hZ, hh⟩ := hP
 have hx := Bd.exec
 have hby := Bd.bytes
 have hml : c.maxLocals = 5 := hml0
 have hown : s.vm.findClass "com/example/restate/restate/MarkerStyle" = some m.cls := findClass_of_methodNamed Bd.named
 have hnm := (name_of_methodNamed Bd.named Bd.method).1
 have X0 : Stand p l e ({ frames := 2, cells := 0, slots := 0, locals := 28 } : Room) s m #[(.ref a1)] below meth c s₁ [] 0 0 := Stand.of_body Bd
 have e0 : s₁.heap = h0 := by rw [← hh, Bd.state]; rfl
 have N0 := Fr.nil n0
 refine own_go (B := s₁.setTop (mkF m 0 #[.val (.ref a1), .unset, .unset, .unset, .unset] [])) (fun t k => castTop (ef_6_1c2 m a1) k) ?_
 obtain ⟨T339, X339, e339, st339⟩ := getS2 X0 hx hZ hown (host := "") (Or.inl (hw _ (List.mem_of_getElem? (i := 33) rfl))) Via.refl e0 S_STYLES (g := (mkF m 0 #[.val (.ref a1), .unset, .unset, .unset, .unset] [])) rfl (hb hby d6_0)
 refine own_go st339 ?_
 refine own_go (B := T339.setTop (mkF m 5 #[.val (.ref a1), .val (.ref w_STYLES), .unset, .unset, .unset] [(.ref w_STYLES)])) (fun t k => ?_) ?_
 ·refine XS.astoreN X339.here hx rfl (hb hby d6_3) rfl rfl (l' := #[.val (.ref a1), .val (.ref w_STYLES), .unset, .unset, .unset]) rfl ?_
  show Steps p.tables e below (T339.setTop (mkF m 4 #[.val (.ref a1), .val (.ref w_STYLES), .unset, .unset, .unset] [])) _
  refine XS.aloadN X339.here hx rfl (hb hby d6_4) rfl rfl ?_
  show Steps p.tables e below (T339.setTop (mkF m 5 #[.val (.ref a1), .val (.ref w_STYLES), .unset, .unset, .unset] [(.ref w_STYLES)])) _
  exact k
 obtain ⟨cl340, Ar340, cq340, cS340, cN340, cH340, cG340⟩ := id V_STYLES
 refine own_go (B := T339.setTop (mkF m 16 #[.val (.ref a1), .val (.ref w_STYLES), .val (.int 5), .val (.int 0), .unset] [(.int 0), (.ref w_STYLES)])) (fun t k => ?_) ?_
 ·refine X339.arraylength hx (by rw [e339]; exact Ar340.1) (State.isArrayOf_alike hZ.alike Ar340.2.1) (g := (mkF m 5 #[.val (.ref a1), .val (.ref w_STYLES), .unset, .unset, .unset] [(.ref w_STYLES)])) rfl rfl (hb hby d6_5) _ ?_
  rw [len_of cS340 cN340]
  show Steps p.tables e below (T339.setTop (mkF m 6 #[.val (.ref a1), .val (.ref w_STYLES), .unset, .unset, .unset] [(.int 5)])) _
  refine XS.istoreN X339.here hx rfl (hb hby d6_6) rfl (l' := #[.val (.ref a1), .val (.ref w_STYLES), .val (.int 5), .unset, .unset]) rfl ?_
  show Steps p.tables e below (T339.setTop (mkF m 7 #[.val (.ref a1), .val (.ref w_STYLES), .val (.int 5), .unset, .unset] [])) _
  refine XS.iconst X339.here hx rfl (hb hby d6_7) ?_
  show Steps p.tables e below (T339.setTop (mkF m 8 #[.val (.ref a1), .val (.ref w_STYLES), .val (.int 5), .unset, .unset] [(.int 0)])) _
  refine XS.istoreN X339.here hx rfl (hb hby d6_8) rfl (l' := #[.val (.ref a1), .val (.ref w_STYLES), .val (.int 5), .val (.int 0), .unset]) rfl ?_
  show Steps p.tables e below (T339.setTop (mkF m 9 #[.val (.ref a1), .val (.ref w_STYLES), .val (.int 5), .val (.int 0), .unset] [])) _
  refine XS.iloadN X339.here hx rfl (hb hby d6_9) rfl ?_
  show Steps p.tables e below (T339.setTop (mkF m 10 #[.val (.ref a1), .val (.ref w_STYLES), .val (.int 5), .val (.int 0), .unset] [(.int 0)])) _
  refine XS.iloadN X339.here hx rfl (hb hby d6_10) rfl ?_
  show Steps p.tables e below (T339.setTop (mkF m 11 #[.val (.ref a1), .val (.ref w_STYLES), .val (.int 5), .val (.int 0), .unset] [(.int 5), (.int 0)])) _
  refine XS.icmpNo X339.here hx rfl (hb hby d6_11) rfl (tlt (by decide : (0 : Int32) < (5 : Int32))).2.1 ?_
  show Steps p.tables e below (T339.setTop (mkF m 14 #[.val (.ref a1), .val (.ref w_STYLES), .val (.int 5), .val (.int 0), .unset] [])) _
  refine XS.aloadN X339.here hx rfl (hb hby d6_14) rfl rfl ?_
  show Steps p.tables e below (T339.setTop (mkF m 15 #[.val (.ref a1), .val (.ref w_STYLES), .val (.int 5), .val (.int 0), .unset] [(.ref w_STYLES)])) _
  refine XS.iloadN X339.here hx rfl (hb hby d6_15) rfl ?_
  show Steps p.tables e below (T339.setTop (mkF m 16 #[.val (.ref a1), .val (.ref w_STYLES), .val (.int 5), .val (.int 0), .unset] [(.int 0), (.ref w_STYLES)])) _
  exact k
 obtain ⟨cl341, Ar341, cq341, cS341, cN341, cH341, cG341⟩ := id V_STYLES
 have hin341 := inb_of (j := (0 : Int32)) cS341 ⟨by decide, by decide⟩
 have hat341 : cl341.slots[((0 : Int32)).toNatClampNeg]? = some (.ref w_NUMBER) := Has.at cH341 hin341 rfl
 refine own_go (B := T339.setTop (mkF m 21 #[.val (.ref a1), .val (.ref w_STYLES), .val (.int 5), .val (.int 0), .val (.ref w_NUMBER)] [(.ref w_NUMBER)])) (fun t k => ?_) ?_
 ·refine X339.aaload hx (j := (0 : Int32)) (v := (.ref w_NUMBER)) (by rw [e339]; exact Ar341.1) (State.isArrayOf_alike hZ.alike Ar341.2.1) rfl Ar341.2.2 hin341 hat341 (g := (mkF m 16 #[.val (.ref a1), .val (.ref w_STYLES), .val (.int 5), .val (.int 0), .unset] [(.int 0), (.ref w_STYLES)])) rfl rfl (hb hby d6_16) _ ?_
  show Steps p.tables e below (T339.setTop (mkF m 17 #[.val (.ref a1), .val (.ref w_STYLES), .val (.int 5), .val (.int 0), .unset] [(.ref w_NUMBER)])) _
  refine XS.astore X339.here hx rfl (hb hby d6_17) rfl rfl (l' := #[.val (.ref a1), .val (.ref w_STYLES), .val (.int 5), .val (.int 0), .val (.ref w_NUMBER)]) rfl ?_
  show Steps p.tables e below (T339.setTop (mkF m 19 #[.val (.ref a1), .val (.ref w_STYLES), .val (.int 5), .val (.int 0), .val (.ref w_NUMBER)] [])) _
  refine XS.aload X339.here hx rfl (hb hby d6_19) rfl rfl ?_
  show Steps p.tables e below (T339.setTop (mkF m 21 #[.val (.ref a1), .val (.ref w_STYLES), .val (.int 5), .val (.int 0), .val (.ref w_NUMBER)] [(.ref w_NUMBER)])) _
  exact k
 obtain ⟨T342, X342, e342, st342⟩ := getF X339 hx hZ hown (host := "") (Or.inl (hw _ (List.mem_of_getElem? (i := 36) rfl))) Via.refl e339 F_NUMBER_first (g := (mkF m 21 #[.val (.ref a1), .val (.ref w_STYLES), .val (.int 5), .val (.int 0), .val (.ref w_NUMBER)] [(.ref w_NUMBER)])) rfl rfl (hb hby d6_21)
 refine own_go st342 ?_
 refine own_go (B := T342.setTop (mkF m 25 #[.val (.ref a1), .val (.ref w_STYLES), .val (.int 5), .val (.int 0), .val (.ref w_NUMBER)] [(.ref a1), (.ref w_NUMBER_first)])) (fun t k => ?_) ?_
 ·refine XS.aloadN X342.here hx rfl (hb hby d6_24) rfl rfl ?_
  show Steps p.tables e below (T342.setTop (mkF m 25 #[.val (.ref a1), .val (.ref w_STYLES), .val (.int 5), .val (.int 0), .val (.ref w_NUMBER)] [(.ref a1), (.ref w_NUMBER_first)])) _
  exact k
 obtain ⟨cq343, kq343, q343a, q343b, q343c⟩ := isOf hZ e342 E_NUMBER_first
 obtain ⟨_, _, ⟨T343, L343, k343, n343⟩, -, X343, ⟨Lc343, hQ343, l343, y343, z343⟩, st343⟩ := X342.virtualBack hx (y := (⟨"java/lang/String", "equals", "(Ljava/lang/Object;)Z"⟩ : MethodName)) (z := (⟨"java/lang/String", "equals", "(Ljava/lang/Object;)Z"⟩ : MethodName)) hown (mvT hZ (hw _ (List.mem_of_getElem? (i := 38) rfl))) (mvT hZ (hw _ (List.mem_of_getElem? (i := 39) rfl))) (notFace_of_selects (args := #[]) (mvT hZ (hw _ (List.mem_of_getElem? (i := 41) rfl)))) (mvT hZ (hw _ (List.mem_of_getElem? (i := 41) rfl))) (mvT hZ (hw _ (List.mem_of_getElem? (i := 40) rfl))) (by decide) (backOf (W := 0) (rm7_1 l Z a0 hw [] w_NUMBER_first a1 w_COMPACT_STRINGS w_NUMBER_first_value vs k_NUMBER_first_value ks (49 : Int32) y0 h0 n0 Z0 S_COMPACT_STRINGS (N_COMPACT_STRINGS) E_s F_NUMBER_first_coder C_s F_NUMBER_first_value W_s V_NUMBER_first_value V_s ne_NUMBER) hZ (hw _ (List.mem_of_getElem? (i := 42) rfl)) (hw _ (List.mem_of_getElem? (i := 10) rfl)) (by decide) (by decide)) q343a q343c (g := (mkF m 25 #[.val (.ref a1), .val (.ref w_STYLES), .val (.int 5), .val (.int 0), .val (.ref w_NUMBER)] [(.ref a1), (.ref w_NUMBER_first)])) rfl (by rw [hml]; rfl) (Steps.refl _) (argsL := [(.ref a1)]) (rest := []) (lenOf pd_6 rfl) rfl (by show 2 * 0 + _ ≤ _; exact Nat.le_of_eq rfl) (hb hby d6_25) (fun _ _ => ⟨rfl, e342, (by decide : 0 + 0 ≤ _), (by decide : 0 + 0 ≤ _)⟩)
 dsimp only [Pt.U, Pt.locs, Pt.cells, Pt.slots] at X343 l343 y343 z343 st343 hQ343
 subst l343 y343 z343
 obtain ⟨rfl, M343, q343_0⟩ := hQ343
 have N343 := Fr.app N0 M343
 refine own_go (fun t k => st343.trans k) ?_
 refine own_go (B := T343.setTop (mkF m 16 #[.val (.ref a1), .val (.ref w_STYLES), .val (.int 5), .val (.int 1), .val (.ref w_NUMBER)] [(.int 1), (.ref w_STYLES)])) (fun t k => ?_) ?_
 ·refine XS.ifYes X343.here hx rfl (pc0 := 28) (pc' := 34) rfl (hb hby d6_28) rfl ((if0 _ _).trans (teq (show (if (49 : Int32) = y0 then (1 : Int32) else 0) = (0 : Int32) from (by rw [if_neg (show ¬ ((49 : Int32) = y0) from (by rw [hy]; decide))] <;> decide))).1) (by decide) (by decide) ?_
  show Steps p.tables e below (T343.setTop (mkF m 34 #[.val (.ref a1), .val (.ref w_STYLES), .val (.int 5), .val (.int 0), .val (.ref w_NUMBER)] [])) _
  refine XS.iinc X343.here hx rfl (hb hby d6_34) rfl (l' := #[.val (.ref a1), .val (.ref w_STYLES), .val (.int 5), .val (.int 1), .val (.ref w_NUMBER)]) rfl ?_
  show Steps p.tables e below (T343.setTop (mkF m 37 #[.val (.ref a1), .val (.ref w_STYLES), .val (.int 5), .val (.int 1), .val (.ref w_NUMBER)] [])) _
  refine XS.goto X343.here hx rfl (pc0 := 37) (pc' := 9) rfl (hb hby d6_37) (by decide) (by decide) ?_
  show Steps p.tables e below (T343.setTop (mkF m 9 #[.val (.ref a1), .val (.ref w_STYLES), .val (.int 5), .val (.int 1), .val (.ref w_NUMBER)] [])) _
  refine XS.iloadN X343.here hx rfl (hb hby d6_9) rfl ?_
  show Steps p.tables e below (T343.setTop (mkF m 10 #[.val (.ref a1), .val (.ref w_STYLES), .val (.int 5), .val (.int 1), .val (.ref w_NUMBER)] [(.int 1)])) _
  refine XS.iloadN X343.here hx rfl (hb hby d6_10) rfl ?_
  show Steps p.tables e below (T343.setTop (mkF m 11 #[.val (.ref a1), .val (.ref w_STYLES), .val (.int 5), .val (.int 1), .val (.ref w_NUMBER)] [(.int 5), (.int 1)])) _
  refine XS.icmpNo X343.here hx rfl (hb hby d6_11) rfl (tlt (by decide : (1 : Int32) < (5 : Int32))).2.1 ?_
  show Steps p.tables e below (T343.setTop (mkF m 14 #[.val (.ref a1), .val (.ref w_STYLES), .val (.int 5), .val (.int 1), .val (.ref w_NUMBER)] [])) _
  refine XS.aloadN X343.here hx rfl (hb hby d6_14) rfl rfl ?_
  show Steps p.tables e below (T343.setTop (mkF m 15 #[.val (.ref a1), .val (.ref w_STYLES), .val (.int 5), .val (.int 1), .val (.ref w_NUMBER)] [(.ref w_STYLES)])) _
  refine XS.iloadN X343.here hx rfl (hb hby d6_15) rfl ?_
  show Steps p.tables e below (T343.setTop (mkF m 16 #[.val (.ref a1), .val (.ref w_STYLES), .val (.int 5), .val (.int 1), .val (.ref w_NUMBER)] [(.int 1), (.ref w_STYLES)])) _
  exact k
 obtain ⟨cl344, Ar344, cq344, cS344, cN344, cH344, cG344⟩ := id V_STYLES
 have hin344 := inb_of (j := (1 : Int32)) cS344 ⟨by decide, by decide⟩
 have hat344 : cl344.slots[((1 : Int32)).toNatClampNeg]? = some (.ref w_LOWER_LETTER) := Has.at cH344 hin344 rfl
 refine own_go (B := T343.setTop (mkF m 21 #[.val (.ref a1), .val (.ref w_STYLES), .val (.int 5), .val (.int 1), .val (.ref w_LOWER_LETTER)] [(.ref w_LOWER_LETTER)])) (fun t k => ?_) ?_
 ·refine X343.aaload hx (j := (1 : Int32)) (v := (.ref w_LOWER_LETTER)) (by rw [q343_0]; exact Ar344.1) (State.isArrayOf_alike hZ.alike Ar344.2.1) rfl Ar344.2.2 hin344 hat344 (g := (mkF m 16 #[.val (.ref a1), .val (.ref w_STYLES), .val (.int 5), .val (.int 1), .val (.ref w_NUMBER)] [(.int 1), (.ref w_STYLES)])) rfl rfl (hb hby d6_16) _ ?_
  show Steps p.tables e below (T343.setTop (mkF m 17 #[.val (.ref a1), .val (.ref w_STYLES), .val (.int 5), .val (.int 1), .val (.ref w_NUMBER)] [(.ref w_LOWER_LETTER)])) _
  refine XS.astore X343.here hx rfl (hb hby d6_17) rfl rfl (l' := #[.val (.ref a1), .val (.ref w_STYLES), .val (.int 5), .val (.int 1), .val (.ref w_LOWER_LETTER)]) rfl ?_
  show Steps p.tables e below (T343.setTop (mkF m 19 #[.val (.ref a1), .val (.ref w_STYLES), .val (.int 5), .val (.int 1), .val (.ref w_LOWER_LETTER)] [])) _
  refine XS.aload X343.here hx rfl (hb hby d6_19) rfl rfl ?_
  show Steps p.tables e below (T343.setTop (mkF m 21 #[.val (.ref a1), .val (.ref w_STYLES), .val (.int 5), .val (.int 1), .val (.ref w_LOWER_LETTER)] [(.ref w_LOWER_LETTER)])) _
  exact k
 obtain ⟨T345, X345, e345, st345⟩ := getF X343 hx hZ hown (host := "") (Or.inl (hw _ (List.mem_of_getElem? (i := 36) rfl))) Via.refl q343_0 F_LOWER_LETTER_first (g := (mkF m 21 #[.val (.ref a1), .val (.ref w_STYLES), .val (.int 5), .val (.int 1), .val (.ref w_LOWER_LETTER)] [(.ref w_LOWER_LETTER)])) rfl rfl (hb hby d6_21)
 refine own_go st345 ?_
 refine own_go (B := T345.setTop (mkF m 25 #[.val (.ref a1), .val (.ref w_STYLES), .val (.int 5), .val (.int 1), .val (.ref w_LOWER_LETTER)] [(.ref a1), (.ref w_LOWER_LETTER_first)])) (fun t k => ?_) ?_
 ·refine XS.aloadN X345.here hx rfl (hb hby d6_24) rfl rfl ?_
  show Steps p.tables e below (T345.setTop (mkF m 25 #[.val (.ref a1), .val (.ref w_STYLES), .val (.int 5), .val (.int 1), .val (.ref w_LOWER_LETTER)] [(.ref a1), (.ref w_LOWER_LETTER_first)])) _
  exact k
 obtain ⟨cq346, kq346, q346a, q346b, q346c⟩ := isOf hZ e345 E_LOWER_LETTER_first
 obtain ⟨_, _, ⟨T346, L346, k346, n346⟩, -, X346, ⟨Lc346, hQ346, l346, y346, z346⟩, st346⟩ := X345.virtualBack hx (y := (⟨"java/lang/String", "equals", "(Ljava/lang/Object;)Z"⟩ : MethodName)) (z := (⟨"java/lang/String", "equals", "(Ljava/lang/Object;)Z"⟩ : MethodName)) hown (mvT hZ (hw _ (List.mem_of_getElem? (i := 38) rfl))) (mvT hZ (hw _ (List.mem_of_getElem? (i := 39) rfl))) (notFace_of_selects (args := #[]) (mvT hZ (hw _ (List.mem_of_getElem? (i := 41) rfl)))) (mvT hZ (hw _ (List.mem_of_getElem? (i := 41) rfl))) (mvT hZ (hw _ (List.mem_of_getElem? (i := 40) rfl))) (by decide) (backOf (W := 0) (rm7_1 l Z a0 hw [] w_LOWER_LETTER_first a1 w_COMPACT_STRINGS w_LOWER_LETTER_first_value vs k_LOWER_LETTER_first_value ks (97 : Int32) y0 h0 n0 Z0 S_COMPACT_STRINGS (N_COMPACT_STRINGS) E_s F_LOWER_LETTER_first_coder C_s F_LOWER_LETTER_first_value W_s V_LOWER_LETTER_first_value V_s ne_LOWER_LETTER) hZ (hw _ (List.mem_of_getElem? (i := 42) rfl)) (hw _ (List.mem_of_getElem? (i := 10) rfl)) (by decide) (by decide)) q346a q346c (g := (mkF m 25 #[.val (.ref a1), .val (.ref w_STYLES), .val (.int 5), .val (.int 1), .val (.ref w_LOWER_LETTER)] [(.ref a1), (.ref w_LOWER_LETTER_first)])) rfl (by rw [hml]; rfl) (Steps.refl _) (argsL := [(.ref a1)]) (rest := []) (lenOf pd_6 rfl) rfl (by show 2 * 0 + _ ≤ _; exact Nat.le_of_eq rfl) (hb hby d6_25) (fun _ _ => ⟨rfl, e345, (by decide : 0 + 0 ≤ _), (by decide : 0 + 0 ≤ _)⟩)
 dsimp only [Pt.U, Pt.locs, Pt.cells, Pt.slots] at X346 l346 y346 z346 st346 hQ346
 subst l346 y346 z346
 obtain ⟨rfl, M346, q346_0⟩ := hQ346
 have N346 := Fr.app N343 M346
 refine own_go (fun t k => st346.trans k) ?_
 refine own_go (B := T346.setTop (mkF m 16 #[.val (.ref a1), .val (.ref w_STYLES), .val (.int 5), .val (.int 2), .val (.ref w_LOWER_LETTER)] [(.int 2), (.ref w_STYLES)])) (fun t k => ?_) ?_
 ·refine XS.ifYes X346.here hx rfl (pc0 := 28) (pc' := 34) rfl (hb hby d6_28) rfl ((if0 _ _).trans (teq (show (if (97 : Int32) = y0 then (1 : Int32) else 0) = (0 : Int32) from (by rw [if_neg (show ¬ ((97 : Int32) = y0) from (by rw [hy]; decide))] <;> decide))).1) (by decide) (by decide) ?_
  show Steps p.tables e below (T346.setTop (mkF m 34 #[.val (.ref a1), .val (.ref w_STYLES), .val (.int 5), .val (.int 1), .val (.ref w_LOWER_LETTER)] [])) _
  refine XS.iinc X346.here hx rfl (hb hby d6_34) rfl (l' := #[.val (.ref a1), .val (.ref w_STYLES), .val (.int 5), .val (.int 2), .val (.ref w_LOWER_LETTER)]) rfl ?_
  show Steps p.tables e below (T346.setTop (mkF m 37 #[.val (.ref a1), .val (.ref w_STYLES), .val (.int 5), .val (.int 2), .val (.ref w_LOWER_LETTER)] [])) _
  refine XS.goto X346.here hx rfl (pc0 := 37) (pc' := 9) rfl (hb hby d6_37) (by decide) (by decide) ?_
  show Steps p.tables e below (T346.setTop (mkF m 9 #[.val (.ref a1), .val (.ref w_STYLES), .val (.int 5), .val (.int 2), .val (.ref w_LOWER_LETTER)] [])) _
  refine XS.iloadN X346.here hx rfl (hb hby d6_9) rfl ?_
  show Steps p.tables e below (T346.setTop (mkF m 10 #[.val (.ref a1), .val (.ref w_STYLES), .val (.int 5), .val (.int 2), .val (.ref w_LOWER_LETTER)] [(.int 2)])) _
  refine XS.iloadN X346.here hx rfl (hb hby d6_10) rfl ?_
  show Steps p.tables e below (T346.setTop (mkF m 11 #[.val (.ref a1), .val (.ref w_STYLES), .val (.int 5), .val (.int 2), .val (.ref w_LOWER_LETTER)] [(.int 5), (.int 2)])) _
  refine XS.icmpNo X346.here hx rfl (hb hby d6_11) rfl (tlt (by decide : (2 : Int32) < (5 : Int32))).2.1 ?_
  show Steps p.tables e below (T346.setTop (mkF m 14 #[.val (.ref a1), .val (.ref w_STYLES), .val (.int 5), .val (.int 2), .val (.ref w_LOWER_LETTER)] [])) _
  refine XS.aloadN X346.here hx rfl (hb hby d6_14) rfl rfl ?_
  show Steps p.tables e below (T346.setTop (mkF m 15 #[.val (.ref a1), .val (.ref w_STYLES), .val (.int 5), .val (.int 2), .val (.ref w_LOWER_LETTER)] [(.ref w_STYLES)])) _
  refine XS.iloadN X346.here hx rfl (hb hby d6_15) rfl ?_
  show Steps p.tables e below (T346.setTop (mkF m 16 #[.val (.ref a1), .val (.ref w_STYLES), .val (.int 5), .val (.int 2), .val (.ref w_LOWER_LETTER)] [(.int 2), (.ref w_STYLES)])) _
  exact k
 obtain ⟨cl347, Ar347, cq347, cS347, cN347, cH347, cG347⟩ := id V_STYLES
 have hin347 := inb_of (j := (2 : Int32)) cS347 ⟨by decide, by decide⟩
 have hat347 : cl347.slots[((2 : Int32)).toNatClampNeg]? = some (.ref w_UPPER_LETTER) := Has.at cH347 hin347 rfl
 refine own_go (B := T346.setTop (mkF m 21 #[.val (.ref a1), .val (.ref w_STYLES), .val (.int 5), .val (.int 2), .val (.ref w_UPPER_LETTER)] [(.ref w_UPPER_LETTER)])) (fun t k => ?_) ?_
 ·refine X346.aaload hx (j := (2 : Int32)) (v := (.ref w_UPPER_LETTER)) (by rw [q346_0]; exact Ar347.1) (State.isArrayOf_alike hZ.alike Ar347.2.1) rfl Ar347.2.2 hin347 hat347 (g := (mkF m 16 #[.val (.ref a1), .val (.ref w_STYLES), .val (.int 5), .val (.int 2), .val (.ref w_LOWER_LETTER)] [(.int 2), (.ref w_STYLES)])) rfl rfl (hb hby d6_16) _ ?_
  show Steps p.tables e below (T346.setTop (mkF m 17 #[.val (.ref a1), .val (.ref w_STYLES), .val (.int 5), .val (.int 2), .val (.ref w_LOWER_LETTER)] [(.ref w_UPPER_LETTER)])) _
  refine XS.astore X346.here hx rfl (hb hby d6_17) rfl rfl (l' := #[.val (.ref a1), .val (.ref w_STYLES), .val (.int 5), .val (.int 2), .val (.ref w_UPPER_LETTER)]) rfl ?_
  show Steps p.tables e below (T346.setTop (mkF m 19 #[.val (.ref a1), .val (.ref w_STYLES), .val (.int 5), .val (.int 2), .val (.ref w_UPPER_LETTER)] [])) _
  refine XS.aload X346.here hx rfl (hb hby d6_19) rfl rfl ?_
  show Steps p.tables e below (T346.setTop (mkF m 21 #[.val (.ref a1), .val (.ref w_STYLES), .val (.int 5), .val (.int 2), .val (.ref w_UPPER_LETTER)] [(.ref w_UPPER_LETTER)])) _
  exact k
 obtain ⟨T348, X348, e348, st348⟩ := getF X346 hx hZ hown (host := "") (Or.inl (hw _ (List.mem_of_getElem? (i := 36) rfl))) Via.refl q346_0 F_UPPER_LETTER_first (g := (mkF m 21 #[.val (.ref a1), .val (.ref w_STYLES), .val (.int 5), .val (.int 2), .val (.ref w_UPPER_LETTER)] [(.ref w_UPPER_LETTER)])) rfl rfl (hb hby d6_21)
 refine own_go st348 ?_
 refine own_go (B := T348.setTop (mkF m 25 #[.val (.ref a1), .val (.ref w_STYLES), .val (.int 5), .val (.int 2), .val (.ref w_UPPER_LETTER)] [(.ref a1), (.ref w_UPPER_LETTER_first)])) (fun t k => ?_) ?_
 ·refine XS.aloadN X348.here hx rfl (hb hby d6_24) rfl rfl ?_
  show Steps p.tables e below (T348.setTop (mkF m 25 #[.val (.ref a1), .val (.ref w_STYLES), .val (.int 5), .val (.int 2), .val (.ref w_UPPER_LETTER)] [(.ref a1), (.ref w_UPPER_LETTER_first)])) _
  exact k
 obtain ⟨cq349, kq349, q349a, q349b, q349c⟩ := isOf hZ e348 E_UPPER_LETTER_first
 obtain ⟨_, _, ⟨T349, L349, k349, n349⟩, -, X349, ⟨Lc349, hQ349, l349, y349, z349⟩, st349⟩ := X348.virtualBack hx (y := (⟨"java/lang/String", "equals", "(Ljava/lang/Object;)Z"⟩ : MethodName)) (z := (⟨"java/lang/String", "equals", "(Ljava/lang/Object;)Z"⟩ : MethodName)) hown (mvT hZ (hw _ (List.mem_of_getElem? (i := 38) rfl))) (mvT hZ (hw _ (List.mem_of_getElem? (i := 39) rfl))) (notFace_of_selects (args := #[]) (mvT hZ (hw _ (List.mem_of_getElem? (i := 41) rfl)))) (mvT hZ (hw _ (List.mem_of_getElem? (i := 41) rfl))) (mvT hZ (hw _ (List.mem_of_getElem? (i := 40) rfl))) (by decide) (backOf (W := 0) (rm7_1 l Z a0 hw [] w_UPPER_LETTER_first a1 w_COMPACT_STRINGS w_UPPER_LETTER_first_value vs k_UPPER_LETTER_first_value ks (65 : Int32) y0 h0 n0 Z0 S_COMPACT_STRINGS (N_COMPACT_STRINGS) E_s F_UPPER_LETTER_first_coder C_s F_UPPER_LETTER_first_value W_s V_UPPER_LETTER_first_value V_s ne_UPPER_LETTER) hZ (hw _ (List.mem_of_getElem? (i := 42) rfl)) (hw _ (List.mem_of_getElem? (i := 10) rfl)) (by decide) (by decide)) q349a q349c (g := (mkF m 25 #[.val (.ref a1), .val (.ref w_STYLES), .val (.int 5), .val (.int 2), .val (.ref w_UPPER_LETTER)] [(.ref a1), (.ref w_UPPER_LETTER_first)])) rfl (by rw [hml]; rfl) (Steps.refl _) (argsL := [(.ref a1)]) (rest := []) (lenOf pd_6 rfl) rfl (by show 2 * 0 + _ ≤ _; exact Nat.le_of_eq rfl) (hb hby d6_25) (fun _ _ => ⟨rfl, e348, (by decide : 0 + 0 ≤ _), (by decide : 0 + 0 ≤ _)⟩)
 dsimp only [Pt.U, Pt.locs, Pt.cells, Pt.slots] at X349 l349 y349 z349 st349 hQ349
 subst l349 y349 z349
 obtain ⟨rfl, M349, q349_0⟩ := hQ349
 have N349 := Fr.app N346 M349
 refine own_go (fun t k => st349.trans k) ?_
 refine own_go (B := T349.setTop (mkF m 33 #[.val (.ref a1), .val (.ref w_STYLES), .val (.int 5), .val (.int 2), .val (.ref w_UPPER_LETTER)] [(.ref w_UPPER_LETTER)])) (fun t k => ?_) ?_
 ·refine XS.ifNo X349.here hx rfl (hb hby d6_28) rfl ((if0 _ _).trans (feq (show ¬ ((if (65 : Int32) = y0 then (1 : Int32) else 0) = (0 : Int32)) from (by rw [if_pos (show (65 : Int32) = y0 from hy.symm)] <;> decide))).1) ?_
  show Steps p.tables e below (T349.setTop (mkF m 31 #[.val (.ref a1), .val (.ref w_STYLES), .val (.int 5), .val (.int 2), .val (.ref w_UPPER_LETTER)] [])) _
  refine XS.aload X349.here hx rfl (hb hby d6_31) rfl rfl ?_
  show Steps p.tables e below (T349.setTop (mkF m 33 #[.val (.ref a1), .val (.ref w_STYLES), .val (.int 5), .val (.int 2), .val (.ref w_UPPER_LETTER)] [(.ref w_UPPER_LETTER)])) _
  exact k
 obtain ⟨fs, hr, hrun, hended, hW, hsame⟩ := X349.leave (v := some (.ref w_UPPER_LETTER)) (fun h => by rw [Bd.returns] at h; cases h)
 refine ⟨_, _, ?_, hrun, hended, _, _, rfl, ?_, ⟨_, rfl⟩, hW, hsame.mono (by decide) (by decide)⟩
 ·exact own_retR X349 hx Bd.returns rfl rfl (hb hby d6_33) hr
 ·show Q6_1c2 Z a1 w_STYLES w_NUMBER w_NUMBER_first w_NUMBER_first_value w_LOWER_LETTER w_LOWER_LETTER_first w_LOWER_LETTER_first_value w_UPPER_LETTER w_UPPER_LETTER_first w_UPPER_LETTER_first_value w_LOWER_ROMAN w_LOWER_ROMAN_first w_LOWER_ROMAN_first_value w_UPPER_ROMAN w_UPPER_ROMAN_first w_UPPER_ROMAN_first_value w_COMPACT_STRINGS k_STYLES k_NUMBER_first_value k_LOWER_LETTER_first_value k_UPPER_LETTER_first_value k_LOWER_ROMAN_first_value k_UPPER_ROMAN_first_value vs ks y0 h0 n0 _ T349.heap _
  rw [q349_0]
  exact ⟨rfl, N349, rfl⟩
theorem ef_6_1c3 (m : MethodId) (a1 : Addr) : entryFrame m #[(.ref a1)] 5 = mkF m 0 #[.val (.ref a1), .unset, .unset, .unset, .unset] [] := by first | (simp [entryFrame, mkF, argsToLocals, Value.category]; done) | rfl
def Q6_1c3 (Z : State) (a1 : Addr) (w_STYLES : Addr) (w_NUMBER : Addr) (w_NUMBER_first : Addr) (w_NUMBER_first_value : Addr) (w_LOWER_LETTER : Addr) (w_LOWER_LETTER_first : Addr) (w_LOWER_LETTER_first_value : Addr) (w_UPPER_LETTER : Addr) (w_UPPER_LETTER_first : Addr) (w_UPPER_LETTER_first_value : Addr) (w_LOWER_ROMAN : Addr) (w_LOWER_ROMAN_first : Addr) (w_LOWER_ROMAN_first_value : Addr) (w_UPPER_ROMAN : Addr) (w_UPPER_ROMAN_first : Addr) (w_UPPER_ROMAN_first_value : Addr) (w_COMPACT_STRINGS : Int32) (k_STYLES : ClassId) (k_NUMBER_first_value : ClassId) (k_LOWER_LETTER_first_value : ClassId) (k_UPPER_LETTER_first_value : ClassId) (k_LOWER_ROMAN_first_value : ClassId) (k_UPPER_ROMAN_first_value : ClassId) (vs : Addr) (ks : ClassId) (y0 : Int32) (h0 : Heap) (n0 : Nat) (v : Option Value) (h : Heap) (L : List Loc) : Prop := v = some (.ref w_LOWER_ROMAN) ∧ Fr n0 L ∧ h = h0
set_option maxRecDepth 65536 in
set_option maxHeartbeats 40000000 in
theorem rm6_1c3 (l : Launch) (Z : State) (a0 : Array Value) (hw : ∀ d ∈ tables_1, d.before a0 Z = true) (ws : List Jvm.Cond) (a1 : Addr) (w_STYLES : Addr) (w_NUMBER : Addr) (w_NUMBER_first : Addr) (w_NUMBER_first_value : Addr) (w_LOWER_LETTER : Addr) (w_LOWER_LETTER_first : Addr) (w_LOWER_LETTER_first_value : Addr) (w_UPPER_LETTER : Addr) (w_UPPER_LETTER_first : Addr) (w_UPPER_LETTER_first_value : Addr) (w_LOWER_ROMAN : Addr) (w_LOWER_ROMAN_first : Addr) (w_LOWER_ROMAN_first_value : Addr) (w_UPPER_ROMAN : Addr) (w_UPPER_ROMAN_first : Addr) (w_UPPER_ROMAN_first_value : Addr) (w_COMPACT_STRINGS : Int32) (k_STYLES : ClassId) (k_NUMBER_first_value : ClassId) (k_LOWER_LETTER_first_value : ClassId) (k_UPPER_LETTER_first_value : ClassId) (k_LOWER_ROMAN_first_value : ClassId) (k_UPPER_ROMAN_first_value : ClassId) (vs : Addr) (ks : ClassId) (y0 : Int32) (h0 : Heap) (n0 : Nat) (Z0 : n0 ≤ h0.size) (S_STYLES : Sta Z h0 "com/example/restate/restate/MarkerStyle" "STYLES" "[Lcom/example/restate/restate/MarkerStyle;" (.ref w_STYLES)) (S_NUMBER : Sta Z h0 "com/example/restate/restate/MarkerStyle" "NUMBER" "Lcom/example/restate/restate/MarkerStyle;" (.ref w_NUMBER)) (E_NUMBER : Exa Z h0 w_NUMBER "com/example/restate/restate/MarkerStyle") (F_NUMBER_first : Fld Z h0 w_NUMBER "com/example/restate/restate/MarkerStyle" "first" "Ljava/lang/String;" (.ref w_NUMBER_first)) (E_NUMBER_first : Exa Z h0 w_NUMBER_first "java/lang/String") (F_NUMBER_first_value : Fld Z h0 w_NUMBER_first "java/lang/String" "value" "[B" (.ref w_NUMBER_first_value)) (S_LOWER_LETTER : Sta Z h0 "com/example/restate/restate/MarkerStyle" "LOWER_LETTER" "Lcom/example/restate/restate/MarkerStyle;" (.ref w_LOWER_LETTER)) (E_LOWER_LETTER : Exa Z h0 w_LOWER_LETTER "com/example/restate/restate/MarkerStyle") (F_LOWER_LETTER_first : Fld Z h0 w_LOWER_LETTER "com/example/restate/restate/MarkerStyle" "first" "Ljava/lang/String;" (.ref w_LOWER_LETTER_first)) (E_LOWER_LETTER_first : Exa Z h0 w_LOWER_LETTER_first "java/lang/String") (F_LOWER_LETTER_first_value : Fld Z h0 w_LOWER_LETTER_first "java/lang/String" "value" "[B" (.ref w_LOWER_LETTER_first_value)) (S_UPPER_LETTER : Sta Z h0 "com/example/restate/restate/MarkerStyle" "UPPER_LETTER" "Lcom/example/restate/restate/MarkerStyle;" (.ref w_UPPER_LETTER)) (E_UPPER_LETTER : Exa Z h0 w_UPPER_LETTER "com/example/restate/restate/MarkerStyle") (F_UPPER_LETTER_first : Fld Z h0 w_UPPER_LETTER "com/example/restate/restate/MarkerStyle" "first" "Ljava/lang/String;" (.ref w_UPPER_LETTER_first)) (E_UPPER_LETTER_first : Exa Z h0 w_UPPER_LETTER_first "java/lang/String") (F_UPPER_LETTER_first_value : Fld Z h0 w_UPPER_LETTER_first "java/lang/String" "value" "[B" (.ref w_UPPER_LETTER_first_value)) (S_LOWER_ROMAN : Sta Z h0 "com/example/restate/restate/MarkerStyle" "LOWER_ROMAN" "Lcom/example/restate/restate/MarkerStyle;" (.ref w_LOWER_ROMAN)) (E_LOWER_ROMAN : Exa Z h0 w_LOWER_ROMAN "com/example/restate/restate/MarkerStyle") (F_LOWER_ROMAN_first : Fld Z h0 w_LOWER_ROMAN "com/example/restate/restate/MarkerStyle" "first" "Ljava/lang/String;" (.ref w_LOWER_ROMAN_first)) (E_LOWER_ROMAN_first : Exa Z h0 w_LOWER_ROMAN_first "java/lang/String") (F_LOWER_ROMAN_first_value : Fld Z h0 w_LOWER_ROMAN_first "java/lang/String" "value" "[B" (.ref w_LOWER_ROMAN_first_value)) (S_UPPER_ROMAN : Sta Z h0 "com/example/restate/restate/MarkerStyle" "UPPER_ROMAN" "Lcom/example/restate/restate/MarkerStyle;" (.ref w_UPPER_ROMAN)) (E_UPPER_ROMAN : Exa Z h0 w_UPPER_ROMAN "com/example/restate/restate/MarkerStyle") (F_UPPER_ROMAN_first : Fld Z h0 w_UPPER_ROMAN "com/example/restate/restate/MarkerStyle" "first" "Ljava/lang/String;" (.ref w_UPPER_ROMAN_first)) (E_UPPER_ROMAN_first : Exa Z h0 w_UPPER_ROMAN_first "java/lang/String") (F_UPPER_ROMAN_first_value : Fld Z h0 w_UPPER_ROMAN_first "java/lang/String" "value" "[B" (.ref w_UPPER_ROMAN_first_value)) (S_COMPACT_STRINGS : Sta Z h0 "java/lang/String" "COMPACT_STRINGS" "Z" (.int w_COMPACT_STRINGS)) (F_NUMBER_first_coder : Fld Z h0 w_NUMBER_first "java/lang/String" "coder" "B" (.int 0)) (F_LOWER_LETTER_first_coder : Fld Z h0 w_LOWER_LETTER_first "java/lang/String" "coder" "B" (.int 0)) (F_UPPER_LETTER_first_coder : Fld Z h0 w_UPPER_LETTER_first "java/lang/String" "coder" "B" (.int 0)) (F_LOWER_ROMAN_first_coder : Fld Z h0 w_LOWER_ROMAN_first "java/lang/String" "coder" "B" (.int 0)) (F_UPPER_ROMAN_first_coder : Fld Z h0 w_UPPER_ROMAN_first "java/lang/String" "coder" "B" (.int 0)) (N_COMPACT_STRINGS : ¬ w_COMPACT_STRINGS = (0 : Int32)) (V_STYLES : Arv Z h0 w_STYLES k_STYLES (.object "com/example/restate/restate/MarkerStyle") (5 : Int32) [(.ref w_NUMBER), (.ref w_LOWER_LETTER), (.ref w_UPPER_LETTER), (.ref w_LOWER_ROMAN), (.ref w_UPPER_ROMAN)] .null) (V_NUMBER_first_value : Arv Z h0 w_NUMBER_first_value k_NUMBER_first_value .byte (1 : Int32) [(.int 49)] (.int 0)) (V_LOWER_LETTER_first_value : Arv Z h0 w_LOWER_LETTER_first_value k_LOWER_LETTER_first_value .byte (1 : Int32) [(.int 97)] (.int 0)) (V_UPPER_LETTER_first_value : Arv Z h0 w_UPPER_LETTER_first_value k_UPPER_LETTER_first_value .byte (1 : Int32) [(.int 65)] (.int 0)) (V_LOWER_ROMAN_first_value : Arv Z h0 w_LOWER_ROMAN_first_value k_LOWER_ROMAN_first_value .byte (1 : Int32) [(.int 105)] (.int 0)) (V_UPPER_ROMAN_first_value : Arv Z h0 w_UPPER_ROMAN_first_value k_UPPER_ROMAN_first_value .byte (1 : Int32) [(.int 73)] (.int 0)) (E_s : Exa Z h0 a1 "java/lang/String") (C_s : Fld Z h0 a1 "java/lang/String" "coder" "B" (.int 0)) (W_s : Fld Z h0 a1 "java/lang/String" "value" "[B" (.ref vs)) (V_s : Arv Z h0 vs ks .byte (1 : Int32) [(.int y0)] (.int 0)) (ne_NUMBER : w_NUMBER_first ≠ a1) (ne_LOWER_LETTER : w_LOWER_LETTER_first ≠ a1) (ne_UPPER_LETTER : w_UPPER_LETTER_first ≠ a1) (ne_LOWER_ROMAN : w_LOWER_ROMAN_first ≠ a1) (ne_UPPER_ROMAN : w_UPPER_ROMAN_first ≠ a1) (hy : y0 = (105 : Int32)) :
  MetFree l (⟨"com/example/restate/restate/MarkerStyle", "openedBy", "(Ljava/lang/String;)Lcom/example/restate/restate/MarkerStyle;"⟩ : MethodName) (head1 (Jvm.Cond.code (⟨"com/example/restate/restate/MarkerStyle", "openedBy", "(Ljava/lang/String;)Lcom/example/restate/restate/MarkerStyle;"⟩ : MethodName) prog_61_method_5_code 5 (some (.object "com/example/restate/restate/MarkerStyle")) :: ws) ({ frames := 2, cells := 0, slots := 0, locals := 28 } : Room)) (fun a U => a = #[(.ref a1)] ∧ Z.Warmed39 U.vm ∧ U.heap = h0) (fun _ _ _ _ _ => True) (fun _ U o U' => ∃ v L, o = .returned v ∧ Q6_1c3 Z a1 w_STYLES w_NUMBER w_NUMBER_first w_NUMBER_first_value w_LOWER_LETTER w_LOWER_LETTER_first w_LOWER_LETTER_first_value w_UPPER_LETTER w_UPPER_LETTER_first w_UPPER_LETTER_first_value w_LOWER_ROMAN w_LOWER_ROMAN_first w_LOWER_ROMAN_first_value w_UPPER_ROMAN w_UPPER_ROMAN_first w_UPPER_ROMAN_first_value w_COMPACT_STRINGS k_STYLES k_NUMBER_first_value k_LOWER_LETTER_first_value k_UPPER_LETTER_first_value k_LOWER_ROMAN_first_value k_UPPER_ROMAN_first_value vs ks y0 h0 n0 v U'.heap L ∧ FrameEnd U o U' L ({ frames := 2, cells := 0, slots := 0, locals := 28 } : Room).cells ({ frames := 2, cells := 0, slots := 0, locals := 28 } : Room).slots) := by
 refine MetFree.of_bodySF (plainFor_of_name pn_268) hisR ?_
 intro p e s m args below meth c s₁ Bd hml0 hP hK
 obtain ⟨rfl, hZ, hh⟩ := hP
 have hx := Bd.exec
 have hby := Bd.bytes
 have hml : c.maxLocals = 5 := hml0
 have hown : s.vm.findClass "com/example/restate/restate/MarkerStyle" = some m.cls := findClass_of_methodNamed Bd.named
 have hnm := (name_of_methodNamed Bd.named Bd.method).1
 have X0 : Stand p l e ({ frames := 2, cells := 0, slots := 0, locals := 28 } : Room) s m #[(.ref a1)] below meth c s₁ [] 0 0 := Stand.of_body Bd
 have e0 : s₁.heap = h0 := by rw [← hh, Bd.state]; rfl
 have N0 := Fr.nil n0
 refine own_go (B := s₁.setTop (mkF m 0 #[.val (.ref a1), .unset, .unset, .unset, .unset] [])) (fun t k => castTop (ef_6_1c3 m a1) k) ?_
 obtain ⟨T351, X351, e351, st351⟩ := getS2 X0 hx hZ hown (host := "") (Or.inl (hw _ (List.mem_of_getElem? (i := 33) rfl))) Via.refl e0 S_STYLES (g := (mkF m 0 #[.val (.ref a1), .unset, .unset, .unset, .unset] [])) rfl (hb hby d6_0)
 refine own_go st351 ?_
 refine own_go (B := T351.setTop (mkF m 5 #[.val (.ref a1), .val (.ref w_STYLES), .unset, .unset, .unset] [(.ref w_STYLES)])) (fun t k => ?_) ?_
 ·refine XS.astoreN X351.here hx rfl (hb hby d6_3) rfl rfl (l' := #[.val (.ref a1), .val (.ref w_STYLES), .unset, .unset, .unset]) rfl ?_
  show Steps p.tables e below (T351.setTop (mkF m 4 #[.val (.ref a1), .val (.ref w_STYLES), .unset, .unset, .unset] [])) _
  refine XS.aloadN X351.here hx rfl (hb hby d6_4) rfl rfl ?_
  show Steps p.tables e below (T351.setTop (mkF m 5 #[.val (.ref a1), .val (.ref w_STYLES), .unset, .unset, .unset] [(.ref w_STYLES)])) _
  exact k
 obtain ⟨cl352, Ar352, cq352, cS352, cN352, cH352, cG352⟩ := id V_STYLES
 refine own_go (B := T351.setTop (mkF m 16 #[.val (.ref a1), .val (.ref w_STYLES), .val (.int 5), .val (.int 0), .unset] [(.int 0), (.ref w_STYLES)])) (fun t k => ?_) ?_
 ·refine X351.arraylength hx (by rw [e351]; exact Ar352.1) (State.isArrayOf_alike hZ.alike Ar352.2.1) (g := (mkF m 5 #[.val (.ref a1), .val (.ref w_STYLES), .unset, .unset, .unset] [(.ref w_STYLES)])) rfl rfl (hb hby d6_5) _ ?_
  rw [len_of cS352 cN352]
  show Steps p.tables e below (T351.setTop (mkF m 6 #[.val (.ref a1), .val (.ref w_STYLES), .unset, .unset, .unset] [(.int 5)])) _
  refine XS.istoreN X351.here hx rfl (hb hby d6_6) rfl (l' := #[.val (.ref a1), .val (.ref w_STYLES), .val (.int 5), .unset, .unset]) rfl ?_
  show Steps p.tables e below (T351.setTop (mkF m 7 #[.val (.ref a1), .val (.ref w_STYLES), .val (.int 5), .unset, .unset] [])) _
  refine XS.iconst X351.here hx rfl (hb hby d6_7) ?_
  show Steps p.tables e below (T351.setTop (mkF m 8 #[.val (.ref a1), .val (.ref w_STYLES), .val (.int 5), .unset, .unset] [(.int 0)])) _
  refine XS.istoreN X351.here hx rfl (hb hby d6_8) rfl (l' := #[.val (.ref a1), .val (.ref w_STYLES), .val (.int 5), .val (.int 0), .unset]) rfl ?_
  show Steps p.tables e below (T351.setTop (mkF m 9 #[.val (.ref a1), .val (.ref w_STYLES), .val (.int 5), .val (.int 0), .unset] [])) _
  refine XS.iloadN X351.here hx rfl (hb hby d6_9) rfl ?_
  show Steps p.tables e below (T351.setTop (mkF m 10 #[.val (.ref a1), .val (.ref w_STYLES), .val (.int 5), .val (.int 0), .unset] [(.int 0)])) _
  refine XS.iloadN X351.here hx rfl (hb hby d6_10) rfl ?_
  show Steps p.tables e below (T351.setTop (mkF m 11 #[.val (.ref a1), .val (.ref w_STYLES), .val (.int 5), .val (.int 0), .unset] [(.int 5), (.int 0)])) _
  refine XS.icmpNo X351.here hx rfl (hb hby d6_11) rfl (tlt (by decide : (0 : Int32) < (5 : Int32))).2.1 ?_
  show Steps p.tables e below (T351.setTop (mkF m 14 #[.val (.ref a1), .val (.ref w_STYLES), .val (.int 5), .val (.int 0), .unset] [])) _
  refine XS.aloadN X351.here hx rfl (hb hby d6_14) rfl rfl ?_
  show Steps p.tables e below (T351.setTop (mkF m 15 #[.val (.ref a1), .val (.ref w_STYLES), .val (.int 5), .val (.int 0), .unset] [(.ref w_STYLES)])) _
  refine XS.iloadN X351.here hx rfl (hb hby d6_15) rfl ?_
  show Steps p.tables e below (T351.setTop (mkF m 16 #[.val (.ref a1), .val (.ref w_STYLES), .val (.int 5), .val (.int 0), .unset] [(.int 0), (.ref w_STYLES)])) _
  exact k
 obtain ⟨cl353, Ar353, cq353, cS353, cN353, cH353, cG353⟩ := id V_STYLES
 have hin353 := inb_of (j := (0 : Int32)) cS353 ⟨by decide, by decide⟩
 have hat353 : cl353.slots[((0 : Int32)).toNatClampNeg]? = some (.ref w_NUMBER) := Has.at cH353 hin353 rfl
 refine own_go (B := T351.setTop (mkF m 21 #[.val (.ref a1), .val (.ref w_STYLES), .val (.int 5), .val (.int 0), .val (.ref w_NUMBER)] [(.ref w_NUMBER)])) (fun t k => ?_) ?_
 ·refine X351.aaload hx (j := (0 : Int32)) (v := (.ref w_NUMBER)) (by rw [e351]; exact Ar353.1) (State.isArrayOf_alike hZ.alike Ar353.2.1) rfl Ar353.2.2 hin353 hat353 (g := (mkF m 16 #[.val (.ref a1), .val (.ref w_STYLES), .val (.int 5), .val (.int 0), .unset] [(.int 0), (.ref w_STYLES)])) rfl rfl (hb hby d6_16) _ ?_
  show Steps p.tables e below (T351.setTop (mkF m 17 #[.val (.ref a1), .val (.ref w_STYLES), .val (.int 5), .val (.int 0), .unset] [(.ref w_NUMBER)])) _
  refine XS.astore X351.here hx rfl (hb hby d6_17) rfl rfl (l' := #[.val (.ref a1), .val (.ref w_STYLES), .val (.int 5), .val (.int 0), .val (.ref w_NUMBER)]) rfl ?_
  show Steps p.tables e below (T351.setTop (mkF m 19 #[.val (.ref a1), .val (.ref w_STYLES), .val (.int 5), .val (.int 0), .val (.ref w_NUMBER)] [])) _
  refine XS.aload X351.here hx rfl (hb hby d6_19) rfl rfl ?_
  show Steps p.tables e below (T351.setTop (mkF m 21 #[.val (.ref a1), .val (.ref w_STYLES), .val (.int 5), .val (.int 0), .val (.ref w_NUMBER)] [(.ref w_NUMBER)])) _
  exact k
 obtain ⟨T354, X354, e354, st354⟩ := getF X351 hx hZ hown (host := "") (Or.inl (hw _ (List.mem_of_getElem? (i := 36) rfl))) Via.refl e351 F_NUMBER_first (g := (mkF m 21 #[.val (.ref a1), .val (.ref w_STYLES), .val (.int 5), .val (.int 0), .val (.ref w_NUMBER)] [(.ref w_NUMBER)])) rfl rfl (hb hby d6_21)
 refine own_go st354 ?_
 refine own_go (B := T354.setTop (mkF m 25 #[.val (.ref a1), .val (.ref w_STYLES), .val (.int 5), .val (.int 0), .val (.ref w_NUMBER)] [(.ref a1), (.ref w_NUMBER_first)])) (fun t k => ?_) ?_
 ·refine XS.aloadN X354.here hx rfl (hb hby d6_24) rfl rfl ?_
  show Steps p.tables e below (T354.setTop (mkF m 25 #[.val (.ref a1), .val (.ref w_STYLES), .val (.int 5), .val (.int 0), .val (.ref w_NUMBER)] [(.ref a1), (.ref w_NUMBER_first)])) _
  exact k
 obtain ⟨cq355, kq355, q355a, q355b, q355c⟩ := isOf hZ e354 E_NUMBER_first
 obtain ⟨_, _, ⟨T355, L355, k355, n355⟩, -, X355, ⟨Lc355, hQ355, l355, y355, z355⟩, st355⟩ := X354.virtualBack hx (y := (⟨"java/lang/String", "equals", "(Ljava/lang/Object;)Z"⟩ : MethodName)) (z := (⟨"java/lang/String", "equals", "(Ljava/lang/Object;)Z"⟩ : MethodName)) hown (mvT hZ (hw _ (List.mem_of_getElem? (i := 38) rfl))) (mvT hZ (hw _ (List.mem_of_getElem? (i := 39) rfl))) (notFace_of_selects (args := #[]) (mvT hZ (hw _ (List.mem_of_getElem? (i := 41) rfl)))) (mvT hZ (hw _ (List.mem_of_getElem? (i := 41) rfl))) (mvT hZ (hw _ (List.mem_of_getElem? (i := 40) rfl))) (by decide) (backOf (W := 0) (rm7_1 l Z a0 hw [] w_NUMBER_first a1 w_COMPACT_STRINGS w_NUMBER_first_value vs k_NUMBER_first_value ks (49 : Int32) y0 h0 n0 Z0 S_COMPACT_STRINGS (N_COMPACT_STRINGS) E_s F_NUMBER_first_coder C_s F_NUMBER_first_value W_s V_NUMBER_first_value V_s ne_NUMBER) hZ (hw _ (List.mem_of_getElem? (i := 42) rfl)) (hw _ (List.mem_of_getElem? (i := 10) rfl)) (by decide) (by decide)) q355a q355c (g := (mkF m 25 #[.val (.ref a1), .val (.ref w_STYLES), .val (.int 5), .val (.int 0), .val (.ref w_NUMBER)] [(.ref a1), (.ref w_NUMBER_first)])) rfl (by rw [hml]; rfl) (Steps.refl _) (argsL := [(.ref a1)]) (rest := []) (lenOf pd_6 rfl) rfl (by show 2 * 0 + _ ≤ _; exact Nat.le_of_eq rfl) (hb hby d6_25) (fun _ _ => ⟨rfl, e354, (by decide : 0 + 0 ≤ _), (by decide : 0 + 0 ≤ _)⟩)
 dsimp only [Pt.U, Pt.locs, Pt.cells, Pt.slots] at X355 l355 y355 z355 st355 hQ355
 subst l355 y355 z355
 obtain ⟨rfl, M355, q355_0⟩ := hQ355
 have N355 := Fr.app N0 M355
 refine own_go (fun t k => st355.trans k) ?_
 refine own_go (B := T355.setTop (mkF m 16 #[.val (.ref a1), .val (.ref w_STYLES), .val (.int 5), .val (.int 1), .val (.ref w_NUMBER)] [(.int 1), (.ref w_STYLES)])) (fun t k => ?_) ?_
 ·refine XS.ifYes X355.here hx rfl (pc0 := 28) (pc' := 34) rfl (hb hby d6_28) rfl ((if0 _ _).trans (teq (show (if (49 : Int32) = y0 then (1 : Int32) else 0) = (0 : Int32) from (by rw [if_neg (show ¬ ((49 : Int32) = y0) from (by rw [hy]; decide))] <;> decide))).1) (by decide) (by decide) ?_
  show Steps p.tables e below (T355.setTop (mkF m 34 #[.val (.ref a1), .val (.ref w_STYLES), .val (.int 5), .val (.int 0), .val (.ref w_NUMBER)] [])) _
  refine XS.iinc X355.here hx rfl (hb hby d6_34) rfl (l' := #[.val (.ref a1), .val (.ref w_STYLES), .val (.int 5), .val (.int 1), .val (.ref w_NUMBER)]) rfl ?_
  show Steps p.tables e below (T355.setTop (mkF m 37 #[.val (.ref a1), .val (.ref w_STYLES), .val (.int 5), .val (.int 1), .val (.ref w_NUMBER)] [])) _
  refine XS.goto X355.here hx rfl (pc0 := 37) (pc' := 9) rfl (hb hby d6_37) (by decide) (by decide) ?_
  show Steps p.tables e below (T355.setTop (mkF m 9 #[.val (.ref a1), .val (.ref w_STYLES), .val (.int 5), .val (.int 1), .val (.ref w_NUMBER)] [])) _
  refine XS.iloadN X355.here hx rfl (hb hby d6_9) rfl ?_
  show Steps p.tables e below (T355.setTop (mkF m 10 #[.val (.ref a1), .val (.ref w_STYLES), .val (.int 5), .val (.int 1), .val (.ref w_NUMBER)] [(.int 1)])) _
  refine XS.iloadN X355.here hx rfl (hb hby d6_10) rfl ?_
  show Steps p.tables e below (T355.setTop (mkF m 11 #[.val (.ref a1), .val (.ref w_STYLES), .val (.int 5), .val (.int 1), .val (.ref w_NUMBER)] [(.int 5), (.int 1)])) _
  refine XS.icmpNo X355.here hx rfl (hb hby d6_11) rfl (tlt (by decide : (1 : Int32) < (5 : Int32))).2.1 ?_
  show Steps p.tables e below (T355.setTop (mkF m 14 #[.val (.ref a1), .val (.ref w_STYLES), .val (.int 5), .val (.int 1), .val (.ref w_NUMBER)] [])) _
  refine XS.aloadN X355.here hx rfl (hb hby d6_14) rfl rfl ?_
  show Steps p.tables e below (T355.setTop (mkF m 15 #[.val (.ref a1), .val (.ref w_STYLES), .val (.int 5), .val (.int 1), .val (.ref w_NUMBER)] [(.ref w_STYLES)])) _
  refine XS.iloadN X355.here hx rfl (hb hby d6_15) rfl ?_
  show Steps p.tables e below (T355.setTop (mkF m 16 #[.val (.ref a1), .val (.ref w_STYLES), .val (.int 5), .val (.int 1), .val (.ref w_NUMBER)] [(.int 1), (.ref w_STYLES)])) _
  exact k
 obtain ⟨cl356, Ar356, cq356, cS356, cN356, cH356, cG356⟩ := id V_STYLES
 have hin356 := inb_of (j := (1 : Int32)) cS356 ⟨by decide, by decide⟩
 have hat356 : cl356.slots[((1 : Int32)).toNatClampNeg]? = some (.ref w_LOWER_LETTER) := Has.at cH356 hin356 rfl
 refine own_go (B := T355.setTop (mkF m 21 #[.val (.ref a1), .val (.ref w_STYLES), .val (.int 5), .val (.int 1), .val (.ref w_LOWER_LETTER)] [(.ref w_LOWER_LETTER)])) (fun t k => ?_) ?_
 ·refine X355.aaload hx (j := (1 : Int32)) (v := (.ref w_LOWER_LETTER)) (by rw [q355_0]; exact Ar356.1) (State.isArrayOf_alike hZ.alike Ar356.2.1) rfl Ar356.2.2 hin356 hat356 (g := (mkF m 16 #[.val (.ref a1), .val (.ref w_STYLES), .val (.int 5), .val (.int 1), .val (.ref w_NUMBER)] [(.int 1), (.ref w_STYLES)])) rfl rfl (hb hby d6_16) _ ?_
  show Steps p.tables e below (T355.setTop (mkF m 17 #[.val (.ref a1), .val (.ref w_STYLES), .val (.int 5), .val (.int 1), .val (.ref w_NUMBER)] [(.ref w_LOWER_LETTER)])) _
  refine XS.astore X355.here hx rfl (hb hby d6_17) rfl rfl (l' := #[.val (.ref a1), .val (.ref w_STYLES), .val (.int 5), .val (.int 1), .val (.ref w_LOWER_LETTER)]) rfl ?_
  show Steps p.tables e below (T355.setTop (mkF m 19 #[.val (.ref a1), .val (.ref w_STYLES), .val (.int 5), .val (.int 1), .val (.ref w_LOWER_LETTER)] [])) _
  refine XS.aload X355.here hx rfl (hb hby d6_19) rfl rfl ?_
  show Steps p.tables e below (T355.setTop (mkF m 21 #[.val (.ref a1), .val (.ref w_STYLES), .val (.int 5), .val (.int 1), .val (.ref w_LOWER_LETTER)] [(.ref w_LOWER_LETTER)])) _
  exact k
 obtain ⟨T357, X357, e357, st357⟩ := getF X355 hx hZ hown (host := "") (Or.inl (hw _ (List.mem_of_getElem? (i := 36) rfl))) Via.refl q355_0 F_LOWER_LETTER_first (g := (mkF m 21 #[.val (.ref a1), .val (.ref w_STYLES), .val (.int 5), .val (.int 1), .val (.ref w_LOWER_LETTER)] [(.ref w_LOWER_LETTER)])) rfl rfl (hb hby d6_21)
 refine own_go st357 ?_
 refine own_go (B := T357.setTop (mkF m 25 #[.val (.ref a1), .val (.ref w_STYLES), .val (.int 5), .val (.int 1), .val (.ref w_LOWER_LETTER)] [(.ref a1), (.ref w_LOWER_LETTER_first)])) (fun t k => ?_) ?_
 ·refine XS.aloadN X357.here hx rfl (hb hby d6_24) rfl rfl ?_
  show Steps p.tables e below (T357.setTop (mkF m 25 #[.val (.ref a1), .val (.ref w_STYLES), .val (.int 5), .val (.int 1), .val (.ref w_LOWER_LETTER)] [(.ref a1), (.ref w_LOWER_LETTER_first)])) _
  exact k
 obtain ⟨cq358, kq358, q358a, q358b, q358c⟩ := isOf hZ e357 E_LOWER_LETTER_first
 obtain ⟨_, _, ⟨T358, L358, k358, n358⟩, -, X358, ⟨Lc358, hQ358, l358, y358, z358⟩, st358⟩ := X357.virtualBack hx (y := (⟨"java/lang/String", "equals", "(Ljava/lang/Object;)Z"⟩ : MethodName)) (z := (⟨"java/lang/String", "equals", "(Ljava/lang/Object;)Z"⟩ : MethodName)) hown (mvT hZ (hw _ (List.mem_of_getElem? (i := 38) rfl))) (mvT hZ (hw _ (List.mem_of_getElem? (i := 39) rfl))) (notFace_of_selects (args := #[]) (mvT hZ (hw _ (List.mem_of_getElem? (i := 41) rfl)))) (mvT hZ (hw _ (List.mem_of_getElem? (i := 41) rfl))) (mvT hZ (hw _ (List.mem_of_getElem? (i := 40) rfl))) (by decide) (backOf (W := 0) (rm7_1 l Z a0 hw [] w_LOWER_LETTER_first a1 w_COMPACT_STRINGS w_LOWER_LETTER_first_value vs k_LOWER_LETTER_first_value ks (97 : Int32) y0 h0 n0 Z0 S_COMPACT_STRINGS (N_COMPACT_STRINGS) E_s F_LOWER_LETTER_first_coder C_s F_LOWER_LETTER_first_value W_s V_LOWER_LETTER_first_value V_s ne_LOWER_LETTER) hZ (hw _ (List.mem_of_getElem? (i := 42) rfl)) (hw _ (List.mem_of_getElem? (i := 10) rfl)) (by decide) (by decide)) q358a q358c (g := (mkF m 25 #[.val (.ref a1), .val (.ref w_STYLES), .val (.int 5), .val (.int 1), .val (.ref w_LOWER_LETTER)] [(.ref a1), (.ref w_LOWER_LETTER_first)])) rfl (by rw [hml]; rfl) (Steps.refl _) (argsL := [(.ref a1)]) (rest := []) (lenOf pd_6 rfl) rfl (by show 2 * 0 + _ ≤ _; exact Nat.le_of_eq rfl) (hb hby d6_25) (fun _ _ => ⟨rfl, e357, (by decide : 0 + 0 ≤ _), (by decide : 0 + 0 ≤ _)⟩)
 dsimp only [Pt.U, Pt.locs, Pt.cells, Pt.slots] at X358 l358 y358 z358 st358 hQ358
 subst l358 y358 z358
 obtain ⟨rfl, M358, q358_0⟩ := hQ358
 have N358 := Fr.app N355 M358
 refine own_go (fun t k => st358.trans k) ?_
 refine own_go (B := T358.setTop (mkF m 16 #[.val (.ref a1), .val (.ref w_STYLES), .val (.int 5), .val (.int 2), .val (.ref w_LOWER_LETTER)] [(.int 2), (.ref w_STYLES)])) (fun t k => ?_) ?_
 ·refine XS.ifYes X358.here hx rfl (pc0 := 28) (pc' := 34) rfl (hb hby d6_28) rfl ((if0 _ _).trans (teq (show (if (97 : Int32) = y0 then (1 : Int32) else 0) = (0 : Int32) from (by rw [if_neg (show ¬ ((97 : Int32) = y0) from (by rw [hy]; decide))] <;> decide))).1) (by decide) (by decide) ?_
  show Steps p.tables e below (T358.setTop (mkF m 34 #[.val (.ref a1), .val (.ref w_STYLES), .val (.int 5), .val (.int 1), .val (.ref w_LOWER_LETTER)] [])) _
  refine XS.iinc X358.here hx rfl (hb hby d6_34) rfl (l' := #[.val (.ref a1), .val (.ref w_STYLES), .val (.int 5), .val (.int 2), .val (.ref w_LOWER_LETTER)]) rfl ?_
  show Steps p.tables e below (T358.setTop (mkF m 37 #[.val (.ref a1), .val (.ref w_STYLES), .val (.int 5), .val (.int 2), .val (.ref w_LOWER_LETTER)] [])) _
  refine XS.goto X358.here hx rfl (pc0 := 37) (pc' := 9) rfl (hb hby d6_37) (by decide) (by decide) ?_
  show Steps p.tables e below (T358.setTop (mkF m 9 #[.val (.ref a1), .val (.ref w_STYLES), .val (.int 5), .val (.int 2), .val (.ref w_LOWER_LETTER)] [])) _
  refine XS.iloadN X358.here hx rfl (hb hby d6_9) rfl ?_
  show Steps p.tables e below (T358.setTop (mkF m 10 #[.val (.ref a1), .val (.ref w_STYLES), .val (.int 5), .val (.int 2), .val (.ref w_LOWER_LETTER)] [(.int 2)])) _
  refine XS.iloadN X358.here hx rfl (hb hby d6_10) rfl ?_
  show Steps p.tables e below (T358.setTop (mkF m 11 #[.val (.ref a1), .val (.ref w_STYLES), .val (.int 5), .val (.int 2), .val (.ref w_LOWER_LETTER)] [(.int 5), (.int 2)])) _
  refine XS.icmpNo X358.here hx rfl (hb hby d6_11) rfl (tlt (by decide : (2 : Int32) < (5 : Int32))).2.1 ?_
  show Steps p.tables e below (T358.setTop (mkF m 14 #[.val (.ref a1), .val (.ref w_STYLES), .val (.int 5), .val (.int 2), .val (.ref w_LOWER_LETTER)] [])) _
  refine XS.aloadN X358.here hx rfl (hb hby d6_14) rfl rfl ?_
  show Steps p.tables e below (T358.setTop (mkF m 15 #[.val (.ref a1), .val (.ref w_STYLES), .val (.int 5), .val (.int 2), .val (.ref w_LOWER_LETTER)] [(.ref w_STYLES)])) _
  refine XS.iloadN X358.here hx rfl (hb hby d6_15) rfl ?_
  show Steps p.tables e below (T358.setTop (mkF m 16 #[.val (.ref a1), .val (.ref w_STYLES), .val (.int 5), .val (.int 2), .val (.ref w_LOWER_LETTER)] [(.int 2), (.ref w_STYLES)])) _
  exact k
 obtain ⟨cl359, Ar359, cq359, cS359, cN359, cH359, cG359⟩ := id V_STYLES
 have hin359 := inb_of (j := (2 : Int32)) cS359 ⟨by decide, by decide⟩
 have hat359 : cl359.slots[((2 : Int32)).toNatClampNeg]? = some (.ref w_UPPER_LETTER) := Has.at cH359 hin359 rfl
 refine own_go (B := T358.setTop (mkF m 21 #[.val (.ref a1), .val (.ref w_STYLES), .val (.int 5), .val (.int 2), .val (.ref w_UPPER_LETTER)] [(.ref w_UPPER_LETTER)])) (fun t k => ?_) ?_
 ·refine X358.aaload hx (j := (2 : Int32)) (v := (.ref w_UPPER_LETTER)) (by rw [q358_0]; exact Ar359.1) (State.isArrayOf_alike hZ.alike Ar359.2.1) rfl Ar359.2.2 hin359 hat359 (g := (mkF m 16 #[.val (.ref a1), .val (.ref w_STYLES), .val (.int 5), .val (.int 2), .val (.ref w_LOWER_LETTER)] [(.int 2), (.ref w_STYLES)])) rfl rfl (hb hby d6_16) _ ?_
  show Steps p.tables e below (T358.setTop (mkF m 17 #[.val (.ref a1), .val (.ref w_STYLES), .val (.int 5), .val (.int 2), .val (.ref w_LOWER_LETTER)] [(.ref w_UPPER_LETTER)])) _
  refine XS.astore X358.here hx rfl (hb hby d6_17) rfl rfl (l' := #[.val (.ref a1), .val (.ref w_STYLES), .val (.int 5), .val (.int 2), .val (.ref w_UPPER_LETTER)]) rfl ?_
  show Steps p.tables e below (T358.setTop (mkF m 19 #[.val (.ref a1), .val (.ref w_STYLES), .val (.int 5), .val (.int 2), .val (.ref w_UPPER_LETTER)] [])) _
  refine XS.aload X358.here hx rfl (hb hby d6_19) rfl rfl ?_
  show Steps p.tables e below (T358.setTop (mkF m 21 #[.val (.ref a1), .val (.ref w_STYLES), .val (.int 5), .val (.int 2), .val (.ref w_UPPER_LETTER)] [(.ref w_UPPER_LETTER)])) _
  exact k
 obtain ⟨T360, X360, e360, st360⟩ := getF X358 hx hZ hown (host := "") (Or.inl (hw _ (List.mem_of_getElem? (i := 36) rfl))) Via.refl q358_0 F_UPPER_LETTER_first (g := (mkF m 21 #[.val (.ref a1), .val (.ref w_STYLES), .val (.int 5), .val (.int 2), .val (.ref w_UPPER_LETTER)] [(.ref w_UPPER_LETTER)])) rfl rfl (hb hby d6_21)
 refine own_go st360 ?_
 refine own_go (B := T360.setTop (mkF m 25 #[.val (.ref a1), .val (.ref w_STYLES), .val (.int 5), .val (.int 2), .val (.ref w_UPPER_LETTER)] [(.ref a1), (.ref w_UPPER_LETTER_first)])) (fun t k => ?_) ?_
 ·refine XS.aloadN X360.here hx rfl (hb hby d6_24) rfl rfl ?_
  show Steps p.tables e below (T360.setTop (mkF m 25 #[.val (.ref a1), .val (.ref w_STYLES), .val (.int 5), .val (.int 2), .val (.ref w_UPPER_LETTER)] [(.ref a1), (.ref w_UPPER_LETTER_first)])) _
  exact k
 obtain ⟨cq361, kq361, q361a, q361b, q361c⟩ := isOf hZ e360 E_UPPER_LETTER_first
 obtain ⟨_, _, ⟨T361, L361, k361, n361⟩, -, X361, ⟨Lc361, hQ361, l361, y361, z361⟩, st361⟩ := X360.virtualBack hx (y := (⟨"java/lang/String", "equals", "(Ljava/lang/Object;)Z"⟩ : MethodName)) (z := (⟨"java/lang/String", "equals", "(Ljava/lang/Object;)Z"⟩ : MethodName)) hown (mvT hZ (hw _ (List.mem_of_getElem? (i := 38) rfl))) (mvT hZ (hw _ (List.mem_of_getElem? (i := 39) rfl))) (notFace_of_selects (args := #[]) (mvT hZ (hw _ (List.mem_of_getElem? (i := 41) rfl)))) (mvT hZ (hw _ (List.mem_of_getElem? (i := 41) rfl))) (mvT hZ (hw _ (List.mem_of_getElem? (i := 40) rfl))) (by decide) (backOf (W := 0) (rm7_1 l Z a0 hw [] w_UPPER_LETTER_first a1 w_COMPACT_STRINGS w_UPPER_LETTER_first_value vs k_UPPER_LETTER_first_value ks (65 : Int32) y0 h0 n0 Z0 S_COMPACT_STRINGS (N_COMPACT_STRINGS) E_s F_UPPER_LETTER_first_coder C_s F_UPPER_LETTER_first_value W_s V_UPPER_LETTER_first_value V_s ne_UPPER_LETTER) hZ (hw _ (List.mem_of_getElem? (i := 42) rfl)) (hw _ (List.mem_of_getElem? (i := 10) rfl)) (by decide) (by decide)) q361a q361c (g := (mkF m 25 #[.val (.ref a1), .val (.ref w_STYLES), .val (.int 5), .val (.int 2), .val (.ref w_UPPER_LETTER)] [(.ref a1), (.ref w_UPPER_LETTER_first)])) rfl (by rw [hml]; rfl) (Steps.refl _) (argsL := [(.ref a1)]) (rest := []) (lenOf pd_6 rfl) rfl (by show 2 * 0 + _ ≤ _; exact Nat.le_of_eq rfl) (hb hby d6_25) (fun _ _ => ⟨rfl, e360, (by decide : 0 + 0 ≤ _), (by decide : 0 + 0 ≤ _)⟩)
 dsimp only [Pt.U, Pt.locs, Pt.cells, Pt.slots] at X361 l361 y361 z361 st361 hQ361
 subst l361 y361 z361
 obtain ⟨rfl, M361, q361_0⟩ := hQ361
 have N361 := Fr.app N358 M361
 refine own_go (fun t k => st361.trans k) ?_
 refine own_go (B := T361.setTop (mkF m 16 #[.val (.ref a1), .val (.ref w_STYLES), .val (.int 5), .val (.int 3), .val (.ref w_UPPER_LETTER)] [(.int 3), (.ref w_STYLES)])) (fun t k => ?_) ?_
 ·refine XS.ifYes X361.here hx rfl (pc0 := 28) (pc' := 34) rfl (hb hby d6_28) rfl ((if0 _ _).trans (teq (show (if (65 : Int32) = y0 then (1 : Int32) else 0) = (0 : Int32) from (by rw [if_neg (show ¬ ((65 : Int32) = y0) from (by rw [hy]; decide))] <;> decide))).1) (by decide) (by decide) ?_
  show Steps p.tables e below (T361.setTop (mkF m 34 #[.val (.ref a1), .val (.ref w_STYLES), .val (.int 5), .val (.int 2), .val (.ref w_UPPER_LETTER)] [])) _
  refine XS.iinc X361.here hx rfl (hb hby d6_34) rfl (l' := #[.val (.ref a1), .val (.ref w_STYLES), .val (.int 5), .val (.int 3), .val (.ref w_UPPER_LETTER)]) rfl ?_
  show Steps p.tables e below (T361.setTop (mkF m 37 #[.val (.ref a1), .val (.ref w_STYLES), .val (.int 5), .val (.int 3), .val (.ref w_UPPER_LETTER)] [])) _
  refine XS.goto X361.here hx rfl (pc0 := 37) (pc' := 9) rfl (hb hby d6_37) (by decide) (by decide) ?_
  show Steps p.tables e below (T361.setTop (mkF m 9 #[.val (.ref a1), .val (.ref w_STYLES), .val (.int 5), .val (.int 3), .val (.ref w_UPPER_LETTER)] [])) _
  refine XS.iloadN X361.here hx rfl (hb hby d6_9) rfl ?_
  show Steps p.tables e below (T361.setTop (mkF m 10 #[.val (.ref a1), .val (.ref w_STYLES), .val (.int 5), .val (.int 3), .val (.ref w_UPPER_LETTER)] [(.int 3)])) _
  refine XS.iloadN X361.here hx rfl (hb hby d6_10) rfl ?_
  show Steps p.tables e below (T361.setTop (mkF m 11 #[.val (.ref a1), .val (.ref w_STYLES), .val (.int 5), .val (.int 3), .val (.ref w_UPPER_LETTER)] [(.int 5), (.int 3)])) _
  refine XS.icmpNo X361.here hx rfl (hb hby d6_11) rfl (tlt (by decide : (3 : Int32) < (5 : Int32))).2.1 ?_
  show Steps p.tables e below (T361.setTop (mkF m 14 #[.val (.ref a1), .val (.ref w_STYLES), .val (.int 5), .val (.int 3), .val (.ref w_UPPER_LETTER)] [])) _
  refine XS.aloadN X361.here hx rfl (hb hby d6_14) rfl rfl ?_
  show Steps p.tables e below (T361.setTop (mkF m 15 #[.val (.ref a1), .val (.ref w_STYLES), .val (.int 5), .val (.int 3), .val (.ref w_UPPER_LETTER)] [(.ref w_STYLES)])) _
  refine XS.iloadN X361.here hx rfl (hb hby d6_15) rfl ?_
  show Steps p.tables e below (T361.setTop (mkF m 16 #[.val (.ref a1), .val (.ref w_STYLES), .val (.int 5), .val (.int 3), .val (.ref w_UPPER_LETTER)] [(.int 3), (.ref w_STYLES)])) _
  exact k
 obtain ⟨cl362, Ar362, cq362, cS362, cN362, cH362, cG362⟩ := id V_STYLES
 have hin362 := inb_of (j := (3 : Int32)) cS362 ⟨by decide, by decide⟩
 have hat362 : cl362.slots[((3 : Int32)).toNatClampNeg]? = some (.ref w_LOWER_ROMAN) := Has.at cH362 hin362 rfl
 refine own_go (B := T361.setTop (mkF m 21 #[.val (.ref a1), .val (.ref w_STYLES), .val (.int 5), .val (.int 3), .val (.ref w_LOWER_ROMAN)] [(.ref w_LOWER_ROMAN)])) (fun t k => ?_) ?_
 ·refine X361.aaload hx (j := (3 : Int32)) (v := (.ref w_LOWER_ROMAN)) (by rw [q361_0]; exact Ar362.1) (State.isArrayOf_alike hZ.alike Ar362.2.1) rfl Ar362.2.2 hin362 hat362 (g := (mkF m 16 #[.val (.ref a1), .val (.ref w_STYLES), .val (.int 5), .val (.int 3), .val (.ref w_UPPER_LETTER)] [(.int 3), (.ref w_STYLES)])) rfl rfl (hb hby d6_16) _ ?_
  show Steps p.tables e below (T361.setTop (mkF m 17 #[.val (.ref a1), .val (.ref w_STYLES), .val (.int 5), .val (.int 3), .val (.ref w_UPPER_LETTER)] [(.ref w_LOWER_ROMAN)])) _
  refine XS.astore X361.here hx rfl (hb hby d6_17) rfl rfl (l' := #[.val (.ref a1), .val (.ref w_STYLES), .val (.int 5), .val (.int 3), .val (.ref w_LOWER_ROMAN)]) rfl ?_
  show Steps p.tables e below (T361.setTop (mkF m 19 #[.val (.ref a1), .val (.ref w_STYLES), .val (.int 5), .val (.int 3), .val (.ref w_LOWER_ROMAN)] [])) _
  refine XS.aload X361.here hx rfl (hb hby d6_19) rfl rfl ?_
  show Steps p.tables e below (T361.setTop (mkF m 21 #[.val (.ref a1), .val (.ref w_STYLES), .val (.int 5), .val (.int 3), .val (.ref w_LOWER_ROMAN)] [(.ref w_LOWER_ROMAN)])) _
  exact k
 obtain ⟨T363, X363, e363, st363⟩ := getF X361 hx hZ hown (host := "") (Or.inl (hw _ (List.mem_of_getElem? (i := 36) rfl))) Via.refl q361_0 F_LOWER_ROMAN_first (g := (mkF m 21 #[.val (.ref a1), .val (.ref w_STYLES), .val (.int 5), .val (.int 3), .val (.ref w_LOWER_ROMAN)] [(.ref w_LOWER_ROMAN)])) rfl rfl (hb hby d6_21)
 refine own_go st363 ?_
 refine own_go (B := T363.setTop (mkF m 25 #[.val (.ref a1), .val (.ref w_STYLES), .val (.int 5), .val (.int 3), .val (.ref w_LOWER_ROMAN)] [(.ref a1), (.ref w_LOWER_ROMAN_first)])) (fun t k => ?_) ?_
 ·refine XS.aloadN X363.here hx rfl (hb hby d6_24) rfl rfl ?_
  show Steps p.tables e below (T363.setTop (mkF m 25 #[.val (.ref a1), .val (.ref w_STYLES), .val (.int 5), .val (.int 3), .val (.ref w_LOWER_ROMAN)] [(.ref a1), (.ref w_LOWER_ROMAN_first)])) _
  exact k
 obtain ⟨cq364, kq364, q364a, q364b, q364c⟩ := isOf hZ e363 E_LOWER_ROMAN_first
 obtain ⟨_, _, ⟨T364, L364, k364, n364⟩, -, X364, ⟨Lc364, hQ364, l364, y364, z364⟩, st364⟩ := X363.virtualBack hx (y := (⟨"java/lang/String", "equals", "(Ljava/lang/Object;)Z"⟩ : MethodName)) (z := (⟨"java/lang/String", "equals", "(Ljava/lang/Object;)Z"⟩ : MethodName)) hown (mvT hZ (hw _ (List.mem_of_getElem? (i := 38) rfl))) (mvT hZ (hw _ (List.mem_of_getElem? (i := 39) rfl))) (notFace_of_selects (args := #[]) (mvT hZ (hw _ (List.mem_of_getElem? (i := 41) rfl)))) (mvT hZ (hw _ (List.mem_of_getElem? (i := 41) rfl))) (mvT hZ (hw _ (List.mem_of_getElem? (i := 40) rfl))) (by decide) (backOf (W := 0) (rm7_1 l Z a0 hw [] w_LOWER_ROMAN_first a1 w_COMPACT_STRINGS w_LOWER_ROMAN_first_value vs k_LOWER_ROMAN_first_value ks (105 : Int32) y0 h0 n0 Z0 S_COMPACT_STRINGS (N_COMPACT_STRINGS) E_s F_LOWER_ROMAN_first_coder C_s F_LOWER_ROMAN_first_value W_s V_LOWER_ROMAN_first_value V_s ne_LOWER_ROMAN) hZ (hw _ (List.mem_of_getElem? (i := 42) rfl)) (hw _ (List.mem_of_getElem? (i := 10) rfl)) (by decide) (by decide)) q364a q364c (g := (mkF m 25 #[.val (.ref a1), .val (.ref w_STYLES), .val (.int 5), .val (.int 3), .val (.ref w_LOWER_ROMAN)] [(.ref a1), (.ref w_LOWER_ROMAN_first)])) rfl (by rw [hml]; rfl) (Steps.refl _) (argsL := [(.ref a1)]) (rest := []) (lenOf pd_6 rfl) rfl (by show 2 * 0 + _ ≤ _; exact Nat.le_of_eq rfl) (hb hby d6_25) (fun _ _ => ⟨rfl, e363, (by decide : 0 + 0 ≤ _), (by decide : 0 + 0 ≤ _)⟩)
 dsimp only [Pt.U, Pt.locs, Pt.cells, Pt.slots] at X364 l364 y364 z364 st364 hQ364
 subst l364 y364 z364
 obtain ⟨rfl, M364, q364_0⟩ := hQ364
 have N364 := Fr.app N361 M364
 refine own_go (fun t k => st364.trans k) ?_
 refine own_go (B := T364.setTop (mkF m 33 #[.val (.ref a1), .val (.ref w_STYLES), .val (.int 5), .val (.int 3), .val (.ref w_LOWER_ROMAN)] [(.ref w_LOWER_ROMAN)])) (fun t k => ?_) ?_
 ·refine XS.ifNo X364.here hx rfl (hb hby d6_28) rfl ((if0 _ _).trans (feq (show ¬ ((if (105 : Int32) = y0 then (1 : Int32) else 0) = (0 : Int32)) from (by rw [if_pos (show (105 : Int32) = y0 from hy.symm)] <;> decide))).1) ?_
  show Steps p.tables e below (T364.setTop (mkF m 31 #[.val (.ref a1), .val (.ref w_STYLES), .val (.int 5), .val (.int 3), .val (.ref w_LOWER_ROMAN)] [])) _
  refine XS.aload X364.here hx rfl (hb hby d6_31) rfl rfl ?_
  show Steps p.tables e below (T364.setTop (mkF m 33 #[.val (.ref a1), .val (.ref w_STYLES), .val (.int 5), .val (.int 3), .val (.ref w_LOWER_ROMAN)] [(.ref w_LOWER_ROMAN)])) _
  exact k
 obtain ⟨fs, hr, hrun, hended, hW, hsame⟩ := X364.leave (v := some (.ref w_LOWER_ROMAN)) (fun h => by rw [Bd.returns] at h; cases h)
 refine ⟨_, _, ?_, hrun, hended, _, _, rfl, ?_, ⟨_, rfl⟩, hW, hsame.mono (by decide) (by decide)⟩
 ·exact own_retR X364 hx Bd.returns rfl rfl (hb hby d6_33) hr
 ·show Q6_1c3 Z a1 w_STYLES w_NUMBER w_NUMBER_first w_NUMBER_first_value w_LOWER_LETTER w_LOWER_LETTER_first w_LOWER_LETTER_first_value w_UPPER_LETTER w_UPPER_LETTER_first w_UPPER_LETTER_first_value w_LOWER_ROMAN w_LOWER_ROMAN_first w_LOWER_ROMAN_first_value w_UPPER_ROMAN w_UPPER_ROMAN_first w_UPPER_ROMAN_first_value w_COMPACT_STRINGS k_STYLES k_NUMBER_first_value k_LOWER_LETTER_first_value k_UPPER_LETTER_first_value k_LOWER_ROMAN_first_value k_UPPER_ROMAN_first_value vs ks y0 h0 n0 _ T364.heap _
  rw [q364_0]
  exact ⟨rfl, N364, rfl⟩
theorem ef_6_1c4 (m : MethodId) (a1 : Addr) : entryFrame m #[(.ref a1)] 5 = mkF m 0 #[.val (.ref a1), .unset, .unset, .unset, .unset] [] := by first | (simp [entryFrame, mkF, argsToLocals, Value.category]; done) | rfl
def Q6_1c4 (Z : State) (a1 : Addr) (w_STYLES : Addr) (w_NUMBER : Addr) (w_NUMBER_first : Addr) (w_NUMBER_first_value : Addr) (w_LOWER_LETTER : Addr) (w_LOWER_LETTER_first : Addr) (w_LOWER_LETTER_first_value : Addr) (w_UPPER_LETTER : Addr) (w_UPPER_LETTER_first : Addr) (w_UPPER_LETTER_first_value : Addr) (w_LOWER_ROMAN : Addr) (w_LOWER_ROMAN_first : Addr) (w_LOWER_ROMAN_first_value : Addr) (w_UPPER_ROMAN : Addr) (w_UPPER_ROMAN_first : Addr) (w_UPPER_ROMAN_first_value : Addr) (w_COMPACT_STRINGS : Int32) (k_STYLES : ClassId) (k_NUMBER_first_value : ClassId) (k_LOWER_LETTER_first_value : ClassId) (k_UPPER_LETTER_first_value : ClassId) (k_LOWER_ROMAN_first_value : ClassId) (k_UPPER_ROMAN_first_value : ClassId) (vs : Addr) (ks : ClassId) (y0 : Int32) (h0 : Heap) (n0 : Nat) (v : Option Value) (h : Heap) (L : List Loc) : Prop := v = some (.ref w_UPPER_ROMAN) ∧ Fr n0 L ∧ h = h0
set_option maxRecDepth 65536 in
set_option maxHeartbeats 40000000 in
theorem rm6_1c4 (l : Launch) (Z : State) (a0 : Array Value) (hw : ∀ d ∈ tables_1, d.before a0 Z = true) (ws : List Jvm.Cond) (a1 : Addr) (w_STYLES : Addr) (w_NUMBER : Addr) (w_NUMBER_first : Addr) (w_NUMBER_first_value : Addr) (w_LOWER_LETTER : Addr) (w_LOWER_LETTER_first : Addr) (w_LOWER_LETTER_first_value : Addr) (w_UPPER_LETTER : Addr) (w_UPPER_LETTER_first : Addr) (w_UPPER_LETTER_first_value : Addr) (w_LOWER_ROMAN : Addr) (w_LOWER_ROMAN_first : Addr) (w_LOWER_ROMAN_first_value : Addr) (w_UPPER_ROMAN : Addr) (w_UPPER_ROMAN_first : Addr) (w_UPPER_ROMAN_first_value : Addr) (w_COMPACT_STRINGS : Int32) (k_STYLES : ClassId) (k_NUMBER_first_value : ClassId) (k_LOWER_LETTER_first_value : ClassId) (k_UPPER_LETTER_first_value : ClassId) (k_LOWER_ROMAN_first_value : ClassId) (k_UPPER_ROMAN_first_value : ClassId) (vs : Addr) (ks : ClassId) (y0 : Int32) (h0 : Heap) (n0 : Nat) (Z0 : n0 ≤ h0.size) (S_STYLES : Sta Z h0 "com/example/restate/restate/MarkerStyle" "STYLES" "[Lcom/example/restate/restate/MarkerStyle;" (.ref w_STYLES)) (S_NUMBER : Sta Z h0 "com/example/restate/restate/MarkerStyle" "NUMBER" "Lcom/example/restate/restate/MarkerStyle;" (.ref w_NUMBER)) (E_NUMBER : Exa Z h0 w_NUMBER "com/example/restate/restate/MarkerStyle") (F_NUMBER_first : Fld Z h0 w_NUMBER "com/example/restate/restate/MarkerStyle" "first" "Ljava/lang/String;" (.ref w_NUMBER_first)) (E_NUMBER_first : Exa Z h0 w_NUMBER_first "java/lang/String") (F_NUMBER_first_value : Fld Z h0 w_NUMBER_first "java/lang/String" "value" "[B" (.ref w_NUMBER_first_value)) (S_LOWER_LETTER : Sta Z h0 "com/example/restate/restate/MarkerStyle" "LOWER_LETTER" "Lcom/example/restate/restate/MarkerStyle;" (.ref w_LOWER_LETTER)) (E_LOWER_LETTER : Exa Z h0 w_LOWER_LETTER "com/example/restate/restate/MarkerStyle") (F_LOWER_LETTER_first : Fld Z h0 w_LOWER_LETTER "com/example/restate/restate/MarkerStyle" "first" "Ljava/lang/String;" (.ref w_LOWER_LETTER_first)) (E_LOWER_LETTER_first : Exa Z h0 w_LOWER_LETTER_first "java/lang/String") (F_LOWER_LETTER_first_value : Fld Z h0 w_LOWER_LETTER_first "java/lang/String" "value" "[B" (.ref w_LOWER_LETTER_first_value)) (S_UPPER_LETTER : Sta Z h0 "com/example/restate/restate/MarkerStyle" "UPPER_LETTER" "Lcom/example/restate/restate/MarkerStyle;" (.ref w_UPPER_LETTER)) (E_UPPER_LETTER : Exa Z h0 w_UPPER_LETTER "com/example/restate/restate/MarkerStyle") (F_UPPER_LETTER_first : Fld Z h0 w_UPPER_LETTER "com/example/restate/restate/MarkerStyle" "first" "Ljava/lang/String;" (.ref w_UPPER_LETTER_first)) (E_UPPER_LETTER_first : Exa Z h0 w_UPPER_LETTER_first "java/lang/String") (F_UPPER_LETTER_first_value : Fld Z h0 w_UPPER_LETTER_first "java/lang/String" "value" "[B" (.ref w_UPPER_LETTER_first_value)) (S_LOWER_ROMAN : Sta Z h0 "com/example/restate/restate/MarkerStyle" "LOWER_ROMAN" "Lcom/example/restate/restate/MarkerStyle;" (.ref w_LOWER_ROMAN)) (E_LOWER_ROMAN : Exa Z h0 w_LOWER_ROMAN "com/example/restate/restate/MarkerStyle") (F_LOWER_ROMAN_first : Fld Z h0 w_LOWER_ROMAN "com/example/restate/restate/MarkerStyle" "first" "Ljava/lang/String;" (.ref w_LOWER_ROMAN_first)) (E_LOWER_ROMAN_first : Exa Z h0 w_LOWER_ROMAN_first "java/lang/String") (F_LOWER_ROMAN_first_value : Fld Z h0 w_LOWER_ROMAN_first "java/lang/String" "value" "[B" (.ref w_LOWER_ROMAN_first_value)) (S_UPPER_ROMAN : Sta Z h0 "com/example/restate/restate/MarkerStyle" "UPPER_ROMAN" "Lcom/example/restate/restate/MarkerStyle;" (.ref w_UPPER_ROMAN)) (E_UPPER_ROMAN : Exa Z h0 w_UPPER_ROMAN "com/example/restate/restate/MarkerStyle") (F_UPPER_ROMAN_first : Fld Z h0 w_UPPER_ROMAN "com/example/restate/restate/MarkerStyle" "first" "Ljava/lang/String;" (.ref w_UPPER_ROMAN_first)) (E_UPPER_ROMAN_first : Exa Z h0 w_UPPER_ROMAN_first "java/lang/String") (F_UPPER_ROMAN_first_value : Fld Z h0 w_UPPER_ROMAN_first "java/lang/String" "value" "[B" (.ref w_UPPER_ROMAN_first_value)) (S_COMPACT_STRINGS : Sta Z h0 "java/lang/String" "COMPACT_STRINGS" "Z" (.int w_COMPACT_STRINGS)) (F_NUMBER_first_coder : Fld Z h0 w_NUMBER_first "java/lang/String" "coder" "B" (.int 0)) (F_LOWER_LETTER_first_coder : Fld Z h0 w_LOWER_LETTER_first "java/lang/String" "coder" "B" (.int 0)) (F_UPPER_LETTER_first_coder : Fld Z h0 w_UPPER_LETTER_first "java/lang/String" "coder" "B" (.int 0)) (F_LOWER_ROMAN_first_coder : Fld Z h0 w_LOWER_ROMAN_first "java/lang/String" "coder" "B" (.int 0)) (F_UPPER_ROMAN_first_coder : Fld Z h0 w_UPPER_ROMAN_first "java/lang/String" "coder" "B" (.int 0)) (N_COMPACT_STRINGS : ¬ w_COMPACT_STRINGS = (0 : Int32)) (V_STYLES : Arv Z h0 w_STYLES k_STYLES (.object "com/example/restate/restate/MarkerStyle") (5 : Int32) [(.ref w_NUMBER), (.ref w_LOWER_LETTER), (.ref w_UPPER_LETTER), (.ref w_LOWER_ROMAN), (.ref w_UPPER_ROMAN)] .null) (V_NUMBER_first_value : Arv Z h0 w_NUMBER_first_value k_NUMBER_first_value .byte (1 : Int32) [(.int 49)] (.int 0)) (V_LOWER_LETTER_first_value : Arv Z h0 w_LOWER_LETTER_first_value k_LOWER_LETTER_first_value .byte (1 : Int32) [(.int 97)] (.int 0)) (V_UPPER_LETTER_first_value : Arv Z h0 w_UPPER_LETTER_first_value k_UPPER_LETTER_first_value .byte (1 : Int32) [(.int 65)] (.int 0)) (V_LOWER_ROMAN_first_value : Arv Z h0 w_LOWER_ROMAN_first_value k_LOWER_ROMAN_first_value .byte (1 : Int32) [(.int 105)] (.int 0)) (V_UPPER_ROMAN_first_value : Arv Z h0 w_UPPER_ROMAN_first_value k_UPPER_ROMAN_first_value .byte (1 : Int32) [(.int 73)] (.int 0)) (E_s : Exa Z h0 a1 "java/lang/String") (C_s : Fld Z h0 a1 "java/lang/String" "coder" "B" (.int 0)) (W_s : Fld Z h0 a1 "java/lang/String" "value" "[B" (.ref vs)) (V_s : Arv Z h0 vs ks .byte (1 : Int32) [(.int y0)] (.int 0)) (ne_NUMBER : w_NUMBER_first ≠ a1) (ne_LOWER_LETTER : w_LOWER_LETTER_first ≠ a1) (ne_UPPER_LETTER : w_UPPER_LETTER_first ≠ a1) (ne_LOWER_ROMAN : w_LOWER_ROMAN_first ≠ a1) (ne_UPPER_ROMAN : w_UPPER_ROMAN_first ≠ a1) (hy : y0 = (73 : Int32)) :
  MetFree l (⟨"com/example/restate/restate/MarkerStyle", "openedBy", "(Ljava/lang/String;)Lcom/example/restate/restate/MarkerStyle;"⟩ : MethodName) (head1 (Jvm.Cond.code (⟨"com/example/restate/restate/MarkerStyle", "openedBy", "(Ljava/lang/String;)Lcom/example/restate/restate/MarkerStyle;"⟩ : MethodName) prog_61_method_5_code 5 (some (.object "com/example/restate/restate/MarkerStyle")) :: ws) ({ frames := 2, cells := 0, slots := 0, locals := 28 } : Room)) (fun a U => a = #[(.ref a1)] ∧ Z.Warmed39 U.vm ∧ U.heap = h0) (fun _ _ _ _ _ => True) (fun _ U o U' => ∃ v L, o = .returned v ∧ Q6_1c4 Z a1 w_STYLES w_NUMBER w_NUMBER_first w_NUMBER_first_value w_LOWER_LETTER w_LOWER_LETTER_first w_LOWER_LETTER_first_value w_UPPER_LETTER w_UPPER_LETTER_first w_UPPER_LETTER_first_value w_LOWER_ROMAN w_LOWER_ROMAN_first w_LOWER_ROMAN_first_value w_UPPER_ROMAN w_UPPER_ROMAN_first w_UPPER_ROMAN_first_value w_COMPACT_STRINGS k_STYLES k_NUMBER_first_value k_LOWER_LETTER_first_value k_UPPER_LETTER_first_value k_LOWER_ROMAN_first_value k_UPPER_ROMAN_first_value vs ks y0 h0 n0 v U'.heap L ∧ FrameEnd U o U' L ({ frames := 2, cells := 0, slots := 0, locals := 28 } : Room).cells ({ frames := 2, cells := 0, slots := 0, locals := 28 } : Room).slots) := by
 refine MetFree.of_bodySF (plainFor_of_name pn_268) hisR ?_
 intro p e s m args below meth c s₁ Bd hml0 hP hK
 obtain ⟨rfl, hZ, hh⟩ := hP
 have hx := Bd.exec
 have hby := Bd.bytes
 have hml : c.maxLocals = 5 := hml0
 have hown : s.vm.findClass "com/example/restate/restate/MarkerStyle" = some m.cls := findClass_of_methodNamed Bd.named
 have hnm := (name_of_methodNamed Bd.named Bd.method).1
 have X0 : Stand p l e ({ frames := 2, cells := 0, slots := 0, locals := 28 } : Room) s m #[(.ref a1)] below meth c s₁ [] 0 0 := Stand.of_body Bd
 have e0 : s₁.heap = h0 := by rw [← hh, Bd.state]; rfl
 have N0 := Fr.nil n0
 refine own_go (B := s₁.setTop (mkF m 0 #[.val (.ref a1), .unset, .unset, .unset, .unset] [])) (fun t k => castTop (ef_6_1c4 m a1) k) ?_
 obtain ⟨T366, X366, e366, st366⟩ := getS2 X0 hx hZ hown (host := "") (Or.inl (hw _ (List.mem_of_getElem? (i := 33) rfl))) Via.refl e0 S_STYLES (g := (mkF m 0 #[.val (.ref a1), .unset, .unset, .unset, .unset] [])) rfl (hb hby d6_0)
 refine own_go st366 ?_
 refine own_go (B := T366.setTop (mkF m 5 #[.val (.ref a1), .val (.ref w_STYLES), .unset, .unset, .unset] [(.ref w_STYLES)])) (fun t k => ?_) ?_
 ·refine XS.astoreN X366.here hx rfl (hb hby d6_3) rfl rfl (l' := #[.val (.ref a1), .val (.ref w_STYLES), .unset, .unset, .unset]) rfl ?_
  show Steps p.tables e below (T366.setTop (mkF m 4 #[.val (.ref a1), .val (.ref w_STYLES), .unset, .unset, .unset] [])) _
  refine XS.aloadN X366.here hx rfl (hb hby d6_4) rfl rfl ?_
  show Steps p.tables e below (T366.setTop (mkF m 5 #[.val (.ref a1), .val (.ref w_STYLES), .unset, .unset, .unset] [(.ref w_STYLES)])) _
  exact k
 obtain ⟨cl367, Ar367, cq367, cS367, cN367, cH367, cG367⟩ := id V_STYLES
 refine own_go (B := T366.setTop (mkF m 16 #[.val (.ref a1), .val (.ref w_STYLES), .val (.int 5), .val (.int 0), .unset] [(.int 0), (.ref w_STYLES)])) (fun t k => ?_) ?_
 ·refine X366.arraylength hx (by rw [e366]; exact Ar367.1) (State.isArrayOf_alike hZ.alike Ar367.2.1) (g := (mkF m 5 #[.val (.ref a1), .val (.ref w_STYLES), .unset, .unset, .unset] [(.ref w_STYLES)])) rfl rfl (hb hby d6_5) _ ?_
  rw [len_of cS367 cN367]
  show Steps p.tables e below (T366.setTop (mkF m 6 #[.val (.ref a1), .val (.ref w_STYLES), .unset, .unset, .unset] [(.int 5)])) _
  refine XS.istoreN X366.here hx rfl (hb hby d6_6) rfl (l' := #[.val (.ref a1), .val (.ref w_STYLES), .val (.int 5), .unset, .unset]) rfl ?_
  show Steps p.tables e below (T366.setTop (mkF m 7 #[.val (.ref a1), .val (.ref w_STYLES), .val (.int 5), .unset, .unset] [])) _
  refine XS.iconst X366.here hx rfl (hb hby d6_7) ?_
  show Steps p.tables e below (T366.setTop (mkF m 8 #[.val (.ref a1), .val (.ref w_STYLES), .val (.int 5), .unset, .unset] [(.int 0)])) _
  refine XS.istoreN X366.here hx rfl (hb hby d6_8) rfl (l' := #[.val (.ref a1), .val (.ref w_STYLES), .val (.int 5), .val (.int 0), .unset]) rfl ?_
  show Steps p.tables e below (T366.setTop (mkF m 9 #[.val (.ref a1), .val (.ref w_STYLES), .val (.int 5), .val (.int 0), .unset] [])) _
  refine XS.iloadN X366.here hx rfl (hb hby d6_9) rfl ?_
  show Steps p.tables e below (T366.setTop (mkF m 10 #[.val (.ref a1), .val (.ref w_STYLES), .val (.int 5), .val (.int 0), .unset] [(.int 0)])) _
  refine XS.iloadN X366.here hx rfl (hb hby d6_10) rfl ?_
  show Steps p.tables e below (T366.setTop (mkF m 11 #[.val (.ref a1), .val (.ref w_STYLES), .val (.int 5), .val (.int 0), .unset] [(.int 5), (.int 0)])) _
  refine XS.icmpNo X366.here hx rfl (hb hby d6_11) rfl (tlt (by decide : (0 : Int32) < (5 : Int32))).2.1 ?_
  show Steps p.tables e below (T366.setTop (mkF m 14 #[.val (.ref a1), .val (.ref w_STYLES), .val (.int 5), .val (.int 0), .unset] [])) _
  refine XS.aloadN X366.here hx rfl (hb hby d6_14) rfl rfl ?_
  show Steps p.tables e below (T366.setTop (mkF m 15 #[.val (.ref a1), .val (.ref w_STYLES), .val (.int 5), .val (.int 0), .unset] [(.ref w_STYLES)])) _
  refine XS.iloadN X366.here hx rfl (hb hby d6_15) rfl ?_
  show Steps p.tables e below (T366.setTop (mkF m 16 #[.val (.ref a1), .val (.ref w_STYLES), .val (.int 5), .val (.int 0), .unset] [(.int 0), (.ref w_STYLES)])) _
  exact k
 obtain ⟨cl368, Ar368, cq368, cS368, cN368, cH368, cG368⟩ := id V_STYLES
 have hin368 := inb_of (j := (0 : Int32)) cS368 ⟨by decide, by decide⟩
 have hat368 : cl368.slots[((0 : Int32)).toNatClampNeg]? = some (.ref w_NUMBER) := Has.at cH368 hin368 rfl
 refine own_go (B := T366.setTop (mkF m 21 #[.val (.ref a1), .val (.ref w_STYLES), .val (.int 5), .val (.int 0), .val (.ref w_NUMBER)] [(.ref w_NUMBER)])) (fun t k => ?_) ?_
 ·refine X366.aaload hx (j := (0 : Int32)) (v := (.ref w_NUMBER)) (by rw [e366]; exact Ar368.1) (State.isArrayOf_alike hZ.alike Ar368.2.1) rfl Ar368.2.2 hin368 hat368 (g := (mkF m 16 #[.val (.ref a1), .val (.ref w_STYLES), .val (.int 5), .val (.int 0), .unset] [(.int 0), (.ref w_STYLES)])) rfl rfl (hb hby d6_16) _ ?_
  show Steps p.tables e below (T366.setTop (mkF m 17 #[.val (.ref a1), .val (.ref w_STYLES), .val (.int 5), .val (.int 0), .unset] [(.ref w_NUMBER)])) _
  refine XS.astore X366.here hx rfl (hb hby d6_17) rfl rfl (l' := #[.val (.ref a1), .val (.ref w_STYLES), .val (.int 5), .val (.int 0), .val (.ref w_NUMBER)]) rfl ?_
  show Steps p.tables e below (T366.setTop (mkF m 19 #[.val (.ref a1), .val (.ref w_STYLES), .val (.int 5), .val (.int 0), .val (.ref w_NUMBER)] [])) _
  refine XS.aload X366.here hx rfl (hb hby d6_19) rfl rfl ?_
  show Steps p.tables e below (T366.setTop (mkF m 21 #[.val (.ref a1), .val (.ref w_STYLES), .val (.int 5), .val (.int 0), .val (.ref w_NUMBER)] [(.ref w_NUMBER)])) _
  exact k
 obtain ⟨T369, X369, e369, st369⟩ := getF X366 hx hZ hown (host := "") (Or.inl (hw _ (List.mem_of_getElem? (i := 36) rfl))) Via.refl e366 F_NUMBER_first (g := (mkF m 21 #[.val (.ref a1), .val (.ref w_STYLES), .val (.int 5), .val (.int 0), .val (.ref w_NUMBER)] [(.ref w_NUMBER)])) rfl rfl (hb hby d6_21)
 refine own_go st369 ?_
 refine own_go (B := T369.setTop (mkF m 25 #[.val (.ref a1), .val (.ref w_STYLES), .val (.int 5), .val (.int 0), .val (.ref w_NUMBER)] [(.ref a1), (.ref w_NUMBER_first)])) (fun t k => ?_) ?_
 ·refine XS.aloadN X369.here hx rfl (hb hby d6_24) rfl rfl ?_
  show Steps p.tables e below (T369.setTop (mkF m 25 #[.val (.ref a1), .val (.ref w_STYLES), .val (.int 5), .val (.int 0), .val (.ref w_NUMBER)] [(.ref a1), (.ref w_NUMBER_first)])) _
  exact k
 obtain ⟨cq370, kq370, q370a, q370b, q370c⟩ := isOf hZ e369 E_NUMBER_first
 obtain ⟨_, _, ⟨T370, L370, k370, n370⟩, -, X370, ⟨Lc370, hQ370, l370, y370, z370⟩, st370⟩ := X369.virtualBack hx (y := (⟨"java/lang/String", "equals", "(Ljava/lang/Object;)Z"⟩ : MethodName)) (z := (⟨"java/lang/String", "equals", "(Ljava/lang/Object;)Z"⟩ : MethodName)) hown (mvT hZ (hw _ (List.mem_of_getElem? (i := 38) rfl))) (mvT hZ (hw _ (List.mem_of_getElem? (i := 39) rfl))) (notFace_of_selects (args := #[]) (mvT hZ (hw _ (List.mem_of_getElem? (i := 41) rfl)))) (mvT hZ (hw _ (List.mem_of_getElem? (i := 41) rfl))) (mvT hZ (hw _ (List.mem_of_getElem? (i := 40) rfl))) (by decide) (backOf (W := 0) (rm7_1 l Z a0 hw [] w_NUMBER_first a1 w_COMPACT_STRINGS w_NUMBER_first_value vs k_NUMBER_first_value ks (49 : Int32) y0 h0 n0 Z0 S_COMPACT_STRINGS (N_COMPACT_STRINGS) E_s F_NUMBER_first_coder C_s F_NUMBER_first_value W_s V_NUMBER_first_value V_s ne_NUMBER) hZ (hw _ (List.mem_of_getElem? (i := 42) rfl)) (hw _ (List.mem_of_getElem? (i := 10) rfl)) (by decide) (by decide)) q370a q370c (g := (mkF m 25 #[.val (.ref a1), .val (.ref w_STYLES), .val (.int 5), .val (.int 0), .val (.ref w_NUMBER)] [(.ref a1), (.ref w_NUMBER_first)])) rfl (by rw [hml]; rfl) (Steps.refl _) (argsL := [(.ref a1)]) (rest := []) (lenOf pd_6 rfl) rfl (by show 2 * 0 + _ ≤ _; exact Nat.le_of_eq rfl) (hb hby d6_25) (fun _ _ => ⟨rfl, e369, (by decide : 0 + 0 ≤ _), (by decide : 0 + 0 ≤ _)⟩)
 dsimp only [Pt.U, Pt.locs, Pt.cells, Pt.slots] at X370 l370 y370 z370 st370 hQ370
 subst l370 y370 z370
 obtain ⟨rfl, M370, q370_0⟩ := hQ370
 have N370 := Fr.app N0 M370
 refine own_go (fun t k => st370.trans k) ?_
 refine own_go (B := T370.setTop (mkF m 16 #[.val (.ref a1), .val (.ref w_STYLES), .val (.int 5), .val (.int 1), .val (.ref w_NUMBER)] [(.int 1), (.ref w_STYLES)])) (fun t k => ?_) ?_
 ·refine XS.ifYes X370.here hx rfl (pc0 := 28) (pc' := 34) rfl (hb hby d6_28) rfl ((if0 _ _).trans (teq (show (if (49 : Int32) = y0 then (1 : Int32) else 0) = (0 : Int32) from (by rw [if_neg (show ¬ ((49 : Int32) = y0) from (by rw [hy]; decide))] <;> decide))).1) (by decide) (by decide) ?_
  show Steps p.tables e below (T370.setTop (mkF m 34 #[.val (.ref a1), .val (.ref w_STYLES), .val (.int 5), .val (.int 0), .val (.ref w_NUMBER)] [])) _
  refine XS.iinc X370.here hx rfl (hb hby d6_34) rfl (l' := #[.val (.ref a1), .val (.ref w_STYLES), .val (.int 5), .val (.int 1), .val (.ref w_NUMBER)]) rfl ?_
  show Steps p.tables e below (T370.setTop (mkF m 37 #[.val (.ref a1), .val (.ref w_STYLES), .val (.int 5), .val (.int 1), .val (.ref w_NUMBER)] [])) _
  refine XS.goto X370.here hx rfl (pc0 := 37) (pc' := 9) rfl (hb hby d6_37) (by decide) (by decide) ?_
  show Steps p.tables e below (T370.setTop (mkF m 9 #[.val (.ref a1), .val (.ref w_STYLES), .val (.int 5), .val (.int 1), .val (.ref w_NUMBER)] [])) _
  refine XS.iloadN X370.here hx rfl (hb hby d6_9) rfl ?_
  show Steps p.tables e below (T370.setTop (mkF m 10 #[.val (.ref a1), .val (.ref w_STYLES), .val (.int 5), .val (.int 1), .val (.ref w_NUMBER)] [(.int 1)])) _
  refine XS.iloadN X370.here hx rfl (hb hby d6_10) rfl ?_
  show Steps p.tables e below (T370.setTop (mkF m 11 #[.val (.ref a1), .val (.ref w_STYLES), .val (.int 5), .val (.int 1), .val (.ref w_NUMBER)] [(.int 5), (.int 1)])) _
  refine XS.icmpNo X370.here hx rfl (hb hby d6_11) rfl (tlt (by decide : (1 : Int32) < (5 : Int32))).2.1 ?_
  show Steps p.tables e below (T370.setTop (mkF m 14 #[.val (.ref a1), .val (.ref w_STYLES), .val (.int 5), .val (.int 1), .val (.ref w_NUMBER)] [])) _
  refine XS.aloadN X370.here hx rfl (hb hby d6_14) rfl rfl ?_
  show Steps p.tables e below (T370.setTop (mkF m 15 #[.val (.ref a1), .val (.ref w_STYLES), .val (.int 5), .val (.int 1), .val (.ref w_NUMBER)] [(.ref w_STYLES)])) _
  refine XS.iloadN X370.here hx rfl (hb hby d6_15) rfl ?_
  show Steps p.tables e below (T370.setTop (mkF m 16 #[.val (.ref a1), .val (.ref w_STYLES), .val (.int 5), .val (.int 1), .val (.ref w_NUMBER)] [(.int 1), (.ref w_STYLES)])) _
  exact k
 obtain ⟨cl371, Ar371, cq371, cS371, cN371, cH371, cG371⟩ := id V_STYLES
 have hin371 := inb_of (j := (1 : Int32)) cS371 ⟨by decide, by decide⟩
 have hat371 : cl371.slots[((1 : Int32)).toNatClampNeg]? = some (.ref w_LOWER_LETTER) := Has.at cH371 hin371 rfl
 refine own_go (B := T370.setTop (mkF m 21 #[.val (.ref a1), .val (.ref w_STYLES), .val (.int 5), .val (.int 1), .val (.ref w_LOWER_LETTER)] [(.ref w_LOWER_LETTER)])) (fun t k => ?_) ?_
 ·refine X370.aaload hx (j := (1 : Int32)) (v := (.ref w_LOWER_LETTER)) (by rw [q370_0]; exact Ar371.1) (State.isArrayOf_alike hZ.alike Ar371.2.1) rfl Ar371.2.2 hin371 hat371 (g := (mkF m 16 #[.val (.ref a1), .val (.ref w_STYLES), .val (.int 5), .val (.int 1), .val (.ref w_NUMBER)] [(.int 1), (.ref w_STYLES)])) rfl rfl (hb hby d6_16) _ ?_
  show Steps p.tables e below (T370.setTop (mkF m 17 #[.val (.ref a1), .val (.ref w_STYLES), .val (.int 5), .val (.int 1), .val (.ref w_NUMBER)] [(.ref w_LOWER_LETTER)])) _
  refine XS.astore X370.here hx rfl (hb hby d6_17) rfl rfl (l' := #[.val (.ref a1), .val (.ref w_STYLES), .val (.int 5), .val (.int 1), .val (.ref w_LOWER_LETTER)]) rfl ?_
  show Steps p.tables e below (T370.setTop (mkF m 19 #[.val (.ref a1), .val (.ref w_STYLES), .val (.int 5), .val (.int 1), .val (.ref w_LOWER_LETTER)] [])) _
  refine XS.aload X370.here hx rfl (hb hby d6_19) rfl rfl ?_
  show Steps p.tables e below (T370.setTop (mkF m 21 #[.val (.ref a1), .val (.ref w_STYLES), .val (.int 5), .val (.int 1), .val (.ref w_LOWER_LETTER)] [(.ref w_LOWER_LETTER)])) _
  exact k
 obtain ⟨T372, X372, e372, st372⟩ := getF X370 hx hZ hown (host := "") (Or.inl (hw _ (List.mem_of_getElem? (i := 36) rfl))) Via.refl q370_0 F_LOWER_LETTER_first (g := (mkF m 21 #[.val (.ref a1), .val (.ref w_STYLES), .val (.int 5), .val (.int 1), .val (.ref w_LOWER_LETTER)] [(.ref w_LOWER_LETTER)])) rfl rfl (hb hby d6_21)
 refine own_go st372 ?_
 refine own_go (B := T372.setTop (mkF m 25 #[.val (.ref a1), .val (.ref w_STYLES), .val (.int 5), .val (.int 1), .val (.ref w_LOWER_LETTER)] [(.ref a1), (.ref w_LOWER_LETTER_first)])) (fun t k => ?_) ?_
 ·refine XS.aloadN X372.here hx rfl (hb hby d6_24) rfl rfl ?_
  show Steps p.tables e below (T372.setTop (mkF m 25 #[.val (.ref a1), .val (.ref w_STYLES), .val (.int 5), .val (.int 1), .val (.ref w_LOWER_LETTER)] [(.ref a1), (.ref w_LOWER_LETTER_first)])) _
  exact k
 obtain ⟨cq373, kq373, q373a, q373b, q373c⟩ := isOf hZ e372 E_LOWER_LETTER_first
 obtain ⟨_, _, ⟨T373, L373, k373, n373⟩, -, X373, ⟨Lc373, hQ373, l373, y373, z373⟩, st373⟩ := X372.virtualBack hx (y := (⟨"java/lang/String", "equals", "(Ljava/lang/Object;)Z"⟩ : MethodName)) (z := (⟨"java/lang/String", "equals", "(Ljava/lang/Object;)Z"⟩ : MethodName)) hown (mvT hZ (hw _ (List.mem_of_getElem? (i := 38) rfl))) (mvT hZ (hw _ (List.mem_of_getElem? (i := 39) rfl))) (notFace_of_selects (args := #[]) (mvT hZ (hw _ (List.mem_of_getElem? (i := 41) rfl)))) (mvT hZ (hw _ (List.mem_of_getElem? (i := 41) rfl))) (mvT hZ (hw _ (List.mem_of_getElem? (i := 40) rfl))) (by decide) (backOf (W := 0) (rm7_1 l Z a0 hw [] w_LOWER_LETTER_first a1 w_COMPACT_STRINGS w_LOWER_LETTER_first_value vs k_LOWER_LETTER_first_value ks (97 : Int32) y0 h0 n0 Z0 S_COMPACT_STRINGS (N_COMPACT_STRINGS) E_s F_LOWER_LETTER_first_coder C_s F_LOWER_LETTER_first_value W_s V_LOWER_LETTER_first_value V_s ne_LOWER_LETTER) hZ (hw _ (List.mem_of_getElem? (i := 42) rfl)) (hw _ (List.mem_of_getElem? (i := 10) rfl)) (by decide) (by decide)) q373a q373c (g := (mkF m 25 #[.val (.ref a1), .val (.ref w_STYLES), .val (.int 5), .val (.int 1), .val (.ref w_LOWER_LETTER)] [(.ref a1), (.ref w_LOWER_LETTER_first)])) rfl (by rw [hml]; rfl) (Steps.refl _) (argsL := [(.ref a1)]) (rest := []) (lenOf pd_6 rfl) rfl (by show 2 * 0 + _ ≤ _; exact Nat.le_of_eq rfl) (hb hby d6_25) (fun _ _ => ⟨rfl, e372, (by decide : 0 + 0 ≤ _), (by decide : 0 + 0 ≤ _)⟩)
 dsimp only [Pt.U, Pt.locs, Pt.cells, Pt.slots] at X373 l373 y373 z373 st373 hQ373
 subst l373 y373 z373
 obtain ⟨rfl, M373, q373_0⟩ := hQ373
 have N373 := Fr.app N370 M373
 refine own_go (fun t k => st373.trans k) ?_
 refine own_go (B := T373.setTop (mkF m 16 #[.val (.ref a1), .val (.ref w_STYLES), .val (.int 5), .val (.int 2), .val (.ref w_LOWER_LETTER)] [(.int 2), (.ref w_STYLES)])) (fun t k => ?_) ?_
 ·refine XS.ifYes X373.here hx rfl (pc0 := 28) (pc' := 34) rfl (hb hby d6_28) rfl ((if0 _ _).trans (teq (show (if (97 : Int32) = y0 then (1 : Int32) else 0) = (0 : Int32) from (by rw [if_neg (show ¬ ((97 : Int32) = y0) from (by rw [hy]; decide))] <;> decide))).1) (by decide) (by decide) ?_
  show Steps p.tables e below (T373.setTop (mkF m 34 #[.val (.ref a1), .val (.ref w_STYLES), .val (.int 5), .val (.int 1), .val (.ref w_LOWER_LETTER)] [])) _
  refine XS.iinc X373.here hx rfl (hb hby d6_34) rfl (l' := #[.val (.ref a1), .val (.ref w_STYLES), .val (.int 5), .val (.int 2), .val (.ref w_LOWER_LETTER)]) rfl ?_
  show Steps p.tables e below (T373.setTop (mkF m 37 #[.val (.ref a1), .val (.ref w_STYLES), .val (.int 5), .val (.int 2), .val (.ref w_LOWER_LETTER)] [])) _
  refine XS.goto X373.here hx rfl (pc0 := 37) (pc' := 9) rfl (hb hby d6_37) (by decide) (by decide) ?_
  show Steps p.tables e below (T373.setTop (mkF m 9 #[.val (.ref a1), .val (.ref w_STYLES), .val (.int 5), .val (.int 2), .val (.ref w_LOWER_LETTER)] [])) _
  refine XS.iloadN X373.here hx rfl (hb hby d6_9) rfl ?_
  show Steps p.tables e below (T373.setTop (mkF m 10 #[.val (.ref a1), .val (.ref w_STYLES), .val (.int 5), .val (.int 2), .val (.ref w_LOWER_LETTER)] [(.int 2)])) _
  refine XS.iloadN X373.here hx rfl (hb hby d6_10) rfl ?_
  show Steps p.tables e below (T373.setTop (mkF m 11 #[.val (.ref a1), .val (.ref w_STYLES), .val (.int 5), .val (.int 2), .val (.ref w_LOWER_LETTER)] [(.int 5), (.int 2)])) _
  refine XS.icmpNo X373.here hx rfl (hb hby d6_11) rfl (tlt (by decide : (2 : Int32) < (5 : Int32))).2.1 ?_
  show Steps p.tables e below (T373.setTop (mkF m 14 #[.val (.ref a1), .val (.ref w_STYLES), .val (.int 5), .val (.int 2), .val (.ref w_LOWER_LETTER)] [])) _
  refine XS.aloadN X373.here hx rfl (hb hby d6_14) rfl rfl ?_
  show Steps p.tables e below (T373.setTop (mkF m 15 #[.val (.ref a1), .val (.ref w_STYLES), .val (.int 5), .val (.int 2), .val (.ref w_LOWER_LETTER)] [(.ref w_STYLES)])) _
  refine XS.iloadN X373.here hx rfl (hb hby d6_15) rfl ?_
  show Steps p.tables e below (T373.setTop (mkF m 16 #[.val (.ref a1), .val (.ref w_STYLES), .val (.int 5), .val (.int 2), .val (.ref w_LOWER_LETTER)] [(.int 2), (.ref w_STYLES)])) _
  exact k
 obtain ⟨cl374, Ar374, cq374, cS374, cN374, cH374, cG374⟩ := id V_STYLES
 have hin374 := inb_of (j := (2 : Int32)) cS374 ⟨by decide, by decide⟩
 have hat374 : cl374.slots[((2 : Int32)).toNatClampNeg]? = some (.ref w_UPPER_LETTER) := Has.at cH374 hin374 rfl
 refine own_go (B := T373.setTop (mkF m 21 #[.val (.ref a1), .val (.ref w_STYLES), .val (.int 5), .val (.int 2), .val (.ref w_UPPER_LETTER)] [(.ref w_UPPER_LETTER)])) (fun t k => ?_) ?_
 ·refine X373.aaload hx (j := (2 : Int32)) (v := (.ref w_UPPER_LETTER)) (by rw [q373_0]; exact Ar374.1) (State.isArrayOf_alike hZ.alike Ar374.2.1) rfl Ar374.2.2 hin374 hat374 (g := (mkF m 16 #[.val (.ref a1), .val (.ref w_STYLES), .val (.int 5), .val (.int 2), .val (.ref w_LOWER_LETTER)] [(.int 2), (.ref w_STYLES)])) rfl rfl (hb hby d6_16) _ ?_
  show Steps p.tables e below (T373.setTop (mkF m 17 #[.val (.ref a1), .val (.ref w_STYLES), .val (.int 5), .val (.int 2), .val (.ref w_LOWER_LETTER)] [(.ref w_UPPER_LETTER)])) _
  refine XS.astore X373.here hx rfl (hb hby d6_17) rfl rfl (l' := #[.val (.ref a1), .val (.ref w_STYLES), .val (.int 5), .val (.int 2), .val (.ref w_UPPER_LETTER)]) rfl ?_
  show Steps p.tables e below (T373.setTop (mkF m 19 #[.val (.ref a1), .val (.ref w_STYLES), .val (.int 5), .val (.int 2), .val (.ref w_UPPER_LETTER)] [])) _
  refine XS.aload X373.here hx rfl (hb hby d6_19) rfl rfl ?_
  show Steps p.tables e below (T373.setTop (mkF m 21 #[.val (.ref a1), .val (.ref w_STYLES), .val (.int 5), .val (.int 2), .val (.ref w_UPPER_LETTER)] [(.ref w_UPPER_LETTER)])) _
  exact k
 obtain ⟨T375, X375, e375, st375⟩ := getF X373 hx hZ hown (host := "") (Or.inl (hw _ (List.mem_of_getElem? (i := 36) rfl))) Via.refl q373_0 F_UPPER_LETTER_first (g := (mkF m 21 #[.val (.ref a1), .val (.ref w_STYLES), .val (.int 5), .val (.int 2), .val (.ref w_UPPER_LETTER)] [(.ref w_UPPER_LETTER)])) rfl rfl (hb hby d6_21)
 refine own_go st375 ?_
 refine own_go (B := T375.setTop (mkF m 25 #[.val (.ref a1), .val (.ref w_STYLES), .val (.int 5), .val (.int 2), .val (.ref w_UPPER_LETTER)] [(.ref a1), (.ref w_UPPER_LETTER_first)])) (fun t k => ?_) ?_
 ·refine XS.aloadN X375.here hx rfl (hb hby d6_24) rfl rfl ?_
  show Steps p.tables e below (T375.setTop (mkF m 25 #[.val (.ref a1), .val (.ref w_STYLES), .val (.int 5), .val (.int 2), .val (.ref w_UPPER_LETTER)] [(.ref a1), (.ref w_UPPER_LETTER_first)])) _
  exact k
 obtain ⟨cq376, kq376, q376a, q376b, q376c⟩ := isOf hZ e375 E_UPPER_LETTER_first
 obtain ⟨_, _, ⟨T376, L376, k376, n376⟩, -, X376, ⟨Lc376, hQ376, l376, y376, z376⟩, st376⟩ := X375.virtualBack hx (y := (⟨"java/lang/String", "equals", "(Ljava/lang/Object;)Z"⟩ : MethodName)) (z := (⟨"java/lang/String", "equals", "(Ljava/lang/Object;)Z"⟩ : MethodName)) hown (mvT hZ (hw _ (List.mem_of_getElem? (i := 38) rfl))) (mvT hZ (hw _ (List.mem_of_getElem? (i := 39) rfl))) (notFace_of_selects (args := #[]) (mvT hZ (hw _ (List.mem_of_getElem? (i := 41) rfl)))) (mvT hZ (hw _ (List.mem_of_getElem? (i := 41) rfl))) (mvT hZ (hw _ (List.mem_of_getElem? (i := 40) rfl))) (by decide) (backOf (W := 0) (rm7_1 l Z a0 hw [] w_UPPER_LETTER_first a1 w_COMPACT_STRINGS w_UPPER_LETTER_first_value vs k_UPPER_LETTER_first_value ks (65 : Int32) y0 h0 n0 Z0 S_COMPACT_STRINGS (N_COMPACT_STRINGS) E_s F_UPPER_LETTER_first_coder C_s F_UPPER_LETTER_first_value W_s V_UPPER_LETTER_first_value V_s ne_UPPER_LETTER) hZ (hw _ (List.mem_of_getElem? (i := 42) rfl)) (hw _ (List.mem_of_getElem? (i := 10) rfl)) (by decide) (by decide)) q376a q376c (g := (mkF m 25 #[.val (.ref a1), .val (.ref w_STYLES), .val (.int 5), .val (.int 2), .val (.ref w_UPPER_LETTER)] [(.ref a1), (.ref w_UPPER_LETTER_first)])) rfl (by rw [hml]; rfl) (Steps.refl _) (argsL := [(.ref a1)]) (rest := []) (lenOf pd_6 rfl) rfl (by show 2 * 0 + _ ≤ _; exact Nat.le_of_eq rfl) (hb hby d6_25) (fun _ _ => ⟨rfl, e375, (by decide : 0 + 0 ≤ _), (by decide : 0 + 0 ≤ _)⟩)
 dsimp only [Pt.U, Pt.locs, Pt.cells, Pt.slots] at X376 l376 y376 z376 st376 hQ376
 subst l376 y376 z376
 obtain ⟨rfl, M376, q376_0⟩ := hQ376
 have N376 := Fr.app N373 M376
 refine own_go (fun t k => st376.trans k) ?_
 refine own_go (B := T376.setTop (mkF m 16 #[.val (.ref a1), .val (.ref w_STYLES), .val (.int 5), .val (.int 3), .val (.ref w_UPPER_LETTER)] [(.int 3), (.ref w_STYLES)])) (fun t k => ?_) ?_
 ·refine XS.ifYes X376.here hx rfl (pc0 := 28) (pc' := 34) rfl (hb hby d6_28) rfl ((if0 _ _).trans (teq (show (if (65 : Int32) = y0 then (1 : Int32) else 0) = (0 : Int32) from (by rw [if_neg (show ¬ ((65 : Int32) = y0) from (by rw [hy]; decide))] <;> decide))).1) (by decide) (by decide) ?_
  show Steps p.tables e below (T376.setTop (mkF m 34 #[.val (.ref a1), .val (.ref w_STYLES), .val (.int 5), .val (.int 2), .val (.ref w_UPPER_LETTER)] [])) _
  refine XS.iinc X376.here hx rfl (hb hby d6_34) rfl (l' := #[.val (.ref a1), .val (.ref w_STYLES), .val (.int 5), .val (.int 3), .val (.ref w_UPPER_LETTER)]) rfl ?_
  show Steps p.tables e below (T376.setTop (mkF m 37 #[.val (.ref a1), .val (.ref w_STYLES), .val (.int 5), .val (.int 3), .val (.ref w_UPPER_LETTER)] [])) _
  refine XS.goto X376.here hx rfl (pc0 := 37) (pc' := 9) rfl (hb hby d6_37) (by decide) (by decide) ?_
  show Steps p.tables e below (T376.setTop (mkF m 9 #[.val (.ref a1), .val (.ref w_STYLES), .val (.int 5), .val (.int 3), .val (.ref w_UPPER_LETTER)] [])) _
  refine XS.iloadN X376.here hx rfl (hb hby d6_9) rfl ?_
  show Steps p.tables e below (T376.setTop (mkF m 10 #[.val (.ref a1), .val (.ref w_STYLES), .val (.int 5), .val (.int 3), .val (.ref w_UPPER_LETTER)] [(.int 3)])) _
  refine XS.iloadN X376.here hx rfl (hb hby d6_10) rfl ?_
  show Steps p.tables e below (T376.setTop (mkF m 11 #[.val (.ref a1), .val (.ref w_STYLES), .val (.int 5), .val (.int 3), .val (.ref w_UPPER_LETTER)] [(.int 5), (.int 3)])) _
  refine XS.icmpNo X376.here hx rfl (hb hby d6_11) rfl (tlt (by decide : (3 : Int32) < (5 : Int32))).2.1 ?_
  show Steps p.tables e below (T376.setTop (mkF m 14 #[.val (.ref a1), .val (.ref w_STYLES), .val (.int 5), .val (.int 3), .val (.ref w_UPPER_LETTER)] [])) _
  refine XS.aloadN X376.here hx rfl (hb hby d6_14) rfl rfl ?_
  show Steps p.tables e below (T376.setTop (mkF m 15 #[.val (.ref a1), .val (.ref w_STYLES), .val (.int 5), .val (.int 3), .val (.ref w_UPPER_LETTER)] [(.ref w_STYLES)])) _
  refine XS.iloadN X376.here hx rfl (hb hby d6_15) rfl ?_
  show Steps p.tables e below (T376.setTop (mkF m 16 #[.val (.ref a1), .val (.ref w_STYLES), .val (.int 5), .val (.int 3), .val (.ref w_UPPER_LETTER)] [(.int 3), (.ref w_STYLES)])) _
  exact k
 obtain ⟨cl377, Ar377, cq377, cS377, cN377, cH377, cG377⟩ := id V_STYLES
 have hin377 := inb_of (j := (3 : Int32)) cS377 ⟨by decide, by decide⟩
 have hat377 : cl377.slots[((3 : Int32)).toNatClampNeg]? = some (.ref w_LOWER_ROMAN) := Has.at cH377 hin377 rfl
 refine own_go (B := T376.setTop (mkF m 21 #[.val (.ref a1), .val (.ref w_STYLES), .val (.int 5), .val (.int 3), .val (.ref w_LOWER_ROMAN)] [(.ref w_LOWER_ROMAN)])) (fun t k => ?_) ?_
 ·refine X376.aaload hx (j := (3 : Int32)) (v := (.ref w_LOWER_ROMAN)) (by rw [q376_0]; exact Ar377.1) (State.isArrayOf_alike hZ.alike Ar377.2.1) rfl Ar377.2.2 hin377 hat377 (g := (mkF m 16 #[.val (.ref a1), .val (.ref w_STYLES), .val (.int 5), .val (.int 3), .val (.ref w_UPPER_LETTER)] [(.int 3), (.ref w_STYLES)])) rfl rfl (hb hby d6_16) _ ?_
  show Steps p.tables e below (T376.setTop (mkF m 17 #[.val (.ref a1), .val (.ref w_STYLES), .val (.int 5), .val (.int 3), .val (.ref w_UPPER_LETTER)] [(.ref w_LOWER_ROMAN)])) _
  refine XS.astore X376.here hx rfl (hb hby d6_17) rfl rfl (l' := #[.val (.ref a1), .val (.ref w_STYLES), .val (.int 5), .val (.int 3), .val (.ref w_LOWER_ROMAN)]) rfl ?_
  show Steps p.tables e below (T376.setTop (mkF m 19 #[.val (.ref a1), .val (.ref w_STYLES), .val (.int 5), .val (.int 3), .val (.ref w_LOWER_ROMAN)] [])) _
  refine XS.aload X376.here hx rfl (hb hby d6_19) rfl rfl ?_
  show Steps p.tables e below (T376.setTop (mkF m 21 #[.val (.ref a1), .val (.ref w_STYLES), .val (.int 5), .val (.int 3), .val (.ref w_LOWER_ROMAN)] [(.ref w_LOWER_ROMAN)])) _
  exact k
 obtain ⟨T378, X378, e378, st378⟩ := getF X376 hx hZ hown (host := "") (Or.inl (hw _ (List.mem_of_getElem? (i := 36) rfl))) Via.refl q376_0 F_LOWER_ROMAN_first (g := (mkF m 21 #[.val (.ref a1), .val (.ref w_STYLES), .val (.int 5), .val (.int 3), .val (.ref w_LOWER_ROMAN)] [(.ref w_LOWER_ROMAN)])) rfl rfl (hb hby d6_21)
 refine own_go st378 ?_
 refine own_go (B := T378.setTop (mkF m 25 #[.val (.ref a1), .val (.ref w_STYLES), .val (.int 5), .val (.int 3), .val (.ref w_LOWER_ROMAN)] [(.ref a1), (.ref w_LOWER_ROMAN_first)])) (fun t k => ?_) ?_
 ·refine XS.aloadN X378.here hx rfl (hb hby d6_24) rfl rfl ?_
  show Steps p.tables e below (T378.setTop (mkF m 25 #[.val (.ref a1), .val (.ref w_STYLES), .val (.int 5), .val (.int 3), .val (.ref w_LOWER_ROMAN)] [(.ref a1), (.ref w_LOWER_ROMAN_first)])) _
  exact k
 obtain ⟨cq379, kq379, q379a, q379b, q379c⟩ := isOf hZ e378 E_LOWER_ROMAN_first
 obtain ⟨_, _, ⟨T379, L379, k379, n379⟩, -, X379, ⟨Lc379, hQ379, l379, y379, z379⟩, st379⟩ := X378.virtualBack hx (y := (⟨"java/lang/String", "equals", "(Ljava/lang/Object;)Z"⟩ : MethodName)) (z := (⟨"java/lang/String", "equals", "(Ljava/lang/Object;)Z"⟩ : MethodName)) hown (mvT hZ (hw _ (List.mem_of_getElem? (i := 38) rfl))) (mvT hZ (hw _ (List.mem_of_getElem? (i := 39) rfl))) (notFace_of_selects (args := #[]) (mvT hZ (hw _ (List.mem_of_getElem? (i := 41) rfl)))) (mvT hZ (hw _ (List.mem_of_getElem? (i := 41) rfl))) (mvT hZ (hw _ (List.mem_of_getElem? (i := 40) rfl))) (by decide) (backOf (W := 0) (rm7_1 l Z a0 hw [] w_LOWER_ROMAN_first a1 w_COMPACT_STRINGS w_LOWER_ROMAN_first_value vs k_LOWER_ROMAN_first_value ks (105 : Int32) y0 h0 n0 Z0 S_COMPACT_STRINGS (N_COMPACT_STRINGS) E_s F_LOWER_ROMAN_first_coder C_s F_LOWER_ROMAN_first_value W_s V_LOWER_ROMAN_first_value V_s ne_LOWER_ROMAN) hZ (hw _ (List.mem_of_getElem? (i := 42) rfl)) (hw _ (List.mem_of_getElem? (i := 10) rfl)) (by decide) (by decide)) q379a q379c (g := (mkF m 25 #[.val (.ref a1), .val (.ref w_STYLES), .val (.int 5), .val (.int 3), .val (.ref w_LOWER_ROMAN)] [(.ref a1), (.ref w_LOWER_ROMAN_first)])) rfl (by rw [hml]; rfl) (Steps.refl _) (argsL := [(.ref a1)]) (rest := []) (lenOf pd_6 rfl) rfl (by show 2 * 0 + _ ≤ _; exact Nat.le_of_eq rfl) (hb hby d6_25) (fun _ _ => ⟨rfl, e378, (by decide : 0 + 0 ≤ _), (by decide : 0 + 0 ≤ _)⟩)
 dsimp only [Pt.U, Pt.locs, Pt.cells, Pt.slots] at X379 l379 y379 z379 st379 hQ379
 subst l379 y379 z379
 obtain ⟨rfl, M379, q379_0⟩ := hQ379
 have N379 := Fr.app N376 M379
 refine own_go (fun t k => st379.trans k) ?_
 refine own_go (B := T379.setTop (mkF m 16 #[.val (.ref a1), .val (.ref w_STYLES), .val (.int 5), .val (.int 4), .val (.ref w_LOWER_ROMAN)] [(.int 4), (.ref w_STYLES)])) (fun t k => ?_) ?_
 ·refine XS.ifYes X379.here hx rfl (pc0 := 28) (pc' := 34) rfl (hb hby d6_28) rfl ((if0 _ _).trans (teq (show (if (105 : Int32) = y0 then (1 : Int32) else 0) = (0 : Int32) from (by rw [if_neg (show ¬ ((105 : Int32) = y0) from (by rw [hy]; decide))] <;> decide))).1) (by decide) (by decide) ?_
  show Steps p.tables e below (T379.setTop (mkF m 34 #[.val (.ref a1), .val (.ref w_STYLES), .val (.int 5), .val (.int 3), .val (.ref w_LOWER_ROMAN)] [])) _
  refine XS.iinc X379.here hx rfl (hb hby d6_34) rfl (l' := #[.val (.ref a1), .val (.ref w_STYLES), .val (.int 5), .val (.int 4), .val (.ref w_LOWER_ROMAN)]) rfl ?_
  show Steps p.tables e below (T379.setTop (mkF m 37 #[.val (.ref a1), .val (.ref w_STYLES), .val (.int 5), .val (.int 4), .val (.ref w_LOWER_ROMAN)] [])) _
  refine XS.goto X379.here hx rfl (pc0 := 37) (pc' := 9) rfl (hb hby d6_37) (by decide) (by decide) ?_
  show Steps p.tables e below (T379.setTop (mkF m 9 #[.val (.ref a1), .val (.ref w_STYLES), .val (.int 5), .val (.int 4), .val (.ref w_LOWER_ROMAN)] [])) _
  refine XS.iloadN X379.here hx rfl (hb hby d6_9) rfl ?_
  show Steps p.tables e below (T379.setTop (mkF m 10 #[.val (.ref a1), .val (.ref w_STYLES), .val (.int 5), .val (.int 4), .val (.ref w_LOWER_ROMAN)] [(.int 4)])) _
  refine XS.iloadN X379.here hx rfl (hb hby d6_10) rfl ?_
  show Steps p.tables e below (T379.setTop (mkF m 11 #[.val (.ref a1), .val (.ref w_STYLES), .val (.int 5), .val (.int 4), .val (.ref w_LOWER_ROMAN)] [(.int 5), (.int 4)])) _
  refine XS.icmpNo X379.here hx rfl (hb hby d6_11) rfl (tlt (by decide : (4 : Int32) < (5 : Int32))).2.1 ?_
  show Steps p.tables e below (T379.setTop (mkF m 14 #[.val (.ref a1), .val (.ref w_STYLES), .val (.int 5), .val (.int 4), .val (.ref w_LOWER_ROMAN)] [])) _
  refine XS.aloadN X379.here hx rfl (hb hby d6_14) rfl rfl ?_
  show Steps p.tables e below (T379.setTop (mkF m 15 #[.val (.ref a1), .val (.ref w_STYLES), .val (.int 5), .val (.int 4), .val (.ref w_LOWER_ROMAN)] [(.ref w_STYLES)])) _
  refine XS.iloadN X379.here hx rfl (hb hby d6_15) rfl ?_
  show Steps p.tables e below (T379.setTop (mkF m 16 #[.val (.ref a1), .val (.ref w_STYLES), .val (.int 5), .val (.int 4), .val (.ref w_LOWER_ROMAN)] [(.int 4), (.ref w_STYLES)])) _
  exact k
 obtain ⟨cl380, Ar380, cq380, cS380, cN380, cH380, cG380⟩ := id V_STYLES
 have hin380 := inb_of (j := (4 : Int32)) cS380 ⟨by decide, by decide⟩
 have hat380 : cl380.slots[((4 : Int32)).toNatClampNeg]? = some (.ref w_UPPER_ROMAN) := Has.at cH380 hin380 rfl
 refine own_go (B := T379.setTop (mkF m 21 #[.val (.ref a1), .val (.ref w_STYLES), .val (.int 5), .val (.int 4), .val (.ref w_UPPER_ROMAN)] [(.ref w_UPPER_ROMAN)])) (fun t k => ?_) ?_
 ·refine X379.aaload hx (j := (4 : Int32)) (v := (.ref w_UPPER_ROMAN)) (by rw [q379_0]; exact Ar380.1) (State.isArrayOf_alike hZ.alike Ar380.2.1) rfl Ar380.2.2 hin380 hat380 (g := (mkF m 16 #[.val (.ref a1), .val (.ref w_STYLES), .val (.int 5), .val (.int 4), .val (.ref w_LOWER_ROMAN)] [(.int 4), (.ref w_STYLES)])) rfl rfl (hb hby d6_16) _ ?_
  show Steps p.tables e below (T379.setTop (mkF m 17 #[.val (.ref a1), .val (.ref w_STYLES), .val (.int 5), .val (.int 4), .val (.ref w_LOWER_ROMAN)] [(.ref w_UPPER_ROMAN)])) _
  refine XS.astore X379.here hx rfl (hb hby d6_17) rfl rfl (l' := #[.val (.ref a1), .val (.ref w_STYLES), .val (.int 5), .val (.int 4), .val (.ref w_UPPER_ROMAN)]) rfl ?_
  show Steps p.tables e below (T379.setTop (mkF m 19 #[.val (.ref a1), .val (.ref w_STYLES), .val (.int 5), .val (.int 4), .val (.ref w_UPPER_ROMAN)] [])) _
  refine XS.aload X379.here hx rfl (hb hby d6_19) rfl rfl ?_
  show Steps p.tables e below (T379.setTop (mkF m 21 #[.val (.ref a1), .val (.ref w_STYLES), .val (.int 5), .val (.int 4), .val (.ref w_UPPER_ROMAN)] [(.ref w_UPPER_ROMAN)])) _
  exact k
 obtain ⟨T381, X381, e381, st381⟩ := getF X379 hx hZ hown (host := "") (Or.inl (hw _ (List.mem_of_getElem? (i := 36) rfl))) Via.refl q379_0 F_UPPER_ROMAN_first (g := (mkF m 21 #[.val (.ref a1), .val (.ref w_STYLES), .val (.int 5), .val (.int 4), .val (.ref w_UPPER_ROMAN)] [(.ref w_UPPER_ROMAN)])) rfl rfl (hb hby d6_21)
 refine own_go st381 ?_
 refine own_go (B := T381.setTop (mkF m 25 #[.val (.ref a1), .val (.ref w_STYLES), .val (.int 5), .val (.int 4), .val (.ref w_UPPER_ROMAN)] [(.ref a1), (.ref w_UPPER_ROMAN_first)])) (fun t k => ?_) ?_
 ·refine XS.aloadN X381.here hx rfl (hb hby d6_24) rfl rfl ?_
  show Steps p.tables e below (T381.setTop (mkF m 25 #[.val (.ref a1), .val (.ref w_STYLES), .val (.int 5), .val (.int 4), .val (.ref w_UPPER_ROMAN)] [(.ref a1), (.ref w_UPPER_ROMAN_first)])) _
  exact k
 obtain ⟨cq382, kq382, q382a, q382b, q382c⟩ := isOf hZ e381 E_UPPER_ROMAN_first
 obtain ⟨_, _, ⟨T382, L382, k382, n382⟩, -, X382, ⟨Lc382, hQ382, l382, y382, z382⟩, st382⟩ := X381.virtualBack hx (y := (⟨"java/lang/String", "equals", "(Ljava/lang/Object;)Z"⟩ : MethodName)) (z := (⟨"java/lang/String", "equals", "(Ljava/lang/Object;)Z"⟩ : MethodName)) hown (mvT hZ (hw _ (List.mem_of_getElem? (i := 38) rfl))) (mvT hZ (hw _ (List.mem_of_getElem? (i := 39) rfl))) (notFace_of_selects (args := #[]) (mvT hZ (hw _ (List.mem_of_getElem? (i := 41) rfl)))) (mvT hZ (hw _ (List.mem_of_getElem? (i := 41) rfl))) (mvT hZ (hw _ (List.mem_of_getElem? (i := 40) rfl))) (by decide) (backOf (W := 0) (rm7_1 l Z a0 hw [] w_UPPER_ROMAN_first a1 w_COMPACT_STRINGS w_UPPER_ROMAN_first_value vs k_UPPER_ROMAN_first_value ks (73 : Int32) y0 h0 n0 Z0 S_COMPACT_STRINGS (N_COMPACT_STRINGS) E_s F_UPPER_ROMAN_first_coder C_s F_UPPER_ROMAN_first_value W_s V_UPPER_ROMAN_first_value V_s ne_UPPER_ROMAN) hZ (hw _ (List.mem_of_getElem? (i := 42) rfl)) (hw _ (List.mem_of_getElem? (i := 10) rfl)) (by decide) (by decide)) q382a q382c (g := (mkF m 25 #[.val (.ref a1), .val (.ref w_STYLES), .val (.int 5), .val (.int 4), .val (.ref w_UPPER_ROMAN)] [(.ref a1), (.ref w_UPPER_ROMAN_first)])) rfl (by rw [hml]; rfl) (Steps.refl _) (argsL := [(.ref a1)]) (rest := []) (lenOf pd_6 rfl) rfl (by show 2 * 0 + _ ≤ _; exact Nat.le_of_eq rfl) (hb hby d6_25) (fun _ _ => ⟨rfl, e381, (by decide : 0 + 0 ≤ _), (by decide : 0 + 0 ≤ _)⟩)
 dsimp only [Pt.U, Pt.locs, Pt.cells, Pt.slots] at X382 l382 y382 z382 st382 hQ382
 subst l382 y382 z382
 obtain ⟨rfl, M382, q382_0⟩ := hQ382
 have N382 := Fr.app N379 M382
 refine own_go (fun t k => st382.trans k) ?_
 refine own_go (B := T382.setTop (mkF m 33 #[.val (.ref a1), .val (.ref w_STYLES), .val (.int 5), .val (.int 4), .val (.ref w_UPPER_ROMAN)] [(.ref w_UPPER_ROMAN)])) (fun t k => ?_) ?_
 ·refine XS.ifNo X382.here hx rfl (hb hby d6_28) rfl ((if0 _ _).trans (feq (show ¬ ((if (73 : Int32) = y0 then (1 : Int32) else 0) = (0 : Int32)) from (by rw [if_pos (show (73 : Int32) = y0 from hy.symm)] <;> decide))).1) ?_
  show Steps p.tables e below (T382.setTop (mkF m 31 #[.val (.ref a1), .val (.ref w_STYLES), .val (.int 5), .val (.int 4), .val (.ref w_UPPER_ROMAN)] [])) _
  refine XS.aload X382.here hx rfl (hb hby d6_31) rfl rfl ?_
  show Steps p.tables e below (T382.setTop (mkF m 33 #[.val (.ref a1), .val (.ref w_STYLES), .val (.int 5), .val (.int 4), .val (.ref w_UPPER_ROMAN)] [(.ref w_UPPER_ROMAN)])) _
  exact k
 obtain ⟨fs, hr, hrun, hended, hW, hsame⟩ := X382.leave (v := some (.ref w_UPPER_ROMAN)) (fun h => by rw [Bd.returns] at h; cases h)
 refine ⟨_, _, ?_, hrun, hended, _, _, rfl, ?_, ⟨_, rfl⟩, hW, hsame.mono (by decide) (by decide)⟩
 ·exact own_retR X382 hx Bd.returns rfl rfl (hb hby d6_33) hr
 ·show Q6_1c4 Z a1 w_STYLES w_NUMBER w_NUMBER_first w_NUMBER_first_value w_LOWER_LETTER w_LOWER_LETTER_first w_LOWER_LETTER_first_value w_UPPER_LETTER w_UPPER_LETTER_first w_UPPER_LETTER_first_value w_LOWER_ROMAN w_LOWER_ROMAN_first w_LOWER_ROMAN_first_value w_UPPER_ROMAN w_UPPER_ROMAN_first w_UPPER_ROMAN_first_value w_COMPACT_STRINGS k_STYLES k_NUMBER_first_value k_LOWER_LETTER_first_value k_UPPER_LETTER_first_value k_LOWER_ROMAN_first_value k_UPPER_ROMAN_first_value vs ks y0 h0 n0 _ T382.heap _
  rw [q382_0]
  exact ⟨rfl, N382, rfl⟩
theorem ef_6_1c5 (m : MethodId) (a1 : Addr) : entryFrame m #[(.ref a1)] 5 = mkF m 0 #[.val (.ref a1), .unset, .unset, .unset, .unset] [] := by first | (simp [entryFrame, mkF, argsToLocals, Value.category]; done) | rfl
def Q6_1c5 (Z : State) (a1 : Addr) (w_STYLES : Addr) (w_NUMBER : Addr) (w_NUMBER_first : Addr) (w_NUMBER_first_value : Addr) (w_LOWER_LETTER : Addr) (w_LOWER_LETTER_first : Addr) (w_LOWER_LETTER_first_value : Addr) (w_UPPER_LETTER : Addr) (w_UPPER_LETTER_first : Addr) (w_UPPER_LETTER_first_value : Addr) (w_LOWER_ROMAN : Addr) (w_LOWER_ROMAN_first : Addr) (w_LOWER_ROMAN_first_value : Addr) (w_UPPER_ROMAN : Addr) (w_UPPER_ROMAN_first : Addr) (w_UPPER_ROMAN_first_value : Addr) (w_COMPACT_STRINGS : Int32) (k_STYLES : ClassId) (k_NUMBER_first_value : ClassId) (k_LOWER_LETTER_first_value : ClassId) (k_UPPER_LETTER_first_value : ClassId) (k_LOWER_ROMAN_first_value : ClassId) (k_UPPER_ROMAN_first_value : ClassId) (vs : Addr) (ks : ClassId) (y0 : Int32) (h0 : Heap) (n0 : Nat) (v : Option Value) (h : Heap) (L : List Loc) : Prop := v = some .null ∧ Fr n0 L ∧ h = h0
set_option maxRecDepth 65536 in
set_option maxHeartbeats 40000000 in
theorem rm6_1c5 (l : Launch) (Z : State) (a0 : Array Value) (hw : ∀ d ∈ tables_1, d.before a0 Z = true) (ws : List Jvm.Cond) (a1 : Addr) (w_STYLES : Addr) (w_NUMBER : Addr) (w_NUMBER_first : Addr) (w_NUMBER_first_value : Addr) (w_LOWER_LETTER : Addr) (w_LOWER_LETTER_first : Addr) (w_LOWER_LETTER_first_value : Addr) (w_UPPER_LETTER : Addr) (w_UPPER_LETTER_first : Addr) (w_UPPER_LETTER_first_value : Addr) (w_LOWER_ROMAN : Addr) (w_LOWER_ROMAN_first : Addr) (w_LOWER_ROMAN_first_value : Addr) (w_UPPER_ROMAN : Addr) (w_UPPER_ROMAN_first : Addr) (w_UPPER_ROMAN_first_value : Addr) (w_COMPACT_STRINGS : Int32) (k_STYLES : ClassId) (k_NUMBER_first_value : ClassId) (k_LOWER_LETTER_first_value : ClassId) (k_UPPER_LETTER_first_value : ClassId) (k_LOWER_ROMAN_first_value : ClassId) (k_UPPER_ROMAN_first_value : ClassId) (vs : Addr) (ks : ClassId) (y0 : Int32) (h0 : Heap) (n0 : Nat) (Z0 : n0 ≤ h0.size) (S_STYLES : Sta Z h0 "com/example/restate/restate/MarkerStyle" "STYLES" "[Lcom/example/restate/restate/MarkerStyle;" (.ref w_STYLES)) (S_NUMBER : Sta Z h0 "com/example/restate/restate/MarkerStyle" "NUMBER" "Lcom/example/restate/restate/MarkerStyle;" (.ref w_NUMBER)) (E_NUMBER : Exa Z h0 w_NUMBER "com/example/restate/restate/MarkerStyle") (F_NUMBER_first : Fld Z h0 w_NUMBER "com/example/restate/restate/MarkerStyle" "first" "Ljava/lang/String;" (.ref w_NUMBER_first)) (E_NUMBER_first : Exa Z h0 w_NUMBER_first "java/lang/String") (F_NUMBER_first_value : Fld Z h0 w_NUMBER_first "java/lang/String" "value" "[B" (.ref w_NUMBER_first_value)) (S_LOWER_LETTER : Sta Z h0 "com/example/restate/restate/MarkerStyle" "LOWER_LETTER" "Lcom/example/restate/restate/MarkerStyle;" (.ref w_LOWER_LETTER)) (E_LOWER_LETTER : Exa Z h0 w_LOWER_LETTER "com/example/restate/restate/MarkerStyle") (F_LOWER_LETTER_first : Fld Z h0 w_LOWER_LETTER "com/example/restate/restate/MarkerStyle" "first" "Ljava/lang/String;" (.ref w_LOWER_LETTER_first)) (E_LOWER_LETTER_first : Exa Z h0 w_LOWER_LETTER_first "java/lang/String") (F_LOWER_LETTER_first_value : Fld Z h0 w_LOWER_LETTER_first "java/lang/String" "value" "[B" (.ref w_LOWER_LETTER_first_value)) (S_UPPER_LETTER : Sta Z h0 "com/example/restate/restate/MarkerStyle" "UPPER_LETTER" "Lcom/example/restate/restate/MarkerStyle;" (.ref w_UPPER_LETTER)) (E_UPPER_LETTER : Exa Z h0 w_UPPER_LETTER "com/example/restate/restate/MarkerStyle") (F_UPPER_LETTER_first : Fld Z h0 w_UPPER_LETTER "com/example/restate/restate/MarkerStyle" "first" "Ljava/lang/String;" (.ref w_UPPER_LETTER_first)) (E_UPPER_LETTER_first : Exa Z h0 w_UPPER_LETTER_first "java/lang/String") (F_UPPER_LETTER_first_value : Fld Z h0 w_UPPER_LETTER_first "java/lang/String" "value" "[B" (.ref w_UPPER_LETTER_first_value)) (S_LOWER_ROMAN : Sta Z h0 "com/example/restate/restate/MarkerStyle" "LOWER_ROMAN" "Lcom/example/restate/restate/MarkerStyle;" (.ref w_LOWER_ROMAN)) (E_LOWER_ROMAN : Exa Z h0 w_LOWER_ROMAN "com/example/restate/restate/MarkerStyle") (F_LOWER_ROMAN_first : Fld Z h0 w_LOWER_ROMAN "com/example/restate/restate/MarkerStyle" "first" "Ljava/lang/String;" (.ref w_LOWER_ROMAN_first)) (E_LOWER_ROMAN_first : Exa Z h0 w_LOWER_ROMAN_first "java/lang/String") (F_LOWER_ROMAN_first_value : Fld Z h0 w_LOWER_ROMAN_first "java/lang/String" "value" "[B" (.ref w_LOWER_ROMAN_first_value)) (S_UPPER_ROMAN : Sta Z h0 "com/example/restate/restate/MarkerStyle" "UPPER_ROMAN" "Lcom/example/restate/restate/MarkerStyle;" (.ref w_UPPER_ROMAN)) (E_UPPER_ROMAN : Exa Z h0 w_UPPER_ROMAN "com/example/restate/restate/MarkerStyle") (F_UPPER_ROMAN_first : Fld Z h0 w_UPPER_ROMAN "com/example/restate/restate/MarkerStyle" "first" "Ljava/lang/String;" (.ref w_UPPER_ROMAN_first)) (E_UPPER_ROMAN_first : Exa Z h0 w_UPPER_ROMAN_first "java/lang/String") (F_UPPER_ROMAN_first_value : Fld Z h0 w_UPPER_ROMAN_first "java/lang/String" "value" "[B" (.ref w_UPPER_ROMAN_first_value)) (S_COMPACT_STRINGS : Sta Z h0 "java/lang/String" "COMPACT_STRINGS" "Z" (.int w_COMPACT_STRINGS)) (F_NUMBER_first_coder : Fld Z h0 w_NUMBER_first "java/lang/String" "coder" "B" (.int 0)) (F_LOWER_LETTER_first_coder : Fld Z h0 w_LOWER_LETTER_first "java/lang/String" "coder" "B" (.int 0)) (F_UPPER_LETTER_first_coder : Fld Z h0 w_UPPER_LETTER_first "java/lang/String" "coder" "B" (.int 0)) (F_LOWER_ROMAN_first_coder : Fld Z h0 w_LOWER_ROMAN_first "java/lang/String" "coder" "B" (.int 0)) (F_UPPER_ROMAN_first_coder : Fld Z h0 w_UPPER_ROMAN_first "java/lang/String" "coder" "B" (.int 0)) (N_COMPACT_STRINGS : ¬ w_COMPACT_STRINGS = (0 : Int32)) (V_STYLES : Arv Z h0 w_STYLES k_STYLES (.object "com/example/restate/restate/MarkerStyle") (5 : Int32) [(.ref w_NUMBER), (.ref w_LOWER_LETTER), (.ref w_UPPER_LETTER), (.ref w_LOWER_ROMAN), (.ref w_UPPER_ROMAN)] .null) (V_NUMBER_first_value : Arv Z h0 w_NUMBER_first_value k_NUMBER_first_value .byte (1 : Int32) [(.int 49)] (.int 0)) (V_LOWER_LETTER_first_value : Arv Z h0 w_LOWER_LETTER_first_value k_LOWER_LETTER_first_value .byte (1 : Int32) [(.int 97)] (.int 0)) (V_UPPER_LETTER_first_value : Arv Z h0 w_UPPER_LETTER_first_value k_UPPER_LETTER_first_value .byte (1 : Int32) [(.int 65)] (.int 0)) (V_LOWER_ROMAN_first_value : Arv Z h0 w_LOWER_ROMAN_first_value k_LOWER_ROMAN_first_value .byte (1 : Int32) [(.int 105)] (.int 0)) (V_UPPER_ROMAN_first_value : Arv Z h0 w_UPPER_ROMAN_first_value k_UPPER_ROMAN_first_value .byte (1 : Int32) [(.int 73)] (.int 0)) (E_s : Exa Z h0 a1 "java/lang/String") (C_s : Fld Z h0 a1 "java/lang/String" "coder" "B" (.int 0)) (W_s : Fld Z h0 a1 "java/lang/String" "value" "[B" (.ref vs)) (V_s : Arv Z h0 vs ks .byte (1 : Int32) [(.int y0)] (.int 0)) (ne_NUMBER : w_NUMBER_first ≠ a1) (ne_LOWER_LETTER : w_LOWER_LETTER_first ≠ a1) (ne_UPPER_LETTER : w_UPPER_LETTER_first ≠ a1) (ne_LOWER_ROMAN : w_LOWER_ROMAN_first ≠ a1) (ne_UPPER_ROMAN : w_UPPER_ROMAN_first ≠ a1) (hy0 : ¬ (49 : Int32) = y0) (hy1 : ¬ (97 : Int32) = y0) (hy2 : ¬ (65 : Int32) = y0) (hy3 : ¬ (105 : Int32) = y0) (hy4 : ¬ (73 : Int32) = y0) :
  MetFree l (⟨"com/example/restate/restate/MarkerStyle", "openedBy", "(Ljava/lang/String;)Lcom/example/restate/restate/MarkerStyle;"⟩ : MethodName) (head1 (Jvm.Cond.code (⟨"com/example/restate/restate/MarkerStyle", "openedBy", "(Ljava/lang/String;)Lcom/example/restate/restate/MarkerStyle;"⟩ : MethodName) prog_61_method_5_code 5 (some (.object "com/example/restate/restate/MarkerStyle")) :: ws) ({ frames := 2, cells := 0, slots := 0, locals := 28 } : Room)) (fun a U => a = #[(.ref a1)] ∧ Z.Warmed39 U.vm ∧ U.heap = h0) (fun _ _ _ _ _ => True) (fun _ U o U' => ∃ v L, o = .returned v ∧ Q6_1c5 Z a1 w_STYLES w_NUMBER w_NUMBER_first w_NUMBER_first_value w_LOWER_LETTER w_LOWER_LETTER_first w_LOWER_LETTER_first_value w_UPPER_LETTER w_UPPER_LETTER_first w_UPPER_LETTER_first_value w_LOWER_ROMAN w_LOWER_ROMAN_first w_LOWER_ROMAN_first_value w_UPPER_ROMAN w_UPPER_ROMAN_first w_UPPER_ROMAN_first_value w_COMPACT_STRINGS k_STYLES k_NUMBER_first_value k_LOWER_LETTER_first_value k_UPPER_LETTER_first_value k_LOWER_ROMAN_first_value k_UPPER_ROMAN_first_value vs ks y0 h0 n0 v U'.heap L ∧ FrameEnd U o U' L ({ frames := 2, cells := 0, slots := 0, locals := 28 } : Room).cells ({ frames := 2, cells := 0, slots := 0, locals := 28 } : Room).slots) := by
 refine MetFree.of_bodySF (plainFor_of_name pn_268) hisR ?_
 intro p e s m args below meth c s₁ Bd hml0 hP hK
 obtain ⟨rfl, hZ, hh⟩ := hP
 have hx := Bd.exec
 have hby := Bd.bytes
 have hml : c.maxLocals = 5 := hml0
 have hown : s.vm.findClass "com/example/restate/restate/MarkerStyle" = some m.cls := findClass_of_methodNamed Bd.named
 have hnm := (name_of_methodNamed Bd.named Bd.method).1
 have X0 : Stand p l e ({ frames := 2, cells := 0, slots := 0, locals := 28 } : Room) s m #[(.ref a1)] below meth c s₁ [] 0 0 := Stand.of_body Bd
 have e0 : s₁.heap = h0 := by rw [← hh, Bd.state]; rfl
 have N0 := Fr.nil n0
 refine own_go (B := s₁.setTop (mkF m 0 #[.val (.ref a1), .unset, .unset, .unset, .unset] [])) (fun t k => castTop (ef_6_1c5 m a1) k) ?_
 obtain ⟨T384, X384, e384, st384⟩ := getS2 X0 hx hZ hown (host := "") (Or.inl (hw _ (List.mem_of_getElem? (i := 33) rfl))) Via.refl e0 S_STYLES (g := (mkF m 0 #[.val (.ref a1), .unset, .unset, .unset, .unset] [])) rfl (hb hby d6_0)
 refine own_go st384 ?_
 refine own_go (B := T384.setTop (mkF m 5 #[.val (.ref a1), .val (.ref w_STYLES), .unset, .unset, .unset] [(.ref w_STYLES)])) (fun t k => ?_) ?_
 ·refine XS.astoreN X384.here hx rfl (hb hby d6_3) rfl rfl (l' := #[.val (.ref a1), .val (.ref w_STYLES), .unset, .unset, .unset]) rfl ?_
  show Steps p.tables e below (T384.setTop (mkF m 4 #[.val (.ref a1), .val (.ref w_STYLES), .unset, .unset, .unset] [])) _
  refine XS.aloadN X384.here hx rfl (hb hby d6_4) rfl rfl ?_
  show Steps p.tables e below (T384.setTop (mkF m 5 #[.val (.ref a1), .val (.ref w_STYLES), .unset, .unset, .unset] [(.ref w_STYLES)])) _
  exact k
 obtain ⟨cl385, Ar385, cq385, cS385, cN385, cH385, cG385⟩ := id V_STYLES
 refine own_go (B := T384.setTop (mkF m 16 #[.val (.ref a1), .val (.ref w_STYLES), .val (.int 5), .val (.int 0), .unset] [(.int 0), (.ref w_STYLES)])) (fun t k => ?_) ?_
 ·refine X384.arraylength hx (by rw [e384]; exact Ar385.1) (State.isArrayOf_alike hZ.alike Ar385.2.1) (g := (mkF m 5 #[.val (.ref a1), .val (.ref w_STYLES), .unset, .unset, .unset] [(.ref w_STYLES)])) rfl rfl (hb hby d6_5) _ ?_
  rw [len_of cS385 cN385]
  show Steps p.tables e below (T384.setTop (mkF m 6 #[.val (.ref a1), .val (.ref w_STYLES), .unset, .unset, .unset] [(.int 5)])) _
  refine XS.istoreN X384.here hx rfl (hb hby d6_6) rfl (l' := #[.val (.ref a1), .val (.ref w_STYLES), .val (.int 5), .unset, .unset]) rfl ?_
  show Steps p.tables e below (T384.setTop (mkF m 7 #[.val (.ref a1), .val (.ref w_STYLES), .val (.int 5), .unset, .unset] [])) _
  refine XS.iconst X384.here hx rfl (hb hby d6_7) ?_
  show Steps p.tables e below (T384.setTop (mkF m 8 #[.val (.ref a1), .val (.ref w_STYLES), .val (.int 5), .unset, .unset] [(.int 0)])) _
  refine XS.istoreN X384.here hx rfl (hb hby d6_8) rfl (l' := #[.val (.ref a1), .val (.ref w_STYLES), .val (.int 5), .val (.int 0), .unset]) rfl ?_
  show Steps p.tables e below (T384.setTop (mkF m 9 #[.val (.ref a1), .val (.ref w_STYLES), .val (.int 5), .val (.int 0), .unset] [])) _
  refine XS.iloadN X384.here hx rfl (hb hby d6_9) rfl ?_
  show Steps p.tables e below (T384.setTop (mkF m 10 #[.val (.ref a1), .val (.ref w_STYLES), .val (.int 5), .val (.int 0), .unset] [(.int 0)])) _
  refine XS.iloadN X384.here hx rfl (hb hby d6_10) rfl ?_
  show Steps p.tables e below (T384.setTop (mkF m 11 #[.val (.ref a1), .val (.ref w_STYLES), .val (.int 5), .val (.int 0), .unset] [(.int 5), (.int 0)])) _
  refine XS.icmpNo X384.here hx rfl (hb hby d6_11) rfl (tlt (by decide : (0 : Int32) < (5 : Int32))).2.1 ?_
  show Steps p.tables e below (T384.setTop (mkF m 14 #[.val (.ref a1), .val (.ref w_STYLES), .val (.int 5), .val (.int 0), .unset] [])) _
  refine XS.aloadN X384.here hx rfl (hb hby d6_14) rfl rfl ?_
  show Steps p.tables e below (T384.setTop (mkF m 15 #[.val (.ref a1), .val (.ref w_STYLES), .val (.int 5), .val (.int 0), .unset] [(.ref w_STYLES)])) _
  refine XS.iloadN X384.here hx rfl (hb hby d6_15) rfl ?_
  show Steps p.tables e below (T384.setTop (mkF m 16 #[.val (.ref a1), .val (.ref w_STYLES), .val (.int 5), .val (.int 0), .unset] [(.int 0), (.ref w_STYLES)])) _
  exact k
 obtain ⟨cl386, Ar386, cq386, cS386, cN386, cH386, cG386⟩ := id V_STYLES
 have hin386 := inb_of (j := (0 : Int32)) cS386 ⟨by decide, by decide⟩
 have hat386 : cl386.slots[((0 : Int32)).toNatClampNeg]? = some (.ref w_NUMBER) := Has.at cH386 hin386 rfl
 refine own_go (B := T384.setTop (mkF m 21 #[.val (.ref a1), .val (.ref w_STYLES), .val (.int 5), .val (.int 0), .val (.ref w_NUMBER)] [(.ref w_NUMBER)])) (fun t k => ?_) ?_
 ·refine X384.aaload hx (j := (0 : Int32)) (v := (.ref w_NUMBER)) (by rw [e384]; exact Ar386.1) (State.isArrayOf_alike hZ.alike Ar386.2.1) rfl Ar386.2.2 hin386 hat386 (g := (mkF m 16 #[.val (.ref a1), .val (.ref w_STYLES), .val (.int 5), .val (.int 0), .unset] [(.int 0), (.ref w_STYLES)])) rfl rfl (hb hby d6_16) _ ?_
  show Steps p.tables e below (T384.setTop (mkF m 17 #[.val (.ref a1), .val (.ref w_STYLES), .val (.int 5), .val (.int 0), .unset] [(.ref w_NUMBER)])) _
  refine XS.astore X384.here hx rfl (hb hby d6_17) rfl rfl (l' := #[.val (.ref a1), .val (.ref w_STYLES), .val (.int 5), .val (.int 0), .val (.ref w_NUMBER)]) rfl ?_
  show Steps p.tables e below (T384.setTop (mkF m 19 #[.val (.ref a1), .val (.ref w_STYLES), .val (.int 5), .val (.int 0), .val (.ref w_NUMBER)] [])) _
  refine XS.aload X384.here hx rfl (hb hby d6_19) rfl rfl ?_
  show Steps p.tables e below (T384.setTop (mkF m 21 #[.val (.ref a1), .val (.ref w_STYLES), .val (.int 5), .val (.int 0), .val (.ref w_NUMBER)] [(.ref w_NUMBER)])) _
  exact k
 obtain ⟨T387, X387, e387, st387⟩ := getF X384 hx hZ hown (host := "") (Or.inl (hw _ (List.mem_of_getElem? (i := 36) rfl))) Via.refl e384 F_NUMBER_first (g := (mkF m 21 #[.val (.ref a1), .val (.ref w_STYLES), .val (.int 5), .val (.int 0), .val (.ref w_NUMBER)] [(.ref w_NUMBER)])) rfl rfl (hb hby d6_21)
 refine own_go st387 ?_
 refine own_go (B := T387.setTop (mkF m 25 #[.val (.ref a1), .val (.ref w_STYLES), .val (.int 5), .val (.int 0), .val (.ref w_NUMBER)] [(.ref a1), (.ref w_NUMBER_first)])) (fun t k => ?_) ?_
 ·refine XS.aloadN X387.here hx rfl (hb hby d6_24) rfl rfl ?_
  show Steps p.tables e below (T387.setTop (mkF m 25 #[.val (.ref a1), .val (.ref w_STYLES), .val (.int 5), .val (.int 0), .val (.ref w_NUMBER)] [(.ref a1), (.ref w_NUMBER_first)])) _
  exact k
 obtain ⟨cq388, kq388, q388a, q388b, q388c⟩ := isOf hZ e387 E_NUMBER_first
 obtain ⟨_, _, ⟨T388, L388, k388, n388⟩, -, X388, ⟨Lc388, hQ388, l388, y388, z388⟩, st388⟩ := X387.virtualBack hx (y := (⟨"java/lang/String", "equals", "(Ljava/lang/Object;)Z"⟩ : MethodName)) (z := (⟨"java/lang/String", "equals", "(Ljava/lang/Object;)Z"⟩ : MethodName)) hown (mvT hZ (hw _ (List.mem_of_getElem? (i := 38) rfl))) (mvT hZ (hw _ (List.mem_of_getElem? (i := 39) rfl))) (notFace_of_selects (args := #[]) (mvT hZ (hw _ (List.mem_of_getElem? (i := 41) rfl)))) (mvT hZ (hw _ (List.mem_of_getElem? (i := 41) rfl))) (mvT hZ (hw _ (List.mem_of_getElem? (i := 40) rfl))) (by decide) (backOf (W := 0) (rm7_1 l Z a0 hw [] w_NUMBER_first a1 w_COMPACT_STRINGS w_NUMBER_first_value vs k_NUMBER_first_value ks (49 : Int32) y0 h0 n0 Z0 S_COMPACT_STRINGS (N_COMPACT_STRINGS) E_s F_NUMBER_first_coder C_s F_NUMBER_first_value W_s V_NUMBER_first_value V_s ne_NUMBER) hZ (hw _ (List.mem_of_getElem? (i := 42) rfl)) (hw _ (List.mem_of_getElem? (i := 10) rfl)) (by decide) (by decide)) q388a q388c (g := (mkF m 25 #[.val (.ref a1), .val (.ref w_STYLES), .val (.int 5), .val (.int 0), .val (.ref w_NUMBER)] [(.ref a1), (.ref w_NUMBER_first)])) rfl (by rw [hml]; rfl) (Steps.refl _) (argsL := [(.ref a1)]) (rest := []) (lenOf pd_6 rfl) rfl (by show 2 * 0 + _ ≤ _; exact Nat.le_of_eq rfl) (hb hby d6_25) (fun _ _ => ⟨rfl, e387, (by decide : 0 + 0 ≤ _), (by decide : 0 + 0 ≤ _)⟩)
 dsimp only [Pt.U, Pt.locs, Pt.cells, Pt.slots] at X388 l388 y388 z388 st388 hQ388
 subst l388 y388 z388
 obtain ⟨rfl, M388, q388_0⟩ := hQ388
 have N388 := Fr.app N0 M388
 refine own_go (fun t k => st388.trans k) ?_
 refine own_go (B := T388.setTop (mkF m 16 #[.val (.ref a1), .val (.ref w_STYLES), .val (.int 5), .val (.int 1), .val (.ref w_NUMBER)] [(.int 1), (.ref w_STYLES)])) (fun t k => ?_) ?_
 ·refine XS.ifYes X388.here hx rfl (pc0 := 28) (pc' := 34) rfl (hb hby d6_28) rfl ((if0 _ _).trans (teq (show (if (49 : Int32) = y0 then (1 : Int32) else 0) = (0 : Int32) from (by rw [if_neg (show ¬ ((49 : Int32) = y0) from hy0)] <;> decide))).1) (by decide) (by decide) ?_
  show Steps p.tables e below (T388.setTop (mkF m 34 #[.val (.ref a1), .val (.ref w_STYLES), .val (.int 5), .val (.int 0), .val (.ref w_NUMBER)] [])) _
  refine XS.iinc X388.here hx rfl (hb hby d6_34) rfl (l' := #[.val (.ref a1), .val (.ref w_STYLES), .val (.int 5), .val (.int 1), .val (.ref w_NUMBER)]) rfl ?_
  show Steps p.tables e below (T388.setTop (mkF m 37 #[.val (.ref a1), .val (.ref w_STYLES), .val (.int 5), .val (.int 1), .val (.ref w_NUMBER)] [])) _
  refine XS.goto X388.here hx rfl (pc0 := 37) (pc' := 9) rfl (hb hby d6_37) (by decide) (by decide) ?_
  show Steps p.tables e below (T388.setTop (mkF m 9 #[.val (.ref a1), .val (.ref w_STYLES), .val (.int 5), .val (.int 1), .val (.ref w_NUMBER)] [])) _
  refine XS.iloadN X388.here hx rfl (hb hby d6_9) rfl ?_
  show Steps p.tables e below (T388.setTop (mkF m 10 #[.val (.ref a1), .val (.ref w_STYLES), .val (.int 5), .val (.int 1), .val (.ref w_NUMBER)] [(.int 1)])) _
  refine XS.iloadN X388.here hx rfl (hb hby d6_10) rfl ?_
  show Steps p.tables e below (T388.setTop (mkF m 11 #[.val (.ref a1), .val (.ref w_STYLES), .val (.int 5), .val (.int 1), .val (.ref w_NUMBER)] [(.int 5), (.int 1)])) _
  refine XS.icmpNo X388.here hx rfl (hb hby d6_11) rfl (tlt (by decide : (1 : Int32) < (5 : Int32))).2.1 ?_
  show Steps p.tables e below (T388.setTop (mkF m 14 #[.val (.ref a1), .val (.ref w_STYLES), .val (.int 5), .val (.int 1), .val (.ref w_NUMBER)] [])) _
  refine XS.aloadN X388.here hx rfl (hb hby d6_14) rfl rfl ?_
  show Steps p.tables e below (T388.setTop (mkF m 15 #[.val (.ref a1), .val (.ref w_STYLES), .val (.int 5), .val (.int 1), .val (.ref w_NUMBER)] [(.ref w_STYLES)])) _
  refine XS.iloadN X388.here hx rfl (hb hby d6_15) rfl ?_
  show Steps p.tables e below (T388.setTop (mkF m 16 #[.val (.ref a1), .val (.ref w_STYLES), .val (.int 5), .val (.int 1), .val (.ref w_NUMBER)] [(.int 1), (.ref w_STYLES)])) _
  exact k
 obtain ⟨cl389, Ar389, cq389, cS389, cN389, cH389, cG389⟩ := id V_STYLES
 have hin389 := inb_of (j := (1 : Int32)) cS389 ⟨by decide, by decide⟩
 have hat389 : cl389.slots[((1 : Int32)).toNatClampNeg]? = some (.ref w_LOWER_LETTER) := Has.at cH389 hin389 rfl
 refine own_go (B := T388.setTop (mkF m 21 #[.val (.ref a1), .val (.ref w_STYLES), .val (.int 5), .val (.int 1), .val (.ref w_LOWER_LETTER)] [(.ref w_LOWER_LETTER)])) (fun t k => ?_) ?_
 ·refine X388.aaload hx (j := (1 : Int32)) (v := (.ref w_LOWER_LETTER)) (by rw [q388_0]; exact Ar389.1) (State.isArrayOf_alike hZ.alike Ar389.2.1) rfl Ar389.2.2 hin389 hat389 (g := (mkF m 16 #[.val (.ref a1), .val (.ref w_STYLES), .val (.int 5), .val (.int 1), .val (.ref w_NUMBER)] [(.int 1), (.ref w_STYLES)])) rfl rfl (hb hby d6_16) _ ?_
  show Steps p.tables e below (T388.setTop (mkF m 17 #[.val (.ref a1), .val (.ref w_STYLES), .val (.int 5), .val (.int 1), .val (.ref w_NUMBER)] [(.ref w_LOWER_LETTER)])) _
  refine XS.astore X388.here hx rfl (hb hby d6_17) rfl rfl (l' := #[.val (.ref a1), .val (.ref w_STYLES), .val (.int 5), .val (.int 1), .val (.ref w_LOWER_LETTER)]) rfl ?_
  show Steps p.tables e below (T388.setTop (mkF m 19 #[.val (.ref a1), .val (.ref w_STYLES), .val (.int 5), .val (.int 1), .val (.ref w_LOWER_LETTER)] [])) _
  refine XS.aload X388.here hx rfl (hb hby d6_19) rfl rfl ?_
  show Steps p.tables e below (T388.setTop (mkF m 21 #[.val (.ref a1), .val (.ref w_STYLES), .val (.int 5), .val (.int 1), .val (.ref w_LOWER_LETTER)] [(.ref w_LOWER_LETTER)])) _
  exact k
 obtain ⟨T390, X390, e390, st390⟩ := getF X388 hx hZ hown (host := "") (Or.inl (hw _ (List.mem_of_getElem? (i := 36) rfl))) Via.refl q388_0 F_LOWER_LETTER_first (g := (mkF m 21 #[.val (.ref a1), .val (.ref w_STYLES), .val (.int 5), .val (.int 1), .val (.ref w_LOWER_LETTER)] [(.ref w_LOWER_LETTER)])) rfl rfl (hb hby d6_21)
 refine own_go st390 ?_
 refine own_go (B := T390.setTop (mkF m 25 #[.val (.ref a1), .val (.ref w_STYLES), .val (.int 5), .val (.int 1), .val (.ref w_LOWER_LETTER)] [(.ref a1), (.ref w_LOWER_LETTER_first)])) (fun t k => ?_) ?_
 ·refine XS.aloadN X390.here hx rfl (hb hby d6_24) rfl rfl ?_
  show Steps p.tables e below (T390.setTop (mkF m 25 #[.val (.ref a1), .val (.ref w_STYLES), .val (.int 5), .val (.int 1), .val (.ref w_LOWER_LETTER)] [(.ref a1), (.ref w_LOWER_LETTER_first)])) _
  exact k
 obtain ⟨cq391, kq391, q391a, q391b, q391c⟩ := isOf hZ e390 E_LOWER_LETTER_first
 obtain ⟨_, _, ⟨T391, L391, k391, n391⟩, -, X391, ⟨Lc391, hQ391, l391, y391, z391⟩, st391⟩ := X390.virtualBack hx (y := (⟨"java/lang/String", "equals", "(Ljava/lang/Object;)Z"⟩ : MethodName)) (z := (⟨"java/lang/String", "equals", "(Ljava/lang/Object;)Z"⟩ : MethodName)) hown (mvT hZ (hw _ (List.mem_of_getElem? (i := 38) rfl))) (mvT hZ (hw _ (List.mem_of_getElem? (i := 39) rfl))) (notFace_of_selects (args := #[]) (mvT hZ (hw _ (List.mem_of_getElem? (i := 41) rfl)))) (mvT hZ (hw _ (List.mem_of_getElem? (i := 41) rfl))) (mvT hZ (hw _ (List.mem_of_getElem? (i := 40) rfl))) (by decide) (backOf (W := 0) (rm7_1 l Z a0 hw [] w_LOWER_LETTER_first a1 w_COMPACT_STRINGS w_LOWER_LETTER_first_value vs k_LOWER_LETTER_first_value ks (97 : Int32) y0 h0 n0 Z0 S_COMPACT_STRINGS (N_COMPACT_STRINGS) E_s F_LOWER_LETTER_first_coder C_s F_LOWER_LETTER_first_value W_s V_LOWER_LETTER_first_value V_s ne_LOWER_LETTER) hZ (hw _ (List.mem_of_getElem? (i := 42) rfl)) (hw _ (List.mem_of_getElem? (i := 10) rfl)) (by decide) (by decide)) q391a q391c (g := (mkF m 25 #[.val (.ref a1), .val (.ref w_STYLES), .val (.int 5), .val (.int 1), .val (.ref w_LOWER_LETTER)] [(.ref a1), (.ref w_LOWER_LETTER_first)])) rfl (by rw [hml]; rfl) (Steps.refl _) (argsL := [(.ref a1)]) (rest := []) (lenOf pd_6 rfl) rfl (by show 2 * 0 + _ ≤ _; exact Nat.le_of_eq rfl) (hb hby d6_25) (fun _ _ => ⟨rfl, e390, (by decide : 0 + 0 ≤ _), (by decide : 0 + 0 ≤ _)⟩)
 dsimp only [Pt.U, Pt.locs, Pt.cells, Pt.slots] at X391 l391 y391 z391 st391 hQ391
 subst l391 y391 z391
 obtain ⟨rfl, M391, q391_0⟩ := hQ391
 have N391 := Fr.app N388 M391
 refine own_go (fun t k => st391.trans k) ?_
 refine own_go (B := T391.setTop (mkF m 16 #[.val (.ref a1), .val (.ref w_STYLES), .val (.int 5), .val (.int 2), .val (.ref w_LOWER_LETTER)] [(.int 2), (.ref w_STYLES)])) (fun t k => ?_) ?_
 ·refine XS.ifYes X391.here hx rfl (pc0 := 28) (pc' := 34) rfl (hb hby d6_28) rfl ((if0 _ _).trans (teq (show (if (97 : Int32) = y0 then (1 : Int32) else 0) = (0 : Int32) from (by rw [if_neg (show ¬ ((97 : Int32) = y0) from hy1)] <;> decide))).1) (by decide) (by decide) ?_
  show Steps p.tables e below (T391.setTop (mkF m 34 #[.val (.ref a1), .val (.ref w_STYLES), .val (.int 5), .val (.int 1), .val (.ref w_LOWER_LETTER)] [])) _
  refine XS.iinc X391.here hx rfl (hb hby d6_34) rfl (l' := #[.val (.ref a1), .val (.ref w_STYLES), .val (.int 5), .val (.int 2), .val (.ref w_LOWER_LETTER)]) rfl ?_
  show Steps p.tables e below (T391.setTop (mkF m 37 #[.val (.ref a1), .val (.ref w_STYLES), .val (.int 5), .val (.int 2), .val (.ref w_LOWER_LETTER)] [])) _
  refine XS.goto X391.here hx rfl (pc0 := 37) (pc' := 9) rfl (hb hby d6_37) (by decide) (by decide) ?_
  show Steps p.tables e below (T391.setTop (mkF m 9 #[.val (.ref a1), .val (.ref w_STYLES), .val (.int 5), .val (.int 2), .val (.ref w_LOWER_LETTER)] [])) _
  refine XS.iloadN X391.here hx rfl (hb hby d6_9) rfl ?_
  show Steps p.tables e below (T391.setTop (mkF m 10 #[.val (.ref a1), .val (.ref w_STYLES), .val (.int 5), .val (.int 2), .val (.ref w_LOWER_LETTER)] [(.int 2)])) _
  refine XS.iloadN X391.here hx rfl (hb hby d6_10) rfl ?_
  show Steps p.tables e below (T391.setTop (mkF m 11 #[.val (.ref a1), .val (.ref w_STYLES), .val (.int 5), .val (.int 2), .val (.ref w_LOWER_LETTER)] [(.int 5), (.int 2)])) _
  refine XS.icmpNo X391.here hx rfl (hb hby d6_11) rfl (tlt (by decide : (2 : Int32) < (5 : Int32))).2.1 ?_
  show Steps p.tables e below (T391.setTop (mkF m 14 #[.val (.ref a1), .val (.ref w_STYLES), .val (.int 5), .val (.int 2), .val (.ref w_LOWER_LETTER)] [])) _
  refine XS.aloadN X391.here hx rfl (hb hby d6_14) rfl rfl ?_
  show Steps p.tables e below (T391.setTop (mkF m 15 #[.val (.ref a1), .val (.ref w_STYLES), .val (.int 5), .val (.int 2), .val (.ref w_LOWER_LETTER)] [(.ref w_STYLES)])) _
  refine XS.iloadN X391.here hx rfl (hb hby d6_15) rfl ?_
  show Steps p.tables e below (T391.setTop (mkF m 16 #[.val (.ref a1), .val (.ref w_STYLES), .val (.int 5), .val (.int 2), .val (.ref w_LOWER_LETTER)] [(.int 2), (.ref w_STYLES)])) _
  exact k
 obtain ⟨cl392, Ar392, cq392, cS392, cN392, cH392, cG392⟩ := id V_STYLES
 have hin392 := inb_of (j := (2 : Int32)) cS392 ⟨by decide, by decide⟩
 have hat392 : cl392.slots[((2 : Int32)).toNatClampNeg]? = some (.ref w_UPPER_LETTER) := Has.at cH392 hin392 rfl
 refine own_go (B := T391.setTop (mkF m 21 #[.val (.ref a1), .val (.ref w_STYLES), .val (.int 5), .val (.int 2), .val (.ref w_UPPER_LETTER)] [(.ref w_UPPER_LETTER)])) (fun t k => ?_) ?_
 ·refine X391.aaload hx (j := (2 : Int32)) (v := (.ref w_UPPER_LETTER)) (by rw [q391_0]; exact Ar392.1) (State.isArrayOf_alike hZ.alike Ar392.2.1) rfl Ar392.2.2 hin392 hat392 (g := (mkF m 16 #[.val (.ref a1), .val (.ref w_STYLES), .val (.int 5), .val (.int 2), .val (.ref w_LOWER_LETTER)] [(.int 2), (.ref w_STYLES)])) rfl rfl (hb hby d6_16) _ ?_
  show Steps p.tables e below (T391.setTop (mkF m 17 #[.val (.ref a1), .val (.ref w_STYLES), .val (.int 5), .val (.int 2), .val (.ref w_LOWER_LETTER)] [(.ref w_UPPER_LETTER)])) _
  refine XS.astore X391.here hx rfl (hb hby d6_17) rfl rfl (l' := #[.val (.ref a1), .val (.ref w_STYLES), .val (.int 5), .val (.int 2), .val (.ref w_UPPER_LETTER)]) rfl ?_
  show Steps p.tables e below (T391.setTop (mkF m 19 #[.val (.ref a1), .val (.ref w_STYLES), .val (.int 5), .val (.int 2), .val (.ref w_UPPER_LETTER)] [])) _
  refine XS.aload X391.here hx rfl (hb hby d6_19) rfl rfl ?_
  show Steps p.tables e below (T391.setTop (mkF m 21 #[.val (.ref a1), .val (.ref w_STYLES), .val (.int 5), .val (.int 2), .val (.ref w_UPPER_LETTER)] [(.ref w_UPPER_LETTER)])) _
  exact k
 obtain ⟨T393, X393, e393, st393⟩ := getF X391 hx hZ hown (host := "") (Or.inl (hw _ (List.mem_of_getElem? (i := 36) rfl))) Via.refl q391_0 F_UPPER_LETTER_first (g := (mkF m 21 #[.val (.ref a1), .val (.ref w_STYLES), .val (.int 5), .val (.int 2), .val (.ref w_UPPER_LETTER)] [(.ref w_UPPER_LETTER)])) rfl rfl (hb hby d6_21)
 refine own_go st393 ?_
 refine own_go (B := T393.setTop (mkF m 25 #[.val (.ref a1), .val (.ref w_STYLES), .val (.int 5), .val (.int 2), .val (.ref w_UPPER_LETTER)] [(.ref a1), (.ref w_UPPER_LETTER_first)])) (fun t k => ?_) ?_
 ·refine XS.aloadN X393.here hx rfl (hb hby d6_24) rfl rfl ?_
  show Steps p.tables e below (T393.setTop (mkF m 25 #[.val (.ref a1), .val (.ref w_STYLES), .val (.int 5), .val (.int 2), .val (.ref w_UPPER_LETTER)] [(.ref a1), (.ref w_UPPER_LETTER_first)])) _
  exact k
 obtain ⟨cq394, kq394, q394a, q394b, q394c⟩ := isOf hZ e393 E_UPPER_LETTER_first
 obtain ⟨_, _, ⟨T394, L394, k394, n394⟩, -, X394, ⟨Lc394, hQ394, l394, y394, z394⟩, st394⟩ := X393.virtualBack hx (y := (⟨"java/lang/String", "equals", "(Ljava/lang/Object;)Z"⟩ : MethodName)) (z := (⟨"java/lang/String", "equals", "(Ljava/lang/Object;)Z"⟩ : MethodName)) hown (mvT hZ (hw _ (List.mem_of_getElem? (i := 38) rfl))) (mvT hZ (hw _ (List.mem_of_getElem? (i := 39) rfl))) (notFace_of_selects (args := #[]) (mvT hZ (hw _ (List.mem_of_getElem? (i := 41) rfl)))) (mvT hZ (hw _ (List.mem_of_getElem? (i := 41) rfl))) (mvT hZ (hw _ (List.mem_of_getElem? (i := 40) rfl))) (by decide) (backOf (W := 0) (rm7_1 l Z a0 hw [] w_UPPER_LETTER_first a1 w_COMPACT_STRINGS w_UPPER_LETTER_first_value vs k_UPPER_LETTER_first_value ks (65 : Int32) y0 h0 n0 Z0 S_COMPACT_STRINGS (N_COMPACT_STRINGS) E_s F_UPPER_LETTER_first_coder C_s F_UPPER_LETTER_first_value W_s V_UPPER_LETTER_first_value V_s ne_UPPER_LETTER) hZ (hw _ (List.mem_of_getElem? (i := 42) rfl)) (hw _ (List.mem_of_getElem? (i := 10) rfl)) (by decide) (by decide)) q394a q394c (g := (mkF m 25 #[.val (.ref a1), .val (.ref w_STYLES), .val (.int 5), .val (.int 2), .val (.ref w_UPPER_LETTER)] [(.ref a1), (.ref w_UPPER_LETTER_first)])) rfl (by rw [hml]; rfl) (Steps.refl _) (argsL := [(.ref a1)]) (rest := []) (lenOf pd_6 rfl) rfl (by show 2 * 0 + _ ≤ _; exact Nat.le_of_eq rfl) (hb hby d6_25) (fun _ _ => ⟨rfl, e393, (by decide : 0 + 0 ≤ _), (by decide : 0 + 0 ≤ _)⟩)
 dsimp only [Pt.U, Pt.locs, Pt.cells, Pt.slots] at X394 l394 y394 z394 st394 hQ394
 subst l394 y394 z394
 obtain ⟨rfl, M394, q394_0⟩ := hQ394
 have N394 := Fr.app N391 M394
 refine own_go (fun t k => st394.trans k) ?_
 refine own_go (B := T394.setTop (mkF m 16 #[.val (.ref a1), .val (.ref w_STYLES), .val (.int 5), .val (.int 3), .val (.ref w_UPPER_LETTER)] [(.int 3), (.ref w_STYLES)])) (fun t k => ?_) ?_
 ·refine XS.ifYes X394.here hx rfl (pc0 := 28) (pc' := 34) rfl (hb hby d6_28) rfl ((if0 _ _).trans (teq (show (if (65 : Int32) = y0 then (1 : Int32) else 0) = (0 : Int32) from (by rw [if_neg (show ¬ ((65 : Int32) = y0) from hy2)] <;> decide))).1) (by decide) (by decide) ?_
  show Steps p.tables e below (T394.setTop (mkF m 34 #[.val (.ref a1), .val (.ref w_STYLES), .val (.int 5), .val (.int 2), .val (.ref w_UPPER_LETTER)] [])) _
  refine XS.iinc X394.here hx rfl (hb hby d6_34) rfl (l' := #[.val (.ref a1), .val (.ref w_STYLES), .val (.int 5), .val (.int 3), .val (.ref w_UPPER_LETTER)]) rfl ?_
  show Steps p.tables e below (T394.setTop (mkF m 37 #[.val (.ref a1), .val (.ref w_STYLES), .val (.int 5), .val (.int 3), .val (.ref w_UPPER_LETTER)] [])) _
  refine XS.goto X394.here hx rfl (pc0 := 37) (pc' := 9) rfl (hb hby d6_37) (by decide) (by decide) ?_
  show Steps p.tables e below (T394.setTop (mkF m 9 #[.val (.ref a1), .val (.ref w_STYLES), .val (.int 5), .val (.int 3), .val (.ref w_UPPER_LETTER)] [])) _
  refine XS.iloadN X394.here hx rfl (hb hby d6_9) rfl ?_
  show Steps p.tables e below (T394.setTop (mkF m 10 #[.val (.ref a1), .val (.ref w_STYLES), .val (.int 5), .val (.int 3), .val (.ref w_UPPER_LETTER)] [(.int 3)])) _
  refine XS.iloadN X394.here hx rfl (hb hby d6_10) rfl ?_
  show Steps p.tables e below (T394.setTop (mkF m 11 #[.val (.ref a1), .val (.ref w_STYLES), .val (.int 5), .val (.int 3), .val (.ref w_UPPER_LETTER)] [(.int 5), (.int 3)])) _
  refine XS.icmpNo X394.here hx rfl (hb hby d6_11) rfl (tlt (by decide : (3 : Int32) < (5 : Int32))).2.1 ?_
  show Steps p.tables e below (T394.setTop (mkF m 14 #[.val (.ref a1), .val (.ref w_STYLES), .val (.int 5), .val (.int 3), .val (.ref w_UPPER_LETTER)] [])) _
  refine XS.aloadN X394.here hx rfl (hb hby d6_14) rfl rfl ?_
  show Steps p.tables e below (T394.setTop (mkF m 15 #[.val (.ref a1), .val (.ref w_STYLES), .val (.int 5), .val (.int 3), .val (.ref w_UPPER_LETTER)] [(.ref w_STYLES)])) _
  refine XS.iloadN X394.here hx rfl (hb hby d6_15) rfl ?_
  show Steps p.tables e below (T394.setTop (mkF m 16 #[.val (.ref a1), .val (.ref w_STYLES), .val (.int 5), .val (.int 3), .val (.ref w_UPPER_LETTER)] [(.int 3), (.ref w_STYLES)])) _
  exact k
 obtain ⟨cl395, Ar395, cq395, cS395, cN395, cH395, cG395⟩ := id V_STYLES
 have hin395 := inb_of (j := (3 : Int32)) cS395 ⟨by decide, by decide⟩
 have hat395 : cl395.slots[((3 : Int32)).toNatClampNeg]? = some (.ref w_LOWER_ROMAN) := Has.at cH395 hin395 rfl
 refine own_go (B := T394.setTop (mkF m 21 #[.val (.ref a1), .val (.ref w_STYLES), .val (.int 5), .val (.int 3), .val (.ref w_LOWER_ROMAN)] [(.ref w_LOWER_ROMAN)])) (fun t k => ?_) ?_
 ·refine X394.aaload hx (j := (3 : Int32)) (v := (.ref w_LOWER_ROMAN)) (by rw [q394_0]; exact Ar395.1) (State.isArrayOf_alike hZ.alike Ar395.2.1) rfl Ar395.2.2 hin395 hat395 (g := (mkF m 16 #[.val (.ref a1), .val (.ref w_STYLES), .val (.int 5), .val (.int 3), .val (.ref w_UPPER_LETTER)] [(.int 3), (.ref w_STYLES)])) rfl rfl (hb hby d6_16) _ ?_
  show Steps p.tables e below (T394.setTop (mkF m 17 #[.val (.ref a1), .val (.ref w_STYLES), .val (.int 5), .val (.int 3), .val (.ref w_UPPER_LETTER)] [(.ref w_LOWER_ROMAN)])) _
  refine XS.astore X394.here hx rfl (hb hby d6_17) rfl rfl (l' := #[.val (.ref a1), .val (.ref w_STYLES), .val (.int 5), .val (.int 3), .val (.ref w_LOWER_ROMAN)]) rfl ?_
  show Steps p.tables e below (T394.setTop (mkF m 19 #[.val (.ref a1), .val (.ref w_STYLES), .val (.int 5), .val (.int 3), .val (.ref w_LOWER_ROMAN)] [])) _
  refine XS.aload X394.here hx rfl (hb hby d6_19) rfl rfl ?_
  show Steps p.tables e below (T394.setTop (mkF m 21 #[.val (.ref a1), .val (.ref w_STYLES), .val (.int 5), .val (.int 3), .val (.ref w_LOWER_ROMAN)] [(.ref w_LOWER_ROMAN)])) _
  exact k
 obtain ⟨T396, X396, e396, st396⟩ := getF X394 hx hZ hown (host := "") (Or.inl (hw _ (List.mem_of_getElem? (i := 36) rfl))) Via.refl q394_0 F_LOWER_ROMAN_first (g := (mkF m 21 #[.val (.ref a1), .val (.ref w_STYLES), .val (.int 5), .val (.int 3), .val (.ref w_LOWER_ROMAN)] [(.ref w_LOWER_ROMAN)])) rfl rfl (hb hby d6_21)
 refine own_go st396 ?_
 refine own_go (B := T396.setTop (mkF m 25 #[.val (.ref a1), .val (.ref w_STYLES), .val (.int 5), .val (.int 3), .val (.ref w_LOWER_ROMAN)] [(.ref a1), (.ref w_LOWER_ROMAN_first)])) (fun t k => ?_) ?_
 ·refine XS.aloadN X396.here hx rfl (hb hby d6_24) rfl rfl ?_
  show Steps p.tables e below (T396.setTop (mkF m 25 #[.val (.ref a1), .val (.ref w_STYLES), .val (.int 5), .val (.int 3), .val (.ref w_LOWER_ROMAN)] [(.ref a1), (.ref w_LOWER_ROMAN_first)])) _
  exact k
 obtain ⟨cq397, kq397, q397a, q397b, q397c⟩ := isOf hZ e396 E_LOWER_ROMAN_first
 obtain ⟨_, _, ⟨T397, L397, k397, n397⟩, -, X397, ⟨Lc397, hQ397, l397, y397, z397⟩, st397⟩ := X396.virtualBack hx (y := (⟨"java/lang/String", "equals", "(Ljava/lang/Object;)Z"⟩ : MethodName)) (z := (⟨"java/lang/String", "equals", "(Ljava/lang/Object;)Z"⟩ : MethodName)) hown (mvT hZ (hw _ (List.mem_of_getElem? (i := 38) rfl))) (mvT hZ (hw _ (List.mem_of_getElem? (i := 39) rfl))) (notFace_of_selects (args := #[]) (mvT hZ (hw _ (List.mem_of_getElem? (i := 41) rfl)))) (mvT hZ (hw _ (List.mem_of_getElem? (i := 41) rfl))) (mvT hZ (hw _ (List.mem_of_getElem? (i := 40) rfl))) (by decide) (backOf (W := 0) (rm7_1 l Z a0 hw [] w_LOWER_ROMAN_first a1 w_COMPACT_STRINGS w_LOWER_ROMAN_first_value vs k_LOWER_ROMAN_first_value ks (105 : Int32) y0 h0 n0 Z0 S_COMPACT_STRINGS (N_COMPACT_STRINGS) E_s F_LOWER_ROMAN_first_coder C_s F_LOWER_ROMAN_first_value W_s V_LOWER_ROMAN_first_value V_s ne_LOWER_ROMAN) hZ (hw _ (List.mem_of_getElem? (i := 42) rfl)) (hw _ (List.mem_of_getElem? (i := 10) rfl)) (by decide) (by decide)) q397a q397c (g := (mkF m 25 #[.val (.ref a1), .val (.ref w_STYLES), .val (.int 5), .val (.int 3), .val (.ref w_LOWER_ROMAN)] [(.ref a1), (.ref w_LOWER_ROMAN_first)])) rfl (by rw [hml]; rfl) (Steps.refl _) (argsL := [(.ref a1)]) (rest := []) (lenOf pd_6 rfl) rfl (by show 2 * 0 + _ ≤ _; exact Nat.le_of_eq rfl) (hb hby d6_25) (fun _ _ => ⟨rfl, e396, (by decide : 0 + 0 ≤ _), (by decide : 0 + 0 ≤ _)⟩)
 dsimp only [Pt.U, Pt.locs, Pt.cells, Pt.slots] at X397 l397 y397 z397 st397 hQ397
 subst l397 y397 z397
 obtain ⟨rfl, M397, q397_0⟩ := hQ397
 have N397 := Fr.app N394 M397
 refine own_go (fun t k => st397.trans k) ?_
 refine own_go (B := T397.setTop (mkF m 16 #[.val (.ref a1), .val (.ref w_STYLES), .val (.int 5), .val (.int 4), .val (.ref w_LOWER_ROMAN)] [(.int 4), (.ref w_STYLES)])) (fun t k => ?_) ?_
 ·refine XS.ifYes X397.here hx rfl (pc0 := 28) (pc' := 34) rfl (hb hby d6_28) rfl ((if0 _ _).trans (teq (show (if (105 : Int32) = y0 then (1 : Int32) else 0) = (0 : Int32) from (by rw [if_neg (show ¬ ((105 : Int32) = y0) from hy3)] <;> decide))).1) (by decide) (by decide) ?_
  show Steps p.tables e below (T397.setTop (mkF m 34 #[.val (.ref a1), .val (.ref w_STYLES), .val (.int 5), .val (.int 3), .val (.ref w_LOWER_ROMAN)] [])) _
  refine XS.iinc X397.here hx rfl (hb hby d6_34) rfl (l' := #[.val (.ref a1), .val (.ref w_STYLES), .val (.int 5), .val (.int 4), .val (.ref w_LOWER_ROMAN)]) rfl ?_
  show Steps p.tables e below (T397.setTop (mkF m 37 #[.val (.ref a1), .val (.ref w_STYLES), .val (.int 5), .val (.int 4), .val (.ref w_LOWER_ROMAN)] [])) _
  refine XS.goto X397.here hx rfl (pc0 := 37) (pc' := 9) rfl (hb hby d6_37) (by decide) (by decide) ?_
  show Steps p.tables e below (T397.setTop (mkF m 9 #[.val (.ref a1), .val (.ref w_STYLES), .val (.int 5), .val (.int 4), .val (.ref w_LOWER_ROMAN)] [])) _
  refine XS.iloadN X397.here hx rfl (hb hby d6_9) rfl ?_
  show Steps p.tables e below (T397.setTop (mkF m 10 #[.val (.ref a1), .val (.ref w_STYLES), .val (.int 5), .val (.int 4), .val (.ref w_LOWER_ROMAN)] [(.int 4)])) _
  refine XS.iloadN X397.here hx rfl (hb hby d6_10) rfl ?_
  show Steps p.tables e below (T397.setTop (mkF m 11 #[.val (.ref a1), .val (.ref w_STYLES), .val (.int 5), .val (.int 4), .val (.ref w_LOWER_ROMAN)] [(.int 5), (.int 4)])) _
  refine XS.icmpNo X397.here hx rfl (hb hby d6_11) rfl (tlt (by decide : (4 : Int32) < (5 : Int32))).2.1 ?_
  show Steps p.tables e below (T397.setTop (mkF m 14 #[.val (.ref a1), .val (.ref w_STYLES), .val (.int 5), .val (.int 4), .val (.ref w_LOWER_ROMAN)] [])) _
  refine XS.aloadN X397.here hx rfl (hb hby d6_14) rfl rfl ?_
  show Steps p.tables e below (T397.setTop (mkF m 15 #[.val (.ref a1), .val (.ref w_STYLES), .val (.int 5), .val (.int 4), .val (.ref w_LOWER_ROMAN)] [(.ref w_STYLES)])) _
  refine XS.iloadN X397.here hx rfl (hb hby d6_15) rfl ?_
  show Steps p.tables e below (T397.setTop (mkF m 16 #[.val (.ref a1), .val (.ref w_STYLES), .val (.int 5), .val (.int 4), .val (.ref w_LOWER_ROMAN)] [(.int 4), (.ref w_STYLES)])) _
  exact k
 obtain ⟨cl398, Ar398, cq398, cS398, cN398, cH398, cG398⟩ := id V_STYLES
 have hin398 := inb_of (j := (4 : Int32)) cS398 ⟨by decide, by decide⟩
 have hat398 : cl398.slots[((4 : Int32)).toNatClampNeg]? = some (.ref w_UPPER_ROMAN) := Has.at cH398 hin398 rfl
 refine own_go (B := T397.setTop (mkF m 21 #[.val (.ref a1), .val (.ref w_STYLES), .val (.int 5), .val (.int 4), .val (.ref w_UPPER_ROMAN)] [(.ref w_UPPER_ROMAN)])) (fun t k => ?_) ?_
 ·refine X397.aaload hx (j := (4 : Int32)) (v := (.ref w_UPPER_ROMAN)) (by rw [q397_0]; exact Ar398.1) (State.isArrayOf_alike hZ.alike Ar398.2.1) rfl Ar398.2.2 hin398 hat398 (g := (mkF m 16 #[.val (.ref a1), .val (.ref w_STYLES), .val (.int 5), .val (.int 4), .val (.ref w_LOWER_ROMAN)] [(.int 4), (.ref w_STYLES)])) rfl rfl (hb hby d6_16) _ ?_
  show Steps p.tables e below (T397.setTop (mkF m 17 #[.val (.ref a1), .val (.ref w_STYLES), .val (.int 5), .val (.int 4), .val (.ref w_LOWER_ROMAN)] [(.ref w_UPPER_ROMAN)])) _
  refine XS.astore X397.here hx rfl (hb hby d6_17) rfl rfl (l' := #[.val (.ref a1), .val (.ref w_STYLES), .val (.int 5), .val (.int 4), .val (.ref w_UPPER_ROMAN)]) rfl ?_
  show Steps p.tables e below (T397.setTop (mkF m 19 #[.val (.ref a1), .val (.ref w_STYLES), .val (.int 5), .val (.int 4), .val (.ref w_UPPER_ROMAN)] [])) _
  refine XS.aload X397.here hx rfl (hb hby d6_19) rfl rfl ?_
  show Steps p.tables e below (T397.setTop (mkF m 21 #[.val (.ref a1), .val (.ref w_STYLES), .val (.int 5), .val (.int 4), .val (.ref w_UPPER_ROMAN)] [(.ref w_UPPER_ROMAN)])) _
  exact k
 obtain ⟨T399, X399, e399, st399⟩ := getF X397 hx hZ hown (host := "") (Or.inl (hw _ (List.mem_of_getElem? (i := 36) rfl))) Via.refl q397_0 F_UPPER_ROMAN_first (g := (mkF m 21 #[.val (.ref a1), .val (.ref w_STYLES), .val (.int 5), .val (.int 4), .val (.ref w_UPPER_ROMAN)] [(.ref w_UPPER_ROMAN)])) rfl rfl (hb hby d6_21)
 refine own_go st399 ?_
 refine own_go (B := T399.setTop (mkF m 25 #[.val (.ref a1), .val (.ref w_STYLES), .val (.int 5), .val (.int 4), .val (.ref w_UPPER_ROMAN)] [(.ref a1), (.ref w_UPPER_ROMAN_first)])) (fun t k => ?_) ?_
 ·refine XS.aloadN X399.here hx rfl (hb hby d6_24) rfl rfl ?_
  show Steps p.tables e below (T399.setTop (mkF m 25 #[.val (.ref a1), .val (.ref w_STYLES), .val (.int 5), .val (.int 4), .val (.ref w_UPPER_ROMAN)] [(.ref a1), (.ref w_UPPER_ROMAN_first)])) _
  exact k
 obtain ⟨cq400, kq400, q400a, q400b, q400c⟩ := isOf hZ e399 E_UPPER_ROMAN_first
 obtain ⟨_, _, ⟨T400, L400, k400, n400⟩, -, X400, ⟨Lc400, hQ400, l400, y400, z400⟩, st400⟩ := X399.virtualBack hx (y := (⟨"java/lang/String", "equals", "(Ljava/lang/Object;)Z"⟩ : MethodName)) (z := (⟨"java/lang/String", "equals", "(Ljava/lang/Object;)Z"⟩ : MethodName)) hown (mvT hZ (hw _ (List.mem_of_getElem? (i := 38) rfl))) (mvT hZ (hw _ (List.mem_of_getElem? (i := 39) rfl))) (notFace_of_selects (args := #[]) (mvT hZ (hw _ (List.mem_of_getElem? (i := 41) rfl)))) (mvT hZ (hw _ (List.mem_of_getElem? (i := 41) rfl))) (mvT hZ (hw _ (List.mem_of_getElem? (i := 40) rfl))) (by decide) (backOf (W := 0) (rm7_1 l Z a0 hw [] w_UPPER_ROMAN_first a1 w_COMPACT_STRINGS w_UPPER_ROMAN_first_value vs k_UPPER_ROMAN_first_value ks (73 : Int32) y0 h0 n0 Z0 S_COMPACT_STRINGS (N_COMPACT_STRINGS) E_s F_UPPER_ROMAN_first_coder C_s F_UPPER_ROMAN_first_value W_s V_UPPER_ROMAN_first_value V_s ne_UPPER_ROMAN) hZ (hw _ (List.mem_of_getElem? (i := 42) rfl)) (hw _ (List.mem_of_getElem? (i := 10) rfl)) (by decide) (by decide)) q400a q400c (g := (mkF m 25 #[.val (.ref a1), .val (.ref w_STYLES), .val (.int 5), .val (.int 4), .val (.ref w_UPPER_ROMAN)] [(.ref a1), (.ref w_UPPER_ROMAN_first)])) rfl (by rw [hml]; rfl) (Steps.refl _) (argsL := [(.ref a1)]) (rest := []) (lenOf pd_6 rfl) rfl (by show 2 * 0 + _ ≤ _; exact Nat.le_of_eq rfl) (hb hby d6_25) (fun _ _ => ⟨rfl, e399, (by decide : 0 + 0 ≤ _), (by decide : 0 + 0 ≤ _)⟩)
 dsimp only [Pt.U, Pt.locs, Pt.cells, Pt.slots] at X400 l400 y400 z400 st400 hQ400
 subst l400 y400 z400
 obtain ⟨rfl, M400, q400_0⟩ := hQ400
 have N400 := Fr.app N397 M400
 refine own_go (fun t k => st400.trans k) ?_
 refine own_go (B := T400.setTop (mkF m 41 #[.val (.ref a1), .val (.ref w_STYLES), .val (.int 5), .val (.int 5), .val (.ref w_UPPER_ROMAN)] [.null])) (fun t k => ?_) ?_
 ·refine XS.ifYes X400.here hx rfl (pc0 := 28) (pc' := 34) rfl (hb hby d6_28) rfl ((if0 _ _).trans (teq (show (if (73 : Int32) = y0 then (1 : Int32) else 0) = (0 : Int32) from (by rw [if_neg (show ¬ ((73 : Int32) = y0) from hy4)] <;> decide))).1) (by decide) (by decide) ?_
  show Steps p.tables e below (T400.setTop (mkF m 34 #[.val (.ref a1), .val (.ref w_STYLES), .val (.int 5), .val (.int 4), .val (.ref w_UPPER_ROMAN)] [])) _
  refine XS.iinc X400.here hx rfl (hb hby d6_34) rfl (l' := #[.val (.ref a1), .val (.ref w_STYLES), .val (.int 5), .val (.int 5), .val (.ref w_UPPER_ROMAN)]) rfl ?_
  show Steps p.tables e below (T400.setTop (mkF m 37 #[.val (.ref a1), .val (.ref w_STYLES), .val (.int 5), .val (.int 5), .val (.ref w_UPPER_ROMAN)] [])) _
  refine XS.goto X400.here hx rfl (pc0 := 37) (pc' := 9) rfl (hb hby d6_37) (by decide) (by decide) ?_
  show Steps p.tables e below (T400.setTop (mkF m 9 #[.val (.ref a1), .val (.ref w_STYLES), .val (.int 5), .val (.int 5), .val (.ref w_UPPER_ROMAN)] [])) _
  refine XS.iloadN X400.here hx rfl (hb hby d6_9) rfl ?_
  show Steps p.tables e below (T400.setTop (mkF m 10 #[.val (.ref a1), .val (.ref w_STYLES), .val (.int 5), .val (.int 5), .val (.ref w_UPPER_ROMAN)] [(.int 5)])) _
  refine XS.iloadN X400.here hx rfl (hb hby d6_10) rfl ?_
  show Steps p.tables e below (T400.setTop (mkF m 11 #[.val (.ref a1), .val (.ref w_STYLES), .val (.int 5), .val (.int 5), .val (.ref w_UPPER_ROMAN)] [(.int 5), (.int 5)])) _
  refine XS.icmpYes X400.here hx rfl (pc0 := 11) (pc' := 40) rfl (hb hby d6_11) rfl (flt (by decide : ¬ ((5 : Int32) < (5 : Int32)))).2.1 (by decide) (by decide) ?_
  show Steps p.tables e below (T400.setTop (mkF m 40 #[.val (.ref a1), .val (.ref w_STYLES), .val (.int 5), .val (.int 5), .val (.ref w_UPPER_ROMAN)] [])) _
  refine XS.aconstNull X400.here hx rfl (hb hby d6_40) ?_
  show Steps p.tables e below (T400.setTop (mkF m 41 #[.val (.ref a1), .val (.ref w_STYLES), .val (.int 5), .val (.int 5), .val (.ref w_UPPER_ROMAN)] [.null])) _
  exact k
 obtain ⟨fs, hr, hrun, hended, hW, hsame⟩ := X400.leave (v := some .null) (fun h => by rw [Bd.returns] at h; cases h)
 refine ⟨_, _, ?_, hrun, hended, _, _, rfl, ?_, ⟨_, rfl⟩, hW, hsame.mono (by decide) (by decide)⟩
 ·exact own_retR X400 hx Bd.returns rfl rfl (hb hby d6_41) hr
 ·show Q6_1c5 Z a1 w_STYLES w_NUMBER w_NUMBER_first w_NUMBER_first_value w_LOWER_LETTER w_LOWER_LETTER_first w_LOWER_LETTER_first_value w_UPPER_LETTER w_UPPER_LETTER_first w_UPPER_LETTER_first_value w_LOWER_ROMAN w_LOWER_ROMAN_first w_LOWER_ROMAN_first_value w_UPPER_ROMAN w_UPPER_ROMAN_first w_UPPER_ROMAN_first_value w_COMPACT_STRINGS k_STYLES k_NUMBER_first_value k_LOWER_LETTER_first_value k_UPPER_LETTER_first_value k_LOWER_ROMAN_first_value k_UPPER_ROMAN_first_value vs ks y0 h0 n0 _ T400.heap _
  rw [q400_0]
  exact ⟨rfl, N400, rfl⟩
theorem pd_7 : parseMethodDescriptor "(I)C" = some ⟨[.int], some .char⟩ := by decide +kernel
theorem pd_8 : parseMethodDescriptor "(ICCC)Ljava/lang/String;" = some ⟨[.int, .char, .char, .char], some (.object "java/lang/String")⟩ := by decide +kernel
theorem pd_9 : parseMethodDescriptor "(Ljava/lang/String;)Lcom/example/restate/restate/MarkerStyle;" = some ⟨[(.object "java/lang/String")], some (.object "com/example/restate/restate/MarkerStyle")⟩ := by decide +kernel
theorem ef_0 (m : MethodId) (p1 : Int32) (p2 : Int32) (p3 : Int32) (p4 : Int32) : entryFrame m #[(.int p1), (.int p2), (.int p3), (.int p4)] maxLocals = mkF m 0 #[.val (.int p1), .val (.int p2), .val (.int p3), .val (.int p4), .unset, .unset, .unset, .unset, .unset, .unset, .unset] [] := by first | (simp [entryFrame, mkF, argsToLocals, Value.category, maxLocals]; done) | rfl
def Q0 (Z : State) (p1 : Int32) (p2 : Int32) (p3 : Int32) (p4 : Int32) (w_STYLES : Addr) (w_NUMBER : Addr) (w_NUMBER_first : Addr) (w_NUMBER_first_value : Addr) (w_LOWER_LETTER : Addr) (w_LOWER_LETTER_first : Addr) (w_LOWER_LETTER_first_value : Addr) (w_UPPER_LETTER : Addr) (w_UPPER_LETTER_first : Addr) (w_UPPER_LETTER_first_value : Addr) (w_LOWER_ROMAN : Addr) (w_LOWER_ROMAN_first : Addr) (w_LOWER_ROMAN_first_value : Addr) (w_UPPER_ROMAN : Addr) (w_UPPER_ROMAN_first : Addr) (w_UPPER_ROMAN_first_value : Addr) (w_COMPACT_STRINGS : Int32) (k_STYLES : ClassId) (k_NUMBER_first_value : ClassId) (k_LOWER_LETTER_first_value : ClassId) (k_UPPER_LETTER_first_value : ClassId) (k_LOWER_ROMAN_first_value : ClassId) (k_UPPER_ROMAN_first_value : ClassId) (h0 : Heap) (n0 : Nat) (v : Option Value) (h : Heap) (L : List Loc) : Prop := v = some (.int 1) ∧ Fr n0 L
set_option maxRecDepth 65536 in
set_option maxHeartbeats 40000000 in
theorem rm0 (l : Launch) (Z : State) (a0 : Array Value) (hw : ∀ d ∈ tables_1, d.before a0 Z = true) (ws : List Jvm.Cond) (p1 : Int32) (p2 : Int32) (p3 : Int32) (p4 : Int32) (w_STYLES : Addr) (w_NUMBER : Addr) (w_NUMBER_first : Addr) (w_NUMBER_first_value : Addr) (w_LOWER_LETTER : Addr) (w_LOWER_LETTER_first : Addr) (w_LOWER_LETTER_first_value : Addr) (w_UPPER_LETTER : Addr) (w_UPPER_LETTER_first : Addr) (w_UPPER_LETTER_first_value : Addr) (w_LOWER_ROMAN : Addr) (w_LOWER_ROMAN_first : Addr) (w_LOWER_ROMAN_first_value : Addr) (w_UPPER_ROMAN : Addr) (w_UPPER_ROMAN_first : Addr) (w_UPPER_ROMAN_first_value : Addr) (w_COMPACT_STRINGS : Int32) (k_STYLES : ClassId) (k_NUMBER_first_value : ClassId) (k_LOWER_LETTER_first_value : ClassId) (k_UPPER_LETTER_first_value : ClassId) (k_LOWER_ROMAN_first_value : ClassId) (k_UPPER_ROMAN_first_value : ClassId) (h0 : Heap) (n0 : Nat) (Z0 : n0 ≤ h0.size) (hEL : EW Z a0 consts_1) (S_STYLES : Sta Z h0 "com/example/restate/restate/MarkerStyle" "STYLES" "[Lcom/example/restate/restate/MarkerStyle;" (.ref w_STYLES)) (S_NUMBER : Sta Z h0 "com/example/restate/restate/MarkerStyle" "NUMBER" "Lcom/example/restate/restate/MarkerStyle;" (.ref w_NUMBER)) (E_NUMBER : Exa Z h0 w_NUMBER "com/example/restate/restate/MarkerStyle") (F_NUMBER_first : Fld Z h0 w_NUMBER "com/example/restate/restate/MarkerStyle" "first" "Ljava/lang/String;" (.ref w_NUMBER_first)) (E_NUMBER_first : Exa Z h0 w_NUMBER_first "java/lang/String") (F_NUMBER_first_value : Fld Z h0 w_NUMBER_first "java/lang/String" "value" "[B" (.ref w_NUMBER_first_value)) (S_LOWER_LETTER : Sta Z h0 "com/example/restate/restate/MarkerStyle" "LOWER_LETTER" "Lcom/example/restate/restate/MarkerStyle;" (.ref w_LOWER_LETTER)) (E_LOWER_LETTER : Exa Z h0 w_LOWER_LETTER "com/example/restate/restate/MarkerStyle") (F_LOWER_LETTER_first : Fld Z h0 w_LOWER_LETTER "com/example/restate/restate/MarkerStyle" "first" "Ljava/lang/String;" (.ref w_LOWER_LETTER_first)) (E_LOWER_LETTER_first : Exa Z h0 w_LOWER_LETTER_first "java/lang/String") (F_LOWER_LETTER_first_value : Fld Z h0 w_LOWER_LETTER_first "java/lang/String" "value" "[B" (.ref w_LOWER_LETTER_first_value)) (S_UPPER_LETTER : Sta Z h0 "com/example/restate/restate/MarkerStyle" "UPPER_LETTER" "Lcom/example/restate/restate/MarkerStyle;" (.ref w_UPPER_LETTER)) (E_UPPER_LETTER : Exa Z h0 w_UPPER_LETTER "com/example/restate/restate/MarkerStyle") (F_UPPER_LETTER_first : Fld Z h0 w_UPPER_LETTER "com/example/restate/restate/MarkerStyle" "first" "Ljava/lang/String;" (.ref w_UPPER_LETTER_first)) (E_UPPER_LETTER_first : Exa Z h0 w_UPPER_LETTER_first "java/lang/String") (F_UPPER_LETTER_first_value : Fld Z h0 w_UPPER_LETTER_first "java/lang/String" "value" "[B" (.ref w_UPPER_LETTER_first_value)) (S_LOWER_ROMAN : Sta Z h0 "com/example/restate/restate/MarkerStyle" "LOWER_ROMAN" "Lcom/example/restate/restate/MarkerStyle;" (.ref w_LOWER_ROMAN)) (E_LOWER_ROMAN : Exa Z h0 w_LOWER_ROMAN "com/example/restate/restate/MarkerStyle") (F_LOWER_ROMAN_first : Fld Z h0 w_LOWER_ROMAN "com/example/restate/restate/MarkerStyle" "first" "Ljava/lang/String;" (.ref w_LOWER_ROMAN_first)) (E_LOWER_ROMAN_first : Exa Z h0 w_LOWER_ROMAN_first "java/lang/String") (F_LOWER_ROMAN_first_value : Fld Z h0 w_LOWER_ROMAN_first "java/lang/String" "value" "[B" (.ref w_LOWER_ROMAN_first_value)) (S_UPPER_ROMAN : Sta Z h0 "com/example/restate/restate/MarkerStyle" "UPPER_ROMAN" "Lcom/example/restate/restate/MarkerStyle;" (.ref w_UPPER_ROMAN)) (E_UPPER_ROMAN : Exa Z h0 w_UPPER_ROMAN "com/example/restate/restate/MarkerStyle") (F_UPPER_ROMAN_first : Fld Z h0 w_UPPER_ROMAN "com/example/restate/restate/MarkerStyle" "first" "Ljava/lang/String;" (.ref w_UPPER_ROMAN_first)) (E_UPPER_ROMAN_first : Exa Z h0 w_UPPER_ROMAN_first "java/lang/String") (F_UPPER_ROMAN_first_value : Fld Z h0 w_UPPER_ROMAN_first "java/lang/String" "value" "[B" (.ref w_UPPER_ROMAN_first_value)) (S_COMPACT_STRINGS : Sta Z h0 "java/lang/String" "COMPACT_STRINGS" "Z" (.int w_COMPACT_STRINGS)) (F_NUMBER_first_coder : Fld Z h0 w_NUMBER_first "java/lang/String" "coder" "B" (.int 0)) (F_LOWER_LETTER_first_coder : Fld Z h0 w_LOWER_LETTER_first "java/lang/String" "coder" "B" (.int 0)) (F_UPPER_LETTER_first_coder : Fld Z h0 w_UPPER_LETTER_first "java/lang/String" "coder" "B" (.int 0)) (F_LOWER_ROMAN_first_coder : Fld Z h0 w_LOWER_ROMAN_first "java/lang/String" "coder" "B" (.int 0)) (F_UPPER_ROMAN_first_coder : Fld Z h0 w_UPPER_ROMAN_first "java/lang/String" "coder" "B" (.int 0)) (N_COMPACT_STRINGS : ¬ w_COMPACT_STRINGS = (0 : Int32)) (V_STYLES : Arv Z h0 w_STYLES k_STYLES (.object "com/example/restate/restate/MarkerStyle") (5 : Int32) [(.ref w_NUMBER), (.ref w_LOWER_LETTER), (.ref w_UPPER_LETTER), (.ref w_LOWER_ROMAN), (.ref w_UPPER_ROMAN)] .null) (V_NUMBER_first_value : Arv Z h0 w_NUMBER_first_value k_NUMBER_first_value .byte (1 : Int32) [(.int 49)] (.int 0)) (V_LOWER_LETTER_first_value : Arv Z h0 w_LOWER_LETTER_first_value k_LOWER_LETTER_first_value .byte (1 : Int32) [(.int 97)] (.int 0)) (V_UPPER_LETTER_first_value : Arv Z h0 w_UPPER_LETTER_first_value k_UPPER_LETTER_first_value .byte (1 : Int32) [(.int 65)] (.int 0)) (V_LOWER_ROMAN_first_value : Arv Z h0 w_LOWER_ROMAN_first_value k_LOWER_ROMAN_first_value .byte (1 : Int32) [(.int 105)] (.int 0)) (V_UPPER_ROMAN_first_value : Arv Z h0 w_UPPER_ROMAN_first_value k_UPPER_ROMAN_first_value .byte (1 : Int32) [(.int 73)] (.int 0)) :
  MetFree l x (head1 (Jvm.Cond.code x code maxLocals ret :: ws) room_1) (fun a U => a = #[(.int p1), (.int p2), (.int p3), (.int p4)] ∧ Z.Warmed39 U.vm ∧ U.heap = h0 ∧ CHv Z consts_1 U.vm h0) (fun _ _ _ _ _ => True) (fun _ U o U' => ∃ v L, o = .returned v ∧ Q0 Z p1 p2 p3 p4 w_STYLES w_NUMBER w_NUMBER_first w_NUMBER_first_value w_LOWER_LETTER w_LOWER_LETTER_first w_LOWER_LETTER_first_value w_UPPER_LETTER w_UPPER_LETTER_first w_UPPER_LETTER_first_value w_LOWER_ROMAN w_LOWER_ROMAN_first w_LOWER_ROMAN_first_value w_UPPER_ROMAN w_UPPER_ROMAN_first w_UPPER_ROMAN_first_value w_COMPACT_STRINGS k_STYLES k_NUMBER_first_value k_LOWER_LETTER_first_value k_UPPER_LETTER_first_value k_LOWER_ROMAN_first_value k_UPPER_ROMAN_first_value h0 n0 v U'.heap L ∧ ReturnedEndW U o U' L room_1.cells room_1.slots) := by
 refine MetFree.of_bodySF (plainFor_of_name pn_50) hisR ?_
 intro p e s m args below meth c s₁ Bd hml0 hP hK
 obtain ⟨rfl, hZ, hh, hCH⟩ := hP
 have hx := Bd.exec
 have hby := Bd.bytes
 have hml : c.maxLocals = 11 := hml0
 have hown : s.vm.findClass "com/example/restate/restate/MarkerStyleOpenedByPinLaw" = some m.cls := findClass_of_methodNamed Bd.named
 have hnm := (name_of_methodNamed Bd.named Bd.method).1
 have X0 : Stand p l e room_1 s m #[(.int p1), (.int p2), (.int p3), (.int p4)] below meth c s₁ [] 0 0 := Stand.of_body Bd
 have e0 : s₁.heap = h0 := by rw [← hh, Bd.state]; rfl
 have N0 := Fr.nil n0
 have hS0 : s.Since s.vm h0.size := own_since _ _
 replace X0 : Stand p l e room_1 (s.setVm s.vm) m #[(.int p1), (.int p2), (.int p3), (.int p4)] below meth c s₁ [] 0 0 := X0
 refine own_go (B := s₁.setTop (mkF m 0 #[.val (.int p1), .val (.int p2), .val (.int p3), .val (.int p4), .unset, .unset, .unset, .unset, .unset, .unset, .unset] [])) (fun t k => castTop (ef_0 m p1 p2 p3 p4) k) ?_
 refine own_go (B := s₁.setTop (mkF m 5 #[.val (.int p1), .val (.int p2), .val (.int p3), .val (.int p4), .val (.int (p1 &&& (3 : Int32))), .unset, .unset, .unset, .unset, .unset, .unset] [])) (fun t k => ?_) ?_
 ·refine XS.iloadN X0.here hx rfl (hb hby at_0) rfl ?_
  show Steps p.tables e below (s₁.setTop (mkF m 1 #[.val (.int p1), .val (.int p2), .val (.int p3), .val (.int p4), .unset, .unset, .unset, .unset, .unset, .unset, .unset] [(.int p1)])) _
  refine XS.iconst X0.here hx rfl (hb hby at_1) ?_
  show Steps p.tables e below (s₁.setTop (mkF m 2 #[.val (.int p1), .val (.int p2), .val (.int p3), .val (.int p4), .unset, .unset, .unset, .unset, .unset, .unset, .unset] [(.int 3), (.int p1)])) _
  refine XS.iand X0.here hx rfl (hb hby at_2) rfl ?_
  show Steps p.tables e below (s₁.setTop (mkF m 3 #[.val (.int p1), .val (.int p2), .val (.int p3), .val (.int p4), .unset, .unset, .unset, .unset, .unset, .unset, .unset] [(.int (p1 &&& (3 : Int32)))])) _
  refine XS.istore X0.here hx rfl (hb hby at_3) rfl (l' := #[.val (.int p1), .val (.int p2), .val (.int p3), .val (.int p4), .val (.int (p1 &&& (3 : Int32))), .unset, .unset, .unset, .unset, .unset, .unset]) rfl ?_
  show Steps p.tables e below (s₁.setTop (mkF m 5 #[.val (.int p1), .val (.int p2), .val (.int p3), .val (.int p4), .val (.int (p1 &&& (3 : Int32))), .unset, .unset, .unset, .unset, .unset, .unset] [])) _
  exact k
 by_cases hn0 : (p1 &&& (3 : Int32)) = (0 : Int32)
 ·rw [show (p1 &&& (3 : Int32)) = (0 : Int32) from hn0]
  refine own_go (B := s₁.setTop (mkF m 6 #[.val (.int p1), .val (.int p2), .val (.int p3), .val (.int p4), .val (.int 0), .unset, .unset, .unset, .unset, .unset, .unset] [(.int p2)])) (fun t k => ?_) ?_
  ·refine XS.iloadN X0.here hx rfl (hb hby at_5) rfl ?_
   show Steps p.tables e below (s₁.setTop (mkF m 6 #[.val (.int p1), .val (.int p2), .val (.int p3), .val (.int p4), .val (.int 0), .unset, .unset, .unset, .unset, .unset, .unset] [(.int p2)])) _
   exact k
  obtain ⟨_, _, ⟨T402, L402, k402, n402⟩, -, X402, ⟨Lc402, hQ402, l402, y402, z402⟩, st402⟩ := Jvm.LawKit.callS X0 hx (y := (⟨"com/example/restate/restate/MarkerStyleOpenedByPinLaw", "draw", "(I)C"⟩ : MethodName)) hown (mvT hZ (hw _ (List.mem_of_getElem? (i := 0) rfl))) (mvT hZ (hw _ (List.mem_of_getElem? (i := 1) rfl))) (mvT hZ (hw _ (List.mem_of_getElem? (i := 2) rfl))) (mvT hZ (hw _ (List.mem_of_getElem? (i := 3) rfl))) (by decide) (backOf (W := 0) (rm1 l Z a0 hw [] p2 h0 n0 Z0 ) hZ (hw _ (List.mem_of_getElem? (i := 3) rfl)) (hw _ (List.mem_of_getElem? (i := 2) rfl)) (by decide) (by decide)) (g := (mkF m 6 #[.val (.int p1), .val (.int p2), .val (.int p3), .val (.int p4), .val (.int 0), .unset, .unset, .unset, .unset, .unset, .unset] [(.int p2)])) rfl (by rw [hml]; rfl) (argsL := [(.int p2)]) (rest := []) (lenOf pd_7 rfl) rfl (by show 2 * 0 + _ ≤ _; exact Nat.le_of_eq rfl) (hb hby at_6) (fun _ _ => ⟨rfl, e0, (by decide : 0 + 1 ≤ _), (by decide : 0 + 8 ≤ _)⟩)
  dsimp only [Pt.U, Pt.locs, Pt.cells, Pt.slots] at X402 l402 y402 z402 st402 hQ402
  subst l402 y402 z402
  obtain ⟨ch_402, rfl, M402, q402_0, q402_1⟩ := hQ402
  have N402 := Fr.app N0 M402
  have K402 : Keep h0 T402.heap [] := Keep.trans (Keep.refl h0 []) q402_0 all0
  have cs403 : CHr Z consts_1 s.vm h0 s.vm T402.heap := (CHr.keep q402_0 all0 (CHr.refl hCH).1)
  refine own_go st402 ?_
  refine own_go (B := T402.setTop (mkF m 12 #[.val (.int p1), .val (.int p2), .val (.int p3), .val (.int p4), .val (.int 0), .val (.int ch_402), .unset, .unset, .unset, .unset, .unset] [(.int p3)])) (fun t k => ?_) ?_
  ·refine XS.istore X402.here hx rfl (hb hby at_9) rfl (l' := #[.val (.int p1), .val (.int p2), .val (.int p3), .val (.int p4), .val (.int 0), .val (.int ch_402), .unset, .unset, .unset, .unset, .unset]) rfl ?_
   show Steps p.tables e below (T402.setTop (mkF m 11 #[.val (.int p1), .val (.int p2), .val (.int p3), .val (.int p4), .val (.int 0), .val (.int ch_402), .unset, .unset, .unset, .unset, .unset] [])) _
   refine XS.iloadN X402.here hx rfl (hb hby at_11) rfl ?_
   show Steps p.tables e below (T402.setTop (mkF m 12 #[.val (.int p1), .val (.int p2), .val (.int p3), .val (.int p4), .val (.int 0), .val (.int ch_402), .unset, .unset, .unset, .unset, .unset] [(.int p3)])) _
   exact k
  obtain ⟨_, _, ⟨T404, L404, k404, n404⟩, -, X404, ⟨Lc404, hQ404, l404, y404, z404⟩, st404⟩ := Jvm.LawKit.callS X402 hx (y := (⟨"com/example/restate/restate/MarkerStyleOpenedByPinLaw", "draw", "(I)C"⟩ : MethodName)) hown (mvT hZ (hw _ (List.mem_of_getElem? (i := 0) rfl))) (mvT hZ (hw _ (List.mem_of_getElem? (i := 1) rfl))) (mvT hZ (hw _ (List.mem_of_getElem? (i := 2) rfl))) (mvT hZ (hw _ (List.mem_of_getElem? (i := 3) rfl))) (by decide) (backOf (W := 0) (rm1 l Z a0 hw [] p3 T402.heap n0 (Nat.le_trans Z0 q402_0.1) ) hZ (hw _ (List.mem_of_getElem? (i := 3) rfl)) (hw _ (List.mem_of_getElem? (i := 2) rfl)) (by decide) (by decide)) (g := (mkF m 12 #[.val (.int p1), .val (.int p2), .val (.int p3), .val (.int p4), .val (.int 0), .val (.int ch_402), .unset, .unset, .unset, .unset, .unset] [(.int p3)])) rfl (by rw [hml]; rfl) (argsL := [(.int p3)]) (rest := []) (lenOf pd_7 rfl) rfl (by show 2 * 0 + _ ≤ _; exact Nat.le_of_eq rfl) (hb hby at_12) (fun _ _ => ⟨rfl, rfl, (by decide : 1 + 1 ≤ _), (by decide : 8 + 8 ≤ _)⟩)
  dsimp only [Pt.U, Pt.locs, Pt.cells, Pt.slots] at X404 l404 y404 z404 st404 hQ404
  subst l404 y404 z404
  obtain ⟨ch_404, rfl, M404, q404_0, q404_1⟩ := hQ404
  have N404 := Fr.app N402 M404
  have K404 : Keep h0 T404.heap [] := Keep.trans K402 q404_0 all0
  have cs405 : CHr Z consts_1 s.vm T402.heap s.vm T404.heap := (CHr.keep q404_0 all0 ((CHr.refl hCH).trans cs403).1)
  refine own_go st404 ?_
  refine own_go (B := T404.setTop (mkF m 18 #[.val (.int p1), .val (.int p2), .val (.int p3), .val (.int p4), .val (.int 0), .val (.int ch_402), .val (.int ch_404), .unset, .unset, .unset, .unset] [(.int p4)])) (fun t k => ?_) ?_
  ·refine XS.istore X404.here hx rfl (hb hby at_15) rfl (l' := #[.val (.int p1), .val (.int p2), .val (.int p3), .val (.int p4), .val (.int 0), .val (.int ch_402), .val (.int ch_404), .unset, .unset, .unset, .unset]) rfl ?_
   show Steps p.tables e below (T404.setTop (mkF m 17 #[.val (.int p1), .val (.int p2), .val (.int p3), .val (.int p4), .val (.int 0), .val (.int ch_402), .val (.int ch_404), .unset, .unset, .unset, .unset] [])) _
   refine XS.iloadN X404.here hx rfl (hb hby at_17) rfl ?_
   show Steps p.tables e below (T404.setTop (mkF m 18 #[.val (.int p1), .val (.int p2), .val (.int p3), .val (.int p4), .val (.int 0), .val (.int ch_402), .val (.int ch_404), .unset, .unset, .unset, .unset] [(.int p4)])) _
   exact k
  have le407 : h0.size ≤ T404.heap.size := (Nat.le_trans q402_0.1 q404_0.1)
  obtain ⟨_, _, ⟨T406, L406, k406, n406⟩, -, X406, ⟨Lc406, hQ406, l406, y406, z406⟩, st406⟩ := Jvm.LawKit.callS X404 hx (y := (⟨"com/example/restate/restate/MarkerStyleOpenedByPinLaw", "draw", "(I)C"⟩ : MethodName)) hown (mvT hZ (hw _ (List.mem_of_getElem? (i := 0) rfl))) (mvT hZ (hw _ (List.mem_of_getElem? (i := 1) rfl))) (mvT hZ (hw _ (List.mem_of_getElem? (i := 2) rfl))) (mvT hZ (hw _ (List.mem_of_getElem? (i := 3) rfl))) (by decide) (backOf (W := 0) (rm1 l Z a0 hw [] p4 T404.heap n0 (Nat.le_trans Z0 le407) ) hZ (hw _ (List.mem_of_getElem? (i := 3) rfl)) (hw _ (List.mem_of_getElem? (i := 2) rfl)) (by decide) (by decide)) (g := (mkF m 18 #[.val (.int p1), .val (.int p2), .val (.int p3), .val (.int p4), .val (.int 0), .val (.int ch_402), .val (.int ch_404), .unset, .unset, .unset, .unset] [(.int p4)])) rfl (by rw [hml]; rfl) (argsL := [(.int p4)]) (rest := []) (lenOf pd_7 rfl) rfl (by show 2 * 0 + _ ≤ _; exact Nat.le_of_eq rfl) (hb hby at_18) (fun _ _ => ⟨rfl, rfl, (by decide : 2 + 1 ≤ _), (by decide : 16 + 8 ≤ _)⟩)
  dsimp only [Pt.U, Pt.locs, Pt.cells, Pt.slots] at X406 l406 y406 z406 st406 hQ406
  subst l406 y406 z406
  obtain ⟨ch_406, rfl, M406, q406_0, q406_1⟩ := hQ406
  have N406 := Fr.app N404 M406
  have K406 : Keep h0 T406.heap [] := Keep.trans K404 q406_0 all0
  have cs408 : CHr Z consts_1 s.vm T404.heap s.vm T406.heap := (CHr.keep q406_0 all0 ((CHr.refl hCH).trans (cs403.trans cs405)).1)
  refine own_go st406 ?_
  refine own_go (B := T406.setTop (mkF m 31 #[.val (.int p1), .val (.int p2), .val (.int p3), .val (.int p4), .val (.int 0), .val (.int ch_402), .val (.int ch_404), .val (.int ch_406), .unset, .unset, .unset] [(.int ch_406), (.int ch_404), (.int ch_402), (.int 0)])) (fun t k => ?_) ?_
  ·refine XS.istore X406.here hx rfl (hb hby at_21) rfl (l' := #[.val (.int p1), .val (.int p2), .val (.int p3), .val (.int p4), .val (.int 0), .val (.int ch_402), .val (.int ch_404), .val (.int ch_406), .unset, .unset, .unset]) rfl ?_
   show Steps p.tables e below (T406.setTop (mkF m 23 #[.val (.int p1), .val (.int p2), .val (.int p3), .val (.int p4), .val (.int 0), .val (.int ch_402), .val (.int ch_404), .val (.int ch_406), .unset, .unset, .unset] [])) _
   refine XS.iload X406.here hx rfl (hb hby at_23) rfl ?_
   show Steps p.tables e below (T406.setTop (mkF m 25 #[.val (.int p1), .val (.int p2), .val (.int p3), .val (.int p4), .val (.int 0), .val (.int ch_402), .val (.int ch_404), .val (.int ch_406), .unset, .unset, .unset] [(.int 0)])) _
   refine XS.iload X406.here hx rfl (hb hby at_25) rfl ?_
   show Steps p.tables e below (T406.setTop (mkF m 27 #[.val (.int p1), .val (.int p2), .val (.int p3), .val (.int p4), .val (.int 0), .val (.int ch_402), .val (.int ch_404), .val (.int ch_406), .unset, .unset, .unset] [(.int ch_402), (.int 0)])) _
   refine XS.iload X406.here hx rfl (hb hby at_27) rfl ?_
   show Steps p.tables e below (T406.setTop (mkF m 29 #[.val (.int p1), .val (.int p2), .val (.int p3), .val (.int p4), .val (.int 0), .val (.int ch_402), .val (.int ch_404), .val (.int ch_406), .unset, .unset, .unset] [(.int ch_404), (.int ch_402), (.int 0)])) _
   refine XS.iload X406.here hx rfl (hb hby at_29) rfl ?_
   show Steps p.tables e below (T406.setTop (mkF m 31 #[.val (.int p1), .val (.int p2), .val (.int p3), .val (.int p4), .val (.int 0), .val (.int ch_402), .val (.int ch_404), .val (.int ch_406), .unset, .unset, .unset] [(.int ch_406), (.int ch_404), (.int ch_402), (.int 0)])) _
   exact k
  have le410 : h0.size ≤ T406.heap.size := (Nat.le_trans (Nat.le_trans q402_0.1 q404_0.1) q406_0.1)
  obtain ⟨_, _, ⟨T409, L409, k409, n409⟩, -, X409, S409, G409, ⟨Lc409, hQ409, l409, y409, z409, hc409⟩, st409⟩ := callSS X406 hx (y := (⟨"com/example/restate/restate/MarkerStyleOpenedByPinLaw", "text", "(ICCC)Ljava/lang/String;"⟩ : MethodName)) hown (mvT hZ (hw _ (List.mem_of_getElem? (i := 5) rfl))) (mvT hZ (hw _ (List.mem_of_getElem? (i := 6) rfl))) (mvT hZ (hw _ (List.mem_of_getElem? (i := 2) rfl))) (mvT hZ (hw _ (List.mem_of_getElem? (i := 7) rfl))) (by decide) (backOfSH (s := s) (vm0 := s.vm) (W := 0) (rm2_0 l Z a0 hw [] ch_402 ch_404 ch_406 T406.heap n0 (Nat.le_trans Z0 le410) (hEL)) hZ (hw _ (List.mem_of_getElem? (i := 7) rfl)) (hw _ (List.mem_of_getElem? (i := 2) rfl)) (by decide) (by decide) hEL ((CHr.refl hCH).trans ((cs403.trans cs405).trans cs408)).1) (g := (mkF m 31 #[.val (.int p1), .val (.int p2), .val (.int p3), .val (.int p4), .val (.int 0), .val (.int ch_402), .val (.int ch_404), .val (.int ch_406), .unset, .unset, .unset] [(.int ch_406), (.int ch_404), (.int ch_402), (.int 0)])) rfl (by rw [hml]; rfl) (argsL := [(.int 0), (.int ch_402), (.int ch_404), (.int ch_406)]) (rest := []) (lenOf pd_8 rfl) rfl (by show 2 * 0 + _ ≤ _; exact Nat.le_of_eq rfl) (hb hby at_31) (fun _ _ => ⟨rfl, rfl, (by decide : 3 + 4 ≤ _), (by decide : 24 + 8 ≤ _)⟩)
  dsimp only [Pt.U, Pt.locs, Pt.cells, Pt.slots] at X409 S409 G409 l409 y409 z409 st409 hQ409 hc409
  subst l409 y409 z409
  obtain ⟨sb_409, bn_409, kn_409, rfl, M409, q409_0, q409_1, q409_2, q409_3, q409_4, q409_5⟩ := hQ409
  have N409 := Fr.app N406 M409
  have hS409 : s.Since T409.vm T409.heap.size := hS0.trans S409 (Nat.le_trans (Nat.le_trans (Nat.le_refl _) le410) G409)
  have hZ409 : Z.Warmed39 (s.setVm T409.vm).vm := State.Warmed39.trans (t := (s.setVm s.vm)) hZ S409.1
  have ho409 : (s.setVm T409.vm).vm.findClass "com/example/restate/restate/MarkerStyleOpenedByPinLaw" = some m.cls := by rw [show (s.setVm T409.vm).vm = T409.vm from rfl, S409.1.alike.findClass]; exact hown
  replace X409 : Stand p l e _ (s.setVm T409.vm) m _ below meth c T409 _ _ _ := X409
  have K409 : Keep h0 T409.heap [] := Keep.trans K406 q409_0 all0
  have cs411 : CHr Z consts_1 s.vm T406.heap T409.vm T409.heap := hc409
  refine own_go (fun t k => st409.trans k) ?_
  refine own_go (B := T409.setTop (mkF m 119 #[.val (.int p1), .val (.int p2), .val (.int p3), .val (.int p4), .val (.int 0), .val (.int ch_402), .val (.int ch_404), .val (.int ch_406), .val (.ref sb_409), .val .null, .unset] [(.ref sb_409)])) (fun t k => ?_) ?_
  ·refine XS.astore X409.here hx rfl (hb hby at_34) rfl rfl (l' := #[.val (.int p1), .val (.int p2), .val (.int p3), .val (.int p4), .val (.int 0), .val (.int ch_402), .val (.int ch_404), .val (.int ch_406), .val (.ref sb_409), .unset, .unset]) rfl ?_
   show Steps p.tables e below (T409.setTop (mkF m 36 #[.val (.int p1), .val (.int p2), .val (.int p3), .val (.int p4), .val (.int 0), .val (.int ch_402), .val (.int ch_404), .val (.int ch_406), .val (.ref sb_409), .unset, .unset] [])) _
   refine XS.aconstNull X409.here hx rfl (hb hby at_36) ?_
   show Steps p.tables e below (T409.setTop (mkF m 37 #[.val (.int p1), .val (.int p2), .val (.int p3), .val (.int p4), .val (.int 0), .val (.int ch_402), .val (.int ch_404), .val (.int ch_406), .val (.ref sb_409), .unset, .unset] [.null])) _
   refine XS.astore X409.here hx rfl (hb hby at_37) rfl rfl (l' := #[.val (.int p1), .val (.int p2), .val (.int p3), .val (.int p4), .val (.int 0), .val (.int ch_402), .val (.int ch_404), .val (.int ch_406), .val (.ref sb_409), .val .null, .unset]) rfl ?_
   show Steps p.tables e below (T409.setTop (mkF m 39 #[.val (.int p1), .val (.int p2), .val (.int p3), .val (.int p4), .val (.int 0), .val (.int ch_402), .val (.int ch_404), .val (.int ch_406), .val (.ref sb_409), .val .null, .unset] [])) _
   refine XS.iload X409.here hx rfl (hb hby at_39) rfl ?_
   show Steps p.tables e below (T409.setTop (mkF m 41 #[.val (.int p1), .val (.int p2), .val (.int p3), .val (.int p4), .val (.int 0), .val (.int ch_402), .val (.int ch_404), .val (.int ch_406), .val (.ref sb_409), .val .null, .unset] [(.int 0)])) _
   refine XS.iconst X409.here hx rfl (hb hby at_41) ?_
   show Steps p.tables e below (T409.setTop (mkF m 42 #[.val (.int p1), .val (.int p2), .val (.int p3), .val (.int p4), .val (.int 0), .val (.int ch_402), .val (.int ch_404), .val (.int ch_406), .val (.ref sb_409), .val .null, .unset] [(.int 1), (.int 0)])) _
   refine XS.icmpYes X409.here hx rfl (pc0 := 42) (pc' := 117) rfl (hb hby at_42) rfl (feq (by decide : ¬ ((0 : Int32) = (1 : Int32)))).2 (by decide) (by decide) ?_
   show Steps p.tables e below (T409.setTop (mkF m 117 #[.val (.int p1), .val (.int p2), .val (.int p3), .val (.int p4), .val (.int 0), .val (.int ch_402), .val (.int ch_404), .val (.int ch_406), .val (.ref sb_409), .val .null, .unset] [])) _
   refine XS.aload X409.here hx rfl (hb hby at_117) rfl rfl ?_
   show Steps p.tables e below (T409.setTop (mkF m 119 #[.val (.int p1), .val (.int p2), .val (.int p3), .val (.int p4), .val (.int 0), .val (.int ch_402), .val (.int ch_404), .val (.int ch_406), .val (.ref sb_409), .val .null, .unset] [(.ref sb_409)])) _
   exact k
  have f413 : Sta Z T409.heap "com/example/restate/restate/MarkerStyle" "STYLES" "[Lcom/example/restate/restate/MarkerStyle;" (.ref w_STYLES) := (own_staKeep (own_staKeep (own_staKeep (own_staKeep S_STYLES q402_0 (fun x hx_ => nomatch hx_)) q404_0 (fun x hx_ => nomatch hx_)) q406_0 (fun x hx_ => nomatch hx_)) q409_0 (fun x hx_ => nomatch hx_))
  have f414 : Sta Z T409.heap "com/example/restate/restate/MarkerStyle" "NUMBER" "Lcom/example/restate/restate/MarkerStyle;" (.ref w_NUMBER) := (own_staKeep (own_staKeep (own_staKeep (own_staKeep S_NUMBER q402_0 (fun x hx_ => nomatch hx_)) q404_0 (fun x hx_ => nomatch hx_)) q406_0 (fun x hx_ => nomatch hx_)) q409_0 (fun x hx_ => nomatch hx_))
  have f415 : Exa Z T409.heap w_NUMBER "com/example/restate/restate/MarkerStyle" := ((((E_NUMBER.keep q402_0).keep q404_0).keep q406_0).keep q409_0)
  have f416 : Fld Z T409.heap w_NUMBER "com/example/restate/restate/MarkerStyle" "first" "Ljava/lang/String;" (.ref w_NUMBER_first) := ((((F_NUMBER_first.keep q402_0 nin0).keep q404_0 nin0).keep q406_0 nin0).keep q409_0 nin0)
  have f417 : Exa Z T409.heap w_NUMBER_first "java/lang/String" := ((((E_NUMBER_first.keep q402_0).keep q404_0).keep q406_0).keep q409_0)
  have f418 : Fld Z T409.heap w_NUMBER_first "java/lang/String" "value" "[B" (.ref w_NUMBER_first_value) := ((((F_NUMBER_first_value.keep q402_0 nin0).keep q404_0 nin0).keep q406_0 nin0).keep q409_0 nin0)
  have f419 : Sta Z T409.heap "com/example/restate/restate/MarkerStyle" "LOWER_LETTER" "Lcom/example/restate/restate/MarkerStyle;" (.ref w_LOWER_LETTER) := (own_staKeep (own_staKeep (own_staKeep (own_staKeep S_LOWER_LETTER q402_0 (fun x hx_ => nomatch hx_)) q404_0 (fun x hx_ => nomatch hx_)) q406_0 (fun x hx_ => nomatch hx_)) q409_0 (fun x hx_ => nomatch hx_))
  have f420 : Exa Z T409.heap w_LOWER_LETTER "com/example/restate/restate/MarkerStyle" := ((((E_LOWER_LETTER.keep q402_0).keep q404_0).keep q406_0).keep q409_0)
  have f421 : Fld Z T409.heap w_LOWER_LETTER "com/example/restate/restate/MarkerStyle" "first" "Ljava/lang/String;" (.ref w_LOWER_LETTER_first) := ((((F_LOWER_LETTER_first.keep q402_0 nin0).keep q404_0 nin0).keep q406_0 nin0).keep q409_0 nin0)
  have f422 : Exa Z T409.heap w_LOWER_LETTER_first "java/lang/String" := ((((E_LOWER_LETTER_first.keep q402_0).keep q404_0).keep q406_0).keep q409_0)
  have f423 : Fld Z T409.heap w_LOWER_LETTER_first "java/lang/String" "value" "[B" (.ref w_LOWER_LETTER_first_value) := ((((F_LOWER_LETTER_first_value.keep q402_0 nin0).keep q404_0 nin0).keep q406_0 nin0).keep q409_0 nin0)
  have f424 : Sta Z T409.heap "com/example/restate/restate/MarkerStyle" "UPPER_LETTER" "Lcom/example/restate/restate/MarkerStyle;" (.ref w_UPPER_LETTER) := (own_staKeep (own_staKeep (own_staKeep (own_staKeep S_UPPER_LETTER q402_0 (fun x hx_ => nomatch hx_)) q404_0 (fun x hx_ => nomatch hx_)) q406_0 (fun x hx_ => nomatch hx_)) q409_0 (fun x hx_ => nomatch hx_))
  have f425 : Exa Z T409.heap w_UPPER_LETTER "com/example/restate/restate/MarkerStyle" := ((((E_UPPER_LETTER.keep q402_0).keep q404_0).keep q406_0).keep q409_0)
  have f426 : Fld Z T409.heap w_UPPER_LETTER "com/example/restate/restate/MarkerStyle" "first" "Ljava/lang/String;" (.ref w_UPPER_LETTER_first) := ((((F_UPPER_LETTER_first.keep q402_0 nin0).keep q404_0 nin0).keep q406_0 nin0).keep q409_0 nin0)
  have f427 : Exa Z T409.heap w_UPPER_LETTER_first "java/lang/String" := ((((E_UPPER_LETTER_first.keep q402_0).keep q404_0).keep q406_0).keep q409_0)
  have f428 : Fld Z T409.heap w_UPPER_LETTER_first "java/lang/String" "value" "[B" (.ref w_UPPER_LETTER_first_value) := ((((F_UPPER_LETTER_first_value.keep q402_0 nin0).keep q404_0 nin0).keep q406_0 nin0).keep q409_0 nin0)
  have f429 : Sta Z T409.heap "com/example/restate/restate/MarkerStyle" "LOWER_ROMAN" "Lcom/example/restate/restate/MarkerStyle;" (.ref w_LOWER_ROMAN) := (own_staKeep (own_staKeep (own_staKeep (own_staKeep S_LOWER_ROMAN q402_0 (fun x hx_ => nomatch hx_)) q404_0 (fun x hx_ => nomatch hx_)) q406_0 (fun x hx_ => nomatch hx_)) q409_0 (fun x hx_ => nomatch hx_))
  have f430 : Exa Z T409.heap w_LOWER_ROMAN "com/example/restate/restate/MarkerStyle" := ((((E_LOWER_ROMAN.keep q402_0).keep q404_0).keep q406_0).keep q409_0)
  have f431 : Fld Z T409.heap w_LOWER_ROMAN "com/example/restate/restate/MarkerStyle" "first" "Ljava/lang/String;" (.ref w_LOWER_ROMAN_first) := ((((F_LOWER_ROMAN_first.keep q402_0 nin0).keep q404_0 nin0).keep q406_0 nin0).keep q409_0 nin0)
  have f432 : Exa Z T409.heap w_LOWER_ROMAN_first "java/lang/String" := ((((E_LOWER_ROMAN_first.keep q402_0).keep q404_0).keep q406_0).keep q409_0)
  have f433 : Fld Z T409.heap w_LOWER_ROMAN_first "java/lang/String" "value" "[B" (.ref w_LOWER_ROMAN_first_value) := ((((F_LOWER_ROMAN_first_value.keep q402_0 nin0).keep q404_0 nin0).keep q406_0 nin0).keep q409_0 nin0)
  have f434 : Sta Z T409.heap "com/example/restate/restate/MarkerStyle" "UPPER_ROMAN" "Lcom/example/restate/restate/MarkerStyle;" (.ref w_UPPER_ROMAN) := (own_staKeep (own_staKeep (own_staKeep (own_staKeep S_UPPER_ROMAN q402_0 (fun x hx_ => nomatch hx_)) q404_0 (fun x hx_ => nomatch hx_)) q406_0 (fun x hx_ => nomatch hx_)) q409_0 (fun x hx_ => nomatch hx_))
  have f435 : Exa Z T409.heap w_UPPER_ROMAN "com/example/restate/restate/MarkerStyle" := ((((E_UPPER_ROMAN.keep q402_0).keep q404_0).keep q406_0).keep q409_0)
  have f436 : Fld Z T409.heap w_UPPER_ROMAN "com/example/restate/restate/MarkerStyle" "first" "Ljava/lang/String;" (.ref w_UPPER_ROMAN_first) := ((((F_UPPER_ROMAN_first.keep q402_0 nin0).keep q404_0 nin0).keep q406_0 nin0).keep q409_0 nin0)
  have f437 : Exa Z T409.heap w_UPPER_ROMAN_first "java/lang/String" := ((((E_UPPER_ROMAN_first.keep q402_0).keep q404_0).keep q406_0).keep q409_0)
  have f438 : Fld Z T409.heap w_UPPER_ROMAN_first "java/lang/String" "value" "[B" (.ref w_UPPER_ROMAN_first_value) := ((((F_UPPER_ROMAN_first_value.keep q402_0 nin0).keep q404_0 nin0).keep q406_0 nin0).keep q409_0 nin0)
  have f439 : Sta Z T409.heap "java/lang/String" "COMPACT_STRINGS" "Z" (.int w_COMPACT_STRINGS) := (own_staKeep (own_staKeep (own_staKeep (own_staKeep S_COMPACT_STRINGS q402_0 (fun x hx_ => nomatch hx_)) q404_0 (fun x hx_ => nomatch hx_)) q406_0 (fun x hx_ => nomatch hx_)) q409_0 (fun x hx_ => nomatch hx_))
  have f440 : Fld Z T409.heap w_NUMBER_first "java/lang/String" "coder" "B" (.int 0) := ((((F_NUMBER_first_coder.keep q402_0 nin0).keep q404_0 nin0).keep q406_0 nin0).keep q409_0 nin0)
  have f441 : Fld Z T409.heap w_LOWER_LETTER_first "java/lang/String" "coder" "B" (.int 0) := ((((F_LOWER_LETTER_first_coder.keep q402_0 nin0).keep q404_0 nin0).keep q406_0 nin0).keep q409_0 nin0)
  have f442 : Fld Z T409.heap w_UPPER_LETTER_first "java/lang/String" "coder" "B" (.int 0) := ((((F_UPPER_LETTER_first_coder.keep q402_0 nin0).keep q404_0 nin0).keep q406_0 nin0).keep q409_0 nin0)
  have f443 : Fld Z T409.heap w_LOWER_ROMAN_first "java/lang/String" "coder" "B" (.int 0) := ((((F_LOWER_ROMAN_first_coder.keep q402_0 nin0).keep q404_0 nin0).keep q406_0 nin0).keep q409_0 nin0)
  have f444 : Fld Z T409.heap w_UPPER_ROMAN_first "java/lang/String" "coder" "B" (.int 0) := ((((F_UPPER_ROMAN_first_coder.keep q402_0 nin0).keep q404_0 nin0).keep q406_0 nin0).keep q409_0 nin0)
  have f445 : Arv Z T409.heap w_STYLES k_STYLES (.object "com/example/restate/restate/MarkerStyle") (5 : Int32) [(.ref w_NUMBER), (.ref w_LOWER_LETTER), (.ref w_UPPER_LETTER), (.ref w_LOWER_ROMAN), (.ref w_UPPER_ROMAN)] .null := ((((V_STYLES.keep q402_0 nin0).keep q404_0 nin0).keep q406_0 nin0).keep q409_0 nin0)
  have f446 : Arv Z T409.heap w_NUMBER_first_value k_NUMBER_first_value .byte (1 : Int32) [(.int 49)] (.int 0) := ((((V_NUMBER_first_value.keep q402_0 nin0).keep q404_0 nin0).keep q406_0 nin0).keep q409_0 nin0)
  have f447 : Arv Z T409.heap w_LOWER_LETTER_first_value k_LOWER_LETTER_first_value .byte (1 : Int32) [(.int 97)] (.int 0) := ((((V_LOWER_LETTER_first_value.keep q402_0 nin0).keep q404_0 nin0).keep q406_0 nin0).keep q409_0 nin0)
  have f448 : Arv Z T409.heap w_UPPER_LETTER_first_value k_UPPER_LETTER_first_value .byte (1 : Int32) [(.int 65)] (.int 0) := ((((V_UPPER_LETTER_first_value.keep q402_0 nin0).keep q404_0 nin0).keep q406_0 nin0).keep q409_0 nin0)
  have f449 : Arv Z T409.heap w_LOWER_ROMAN_first_value k_LOWER_ROMAN_first_value .byte (1 : Int32) [(.int 105)] (.int 0) := ((((V_LOWER_ROMAN_first_value.keep q402_0 nin0).keep q404_0 nin0).keep q406_0 nin0).keep q409_0 nin0)
  have f450 : Arv Z T409.heap w_UPPER_ROMAN_first_value k_UPPER_ROMAN_first_value .byte (1 : Int32) [(.int 73)] (.int 0) := ((((V_UPPER_ROMAN_first_value.keep q402_0 nin0).keep q404_0 nin0).keep q406_0 nin0).keep q409_0 nin0)
  have ne451 : w_NUMBER_first ≠ sb_409 := (Nat.ne_of_lt (Nat.lt_of_lt_of_le (Nat.lt_of_lt_of_le E_NUMBER_first.lt le410) q409_1))
  have ne452 : w_LOWER_LETTER_first ≠ sb_409 := (Nat.ne_of_lt (Nat.lt_of_lt_of_le (Nat.lt_of_lt_of_le E_LOWER_LETTER_first.lt le410) q409_1))
  have ne453 : w_UPPER_LETTER_first ≠ sb_409 := (Nat.ne_of_lt (Nat.lt_of_lt_of_le (Nat.lt_of_lt_of_le E_UPPER_LETTER_first.lt le410) q409_1))
  have ne454 : w_LOWER_ROMAN_first ≠ sb_409 := (Nat.ne_of_lt (Nat.lt_of_lt_of_le (Nat.lt_of_lt_of_le E_LOWER_ROMAN_first.lt le410) q409_1))
  have ne455 : w_UPPER_ROMAN_first ≠ sb_409 := (Nat.ne_of_lt (Nat.lt_of_lt_of_le (Nat.lt_of_lt_of_le E_UPPER_ROMAN_first.lt le410) q409_1))
  have le456 : h0.size ≤ T409.heap.size := (Nat.le_trans (Nat.le_trans (Nat.le_trans q402_0.1 q404_0.1) q406_0.1) q409_0.1)
  obtain ⟨_, _, ⟨T412, L412, k412, n412⟩, -, X412, ⟨Lc412, hQ412, l412, y412, z412⟩, st412⟩ := Jvm.LawKit.callS X409 hx (y := (⟨"com/example/restate/restate/MarkerStyle", "openedBy", "(Ljava/lang/String;)Lcom/example/restate/restate/MarkerStyle;"⟩ : MethodName)) ho409 (mvT hZ409 (hw _ (List.mem_of_getElem? (i := 29) rfl))) (mvT hZ409 (hw _ (List.mem_of_getElem? (i := 30) rfl))) (mvT hZ409 (hw _ (List.mem_of_getElem? (i := 31) rfl))) (mvT hZ409 (hw _ (List.mem_of_getElem? (i := 32) rfl))) (by decide) (backOf (W := 0) (rm6_0 l Z a0 hw [] sb_409 w_STYLES w_NUMBER w_NUMBER_first w_NUMBER_first_value w_LOWER_LETTER w_LOWER_LETTER_first w_LOWER_LETTER_first_value w_UPPER_LETTER w_UPPER_LETTER_first w_UPPER_LETTER_first_value w_LOWER_ROMAN w_LOWER_ROMAN_first w_LOWER_ROMAN_first_value w_UPPER_ROMAN w_UPPER_ROMAN_first w_UPPER_ROMAN_first_value w_COMPACT_STRINGS k_STYLES k_NUMBER_first_value k_LOWER_LETTER_first_value k_UPPER_LETTER_first_value k_LOWER_ROMAN_first_value k_UPPER_ROMAN_first_value bn_409 kn_409 T409.heap n0 (Nat.le_trans Z0 le456) f413 f414 f415 f416 f417 f418 f419 f420 f421 f422 f423 f424 f425 f426 f427 f428 f429 f430 f431 f432 f433 f434 f435 f436 f437 f438 f439 f440 f441 f442 f443 f444 (N_COMPACT_STRINGS) f445 f446 f447 f448 f449 f450 q409_2 q409_3 q409_4 q409_5 ne451 ne452 ne453 ne454 ne455) hZ409 (hw _ (List.mem_of_getElem? (i := 32) rfl)) (hw _ (List.mem_of_getElem? (i := 31) rfl)) (by decide) (by decide)) (g := (mkF m 119 #[.val (.int p1), .val (.int p2), .val (.int p3), .val (.int p4), .val (.int 0), .val (.int ch_402), .val (.int ch_404), .val (.int ch_406), .val (.ref sb_409), .val .null, .unset] [(.ref sb_409)])) rfl (by rw [hml]; rfl) (argsL := [(.ref sb_409)]) (rest := []) (lenOf pd_9 rfl) rfl (by show 2 * 0 + _ ≤ _; exact Nat.le_of_eq rfl) (hb hby at_119) (fun _ _ => ⟨rfl, rfl, (by decide : 7 + 0 ≤ _), (by decide : 32 + 0 ≤ _)⟩)
  dsimp only [Pt.U, Pt.locs, Pt.cells, Pt.slots] at X412 l412 y412 z412 st412 hQ412
  subst l412 y412 z412
  obtain ⟨rfl, M412, q412_0⟩ := hQ412
  have N412 := Fr.app N409 M412
  refine own_go st412 ?_
  refine own_go (B := T412.setTop (mkF m 136 #[.val (.int p1), .val (.int p2), .val (.int p3), .val (.int p4), .val (.int 0), .val (.int ch_402), .val (.int ch_404), .val (.int ch_406), .val (.ref sb_409), .val .null, .val .null] [(.int 1)])) (fun t k => ?_) ?_
  ·refine XS.astore X412.here hx rfl (hb hby at_122) rfl rfl (l' := #[.val (.int p1), .val (.int p2), .val (.int p3), .val (.int p4), .val (.int 0), .val (.int ch_402), .val (.int ch_404), .val (.int ch_406), .val (.ref sb_409), .val .null, .val .null]) rfl ?_
   show Steps p.tables e below (T412.setTop (mkF m 124 #[.val (.int p1), .val (.int p2), .val (.int p3), .val (.int p4), .val (.int 0), .val (.int ch_402), .val (.int ch_404), .val (.int ch_406), .val (.ref sb_409), .val .null, .val .null] [])) _
   refine XS.aload X412.here hx rfl (hb hby at_124) rfl rfl ?_
   show Steps p.tables e below (T412.setTop (mkF m 126 #[.val (.int p1), .val (.int p2), .val (.int p3), .val (.int p4), .val (.int 0), .val (.int ch_402), .val (.int ch_404), .val (.int ch_406), .val (.ref sb_409), .val .null, .val .null] [.null])) _
   refine XS.aload X412.here hx rfl (hb hby at_126) rfl rfl ?_
   show Steps p.tables e below (T412.setTop (mkF m 128 #[.val (.int p1), .val (.int p2), .val (.int p3), .val (.int p4), .val (.int 0), .val (.int ch_402), .val (.int ch_404), .val (.int ch_406), .val (.ref sb_409), .val .null, .val .null] [.null, .null])) _
   refine Jvm.RoadKit.acmp (g := (mkF m 128 #[.val (.int p1), .val (.int p2), .val (.int p3), .val (.int p4), .val (.int 0), .val (.int ch_402), .val (.int ch_404), .val (.int ch_406), .val (.ref sb_409), .val .null, .val .null] [.null, .null])) X412 hx rfl rfl rfl (pc0 := 128) (pc' := 131) (same := true) rfl (hb hby at_128) rfl (decide_eq_true rfl) (by decide) (by decide) ?_
   show Steps p.tables e below (T412.setTop (mkF m 131 #[.val (.int p1), .val (.int p2), .val (.int p3), .val (.int p4), .val (.int 0), .val (.int ch_402), .val (.int ch_404), .val (.int ch_406), .val (.ref sb_409), .val .null, .val .null] [])) _
   refine XS.iconst X412.here hx rfl (hb hby at_131) ?_
   show Steps p.tables e below (T412.setTop (mkF m 132 #[.val (.int p1), .val (.int p2), .val (.int p3), .val (.int p4), .val (.int 0), .val (.int ch_402), .val (.int ch_404), .val (.int ch_406), .val (.ref sb_409), .val .null, .val .null] [(.int 1)])) _
   refine XS.goto X412.here hx rfl (pc0 := 132) (pc' := 136) rfl (hb hby at_132) (by decide) (by decide) ?_
   show Steps p.tables e below (T412.setTop (mkF m 136 #[.val (.int p1), .val (.int p2), .val (.int p3), .val (.int p4), .val (.int 0), .val (.int ch_402), .val (.int ch_404), .val (.int ch_406), .val (.ref sb_409), .val .null, .val .null] [(.int 1)])) _
   exact k
  obtain ⟨fs, hr, hrun, hended, hW⟩ := X412.leaveW hS409 (show _ ≤ T412.heap.size by rw [q412_0]; exact (Nat.le_refl _)) (v := some (.int 1)) (fun h => by rw [Bd.returns] at h; cases h)
  refine ⟨_, _, ?_, hrun, hended, _, _, rfl, ?_, ⟨hW.1, hW.2.1, hW.2.2.1, hW.2.2.2.mono (by decide) (by decide)⟩⟩
  ·exact retN X412 hx (t := .boolean) Bd.returns (by simp) (hb hby at_136) hr
  ·show Q0 Z p1 p2 p3 p4 w_STYLES w_NUMBER w_NUMBER_first w_NUMBER_first_value w_LOWER_LETTER w_LOWER_LETTER_first w_LOWER_LETTER_first_value w_UPPER_LETTER w_UPPER_LETTER_first w_UPPER_LETTER_first_value w_LOWER_ROMAN w_LOWER_ROMAN_first w_LOWER_ROMAN_first_value w_UPPER_ROMAN w_UPPER_ROMAN_first w_UPPER_ROMAN_first_value w_COMPACT_STRINGS k_STYLES k_NUMBER_first_value k_LOWER_LETTER_first_value k_UPPER_LETTER_first_value k_LOWER_ROMAN_first_value k_UPPER_ROMAN_first_value h0 n0 _ T412.heap _
   rw [q412_0]
   exact ⟨rfl, N412⟩
 ·by_cases hn1 : (p1 &&& (3 : Int32)) = (1 : Int32)
  ·rw [show (p1 &&& (3 : Int32)) = (1 : Int32) from hn1]
   refine own_go (B := s₁.setTop (mkF m 6 #[.val (.int p1), .val (.int p2), .val (.int p3), .val (.int p4), .val (.int 1), .unset, .unset, .unset, .unset, .unset, .unset] [(.int p2)])) (fun t k => ?_) ?_
   ·refine XS.iloadN X0.here hx rfl (hb hby at_5) rfl ?_
    show Steps p.tables e below (s₁.setTop (mkF m 6 #[.val (.int p1), .val (.int p2), .val (.int p3), .val (.int p4), .val (.int 1), .unset, .unset, .unset, .unset, .unset, .unset] [(.int p2)])) _
    exact k
   obtain ⟨_, _, ⟨T458, L458, k458, n458⟩, -, X458, ⟨Lc458, hQ458, l458, y458, z458⟩, st458⟩ := Jvm.LawKit.callS X0 hx (y := (⟨"com/example/restate/restate/MarkerStyleOpenedByPinLaw", "draw", "(I)C"⟩ : MethodName)) hown (mvT hZ (hw _ (List.mem_of_getElem? (i := 0) rfl))) (mvT hZ (hw _ (List.mem_of_getElem? (i := 1) rfl))) (mvT hZ (hw _ (List.mem_of_getElem? (i := 2) rfl))) (mvT hZ (hw _ (List.mem_of_getElem? (i := 3) rfl))) (by decide) (backOf (W := 0) (rm1 l Z a0 hw [] p2 h0 n0 Z0 ) hZ (hw _ (List.mem_of_getElem? (i := 3) rfl)) (hw _ (List.mem_of_getElem? (i := 2) rfl)) (by decide) (by decide)) (g := (mkF m 6 #[.val (.int p1), .val (.int p2), .val (.int p3), .val (.int p4), .val (.int 1), .unset, .unset, .unset, .unset, .unset, .unset] [(.int p2)])) rfl (by rw [hml]; rfl) (argsL := [(.int p2)]) (rest := []) (lenOf pd_7 rfl) rfl (by show 2 * 0 + _ ≤ _; exact Nat.le_of_eq rfl) (hb hby at_6) (fun _ _ => ⟨rfl, e0, (by decide : 0 + 1 ≤ _), (by decide : 0 + 8 ≤ _)⟩)
   dsimp only [Pt.U, Pt.locs, Pt.cells, Pt.slots] at X458 l458 y458 z458 st458 hQ458
   subst l458 y458 z458
   obtain ⟨ch_458, rfl, M458, q458_0, q458_1⟩ := hQ458
   have N458 := Fr.app N0 M458
   have K458 : Keep h0 T458.heap [] := Keep.trans (Keep.refl h0 []) q458_0 all0
   have cs459 : CHr Z consts_1 s.vm h0 s.vm T458.heap := (CHr.keep q458_0 all0 (CHr.refl hCH).1)
   refine own_go st458 ?_
   refine own_go (B := T458.setTop (mkF m 12 #[.val (.int p1), .val (.int p2), .val (.int p3), .val (.int p4), .val (.int 1), .val (.int ch_458), .unset, .unset, .unset, .unset, .unset] [(.int p3)])) (fun t k => ?_) ?_
   ·refine XS.istore X458.here hx rfl (hb hby at_9) rfl (l' := #[.val (.int p1), .val (.int p2), .val (.int p3), .val (.int p4), .val (.int 1), .val (.int ch_458), .unset, .unset, .unset, .unset, .unset]) rfl ?_
    show Steps p.tables e below (T458.setTop (mkF m 11 #[.val (.int p1), .val (.int p2), .val (.int p3), .val (.int p4), .val (.int 1), .val (.int ch_458), .unset, .unset, .unset, .unset, .unset] [])) _
    refine XS.iloadN X458.here hx rfl (hb hby at_11) rfl ?_
    show Steps p.tables e below (T458.setTop (mkF m 12 #[.val (.int p1), .val (.int p2), .val (.int p3), .val (.int p4), .val (.int 1), .val (.int ch_458), .unset, .unset, .unset, .unset, .unset] [(.int p3)])) _
    exact k
   obtain ⟨_, _, ⟨T460, L460, k460, n460⟩, -, X460, ⟨Lc460, hQ460, l460, y460, z460⟩, st460⟩ := Jvm.LawKit.callS X458 hx (y := (⟨"com/example/restate/restate/MarkerStyleOpenedByPinLaw", "draw", "(I)C"⟩ : MethodName)) hown (mvT hZ (hw _ (List.mem_of_getElem? (i := 0) rfl))) (mvT hZ (hw _ (List.mem_of_getElem? (i := 1) rfl))) (mvT hZ (hw _ (List.mem_of_getElem? (i := 2) rfl))) (mvT hZ (hw _ (List.mem_of_getElem? (i := 3) rfl))) (by decide) (backOf (W := 0) (rm1 l Z a0 hw [] p3 T458.heap n0 (Nat.le_trans Z0 q458_0.1) ) hZ (hw _ (List.mem_of_getElem? (i := 3) rfl)) (hw _ (List.mem_of_getElem? (i := 2) rfl)) (by decide) (by decide)) (g := (mkF m 12 #[.val (.int p1), .val (.int p2), .val (.int p3), .val (.int p4), .val (.int 1), .val (.int ch_458), .unset, .unset, .unset, .unset, .unset] [(.int p3)])) rfl (by rw [hml]; rfl) (argsL := [(.int p3)]) (rest := []) (lenOf pd_7 rfl) rfl (by show 2 * 0 + _ ≤ _; exact Nat.le_of_eq rfl) (hb hby at_12) (fun _ _ => ⟨rfl, rfl, (by decide : 1 + 1 ≤ _), (by decide : 8 + 8 ≤ _)⟩)
   dsimp only [Pt.U, Pt.locs, Pt.cells, Pt.slots] at X460 l460 y460 z460 st460 hQ460
   subst l460 y460 z460
   obtain ⟨ch_460, rfl, M460, q460_0, q460_1⟩ := hQ460
   have N460 := Fr.app N458 M460
   have K460 : Keep h0 T460.heap [] := Keep.trans K458 q460_0 all0
   have cs461 : CHr Z consts_1 s.vm T458.heap s.vm T460.heap := (CHr.keep q460_0 all0 ((CHr.refl hCH).trans cs459).1)
   refine own_go st460 ?_
   refine own_go (B := T460.setTop (mkF m 18 #[.val (.int p1), .val (.int p2), .val (.int p3), .val (.int p4), .val (.int 1), .val (.int ch_458), .val (.int ch_460), .unset, .unset, .unset, .unset] [(.int p4)])) (fun t k => ?_) ?_
   ·refine XS.istore X460.here hx rfl (hb hby at_15) rfl (l' := #[.val (.int p1), .val (.int p2), .val (.int p3), .val (.int p4), .val (.int 1), .val (.int ch_458), .val (.int ch_460), .unset, .unset, .unset, .unset]) rfl ?_
    show Steps p.tables e below (T460.setTop (mkF m 17 #[.val (.int p1), .val (.int p2), .val (.int p3), .val (.int p4), .val (.int 1), .val (.int ch_458), .val (.int ch_460), .unset, .unset, .unset, .unset] [])) _
    refine XS.iloadN X460.here hx rfl (hb hby at_17) rfl ?_
    show Steps p.tables e below (T460.setTop (mkF m 18 #[.val (.int p1), .val (.int p2), .val (.int p3), .val (.int p4), .val (.int 1), .val (.int ch_458), .val (.int ch_460), .unset, .unset, .unset, .unset] [(.int p4)])) _
    exact k
   have le463 : h0.size ≤ T460.heap.size := (Nat.le_trans q458_0.1 q460_0.1)
   obtain ⟨_, _, ⟨T462, L462, k462, n462⟩, -, X462, ⟨Lc462, hQ462, l462, y462, z462⟩, st462⟩ := Jvm.LawKit.callS X460 hx (y := (⟨"com/example/restate/restate/MarkerStyleOpenedByPinLaw", "draw", "(I)C"⟩ : MethodName)) hown (mvT hZ (hw _ (List.mem_of_getElem? (i := 0) rfl))) (mvT hZ (hw _ (List.mem_of_getElem? (i := 1) rfl))) (mvT hZ (hw _ (List.mem_of_getElem? (i := 2) rfl))) (mvT hZ (hw _ (List.mem_of_getElem? (i := 3) rfl))) (by decide) (backOf (W := 0) (rm1 l Z a0 hw [] p4 T460.heap n0 (Nat.le_trans Z0 le463) ) hZ (hw _ (List.mem_of_getElem? (i := 3) rfl)) (hw _ (List.mem_of_getElem? (i := 2) rfl)) (by decide) (by decide)) (g := (mkF m 18 #[.val (.int p1), .val (.int p2), .val (.int p3), .val (.int p4), .val (.int 1), .val (.int ch_458), .val (.int ch_460), .unset, .unset, .unset, .unset] [(.int p4)])) rfl (by rw [hml]; rfl) (argsL := [(.int p4)]) (rest := []) (lenOf pd_7 rfl) rfl (by show 2 * 0 + _ ≤ _; exact Nat.le_of_eq rfl) (hb hby at_18) (fun _ _ => ⟨rfl, rfl, (by decide : 2 + 1 ≤ _), (by decide : 16 + 8 ≤ _)⟩)
   dsimp only [Pt.U, Pt.locs, Pt.cells, Pt.slots] at X462 l462 y462 z462 st462 hQ462
   subst l462 y462 z462
   obtain ⟨ch_462, rfl, M462, q462_0, q462_1⟩ := hQ462
   have N462 := Fr.app N460 M462
   have K462 : Keep h0 T462.heap [] := Keep.trans K460 q462_0 all0
   have cs464 : CHr Z consts_1 s.vm T460.heap s.vm T462.heap := (CHr.keep q462_0 all0 ((CHr.refl hCH).trans (cs459.trans cs461)).1)
   refine own_go st462 ?_
   refine own_go (B := T462.setTop (mkF m 31 #[.val (.int p1), .val (.int p2), .val (.int p3), .val (.int p4), .val (.int 1), .val (.int ch_458), .val (.int ch_460), .val (.int ch_462), .unset, .unset, .unset] [(.int ch_462), (.int ch_460), (.int ch_458), (.int 1)])) (fun t k => ?_) ?_
   ·refine XS.istore X462.here hx rfl (hb hby at_21) rfl (l' := #[.val (.int p1), .val (.int p2), .val (.int p3), .val (.int p4), .val (.int 1), .val (.int ch_458), .val (.int ch_460), .val (.int ch_462), .unset, .unset, .unset]) rfl ?_
    show Steps p.tables e below (T462.setTop (mkF m 23 #[.val (.int p1), .val (.int p2), .val (.int p3), .val (.int p4), .val (.int 1), .val (.int ch_458), .val (.int ch_460), .val (.int ch_462), .unset, .unset, .unset] [])) _
    refine XS.iload X462.here hx rfl (hb hby at_23) rfl ?_
    show Steps p.tables e below (T462.setTop (mkF m 25 #[.val (.int p1), .val (.int p2), .val (.int p3), .val (.int p4), .val (.int 1), .val (.int ch_458), .val (.int ch_460), .val (.int ch_462), .unset, .unset, .unset] [(.int 1)])) _
    refine XS.iload X462.here hx rfl (hb hby at_25) rfl ?_
    show Steps p.tables e below (T462.setTop (mkF m 27 #[.val (.int p1), .val (.int p2), .val (.int p3), .val (.int p4), .val (.int 1), .val (.int ch_458), .val (.int ch_460), .val (.int ch_462), .unset, .unset, .unset] [(.int ch_458), (.int 1)])) _
    refine XS.iload X462.here hx rfl (hb hby at_27) rfl ?_
    show Steps p.tables e below (T462.setTop (mkF m 29 #[.val (.int p1), .val (.int p2), .val (.int p3), .val (.int p4), .val (.int 1), .val (.int ch_458), .val (.int ch_460), .val (.int ch_462), .unset, .unset, .unset] [(.int ch_460), (.int ch_458), (.int 1)])) _
    refine XS.iload X462.here hx rfl (hb hby at_29) rfl ?_
    show Steps p.tables e below (T462.setTop (mkF m 31 #[.val (.int p1), .val (.int p2), .val (.int p3), .val (.int p4), .val (.int 1), .val (.int ch_458), .val (.int ch_460), .val (.int ch_462), .unset, .unset, .unset] [(.int ch_462), (.int ch_460), (.int ch_458), (.int 1)])) _
    exact k
   have f466 : Sta Z T462.heap "java/lang/String" "COMPACT_STRINGS" "Z" (.int w_COMPACT_STRINGS) := (own_staKeep (own_staKeep (own_staKeep S_COMPACT_STRINGS q458_0 (fun x hx_ => nomatch hx_)) q460_0 (fun x hx_ => nomatch hx_)) q462_0 (fun x hx_ => nomatch hx_))
   have le467 : h0.size ≤ T462.heap.size := (Nat.le_trans (Nat.le_trans q458_0.1 q460_0.1) q462_0.1)
   obtain ⟨_, _, ⟨T465, L465, k465, n465⟩, -, X465, ⟨Lc465, hQ465, l465, y465, z465⟩, st465⟩ := Jvm.LawKit.callS X462 hx (y := (⟨"com/example/restate/restate/MarkerStyleOpenedByPinLaw", "text", "(ICCC)Ljava/lang/String;"⟩ : MethodName)) hown (mvT hZ (hw _ (List.mem_of_getElem? (i := 5) rfl))) (mvT hZ (hw _ (List.mem_of_getElem? (i := 6) rfl))) (mvT hZ (hw _ (List.mem_of_getElem? (i := 2) rfl))) (mvT hZ (hw _ (List.mem_of_getElem? (i := 7) rfl))) (by decide) (backOf (W := 0) (rm2_1 l Z a0 hw [] ch_458 ch_460 ch_462 w_COMPACT_STRINGS T462.heap n0 (Nat.le_trans Z0 le467) f466 (N_COMPACT_STRINGS) (q458_1) (q460_1) (q462_1)) hZ (hw _ (List.mem_of_getElem? (i := 7) rfl)) (hw _ (List.mem_of_getElem? (i := 2) rfl)) (by decide) (by decide)) (g := (mkF m 31 #[.val (.int p1), .val (.int p2), .val (.int p3), .val (.int p4), .val (.int 1), .val (.int ch_458), .val (.int ch_460), .val (.int ch_462), .unset, .unset, .unset] [(.int ch_462), (.int ch_460), (.int ch_458), (.int 1)])) rfl (by rw [hml]; rfl) (argsL := [(.int 1), (.int ch_458), (.int ch_460), (.int ch_462)]) (rest := []) (lenOf pd_8 rfl) rfl (by show 2 * 0 + _ ≤ _; exact Nat.le_of_eq rfl) (hb hby at_31) (fun _ _ => ⟨rfl, rfl, (by decide : 3 + 3 ≤ _), (by decide : 24 + 6 ≤ _)⟩)
   dsimp only [Pt.U, Pt.locs, Pt.cells, Pt.slots] at X465 l465 y465 z465 st465 hQ465
   subst l465 y465 z465
   obtain ⟨sb_465, bn_465, kn_465, rfl, M465, q465_0, q465_1, q465_2, q465_3, q465_4, q465_5⟩ := hQ465
   have N465 := Fr.app N462 M465
   have K465 : Keep h0 T465.heap [] := Keep.trans K462 q465_0 all0
   have cs468 : CHr Z consts_1 s.vm T462.heap s.vm T465.heap := (CHr.keep q465_0 all0 ((CHr.refl hCH).trans ((cs459.trans cs461).trans cs464)).1)
   refine own_go st465 ?_
   refine own_go (B := T465.setTop (mkF m 49 #[.val (.int p1), .val (.int p2), .val (.int p3), .val (.int p4), .val (.int 1), .val (.int ch_458), .val (.int ch_460), .val (.int ch_462), .val (.ref sb_465), .val .null, .unset] [(.int 49), (.int ch_458)])) (fun t k => ?_) ?_
   ·refine XS.astore X465.here hx rfl (hb hby at_34) rfl rfl (l' := #[.val (.int p1), .val (.int p2), .val (.int p3), .val (.int p4), .val (.int 1), .val (.int ch_458), .val (.int ch_460), .val (.int ch_462), .val (.ref sb_465), .unset, .unset]) rfl ?_
    show Steps p.tables e below (T465.setTop (mkF m 36 #[.val (.int p1), .val (.int p2), .val (.int p3), .val (.int p4), .val (.int 1), .val (.int ch_458), .val (.int ch_460), .val (.int ch_462), .val (.ref sb_465), .unset, .unset] [])) _
    refine XS.aconstNull X465.here hx rfl (hb hby at_36) ?_
    show Steps p.tables e below (T465.setTop (mkF m 37 #[.val (.int p1), .val (.int p2), .val (.int p3), .val (.int p4), .val (.int 1), .val (.int ch_458), .val (.int ch_460), .val (.int ch_462), .val (.ref sb_465), .unset, .unset] [.null])) _
    refine XS.astore X465.here hx rfl (hb hby at_37) rfl rfl (l' := #[.val (.int p1), .val (.int p2), .val (.int p3), .val (.int p4), .val (.int 1), .val (.int ch_458), .val (.int ch_460), .val (.int ch_462), .val (.ref sb_465), .val .null, .unset]) rfl ?_
    show Steps p.tables e below (T465.setTop (mkF m 39 #[.val (.int p1), .val (.int p2), .val (.int p3), .val (.int p4), .val (.int 1), .val (.int ch_458), .val (.int ch_460), .val (.int ch_462), .val (.ref sb_465), .val .null, .unset] [])) _
    refine XS.iload X465.here hx rfl (hb hby at_39) rfl ?_
    show Steps p.tables e below (T465.setTop (mkF m 41 #[.val (.int p1), .val (.int p2), .val (.int p3), .val (.int p4), .val (.int 1), .val (.int ch_458), .val (.int ch_460), .val (.int ch_462), .val (.ref sb_465), .val .null, .unset] [(.int 1)])) _
    refine XS.iconst X465.here hx rfl (hb hby at_41) ?_
    show Steps p.tables e below (T465.setTop (mkF m 42 #[.val (.int p1), .val (.int p2), .val (.int p3), .val (.int p4), .val (.int 1), .val (.int ch_458), .val (.int ch_460), .val (.int ch_462), .val (.ref sb_465), .val .null, .unset] [(.int 1), (.int 1)])) _
    refine XS.icmpNo X465.here hx rfl (hb hby at_42) rfl (teq (by decide : (1 : Int32) = (1 : Int32))).2 ?_
    show Steps p.tables e below (T465.setTop (mkF m 45 #[.val (.int p1), .val (.int p2), .val (.int p3), .val (.int p4), .val (.int 1), .val (.int ch_458), .val (.int ch_460), .val (.int ch_462), .val (.ref sb_465), .val .null, .unset] [])) _
    refine XS.iload X465.here hx rfl (hb hby at_45) rfl ?_
    show Steps p.tables e below (T465.setTop (mkF m 47 #[.val (.int p1), .val (.int p2), .val (.int p3), .val (.int p4), .val (.int 1), .val (.int ch_458), .val (.int ch_460), .val (.int ch_462), .val (.ref sb_465), .val .null, .unset] [(.int ch_458)])) _
    refine XS.bipush X465.here hx rfl (hb hby at_47) ?_
    show Steps p.tables e below (T465.setTop (mkF m 49 #[.val (.int p1), .val (.int p2), .val (.int p3), .val (.int p4), .val (.int 1), .val (.int ch_458), .val (.int ch_460), .val (.int ch_462), .val (.ref sb_465), .val .null, .unset] [(.int 49), (.int ch_458)])) _
    exact k
   by_cases hc469 : ch_458 = (49 : Int32)
   ·refine own_go (B := T465.setTop (mkF m 52 #[.val (.int p1), .val (.int p2), .val (.int p3), .val (.int p4), .val (.int 1), .val (.int ch_458), .val (.int ch_460), .val (.int ch_462), .val (.ref sb_465), .val .null, .unset] [])) (fun t k => ?_) ?_
    ·refine XS.icmpNo X465.here hx rfl (hb hby at_49) rfl (teq hc469).2 ?_
     show Steps p.tables e below (T465.setTop (mkF m 52 #[.val (.int p1), .val (.int p2), .val (.int p3), .val (.int p4), .val (.int 1), .val (.int ch_458), .val (.int ch_460), .val (.int ch_462), .val (.ref sb_465), .val .null, .unset] [])) _
     exact k
    have f471 : Sta Z T465.heap "com/example/restate/restate/MarkerStyle" "NUMBER" "Lcom/example/restate/restate/MarkerStyle;" (.ref w_NUMBER) := (own_staKeep (own_staKeep (own_staKeep (own_staKeep S_NUMBER q458_0 (fun x hx_ => nomatch hx_)) q460_0 (fun x hx_ => nomatch hx_)) q462_0 (fun x hx_ => nomatch hx_)) q465_0 (fun x hx_ => nomatch hx_))
    obtain ⟨T470, X470, e470, st470⟩ := getS2 X465 hx hZ hown (host := "") (Or.inl (hw _ (List.mem_of_getElem? (i := 67) rfl))) Via.refl rfl f471 (g := (mkF m 52 #[.val (.int p1), .val (.int p2), .val (.int p3), .val (.int p4), .val (.int 1), .val (.int ch_458), .val (.int ch_460), .val (.int ch_462), .val (.ref sb_465), .val .null, .unset] [])) rfl (hb hby at_52)
    refine own_go st470 ?_
    refine own_go (B := T470.setTop (mkF m 119 #[.val (.int p1), .val (.int p2), .val (.int p3), .val (.int p4), .val (.int 1), .val (.int ch_458), .val (.int ch_460), .val (.int ch_462), .val (.ref sb_465), .val (.ref w_NUMBER), .unset] [(.ref sb_465)])) (fun t k => ?_) ?_
    ·refine XS.astore X470.here hx rfl (hb hby at_55) rfl rfl (l' := #[.val (.int p1), .val (.int p2), .val (.int p3), .val (.int p4), .val (.int 1), .val (.int ch_458), .val (.int ch_460), .val (.int ch_462), .val (.ref sb_465), .val (.ref w_NUMBER), .unset]) rfl ?_
     show Steps p.tables e below (T470.setTop (mkF m 57 #[.val (.int p1), .val (.int p2), .val (.int p3), .val (.int p4), .val (.int 1), .val (.int ch_458), .val (.int ch_460), .val (.int ch_462), .val (.ref sb_465), .val (.ref w_NUMBER), .unset] [])) _
     refine XS.goto X470.here hx rfl (pc0 := 57) (pc' := 117) rfl (hb hby at_57) (by decide) (by decide) ?_
     show Steps p.tables e below (T470.setTop (mkF m 117 #[.val (.int p1), .val (.int p2), .val (.int p3), .val (.int p4), .val (.int 1), .val (.int ch_458), .val (.int ch_460), .val (.int ch_462), .val (.ref sb_465), .val (.ref w_NUMBER), .unset] [])) _
     refine XS.aload X470.here hx rfl (hb hby at_117) rfl rfl ?_
     show Steps p.tables e below (T470.setTop (mkF m 119 #[.val (.int p1), .val (.int p2), .val (.int p3), .val (.int p4), .val (.int 1), .val (.int ch_458), .val (.int ch_460), .val (.int ch_462), .val (.ref sb_465), .val (.ref w_NUMBER), .unset] [(.ref sb_465)])) _
     exact k
    have f473 : Sta Z T465.heap "com/example/restate/restate/MarkerStyle" "STYLES" "[Lcom/example/restate/restate/MarkerStyle;" (.ref w_STYLES) := (own_staKeep (own_staKeep (own_staKeep (own_staKeep S_STYLES q458_0 (fun x hx_ => nomatch hx_)) q460_0 (fun x hx_ => nomatch hx_)) q462_0 (fun x hx_ => nomatch hx_)) q465_0 (fun x hx_ => nomatch hx_))
    have f474 : Exa Z T465.heap w_NUMBER "com/example/restate/restate/MarkerStyle" := ((((E_NUMBER.keep q458_0).keep q460_0).keep q462_0).keep q465_0)
    have f475 : Fld Z T465.heap w_NUMBER "com/example/restate/restate/MarkerStyle" "first" "Ljava/lang/String;" (.ref w_NUMBER_first) := ((((F_NUMBER_first.keep q458_0 nin0).keep q460_0 nin0).keep q462_0 nin0).keep q465_0 nin0)
    have f476 : Exa Z T465.heap w_NUMBER_first "java/lang/String" := ((((E_NUMBER_first.keep q458_0).keep q460_0).keep q462_0).keep q465_0)
    have f477 : Fld Z T465.heap w_NUMBER_first "java/lang/String" "value" "[B" (.ref w_NUMBER_first_value) := ((((F_NUMBER_first_value.keep q458_0 nin0).keep q460_0 nin0).keep q462_0 nin0).keep q465_0 nin0)
    have f478 : Sta Z T465.heap "com/example/restate/restate/MarkerStyle" "LOWER_LETTER" "Lcom/example/restate/restate/MarkerStyle;" (.ref w_LOWER_LETTER) := (own_staKeep (own_staKeep (own_staKeep (own_staKeep S_LOWER_LETTER q458_0 (fun x hx_ => nomatch hx_)) q460_0 (fun x hx_ => nomatch hx_)) q462_0 (fun x hx_ => nomatch hx_)) q465_0 (fun x hx_ => nomatch hx_))
    have f479 : Exa Z T465.heap w_LOWER_LETTER "com/example/restate/restate/MarkerStyle" := ((((E_LOWER_LETTER.keep q458_0).keep q460_0).keep q462_0).keep q465_0)
    have f480 : Fld Z T465.heap w_LOWER_LETTER "com/example/restate/restate/MarkerStyle" "first" "Ljava/lang/String;" (.ref w_LOWER_LETTER_first) := ((((F_LOWER_LETTER_first.keep q458_0 nin0).keep q460_0 nin0).keep q462_0 nin0).keep q465_0 nin0)
    have f481 : Exa Z T465.heap w_LOWER_LETTER_first "java/lang/String" := ((((E_LOWER_LETTER_first.keep q458_0).keep q460_0).keep q462_0).keep q465_0)
    have f482 : Fld Z T465.heap w_LOWER_LETTER_first "java/lang/String" "value" "[B" (.ref w_LOWER_LETTER_first_value) := ((((F_LOWER_LETTER_first_value.keep q458_0 nin0).keep q460_0 nin0).keep q462_0 nin0).keep q465_0 nin0)
    have f483 : Sta Z T465.heap "com/example/restate/restate/MarkerStyle" "UPPER_LETTER" "Lcom/example/restate/restate/MarkerStyle;" (.ref w_UPPER_LETTER) := (own_staKeep (own_staKeep (own_staKeep (own_staKeep S_UPPER_LETTER q458_0 (fun x hx_ => nomatch hx_)) q460_0 (fun x hx_ => nomatch hx_)) q462_0 (fun x hx_ => nomatch hx_)) q465_0 (fun x hx_ => nomatch hx_))
    have f484 : Exa Z T465.heap w_UPPER_LETTER "com/example/restate/restate/MarkerStyle" := ((((E_UPPER_LETTER.keep q458_0).keep q460_0).keep q462_0).keep q465_0)
    have f485 : Fld Z T465.heap w_UPPER_LETTER "com/example/restate/restate/MarkerStyle" "first" "Ljava/lang/String;" (.ref w_UPPER_LETTER_first) := ((((F_UPPER_LETTER_first.keep q458_0 nin0).keep q460_0 nin0).keep q462_0 nin0).keep q465_0 nin0)
    have f486 : Exa Z T465.heap w_UPPER_LETTER_first "java/lang/String" := ((((E_UPPER_LETTER_first.keep q458_0).keep q460_0).keep q462_0).keep q465_0)
    have f487 : Fld Z T465.heap w_UPPER_LETTER_first "java/lang/String" "value" "[B" (.ref w_UPPER_LETTER_first_value) := ((((F_UPPER_LETTER_first_value.keep q458_0 nin0).keep q460_0 nin0).keep q462_0 nin0).keep q465_0 nin0)
    have f488 : Sta Z T465.heap "com/example/restate/restate/MarkerStyle" "LOWER_ROMAN" "Lcom/example/restate/restate/MarkerStyle;" (.ref w_LOWER_ROMAN) := (own_staKeep (own_staKeep (own_staKeep (own_staKeep S_LOWER_ROMAN q458_0 (fun x hx_ => nomatch hx_)) q460_0 (fun x hx_ => nomatch hx_)) q462_0 (fun x hx_ => nomatch hx_)) q465_0 (fun x hx_ => nomatch hx_))
    have f489 : Exa Z T465.heap w_LOWER_ROMAN "com/example/restate/restate/MarkerStyle" := ((((E_LOWER_ROMAN.keep q458_0).keep q460_0).keep q462_0).keep q465_0)
    have f490 : Fld Z T465.heap w_LOWER_ROMAN "com/example/restate/restate/MarkerStyle" "first" "Ljava/lang/String;" (.ref w_LOWER_ROMAN_first) := ((((F_LOWER_ROMAN_first.keep q458_0 nin0).keep q460_0 nin0).keep q462_0 nin0).keep q465_0 nin0)
    have f491 : Exa Z T465.heap w_LOWER_ROMAN_first "java/lang/String" := ((((E_LOWER_ROMAN_first.keep q458_0).keep q460_0).keep q462_0).keep q465_0)
    have f492 : Fld Z T465.heap w_LOWER_ROMAN_first "java/lang/String" "value" "[B" (.ref w_LOWER_ROMAN_first_value) := ((((F_LOWER_ROMAN_first_value.keep q458_0 nin0).keep q460_0 nin0).keep q462_0 nin0).keep q465_0 nin0)
    have f493 : Sta Z T465.heap "com/example/restate/restate/MarkerStyle" "UPPER_ROMAN" "Lcom/example/restate/restate/MarkerStyle;" (.ref w_UPPER_ROMAN) := (own_staKeep (own_staKeep (own_staKeep (own_staKeep S_UPPER_ROMAN q458_0 (fun x hx_ => nomatch hx_)) q460_0 (fun x hx_ => nomatch hx_)) q462_0 (fun x hx_ => nomatch hx_)) q465_0 (fun x hx_ => nomatch hx_))
    have f494 : Exa Z T465.heap w_UPPER_ROMAN "com/example/restate/restate/MarkerStyle" := ((((E_UPPER_ROMAN.keep q458_0).keep q460_0).keep q462_0).keep q465_0)
    have f495 : Fld Z T465.heap w_UPPER_ROMAN "com/example/restate/restate/MarkerStyle" "first" "Ljava/lang/String;" (.ref w_UPPER_ROMAN_first) := ((((F_UPPER_ROMAN_first.keep q458_0 nin0).keep q460_0 nin0).keep q462_0 nin0).keep q465_0 nin0)
    have f496 : Exa Z T465.heap w_UPPER_ROMAN_first "java/lang/String" := ((((E_UPPER_ROMAN_first.keep q458_0).keep q460_0).keep q462_0).keep q465_0)
    have f497 : Fld Z T465.heap w_UPPER_ROMAN_first "java/lang/String" "value" "[B" (.ref w_UPPER_ROMAN_first_value) := ((((F_UPPER_ROMAN_first_value.keep q458_0 nin0).keep q460_0 nin0).keep q462_0 nin0).keep q465_0 nin0)
    have f498 : Sta Z T465.heap "java/lang/String" "COMPACT_STRINGS" "Z" (.int w_COMPACT_STRINGS) := (own_staKeep f466 q465_0 (fun x hx_ => nomatch hx_))
    have f499 : Fld Z T465.heap w_NUMBER_first "java/lang/String" "coder" "B" (.int 0) := ((((F_NUMBER_first_coder.keep q458_0 nin0).keep q460_0 nin0).keep q462_0 nin0).keep q465_0 nin0)
    have f500 : Fld Z T465.heap w_LOWER_LETTER_first "java/lang/String" "coder" "B" (.int 0) := ((((F_LOWER_LETTER_first_coder.keep q458_0 nin0).keep q460_0 nin0).keep q462_0 nin0).keep q465_0 nin0)
    have f501 : Fld Z T465.heap w_UPPER_LETTER_first "java/lang/String" "coder" "B" (.int 0) := ((((F_UPPER_LETTER_first_coder.keep q458_0 nin0).keep q460_0 nin0).keep q462_0 nin0).keep q465_0 nin0)
    have f502 : Fld Z T465.heap w_LOWER_ROMAN_first "java/lang/String" "coder" "B" (.int 0) := ((((F_LOWER_ROMAN_first_coder.keep q458_0 nin0).keep q460_0 nin0).keep q462_0 nin0).keep q465_0 nin0)
    have f503 : Fld Z T465.heap w_UPPER_ROMAN_first "java/lang/String" "coder" "B" (.int 0) := ((((F_UPPER_ROMAN_first_coder.keep q458_0 nin0).keep q460_0 nin0).keep q462_0 nin0).keep q465_0 nin0)
    have f504 : Arv Z T465.heap w_STYLES k_STYLES (.object "com/example/restate/restate/MarkerStyle") (5 : Int32) [(.ref w_NUMBER), (.ref w_LOWER_LETTER), (.ref w_UPPER_LETTER), (.ref w_LOWER_ROMAN), (.ref w_UPPER_ROMAN)] .null := ((((V_STYLES.keep q458_0 nin0).keep q460_0 nin0).keep q462_0 nin0).keep q465_0 nin0)
    have f505 : Arv Z T465.heap w_NUMBER_first_value k_NUMBER_first_value .byte (1 : Int32) [(.int 49)] (.int 0) := ((((V_NUMBER_first_value.keep q458_0 nin0).keep q460_0 nin0).keep q462_0 nin0).keep q465_0 nin0)
    have f506 : Arv Z T465.heap w_LOWER_LETTER_first_value k_LOWER_LETTER_first_value .byte (1 : Int32) [(.int 97)] (.int 0) := ((((V_LOWER_LETTER_first_value.keep q458_0 nin0).keep q460_0 nin0).keep q462_0 nin0).keep q465_0 nin0)
    have f507 : Arv Z T465.heap w_UPPER_LETTER_first_value k_UPPER_LETTER_first_value .byte (1 : Int32) [(.int 65)] (.int 0) := ((((V_UPPER_LETTER_first_value.keep q458_0 nin0).keep q460_0 nin0).keep q462_0 nin0).keep q465_0 nin0)
    have f508 : Arv Z T465.heap w_LOWER_ROMAN_first_value k_LOWER_ROMAN_first_value .byte (1 : Int32) [(.int 105)] (.int 0) := ((((V_LOWER_ROMAN_first_value.keep q458_0 nin0).keep q460_0 nin0).keep q462_0 nin0).keep q465_0 nin0)
    have f509 : Arv Z T465.heap w_UPPER_ROMAN_first_value k_UPPER_ROMAN_first_value .byte (1 : Int32) [(.int 73)] (.int 0) := ((((V_UPPER_ROMAN_first_value.keep q458_0 nin0).keep q460_0 nin0).keep q462_0 nin0).keep q465_0 nin0)
    have ne510 : w_NUMBER_first ≠ sb_465 := (Nat.ne_of_lt (Nat.lt_of_lt_of_le (Nat.lt_of_lt_of_le E_NUMBER_first.lt le467) q465_1))
    have ne511 : w_LOWER_LETTER_first ≠ sb_465 := (Nat.ne_of_lt (Nat.lt_of_lt_of_le (Nat.lt_of_lt_of_le E_LOWER_LETTER_first.lt le467) q465_1))
    have ne512 : w_UPPER_LETTER_first ≠ sb_465 := (Nat.ne_of_lt (Nat.lt_of_lt_of_le (Nat.lt_of_lt_of_le E_UPPER_LETTER_first.lt le467) q465_1))
    have ne513 : w_LOWER_ROMAN_first ≠ sb_465 := (Nat.ne_of_lt (Nat.lt_of_lt_of_le (Nat.lt_of_lt_of_le E_LOWER_ROMAN_first.lt le467) q465_1))
    have ne514 : w_UPPER_ROMAN_first ≠ sb_465 := (Nat.ne_of_lt (Nat.lt_of_lt_of_le (Nat.lt_of_lt_of_le E_UPPER_ROMAN_first.lt le467) q465_1))
    have le515 : h0.size ≤ T465.heap.size := (Nat.le_trans (Nat.le_trans (Nat.le_trans q458_0.1 q460_0.1) q462_0.1) q465_0.1)
    obtain ⟨_, _, ⟨T472, L472, k472, n472⟩, -, X472, ⟨Lc472, hQ472, l472, y472, z472⟩, st472⟩ := Jvm.LawKit.callS X470 hx (y := (⟨"com/example/restate/restate/MarkerStyle", "openedBy", "(Ljava/lang/String;)Lcom/example/restate/restate/MarkerStyle;"⟩ : MethodName)) hown (mvT hZ (hw _ (List.mem_of_getElem? (i := 29) rfl))) (mvT hZ (hw _ (List.mem_of_getElem? (i := 30) rfl))) (mvT hZ (hw _ (List.mem_of_getElem? (i := 31) rfl))) (mvT hZ (hw _ (List.mem_of_getElem? (i := 32) rfl))) (by decide) (backOf (W := 0) (rm6_1c0 l Z a0 hw [] sb_465 w_STYLES w_NUMBER w_NUMBER_first w_NUMBER_first_value w_LOWER_LETTER w_LOWER_LETTER_first w_LOWER_LETTER_first_value w_UPPER_LETTER w_UPPER_LETTER_first w_UPPER_LETTER_first_value w_LOWER_ROMAN w_LOWER_ROMAN_first w_LOWER_ROMAN_first_value w_UPPER_ROMAN w_UPPER_ROMAN_first w_UPPER_ROMAN_first_value w_COMPACT_STRINGS k_STYLES k_NUMBER_first_value k_LOWER_LETTER_first_value k_UPPER_LETTER_first_value k_LOWER_ROMAN_first_value k_UPPER_ROMAN_first_value bn_465 kn_465 (ch_458.toInt8.toInt32) T465.heap n0 (Nat.le_trans Z0 le515) f473 f471 f474 f475 f476 f477 f478 f479 f480 f481 f482 f483 f484 f485 f486 f487 f488 f489 f490 f491 f492 f493 f494 f495 f496 f497 f498 f499 f500 f501 f502 f503 (N_COMPACT_STRINGS) f504 f505 f506 f507 f508 f509 q465_2 q465_3 q465_4 q465_5 ne510 ne511 ne512 ne513 ne514 (by rw [hc469]; decide)) hZ (hw _ (List.mem_of_getElem? (i := 32) rfl)) (hw _ (List.mem_of_getElem? (i := 31) rfl)) (by decide) (by decide)) (g := (mkF m 119 #[.val (.int p1), .val (.int p2), .val (.int p3), .val (.int p4), .val (.int 1), .val (.int ch_458), .val (.int ch_460), .val (.int ch_462), .val (.ref sb_465), .val (.ref w_NUMBER), .unset] [(.ref sb_465)])) rfl (by rw [hml]; rfl) (argsL := [(.ref sb_465)]) (rest := []) (lenOf pd_9 rfl) rfl (by show 2 * 0 + _ ≤ _; exact Nat.le_of_eq rfl) (hb hby at_119) (fun _ _ => ⟨rfl, e470, (by decide : 6 + 0 ≤ _), (by decide : 30 + 0 ≤ _)⟩)
    dsimp only [Pt.U, Pt.locs, Pt.cells, Pt.slots] at X472 l472 y472 z472 st472 hQ472
    subst l472 y472 z472
    obtain ⟨rfl, M472, q472_0⟩ := hQ472
    have N472 := Fr.app N465 M472
    refine own_go st472 ?_
    refine own_go (B := T472.setTop (mkF m 136 #[.val (.int p1), .val (.int p2), .val (.int p3), .val (.int p4), .val (.int 1), .val (.int ch_458), .val (.int ch_460), .val (.int ch_462), .val (.ref sb_465), .val (.ref w_NUMBER), .val (.ref w_NUMBER)] [(.int 1)])) (fun t k => ?_) ?_
    ·refine XS.astore X472.here hx rfl (hb hby at_122) rfl rfl (l' := #[.val (.int p1), .val (.int p2), .val (.int p3), .val (.int p4), .val (.int 1), .val (.int ch_458), .val (.int ch_460), .val (.int ch_462), .val (.ref sb_465), .val (.ref w_NUMBER), .val (.ref w_NUMBER)]) rfl ?_
     show Steps p.tables e below (T472.setTop (mkF m 124 #[.val (.int p1), .val (.int p2), .val (.int p3), .val (.int p4), .val (.int 1), .val (.int ch_458), .val (.int ch_460), .val (.int ch_462), .val (.ref sb_465), .val (.ref w_NUMBER), .val (.ref w_NUMBER)] [])) _
     refine XS.aload X472.here hx rfl (hb hby at_124) rfl rfl ?_
     show Steps p.tables e below (T472.setTop (mkF m 126 #[.val (.int p1), .val (.int p2), .val (.int p3), .val (.int p4), .val (.int 1), .val (.int ch_458), .val (.int ch_460), .val (.int ch_462), .val (.ref sb_465), .val (.ref w_NUMBER), .val (.ref w_NUMBER)] [(.ref w_NUMBER)])) _
     refine XS.aload X472.here hx rfl (hb hby at_126) rfl rfl ?_
     show Steps p.tables e below (T472.setTop (mkF m 128 #[.val (.int p1), .val (.int p2), .val (.int p3), .val (.int p4), .val (.int 1), .val (.int ch_458), .val (.int ch_460), .val (.int ch_462), .val (.ref sb_465), .val (.ref w_NUMBER), .val (.ref w_NUMBER)] [(.ref w_NUMBER), (.ref w_NUMBER)])) _
     refine Jvm.RoadKit.acmp (g := (mkF m 128 #[.val (.int p1), .val (.int p2), .val (.int p3), .val (.int p4), .val (.int 1), .val (.int ch_458), .val (.int ch_460), .val (.int ch_462), .val (.ref sb_465), .val (.ref w_NUMBER), .val (.ref w_NUMBER)] [(.ref w_NUMBER), (.ref w_NUMBER)])) X472 hx rfl rfl rfl (pc0 := 128) (pc' := 131) (same := true) rfl (hb hby at_128) rfl (decide_eq_true rfl) (by decide) (by decide) ?_
     show Steps p.tables e below (T472.setTop (mkF m 131 #[.val (.int p1), .val (.int p2), .val (.int p3), .val (.int p4), .val (.int 1), .val (.int ch_458), .val (.int ch_460), .val (.int ch_462), .val (.ref sb_465), .val (.ref w_NUMBER), .val (.ref w_NUMBER)] [])) _
     refine XS.iconst X472.here hx rfl (hb hby at_131) ?_
     show Steps p.tables e below (T472.setTop (mkF m 132 #[.val (.int p1), .val (.int p2), .val (.int p3), .val (.int p4), .val (.int 1), .val (.int ch_458), .val (.int ch_460), .val (.int ch_462), .val (.ref sb_465), .val (.ref w_NUMBER), .val (.ref w_NUMBER)] [(.int 1)])) _
     refine XS.goto X472.here hx rfl (pc0 := 132) (pc' := 136) rfl (hb hby at_132) (by decide) (by decide) ?_
     show Steps p.tables e below (T472.setTop (mkF m 136 #[.val (.int p1), .val (.int p2), .val (.int p3), .val (.int p4), .val (.int 1), .val (.int ch_458), .val (.int ch_460), .val (.int ch_462), .val (.ref sb_465), .val (.ref w_NUMBER), .val (.ref w_NUMBER)] [(.int 1)])) _
     exact k
    obtain ⟨fs, hr, hrun, hended, hW⟩ := X472.leaveW hS0 (show _ ≤ T472.heap.size by rw [q472_0]; exact (Nat.le_trans (Nat.le_refl _) le515)) (v := some (.int 1)) (fun h => by rw [Bd.returns] at h; cases h)
    refine ⟨_, _, ?_, hrun, hended, _, _, rfl, ?_, ⟨hW.1, hW.2.1, hW.2.2.1, hW.2.2.2.mono (by decide) (by decide)⟩⟩
    ·exact retN X472 hx (t := .boolean) Bd.returns (by simp) (hb hby at_136) hr
    ·show Q0 Z p1 p2 p3 p4 w_STYLES w_NUMBER w_NUMBER_first w_NUMBER_first_value w_LOWER_LETTER w_LOWER_LETTER_first w_LOWER_LETTER_first_value w_UPPER_LETTER w_UPPER_LETTER_first w_UPPER_LETTER_first_value w_LOWER_ROMAN w_LOWER_ROMAN_first w_LOWER_ROMAN_first_value w_UPPER_ROMAN w_UPPER_ROMAN_first w_UPPER_ROMAN_first_value w_COMPACT_STRINGS k_STYLES k_NUMBER_first_value k_LOWER_LETTER_first_value k_UPPER_LETTER_first_value k_LOWER_ROMAN_first_value k_UPPER_ROMAN_first_value h0 n0 _ T472.heap _
     rw [q472_0]
     exact ⟨rfl, N472⟩
   ·refine own_go (B := T465.setTop (mkF m 64 #[.val (.int p1), .val (.int p2), .val (.int p3), .val (.int p4), .val (.int 1), .val (.int ch_458), .val (.int ch_460), .val (.int ch_462), .val (.ref sb_465), .val .null, .unset] [(.int 97), (.int ch_458)])) (fun t k => ?_) ?_
    ·refine XS.icmpYes X465.here hx rfl (pc0 := 49) (pc' := 60) rfl (hb hby at_49) rfl (feq hc469).2 (by decide) (by decide) ?_
     show Steps p.tables e below (T465.setTop (mkF m 60 #[.val (.int p1), .val (.int p2), .val (.int p3), .val (.int p4), .val (.int 1), .val (.int ch_458), .val (.int ch_460), .val (.int ch_462), .val (.ref sb_465), .val .null, .unset] [])) _
     refine XS.iload X465.here hx rfl (hb hby at_60) rfl ?_
     show Steps p.tables e below (T465.setTop (mkF m 62 #[.val (.int p1), .val (.int p2), .val (.int p3), .val (.int p4), .val (.int 1), .val (.int ch_458), .val (.int ch_460), .val (.int ch_462), .val (.ref sb_465), .val .null, .unset] [(.int ch_458)])) _
     refine XS.bipush X465.here hx rfl (hb hby at_62) ?_
     show Steps p.tables e below (T465.setTop (mkF m 64 #[.val (.int p1), .val (.int p2), .val (.int p3), .val (.int p4), .val (.int 1), .val (.int ch_458), .val (.int ch_460), .val (.int ch_462), .val (.ref sb_465), .val .null, .unset] [(.int 97), (.int ch_458)])) _
     exact k
    by_cases hc517 : ch_458 = (97 : Int32)
    ·refine own_go (B := T465.setTop (mkF m 67 #[.val (.int p1), .val (.int p2), .val (.int p3), .val (.int p4), .val (.int 1), .val (.int ch_458), .val (.int ch_460), .val (.int ch_462), .val (.ref sb_465), .val .null, .unset] [])) (fun t k => ?_) ?_
     ·refine XS.icmpNo X465.here hx rfl (hb hby at_64) rfl (teq hc517).2 ?_
      show Steps p.tables e below (T465.setTop (mkF m 67 #[.val (.int p1), .val (.int p2), .val (.int p3), .val (.int p4), .val (.int 1), .val (.int ch_458), .val (.int ch_460), .val (.int ch_462), .val (.ref sb_465), .val .null, .unset] [])) _
      exact k
     have f519 : Sta Z T465.heap "com/example/restate/restate/MarkerStyle" "LOWER_LETTER" "Lcom/example/restate/restate/MarkerStyle;" (.ref w_LOWER_LETTER) := (own_staKeep (own_staKeep (own_staKeep (own_staKeep S_LOWER_LETTER q458_0 (fun x hx_ => nomatch hx_)) q460_0 (fun x hx_ => nomatch hx_)) q462_0 (fun x hx_ => nomatch hx_)) q465_0 (fun x hx_ => nomatch hx_))
     obtain ⟨T518, X518, e518, st518⟩ := getS2 X465 hx hZ hown (host := "") (Or.inl (hw _ (List.mem_of_getElem? (i := 66) rfl))) Via.refl rfl f519 (g := (mkF m 67 #[.val (.int p1), .val (.int p2), .val (.int p3), .val (.int p4), .val (.int 1), .val (.int ch_458), .val (.int ch_460), .val (.int ch_462), .val (.ref sb_465), .val .null, .unset] [])) rfl (hb hby at_67)
     refine own_go st518 ?_
     refine own_go (B := T518.setTop (mkF m 119 #[.val (.int p1), .val (.int p2), .val (.int p3), .val (.int p4), .val (.int 1), .val (.int ch_458), .val (.int ch_460), .val (.int ch_462), .val (.ref sb_465), .val (.ref w_LOWER_LETTER), .unset] [(.ref sb_465)])) (fun t k => ?_) ?_
     ·refine XS.astore X518.here hx rfl (hb hby at_70) rfl rfl (l' := #[.val (.int p1), .val (.int p2), .val (.int p3), .val (.int p4), .val (.int 1), .val (.int ch_458), .val (.int ch_460), .val (.int ch_462), .val (.ref sb_465), .val (.ref w_LOWER_LETTER), .unset]) rfl ?_
      show Steps p.tables e below (T518.setTop (mkF m 72 #[.val (.int p1), .val (.int p2), .val (.int p3), .val (.int p4), .val (.int 1), .val (.int ch_458), .val (.int ch_460), .val (.int ch_462), .val (.ref sb_465), .val (.ref w_LOWER_LETTER), .unset] [])) _
      refine XS.goto X518.here hx rfl (pc0 := 72) (pc' := 117) rfl (hb hby at_72) (by decide) (by decide) ?_
      show Steps p.tables e below (T518.setTop (mkF m 117 #[.val (.int p1), .val (.int p2), .val (.int p3), .val (.int p4), .val (.int 1), .val (.int ch_458), .val (.int ch_460), .val (.int ch_462), .val (.ref sb_465), .val (.ref w_LOWER_LETTER), .unset] [])) _
      refine XS.aload X518.here hx rfl (hb hby at_117) rfl rfl ?_
      show Steps p.tables e below (T518.setTop (mkF m 119 #[.val (.int p1), .val (.int p2), .val (.int p3), .val (.int p4), .val (.int 1), .val (.int ch_458), .val (.int ch_460), .val (.int ch_462), .val (.ref sb_465), .val (.ref w_LOWER_LETTER), .unset] [(.ref sb_465)])) _
      exact k
     have f521 : Sta Z T465.heap "com/example/restate/restate/MarkerStyle" "STYLES" "[Lcom/example/restate/restate/MarkerStyle;" (.ref w_STYLES) := (own_staKeep (own_staKeep (own_staKeep (own_staKeep S_STYLES q458_0 (fun x hx_ => nomatch hx_)) q460_0 (fun x hx_ => nomatch hx_)) q462_0 (fun x hx_ => nomatch hx_)) q465_0 (fun x hx_ => nomatch hx_))
     have f522 : Sta Z T465.heap "com/example/restate/restate/MarkerStyle" "NUMBER" "Lcom/example/restate/restate/MarkerStyle;" (.ref w_NUMBER) := (own_staKeep (own_staKeep (own_staKeep (own_staKeep S_NUMBER q458_0 (fun x hx_ => nomatch hx_)) q460_0 (fun x hx_ => nomatch hx_)) q462_0 (fun x hx_ => nomatch hx_)) q465_0 (fun x hx_ => nomatch hx_))
     have f523 : Exa Z T465.heap w_NUMBER "com/example/restate/restate/MarkerStyle" := ((((E_NUMBER.keep q458_0).keep q460_0).keep q462_0).keep q465_0)
     have f524 : Fld Z T465.heap w_NUMBER "com/example/restate/restate/MarkerStyle" "first" "Ljava/lang/String;" (.ref w_NUMBER_first) := ((((F_NUMBER_first.keep q458_0 nin0).keep q460_0 nin0).keep q462_0 nin0).keep q465_0 nin0)
     have f525 : Exa Z T465.heap w_NUMBER_first "java/lang/String" := ((((E_NUMBER_first.keep q458_0).keep q460_0).keep q462_0).keep q465_0)
     have f526 : Fld Z T465.heap w_NUMBER_first "java/lang/String" "value" "[B" (.ref w_NUMBER_first_value) := ((((F_NUMBER_first_value.keep q458_0 nin0).keep q460_0 nin0).keep q462_0 nin0).keep q465_0 nin0)
     have f527 : Exa Z T465.heap w_LOWER_LETTER "com/example/restate/restate/MarkerStyle" := ((((E_LOWER_LETTER.keep q458_0).keep q460_0).keep q462_0).keep q465_0)
     have f528 : Fld Z T465.heap w_LOWER_LETTER "com/example/restate/restate/MarkerStyle" "first" "Ljava/lang/String;" (.ref w_LOWER_LETTER_first) := ((((F_LOWER_LETTER_first.keep q458_0 nin0).keep q460_0 nin0).keep q462_0 nin0).keep q465_0 nin0)
     have f529 : Exa Z T465.heap w_LOWER_LETTER_first "java/lang/String" := ((((E_LOWER_LETTER_first.keep q458_0).keep q460_0).keep q462_0).keep q465_0)
     have f530 : Fld Z T465.heap w_LOWER_LETTER_first "java/lang/String" "value" "[B" (.ref w_LOWER_LETTER_first_value) := ((((F_LOWER_LETTER_first_value.keep q458_0 nin0).keep q460_0 nin0).keep q462_0 nin0).keep q465_0 nin0)
     have f531 : Sta Z T465.heap "com/example/restate/restate/MarkerStyle" "UPPER_LETTER" "Lcom/example/restate/restate/MarkerStyle;" (.ref w_UPPER_LETTER) := (own_staKeep (own_staKeep (own_staKeep (own_staKeep S_UPPER_LETTER q458_0 (fun x hx_ => nomatch hx_)) q460_0 (fun x hx_ => nomatch hx_)) q462_0 (fun x hx_ => nomatch hx_)) q465_0 (fun x hx_ => nomatch hx_))
     have f532 : Exa Z T465.heap w_UPPER_LETTER "com/example/restate/restate/MarkerStyle" := ((((E_UPPER_LETTER.keep q458_0).keep q460_0).keep q462_0).keep q465_0)
     have f533 : Fld Z T465.heap w_UPPER_LETTER "com/example/restate/restate/MarkerStyle" "first" "Ljava/lang/String;" (.ref w_UPPER_LETTER_first) := ((((F_UPPER_LETTER_first.keep q458_0 nin0).keep q460_0 nin0).keep q462_0 nin0).keep q465_0 nin0)
     have f534 : Exa Z T465.heap w_UPPER_LETTER_first "java/lang/String" := ((((E_UPPER_LETTER_first.keep q458_0).keep q460_0).keep q462_0).keep q465_0)
     have f535 : Fld Z T465.heap w_UPPER_LETTER_first "java/lang/String" "value" "[B" (.ref w_UPPER_LETTER_first_value) := ((((F_UPPER_LETTER_first_value.keep q458_0 nin0).keep q460_0 nin0).keep q462_0 nin0).keep q465_0 nin0)
     have f536 : Sta Z T465.heap "com/example/restate/restate/MarkerStyle" "LOWER_ROMAN" "Lcom/example/restate/restate/MarkerStyle;" (.ref w_LOWER_ROMAN) := (own_staKeep (own_staKeep (own_staKeep (own_staKeep S_LOWER_ROMAN q458_0 (fun x hx_ => nomatch hx_)) q460_0 (fun x hx_ => nomatch hx_)) q462_0 (fun x hx_ => nomatch hx_)) q465_0 (fun x hx_ => nomatch hx_))
     have f537 : Exa Z T465.heap w_LOWER_ROMAN "com/example/restate/restate/MarkerStyle" := ((((E_LOWER_ROMAN.keep q458_0).keep q460_0).keep q462_0).keep q465_0)
     have f538 : Fld Z T465.heap w_LOWER_ROMAN "com/example/restate/restate/MarkerStyle" "first" "Ljava/lang/String;" (.ref w_LOWER_ROMAN_first) := ((((F_LOWER_ROMAN_first.keep q458_0 nin0).keep q460_0 nin0).keep q462_0 nin0).keep q465_0 nin0)
     have f539 : Exa Z T465.heap w_LOWER_ROMAN_first "java/lang/String" := ((((E_LOWER_ROMAN_first.keep q458_0).keep q460_0).keep q462_0).keep q465_0)
     have f540 : Fld Z T465.heap w_LOWER_ROMAN_first "java/lang/String" "value" "[B" (.ref w_LOWER_ROMAN_first_value) := ((((F_LOWER_ROMAN_first_value.keep q458_0 nin0).keep q460_0 nin0).keep q462_0 nin0).keep q465_0 nin0)
     have f541 : Sta Z T465.heap "com/example/restate/restate/MarkerStyle" "UPPER_ROMAN" "Lcom/example/restate/restate/MarkerStyle;" (.ref w_UPPER_ROMAN) := (own_staKeep (own_staKeep (own_staKeep (own_staKeep S_UPPER_ROMAN q458_0 (fun x hx_ => nomatch hx_)) q460_0 (fun x hx_ => nomatch hx_)) q462_0 (fun x hx_ => nomatch hx_)) q465_0 (fun x hx_ => nomatch hx_))
     have f542 : Exa Z T465.heap w_UPPER_ROMAN "com/example/restate/restate/MarkerStyle" := ((((E_UPPER_ROMAN.keep q458_0).keep q460_0).keep q462_0).keep q465_0)
     have f543 : Fld Z T465.heap w_UPPER_ROMAN "com/example/restate/restate/MarkerStyle" "first" "Ljava/lang/String;" (.ref w_UPPER_ROMAN_first) := ((((F_UPPER_ROMAN_first.keep q458_0 nin0).keep q460_0 nin0).keep q462_0 nin0).keep q465_0 nin0)
     have f544 : Exa Z T465.heap w_UPPER_ROMAN_first "java/lang/String" := ((((E_UPPER_ROMAN_first.keep q458_0).keep q460_0).keep q462_0).keep q465_0)
     have f545 : Fld Z T465.heap w_UPPER_ROMAN_first "java/lang/String" "value" "[B" (.ref w_UPPER_ROMAN_first_value) := ((((F_UPPER_ROMAN_first_value.keep q458_0 nin0).keep q460_0 nin0).keep q462_0 nin0).keep q465_0 nin0)
     have f546 : Sta Z T465.heap "java/lang/String" "COMPACT_STRINGS" "Z" (.int w_COMPACT_STRINGS) := (own_staKeep f466 q465_0 (fun x hx_ => nomatch hx_))
     have f547 : Fld Z T465.heap w_NUMBER_first "java/lang/String" "coder" "B" (.int 0) := ((((F_NUMBER_first_coder.keep q458_0 nin0).keep q460_0 nin0).keep q462_0 nin0).keep q465_0 nin0)
     have f548 : Fld Z T465.heap w_LOWER_LETTER_first "java/lang/String" "coder" "B" (.int 0) := ((((F_LOWER_LETTER_first_coder.keep q458_0 nin0).keep q460_0 nin0).keep q462_0 nin0).keep q465_0 nin0)
     have f549 : Fld Z T465.heap w_UPPER_LETTER_first "java/lang/String" "coder" "B" (.int 0) := ((((F_UPPER_LETTER_first_coder.keep q458_0 nin0).keep q460_0 nin0).keep q462_0 nin0).keep q465_0 nin0)
     have f550 : Fld Z T465.heap w_LOWER_ROMAN_first "java/lang/String" "coder" "B" (.int 0) := ((((F_LOWER_ROMAN_first_coder.keep q458_0 nin0).keep q460_0 nin0).keep q462_0 nin0).keep q465_0 nin0)
     have f551 : Fld Z T465.heap w_UPPER_ROMAN_first "java/lang/String" "coder" "B" (.int 0) := ((((F_UPPER_ROMAN_first_coder.keep q458_0 nin0).keep q460_0 nin0).keep q462_0 nin0).keep q465_0 nin0)
     have f552 : Arv Z T465.heap w_STYLES k_STYLES (.object "com/example/restate/restate/MarkerStyle") (5 : Int32) [(.ref w_NUMBER), (.ref w_LOWER_LETTER), (.ref w_UPPER_LETTER), (.ref w_LOWER_ROMAN), (.ref w_UPPER_ROMAN)] .null := ((((V_STYLES.keep q458_0 nin0).keep q460_0 nin0).keep q462_0 nin0).keep q465_0 nin0)
     have f553 : Arv Z T465.heap w_NUMBER_first_value k_NUMBER_first_value .byte (1 : Int32) [(.int 49)] (.int 0) := ((((V_NUMBER_first_value.keep q458_0 nin0).keep q460_0 nin0).keep q462_0 nin0).keep q465_0 nin0)
     have f554 : Arv Z T465.heap w_LOWER_LETTER_first_value k_LOWER_LETTER_first_value .byte (1 : Int32) [(.int 97)] (.int 0) := ((((V_LOWER_LETTER_first_value.keep q458_0 nin0).keep q460_0 nin0).keep q462_0 nin0).keep q465_0 nin0)
     have f555 : Arv Z T465.heap w_UPPER_LETTER_first_value k_UPPER_LETTER_first_value .byte (1 : Int32) [(.int 65)] (.int 0) := ((((V_UPPER_LETTER_first_value.keep q458_0 nin0).keep q460_0 nin0).keep q462_0 nin0).keep q465_0 nin0)
     have f556 : Arv Z T465.heap w_LOWER_ROMAN_first_value k_LOWER_ROMAN_first_value .byte (1 : Int32) [(.int 105)] (.int 0) := ((((V_LOWER_ROMAN_first_value.keep q458_0 nin0).keep q460_0 nin0).keep q462_0 nin0).keep q465_0 nin0)
     have f557 : Arv Z T465.heap w_UPPER_ROMAN_first_value k_UPPER_ROMAN_first_value .byte (1 : Int32) [(.int 73)] (.int 0) := ((((V_UPPER_ROMAN_first_value.keep q458_0 nin0).keep q460_0 nin0).keep q462_0 nin0).keep q465_0 nin0)
     have ne558 : w_NUMBER_first ≠ sb_465 := (Nat.ne_of_lt (Nat.lt_of_lt_of_le (Nat.lt_of_lt_of_le E_NUMBER_first.lt le467) q465_1))
     have ne559 : w_LOWER_LETTER_first ≠ sb_465 := (Nat.ne_of_lt (Nat.lt_of_lt_of_le (Nat.lt_of_lt_of_le E_LOWER_LETTER_first.lt le467) q465_1))
     have ne560 : w_UPPER_LETTER_first ≠ sb_465 := (Nat.ne_of_lt (Nat.lt_of_lt_of_le (Nat.lt_of_lt_of_le E_UPPER_LETTER_first.lt le467) q465_1))
     have ne561 : w_LOWER_ROMAN_first ≠ sb_465 := (Nat.ne_of_lt (Nat.lt_of_lt_of_le (Nat.lt_of_lt_of_le E_LOWER_ROMAN_first.lt le467) q465_1))
     have ne562 : w_UPPER_ROMAN_first ≠ sb_465 := (Nat.ne_of_lt (Nat.lt_of_lt_of_le (Nat.lt_of_lt_of_le E_UPPER_ROMAN_first.lt le467) q465_1))
     have le563 : h0.size ≤ T465.heap.size := (Nat.le_trans (Nat.le_trans (Nat.le_trans q458_0.1 q460_0.1) q462_0.1) q465_0.1)
     obtain ⟨_, _, ⟨T520, L520, k520, n520⟩, -, X520, ⟨Lc520, hQ520, l520, y520, z520⟩, st520⟩ := Jvm.LawKit.callS X518 hx (y := (⟨"com/example/restate/restate/MarkerStyle", "openedBy", "(Ljava/lang/String;)Lcom/example/restate/restate/MarkerStyle;"⟩ : MethodName)) hown (mvT hZ (hw _ (List.mem_of_getElem? (i := 29) rfl))) (mvT hZ (hw _ (List.mem_of_getElem? (i := 30) rfl))) (mvT hZ (hw _ (List.mem_of_getElem? (i := 31) rfl))) (mvT hZ (hw _ (List.mem_of_getElem? (i := 32) rfl))) (by decide) (backOf (W := 0) (rm6_1c1 l Z a0 hw [] sb_465 w_STYLES w_NUMBER w_NUMBER_first w_NUMBER_first_value w_LOWER_LETTER w_LOWER_LETTER_first w_LOWER_LETTER_first_value w_UPPER_LETTER w_UPPER_LETTER_first w_UPPER_LETTER_first_value w_LOWER_ROMAN w_LOWER_ROMAN_first w_LOWER_ROMAN_first_value w_UPPER_ROMAN w_UPPER_ROMAN_first w_UPPER_ROMAN_first_value w_COMPACT_STRINGS k_STYLES k_NUMBER_first_value k_LOWER_LETTER_first_value k_UPPER_LETTER_first_value k_LOWER_ROMAN_first_value k_UPPER_ROMAN_first_value bn_465 kn_465 (ch_458.toInt8.toInt32) T465.heap n0 (Nat.le_trans Z0 le563) f521 f522 f523 f524 f525 f526 f519 f527 f528 f529 f530 f531 f532 f533 f534 f535 f536 f537 f538 f539 f540 f541 f542 f543 f544 f545 f546 f547 f548 f549 f550 f551 (N_COMPACT_STRINGS) f552 f553 f554 f555 f556 f557 q465_2 q465_3 q465_4 q465_5 ne558 ne559 ne560 ne561 ne562 (by rw [hc517]; decide)) hZ (hw _ (List.mem_of_getElem? (i := 32) rfl)) (hw _ (List.mem_of_getElem? (i := 31) rfl)) (by decide) (by decide)) (g := (mkF m 119 #[.val (.int p1), .val (.int p2), .val (.int p3), .val (.int p4), .val (.int 1), .val (.int ch_458), .val (.int ch_460), .val (.int ch_462), .val (.ref sb_465), .val (.ref w_LOWER_LETTER), .unset] [(.ref sb_465)])) rfl (by rw [hml]; rfl) (argsL := [(.ref sb_465)]) (rest := []) (lenOf pd_9 rfl) rfl (by show 2 * 0 + _ ≤ _; exact Nat.le_of_eq rfl) (hb hby at_119) (fun _ _ => ⟨rfl, e518, (by decide : 6 + 0 ≤ _), (by decide : 30 + 0 ≤ _)⟩)
     dsimp only [Pt.U, Pt.locs, Pt.cells, Pt.slots] at X520 l520 y520 z520 st520 hQ520
     subst l520 y520 z520
     obtain ⟨rfl, M520, q520_0⟩ := hQ520
     have N520 := Fr.app N465 M520
     refine own_go st520 ?_
     refine own_go (B := T520.setTop (mkF m 136 #[.val (.int p1), .val (.int p2), .val (.int p3), .val (.int p4), .val (.int 1), .val (.int ch_458), .val (.int ch_460), .val (.int ch_462), .val (.ref sb_465), .val (.ref w_LOWER_LETTER), .val (.ref w_LOWER_LETTER)] [(.int 1)])) (fun t k => ?_) ?_
     ·refine XS.astore X520.here hx rfl (hb hby at_122) rfl rfl (l' := #[.val (.int p1), .val (.int p2), .val (.int p3), .val (.int p4), .val (.int 1), .val (.int ch_458), .val (.int ch_460), .val (.int ch_462), .val (.ref sb_465), .val (.ref w_LOWER_LETTER), .val (.ref w_LOWER_LETTER)]) rfl ?_
      show Steps p.tables e below (T520.setTop (mkF m 124 #[.val (.int p1), .val (.int p2), .val (.int p3), .val (.int p4), .val (.int 1), .val (.int ch_458), .val (.int ch_460), .val (.int ch_462), .val (.ref sb_465), .val (.ref w_LOWER_LETTER), .val (.ref w_LOWER_LETTER)] [])) _
      refine XS.aload X520.here hx rfl (hb hby at_124) rfl rfl ?_
      show Steps p.tables e below (T520.setTop (mkF m 126 #[.val (.int p1), .val (.int p2), .val (.int p3), .val (.int p4), .val (.int 1), .val (.int ch_458), .val (.int ch_460), .val (.int ch_462), .val (.ref sb_465), .val (.ref w_LOWER_LETTER), .val (.ref w_LOWER_LETTER)] [(.ref w_LOWER_LETTER)])) _
      refine XS.aload X520.here hx rfl (hb hby at_126) rfl rfl ?_
      show Steps p.tables e below (T520.setTop (mkF m 128 #[.val (.int p1), .val (.int p2), .val (.int p3), .val (.int p4), .val (.int 1), .val (.int ch_458), .val (.int ch_460), .val (.int ch_462), .val (.ref sb_465), .val (.ref w_LOWER_LETTER), .val (.ref w_LOWER_LETTER)] [(.ref w_LOWER_LETTER), (.ref w_LOWER_LETTER)])) _
      refine Jvm.RoadKit.acmp (g := (mkF m 128 #[.val (.int p1), .val (.int p2), .val (.int p3), .val (.int p4), .val (.int 1), .val (.int ch_458), .val (.int ch_460), .val (.int ch_462), .val (.ref sb_465), .val (.ref w_LOWER_LETTER), .val (.ref w_LOWER_LETTER)] [(.ref w_LOWER_LETTER), (.ref w_LOWER_LETTER)])) X520 hx rfl rfl rfl (pc0 := 128) (pc' := 131) (same := true) rfl (hb hby at_128) rfl (decide_eq_true rfl) (by decide) (by decide) ?_
      show Steps p.tables e below (T520.setTop (mkF m 131 #[.val (.int p1), .val (.int p2), .val (.int p3), .val (.int p4), .val (.int 1), .val (.int ch_458), .val (.int ch_460), .val (.int ch_462), .val (.ref sb_465), .val (.ref w_LOWER_LETTER), .val (.ref w_LOWER_LETTER)] [])) _
      refine XS.iconst X520.here hx rfl (hb hby at_131) ?_
      show Steps p.tables e below (T520.setTop (mkF m 132 #[.val (.int p1), .val (.int p2), .val (.int p3), .val (.int p4), .val (.int 1), .val (.int ch_458), .val (.int ch_460), .val (.int ch_462), .val (.ref sb_465), .val (.ref w_LOWER_LETTER), .val (.ref w_LOWER_LETTER)] [(.int 1)])) _
      refine XS.goto X520.here hx rfl (pc0 := 132) (pc' := 136) rfl (hb hby at_132) (by decide) (by decide) ?_
      show Steps p.tables e below (T520.setTop (mkF m 136 #[.val (.int p1), .val (.int p2), .val (.int p3), .val (.int p4), .val (.int 1), .val (.int ch_458), .val (.int ch_460), .val (.int ch_462), .val (.ref sb_465), .val (.ref w_LOWER_LETTER), .val (.ref w_LOWER_LETTER)] [(.int 1)])) _
      exact k
     obtain ⟨fs, hr, hrun, hended, hW⟩ := X520.leaveW hS0 (show _ ≤ T520.heap.size by rw [q520_0]; exact (Nat.le_trans (Nat.le_refl _) le563)) (v := some (.int 1)) (fun h => by rw [Bd.returns] at h; cases h)
     refine ⟨_, _, ?_, hrun, hended, _, _, rfl, ?_, ⟨hW.1, hW.2.1, hW.2.2.1, hW.2.2.2.mono (by decide) (by decide)⟩⟩
     ·exact retN X520 hx (t := .boolean) Bd.returns (by simp) (hb hby at_136) hr
     ·show Q0 Z p1 p2 p3 p4 w_STYLES w_NUMBER w_NUMBER_first w_NUMBER_first_value w_LOWER_LETTER w_LOWER_LETTER_first w_LOWER_LETTER_first_value w_UPPER_LETTER w_UPPER_LETTER_first w_UPPER_LETTER_first_value w_LOWER_ROMAN w_LOWER_ROMAN_first w_LOWER_ROMAN_first_value w_UPPER_ROMAN w_UPPER_ROMAN_first w_UPPER_ROMAN_first_value w_COMPACT_STRINGS k_STYLES k_NUMBER_first_value k_LOWER_LETTER_first_value k_UPPER_LETTER_first_value k_LOWER_ROMAN_first_value k_UPPER_ROMAN_first_value h0 n0 _ T520.heap _
      rw [q520_0]
      exact ⟨rfl, N520⟩
    ·refine own_go (B := T465.setTop (mkF m 79 #[.val (.int p1), .val (.int p2), .val (.int p3), .val (.int p4), .val (.int 1), .val (.int ch_458), .val (.int ch_460), .val (.int ch_462), .val (.ref sb_465), .val .null, .unset] [(.int 65), (.int ch_458)])) (fun t k => ?_) ?_
     ·refine XS.icmpYes X465.here hx rfl (pc0 := 64) (pc' := 75) rfl (hb hby at_64) rfl (feq hc517).2 (by decide) (by decide) ?_
      show Steps p.tables e below (T465.setTop (mkF m 75 #[.val (.int p1), .val (.int p2), .val (.int p3), .val (.int p4), .val (.int 1), .val (.int ch_458), .val (.int ch_460), .val (.int ch_462), .val (.ref sb_465), .val .null, .unset] [])) _
      refine XS.iload X465.here hx rfl (hb hby at_75) rfl ?_
      show Steps p.tables e below (T465.setTop (mkF m 77 #[.val (.int p1), .val (.int p2), .val (.int p3), .val (.int p4), .val (.int 1), .val (.int ch_458), .val (.int ch_460), .val (.int ch_462), .val (.ref sb_465), .val .null, .unset] [(.int ch_458)])) _
      refine XS.bipush X465.here hx rfl (hb hby at_77) ?_
      show Steps p.tables e below (T465.setTop (mkF m 79 #[.val (.int p1), .val (.int p2), .val (.int p3), .val (.int p4), .val (.int 1), .val (.int ch_458), .val (.int ch_460), .val (.int ch_462), .val (.ref sb_465), .val .null, .unset] [(.int 65), (.int ch_458)])) _
      exact k
     by_cases hc565 : ch_458 = (65 : Int32)
     ·refine own_go (B := T465.setTop (mkF m 82 #[.val (.int p1), .val (.int p2), .val (.int p3), .val (.int p4), .val (.int 1), .val (.int ch_458), .val (.int ch_460), .val (.int ch_462), .val (.ref sb_465), .val .null, .unset] [])) (fun t k => ?_) ?_
      ·refine XS.icmpNo X465.here hx rfl (hb hby at_79) rfl (teq hc565).2 ?_
       show Steps p.tables e below (T465.setTop (mkF m 82 #[.val (.int p1), .val (.int p2), .val (.int p3), .val (.int p4), .val (.int 1), .val (.int ch_458), .val (.int ch_460), .val (.int ch_462), .val (.ref sb_465), .val .null, .unset] [])) _
       exact k
      have f567 : Sta Z T465.heap "com/example/restate/restate/MarkerStyle" "UPPER_LETTER" "Lcom/example/restate/restate/MarkerStyle;" (.ref w_UPPER_LETTER) := (own_staKeep (own_staKeep (own_staKeep (own_staKeep S_UPPER_LETTER q458_0 (fun x hx_ => nomatch hx_)) q460_0 (fun x hx_ => nomatch hx_)) q462_0 (fun x hx_ => nomatch hx_)) q465_0 (fun x hx_ => nomatch hx_))
      obtain ⟨T566, X566, e566, st566⟩ := getS2 X465 hx hZ hown (host := "") (Or.inl (hw _ (List.mem_of_getElem? (i := 64) rfl))) Via.refl rfl f567 (g := (mkF m 82 #[.val (.int p1), .val (.int p2), .val (.int p3), .val (.int p4), .val (.int 1), .val (.int ch_458), .val (.int ch_460), .val (.int ch_462), .val (.ref sb_465), .val .null, .unset] [])) rfl (hb hby at_82)
      refine own_go st566 ?_
      refine own_go (B := T566.setTop (mkF m 119 #[.val (.int p1), .val (.int p2), .val (.int p3), .val (.int p4), .val (.int 1), .val (.int ch_458), .val (.int ch_460), .val (.int ch_462), .val (.ref sb_465), .val (.ref w_UPPER_LETTER), .unset] [(.ref sb_465)])) (fun t k => ?_) ?_
      ·refine XS.astore X566.here hx rfl (hb hby at_85) rfl rfl (l' := #[.val (.int p1), .val (.int p2), .val (.int p3), .val (.int p4), .val (.int 1), .val (.int ch_458), .val (.int ch_460), .val (.int ch_462), .val (.ref sb_465), .val (.ref w_UPPER_LETTER), .unset]) rfl ?_
       show Steps p.tables e below (T566.setTop (mkF m 87 #[.val (.int p1), .val (.int p2), .val (.int p3), .val (.int p4), .val (.int 1), .val (.int ch_458), .val (.int ch_460), .val (.int ch_462), .val (.ref sb_465), .val (.ref w_UPPER_LETTER), .unset] [])) _
       refine XS.goto X566.here hx rfl (pc0 := 87) (pc' := 117) rfl (hb hby at_87) (by decide) (by decide) ?_
       show Steps p.tables e below (T566.setTop (mkF m 117 #[.val (.int p1), .val (.int p2), .val (.int p3), .val (.int p4), .val (.int 1), .val (.int ch_458), .val (.int ch_460), .val (.int ch_462), .val (.ref sb_465), .val (.ref w_UPPER_LETTER), .unset] [])) _
       refine XS.aload X566.here hx rfl (hb hby at_117) rfl rfl ?_
       show Steps p.tables e below (T566.setTop (mkF m 119 #[.val (.int p1), .val (.int p2), .val (.int p3), .val (.int p4), .val (.int 1), .val (.int ch_458), .val (.int ch_460), .val (.int ch_462), .val (.ref sb_465), .val (.ref w_UPPER_LETTER), .unset] [(.ref sb_465)])) _
       exact k
      have f569 : Sta Z T465.heap "com/example/restate/restate/MarkerStyle" "STYLES" "[Lcom/example/restate/restate/MarkerStyle;" (.ref w_STYLES) := (own_staKeep (own_staKeep (own_staKeep (own_staKeep S_STYLES q458_0 (fun x hx_ => nomatch hx_)) q460_0 (fun x hx_ => nomatch hx_)) q462_0 (fun x hx_ => nomatch hx_)) q465_0 (fun x hx_ => nomatch hx_))
      have f570 : Sta Z T465.heap "com/example/restate/restate/MarkerStyle" "NUMBER" "Lcom/example/restate/restate/MarkerStyle;" (.ref w_NUMBER) := (own_staKeep (own_staKeep (own_staKeep (own_staKeep S_NUMBER q458_0 (fun x hx_ => nomatch hx_)) q460_0 (fun x hx_ => nomatch hx_)) q462_0 (fun x hx_ => nomatch hx_)) q465_0 (fun x hx_ => nomatch hx_))
      have f571 : Exa Z T465.heap w_NUMBER "com/example/restate/restate/MarkerStyle" := ((((E_NUMBER.keep q458_0).keep q460_0).keep q462_0).keep q465_0)
      have f572 : Fld Z T465.heap w_NUMBER "com/example/restate/restate/MarkerStyle" "first" "Ljava/lang/String;" (.ref w_NUMBER_first) := ((((F_NUMBER_first.keep q458_0 nin0).keep q460_0 nin0).keep q462_0 nin0).keep q465_0 nin0)
      have f573 : Exa Z T465.heap w_NUMBER_first "java/lang/String" := ((((E_NUMBER_first.keep q458_0).keep q460_0).keep q462_0).keep q465_0)
      have f574 : Fld Z T465.heap w_NUMBER_first "java/lang/String" "value" "[B" (.ref w_NUMBER_first_value) := ((((F_NUMBER_first_value.keep q458_0 nin0).keep q460_0 nin0).keep q462_0 nin0).keep q465_0 nin0)
      have f575 : Sta Z T465.heap "com/example/restate/restate/MarkerStyle" "LOWER_LETTER" "Lcom/example/restate/restate/MarkerStyle;" (.ref w_LOWER_LETTER) := (own_staKeep (own_staKeep (own_staKeep (own_staKeep S_LOWER_LETTER q458_0 (fun x hx_ => nomatch hx_)) q460_0 (fun x hx_ => nomatch hx_)) q462_0 (fun x hx_ => nomatch hx_)) q465_0 (fun x hx_ => nomatch hx_))
      have f576 : Exa Z T465.heap w_LOWER_LETTER "com/example/restate/restate/MarkerStyle" := ((((E_LOWER_LETTER.keep q458_0).keep q460_0).keep q462_0).keep q465_0)
      have f577 : Fld Z T465.heap w_LOWER_LETTER "com/example/restate/restate/MarkerStyle" "first" "Ljava/lang/String;" (.ref w_LOWER_LETTER_first) := ((((F_LOWER_LETTER_first.keep q458_0 nin0).keep q460_0 nin0).keep q462_0 nin0).keep q465_0 nin0)
      have f578 : Exa Z T465.heap w_LOWER_LETTER_first "java/lang/String" := ((((E_LOWER_LETTER_first.keep q458_0).keep q460_0).keep q462_0).keep q465_0)
      have f579 : Fld Z T465.heap w_LOWER_LETTER_first "java/lang/String" "value" "[B" (.ref w_LOWER_LETTER_first_value) := ((((F_LOWER_LETTER_first_value.keep q458_0 nin0).keep q460_0 nin0).keep q462_0 nin0).keep q465_0 nin0)
      have f580 : Exa Z T465.heap w_UPPER_LETTER "com/example/restate/restate/MarkerStyle" := ((((E_UPPER_LETTER.keep q458_0).keep q460_0).keep q462_0).keep q465_0)
      have f581 : Fld Z T465.heap w_UPPER_LETTER "com/example/restate/restate/MarkerStyle" "first" "Ljava/lang/String;" (.ref w_UPPER_LETTER_first) := ((((F_UPPER_LETTER_first.keep q458_0 nin0).keep q460_0 nin0).keep q462_0 nin0).keep q465_0 nin0)
      have f582 : Exa Z T465.heap w_UPPER_LETTER_first "java/lang/String" := ((((E_UPPER_LETTER_first.keep q458_0).keep q460_0).keep q462_0).keep q465_0)
      have f583 : Fld Z T465.heap w_UPPER_LETTER_first "java/lang/String" "value" "[B" (.ref w_UPPER_LETTER_first_value) := ((((F_UPPER_LETTER_first_value.keep q458_0 nin0).keep q460_0 nin0).keep q462_0 nin0).keep q465_0 nin0)
      have f584 : Sta Z T465.heap "com/example/restate/restate/MarkerStyle" "LOWER_ROMAN" "Lcom/example/restate/restate/MarkerStyle;" (.ref w_LOWER_ROMAN) := (own_staKeep (own_staKeep (own_staKeep (own_staKeep S_LOWER_ROMAN q458_0 (fun x hx_ => nomatch hx_)) q460_0 (fun x hx_ => nomatch hx_)) q462_0 (fun x hx_ => nomatch hx_)) q465_0 (fun x hx_ => nomatch hx_))
      have f585 : Exa Z T465.heap w_LOWER_ROMAN "com/example/restate/restate/MarkerStyle" := ((((E_LOWER_ROMAN.keep q458_0).keep q460_0).keep q462_0).keep q465_0)
      have f586 : Fld Z T465.heap w_LOWER_ROMAN "com/example/restate/restate/MarkerStyle" "first" "Ljava/lang/String;" (.ref w_LOWER_ROMAN_first) := ((((F_LOWER_ROMAN_first.keep q458_0 nin0).keep q460_0 nin0).keep q462_0 nin0).keep q465_0 nin0)
      have f587 : Exa Z T465.heap w_LOWER_ROMAN_first "java/lang/String" := ((((E_LOWER_ROMAN_first.keep q458_0).keep q460_0).keep q462_0).keep q465_0)
      have f588 : Fld Z T465.heap w_LOWER_ROMAN_first "java/lang/String" "value" "[B" (.ref w_LOWER_ROMAN_first_value) := ((((F_LOWER_ROMAN_first_value.keep q458_0 nin0).keep q460_0 nin0).keep q462_0 nin0).keep q465_0 nin0)
      have f589 : Sta Z T465.heap "com/example/restate/restate/MarkerStyle" "UPPER_ROMAN" "Lcom/example/restate/restate/MarkerStyle;" (.ref w_UPPER_ROMAN) := (own_staKeep (own_staKeep (own_staKeep (own_staKeep S_UPPER_ROMAN q458_0 (fun x hx_ => nomatch hx_)) q460_0 (fun x hx_ => nomatch hx_)) q462_0 (fun x hx_ => nomatch hx_)) q465_0 (fun x hx_ => nomatch hx_))
      have f590 : Exa Z T465.heap w_UPPER_ROMAN "com/example/restate/restate/MarkerStyle" := ((((E_UPPER_ROMAN.keep q458_0).keep q460_0).keep q462_0).keep q465_0)
      have f591 : Fld Z T465.heap w_UPPER_ROMAN "com/example/restate/restate/MarkerStyle" "first" "Ljava/lang/String;" (.ref w_UPPER_ROMAN_first) := ((((F_UPPER_ROMAN_first.keep q458_0 nin0).keep q460_0 nin0).keep q462_0 nin0).keep q465_0 nin0)
      have f592 : Exa Z T465.heap w_UPPER_ROMAN_first "java/lang/String" := ((((E_UPPER_ROMAN_first.keep q458_0).keep q460_0).keep q462_0).keep q465_0)
      have f593 : Fld Z T465.heap w_UPPER_ROMAN_first "java/lang/String" "value" "[B" (.ref w_UPPER_ROMAN_first_value) := ((((F_UPPER_ROMAN_first_value.keep q458_0 nin0).keep q460_0 nin0).keep q462_0 nin0).keep q465_0 nin0)
      have f594 : Sta Z T465.heap "java/lang/String" "COMPACT_STRINGS" "Z" (.int w_COMPACT_STRINGS) := (own_staKeep f466 q465_0 (fun x hx_ => nomatch hx_))
      have f595 : Fld Z T465.heap w_NUMBER_first "java/lang/String" "coder" "B" (.int 0) := ((((F_NUMBER_first_coder.keep q458_0 nin0).keep q460_0 nin0).keep q462_0 nin0).keep q465_0 nin0)
      have f596 : Fld Z T465.heap w_LOWER_LETTER_first "java/lang/String" "coder" "B" (.int 0) := ((((F_LOWER_LETTER_first_coder.keep q458_0 nin0).keep q460_0 nin0).keep q462_0 nin0).keep q465_0 nin0)
      have f597 : Fld Z T465.heap w_UPPER_LETTER_first "java/lang/String" "coder" "B" (.int 0) := ((((F_UPPER_LETTER_first_coder.keep q458_0 nin0).keep q460_0 nin0).keep q462_0 nin0).keep q465_0 nin0)
      have f598 : Fld Z T465.heap w_LOWER_ROMAN_first "java/lang/String" "coder" "B" (.int 0) := ((((F_LOWER_ROMAN_first_coder.keep q458_0 nin0).keep q460_0 nin0).keep q462_0 nin0).keep q465_0 nin0)
      have f599 : Fld Z T465.heap w_UPPER_ROMAN_first "java/lang/String" "coder" "B" (.int 0) := ((((F_UPPER_ROMAN_first_coder.keep q458_0 nin0).keep q460_0 nin0).keep q462_0 nin0).keep q465_0 nin0)
      have f600 : Arv Z T465.heap w_STYLES k_STYLES (.object "com/example/restate/restate/MarkerStyle") (5 : Int32) [(.ref w_NUMBER), (.ref w_LOWER_LETTER), (.ref w_UPPER_LETTER), (.ref w_LOWER_ROMAN), (.ref w_UPPER_ROMAN)] .null := ((((V_STYLES.keep q458_0 nin0).keep q460_0 nin0).keep q462_0 nin0).keep q465_0 nin0)
      have f601 : Arv Z T465.heap w_NUMBER_first_value k_NUMBER_first_value .byte (1 : Int32) [(.int 49)] (.int 0) := ((((V_NUMBER_first_value.keep q458_0 nin0).keep q460_0 nin0).keep q462_0 nin0).keep q465_0 nin0)
      have f602 : Arv Z T465.heap w_LOWER_LETTER_first_value k_LOWER_LETTER_first_value .byte (1 : Int32) [(.int 97)] (.int 0) := ((((V_LOWER_LETTER_first_value.keep q458_0 nin0).keep q460_0 nin0).keep q462_0 nin0).keep q465_0 nin0)
      have f603 : Arv Z T465.heap w_UPPER_LETTER_first_value k_UPPER_LETTER_first_value .byte (1 : Int32) [(.int 65)] (.int 0) := ((((V_UPPER_LETTER_first_value.keep q458_0 nin0).keep q460_0 nin0).keep q462_0 nin0).keep q465_0 nin0)
      have f604 : Arv Z T465.heap w_LOWER_ROMAN_first_value k_LOWER_ROMAN_first_value .byte (1 : Int32) [(.int 105)] (.int 0) := ((((V_LOWER_ROMAN_first_value.keep q458_0 nin0).keep q460_0 nin0).keep q462_0 nin0).keep q465_0 nin0)
      have f605 : Arv Z T465.heap w_UPPER_ROMAN_first_value k_UPPER_ROMAN_first_value .byte (1 : Int32) [(.int 73)] (.int 0) := ((((V_UPPER_ROMAN_first_value.keep q458_0 nin0).keep q460_0 nin0).keep q462_0 nin0).keep q465_0 nin0)
      have ne606 : w_NUMBER_first ≠ sb_465 := (Nat.ne_of_lt (Nat.lt_of_lt_of_le (Nat.lt_of_lt_of_le E_NUMBER_first.lt le467) q465_1))
      have ne607 : w_LOWER_LETTER_first ≠ sb_465 := (Nat.ne_of_lt (Nat.lt_of_lt_of_le (Nat.lt_of_lt_of_le E_LOWER_LETTER_first.lt le467) q465_1))
      have ne608 : w_UPPER_LETTER_first ≠ sb_465 := (Nat.ne_of_lt (Nat.lt_of_lt_of_le (Nat.lt_of_lt_of_le E_UPPER_LETTER_first.lt le467) q465_1))
      have ne609 : w_LOWER_ROMAN_first ≠ sb_465 := (Nat.ne_of_lt (Nat.lt_of_lt_of_le (Nat.lt_of_lt_of_le E_LOWER_ROMAN_first.lt le467) q465_1))
      have ne610 : w_UPPER_ROMAN_first ≠ sb_465 := (Nat.ne_of_lt (Nat.lt_of_lt_of_le (Nat.lt_of_lt_of_le E_UPPER_ROMAN_first.lt le467) q465_1))
      have le611 : h0.size ≤ T465.heap.size := (Nat.le_trans (Nat.le_trans (Nat.le_trans q458_0.1 q460_0.1) q462_0.1) q465_0.1)
      obtain ⟨_, _, ⟨T568, L568, k568, n568⟩, -, X568, ⟨Lc568, hQ568, l568, y568, z568⟩, st568⟩ := Jvm.LawKit.callS X566 hx (y := (⟨"com/example/restate/restate/MarkerStyle", "openedBy", "(Ljava/lang/String;)Lcom/example/restate/restate/MarkerStyle;"⟩ : MethodName)) hown (mvT hZ (hw _ (List.mem_of_getElem? (i := 29) rfl))) (mvT hZ (hw _ (List.mem_of_getElem? (i := 30) rfl))) (mvT hZ (hw _ (List.mem_of_getElem? (i := 31) rfl))) (mvT hZ (hw _ (List.mem_of_getElem? (i := 32) rfl))) (by decide) (backOf (W := 0) (rm6_1c2 l Z a0 hw [] sb_465 w_STYLES w_NUMBER w_NUMBER_first w_NUMBER_first_value w_LOWER_LETTER w_LOWER_LETTER_first w_LOWER_LETTER_first_value w_UPPER_LETTER w_UPPER_LETTER_first w_UPPER_LETTER_first_value w_LOWER_ROMAN w_LOWER_ROMAN_first w_LOWER_ROMAN_first_value w_UPPER_ROMAN w_UPPER_ROMAN_first w_UPPER_ROMAN_first_value w_COMPACT_STRINGS k_STYLES k_NUMBER_first_value k_LOWER_LETTER_first_value k_UPPER_LETTER_first_value k_LOWER_ROMAN_first_value k_UPPER_ROMAN_first_value bn_465 kn_465 (ch_458.toInt8.toInt32) T465.heap n0 (Nat.le_trans Z0 le611) f569 f570 f571 f572 f573 f574 f575 f576 f577 f578 f579 f567 f580 f581 f582 f583 f584 f585 f586 f587 f588 f589 f590 f591 f592 f593 f594 f595 f596 f597 f598 f599 (N_COMPACT_STRINGS) f600 f601 f602 f603 f604 f605 q465_2 q465_3 q465_4 q465_5 ne606 ne607 ne608 ne609 ne610 (by rw [hc565]; decide)) hZ (hw _ (List.mem_of_getElem? (i := 32) rfl)) (hw _ (List.mem_of_getElem? (i := 31) rfl)) (by decide) (by decide)) (g := (mkF m 119 #[.val (.int p1), .val (.int p2), .val (.int p3), .val (.int p4), .val (.int 1), .val (.int ch_458), .val (.int ch_460), .val (.int ch_462), .val (.ref sb_465), .val (.ref w_UPPER_LETTER), .unset] [(.ref sb_465)])) rfl (by rw [hml]; rfl) (argsL := [(.ref sb_465)]) (rest := []) (lenOf pd_9 rfl) rfl (by show 2 * 0 + _ ≤ _; exact Nat.le_of_eq rfl) (hb hby at_119) (fun _ _ => ⟨rfl, e566, (by decide : 6 + 0 ≤ _), (by decide : 30 + 0 ≤ _)⟩)
      dsimp only [Pt.U, Pt.locs, Pt.cells, Pt.slots] at X568 l568 y568 z568 st568 hQ568
      subst l568 y568 z568
      obtain ⟨rfl, M568, q568_0⟩ := hQ568
      have N568 := Fr.app N465 M568
      refine own_go st568 ?_
      refine own_go (B := T568.setTop (mkF m 136 #[.val (.int p1), .val (.int p2), .val (.int p3), .val (.int p4), .val (.int 1), .val (.int ch_458), .val (.int ch_460), .val (.int ch_462), .val (.ref sb_465), .val (.ref w_UPPER_LETTER), .val (.ref w_UPPER_LETTER)] [(.int 1)])) (fun t k => ?_) ?_
      ·refine XS.astore X568.here hx rfl (hb hby at_122) rfl rfl (l' := #[.val (.int p1), .val (.int p2), .val (.int p3), .val (.int p4), .val (.int 1), .val (.int ch_458), .val (.int ch_460), .val (.int ch_462), .val (.ref sb_465), .val (.ref w_UPPER_LETTER), .val (.ref w_UPPER_LETTER)]) rfl ?_
       show Steps p.tables e below (T568.setTop (mkF m 124 #[.val (.int p1), .val (.int p2), .val (.int p3), .val (.int p4), .val (.int 1), .val (.int ch_458), .val (.int ch_460), .val (.int ch_462), .val (.ref sb_465), .val (.ref w_UPPER_LETTER), .val (.ref w_UPPER_LETTER)] [])) _
       refine XS.aload X568.here hx rfl (hb hby at_124) rfl rfl ?_
       show Steps p.tables e below (T568.setTop (mkF m 126 #[.val (.int p1), .val (.int p2), .val (.int p3), .val (.int p4), .val (.int 1), .val (.int ch_458), .val (.int ch_460), .val (.int ch_462), .val (.ref sb_465), .val (.ref w_UPPER_LETTER), .val (.ref w_UPPER_LETTER)] [(.ref w_UPPER_LETTER)])) _
       refine XS.aload X568.here hx rfl (hb hby at_126) rfl rfl ?_
       show Steps p.tables e below (T568.setTop (mkF m 128 #[.val (.int p1), .val (.int p2), .val (.int p3), .val (.int p4), .val (.int 1), .val (.int ch_458), .val (.int ch_460), .val (.int ch_462), .val (.ref sb_465), .val (.ref w_UPPER_LETTER), .val (.ref w_UPPER_LETTER)] [(.ref w_UPPER_LETTER), (.ref w_UPPER_LETTER)])) _
       refine Jvm.RoadKit.acmp (g := (mkF m 128 #[.val (.int p1), .val (.int p2), .val (.int p3), .val (.int p4), .val (.int 1), .val (.int ch_458), .val (.int ch_460), .val (.int ch_462), .val (.ref sb_465), .val (.ref w_UPPER_LETTER), .val (.ref w_UPPER_LETTER)] [(.ref w_UPPER_LETTER), (.ref w_UPPER_LETTER)])) X568 hx rfl rfl rfl (pc0 := 128) (pc' := 131) (same := true) rfl (hb hby at_128) rfl (decide_eq_true rfl) (by decide) (by decide) ?_
       show Steps p.tables e below (T568.setTop (mkF m 131 #[.val (.int p1), .val (.int p2), .val (.int p3), .val (.int p4), .val (.int 1), .val (.int ch_458), .val (.int ch_460), .val (.int ch_462), .val (.ref sb_465), .val (.ref w_UPPER_LETTER), .val (.ref w_UPPER_LETTER)] [])) _
       refine XS.iconst X568.here hx rfl (hb hby at_131) ?_
       show Steps p.tables e below (T568.setTop (mkF m 132 #[.val (.int p1), .val (.int p2), .val (.int p3), .val (.int p4), .val (.int 1), .val (.int ch_458), .val (.int ch_460), .val (.int ch_462), .val (.ref sb_465), .val (.ref w_UPPER_LETTER), .val (.ref w_UPPER_LETTER)] [(.int 1)])) _
       refine XS.goto X568.here hx rfl (pc0 := 132) (pc' := 136) rfl (hb hby at_132) (by decide) (by decide) ?_
       show Steps p.tables e below (T568.setTop (mkF m 136 #[.val (.int p1), .val (.int p2), .val (.int p3), .val (.int p4), .val (.int 1), .val (.int ch_458), .val (.int ch_460), .val (.int ch_462), .val (.ref sb_465), .val (.ref w_UPPER_LETTER), .val (.ref w_UPPER_LETTER)] [(.int 1)])) _
       exact k
      obtain ⟨fs, hr, hrun, hended, hW⟩ := X568.leaveW hS0 (show _ ≤ T568.heap.size by rw [q568_0]; exact (Nat.le_trans (Nat.le_refl _) le611)) (v := some (.int 1)) (fun h => by rw [Bd.returns] at h; cases h)
      refine ⟨_, _, ?_, hrun, hended, _, _, rfl, ?_, ⟨hW.1, hW.2.1, hW.2.2.1, hW.2.2.2.mono (by decide) (by decide)⟩⟩
      ·exact retN X568 hx (t := .boolean) Bd.returns (by simp) (hb hby at_136) hr
      ·show Q0 Z p1 p2 p3 p4 w_STYLES w_NUMBER w_NUMBER_first w_NUMBER_first_value w_LOWER_LETTER w_LOWER_LETTER_first w_LOWER_LETTER_first_value w_UPPER_LETTER w_UPPER_LETTER_first w_UPPER_LETTER_first_value w_LOWER_ROMAN w_LOWER_ROMAN_first w_LOWER_ROMAN_first_value w_UPPER_ROMAN w_UPPER_ROMAN_first w_UPPER_ROMAN_first_value w_COMPACT_STRINGS k_STYLES k_NUMBER_first_value k_LOWER_LETTER_first_value k_UPPER_LETTER_first_value k_LOWER_ROMAN_first_value k_UPPER_ROMAN_first_value h0 n0 _ T568.heap _
       rw [q568_0]
       exact ⟨rfl, N568⟩
     ·refine own_go (B := T465.setTop (mkF m 94 #[.val (.int p1), .val (.int p2), .val (.int p3), .val (.int p4), .val (.int 1), .val (.int ch_458), .val (.int ch_460), .val (.int ch_462), .val (.ref sb_465), .val .null, .unset] [(.int 105), (.int ch_458)])) (fun t k => ?_) ?_
      ·refine XS.icmpYes X465.here hx rfl (pc0 := 79) (pc' := 90) rfl (hb hby at_79) rfl (feq hc565).2 (by decide) (by decide) ?_
       show Steps p.tables e below (T465.setTop (mkF m 90 #[.val (.int p1), .val (.int p2), .val (.int p3), .val (.int p4), .val (.int 1), .val (.int ch_458), .val (.int ch_460), .val (.int ch_462), .val (.ref sb_465), .val .null, .unset] [])) _
       refine XS.iload X465.here hx rfl (hb hby at_90) rfl ?_
       show Steps p.tables e below (T465.setTop (mkF m 92 #[.val (.int p1), .val (.int p2), .val (.int p3), .val (.int p4), .val (.int 1), .val (.int ch_458), .val (.int ch_460), .val (.int ch_462), .val (.ref sb_465), .val .null, .unset] [(.int ch_458)])) _
       refine XS.bipush X465.here hx rfl (hb hby at_92) ?_
       show Steps p.tables e below (T465.setTop (mkF m 94 #[.val (.int p1), .val (.int p2), .val (.int p3), .val (.int p4), .val (.int 1), .val (.int ch_458), .val (.int ch_460), .val (.int ch_462), .val (.ref sb_465), .val .null, .unset] [(.int 105), (.int ch_458)])) _
       exact k
      by_cases hc613 : ch_458 = (105 : Int32)
      ·refine own_go (B := T465.setTop (mkF m 97 #[.val (.int p1), .val (.int p2), .val (.int p3), .val (.int p4), .val (.int 1), .val (.int ch_458), .val (.int ch_460), .val (.int ch_462), .val (.ref sb_465), .val .null, .unset] [])) (fun t k => ?_) ?_
       ·refine XS.icmpNo X465.here hx rfl (hb hby at_94) rfl (teq hc613).2 ?_
        show Steps p.tables e below (T465.setTop (mkF m 97 #[.val (.int p1), .val (.int p2), .val (.int p3), .val (.int p4), .val (.int 1), .val (.int ch_458), .val (.int ch_460), .val (.int ch_462), .val (.ref sb_465), .val .null, .unset] [])) _
        exact k
       have f615 : Sta Z T465.heap "com/example/restate/restate/MarkerStyle" "LOWER_ROMAN" "Lcom/example/restate/restate/MarkerStyle;" (.ref w_LOWER_ROMAN) := (own_staKeep (own_staKeep (own_staKeep (own_staKeep S_LOWER_ROMAN q458_0 (fun x hx_ => nomatch hx_)) q460_0 (fun x hx_ => nomatch hx_)) q462_0 (fun x hx_ => nomatch hx_)) q465_0 (fun x hx_ => nomatch hx_))
       obtain ⟨T614, X614, e614, st614⟩ := getS2 X465 hx hZ hown (host := "") (Or.inl (hw _ (List.mem_of_getElem? (i := 63) rfl))) Via.refl rfl f615 (g := (mkF m 97 #[.val (.int p1), .val (.int p2), .val (.int p3), .val (.int p4), .val (.int 1), .val (.int ch_458), .val (.int ch_460), .val (.int ch_462), .val (.ref sb_465), .val .null, .unset] [])) rfl (hb hby at_97)
       refine own_go st614 ?_
       refine own_go (B := T614.setTop (mkF m 119 #[.val (.int p1), .val (.int p2), .val (.int p3), .val (.int p4), .val (.int 1), .val (.int ch_458), .val (.int ch_460), .val (.int ch_462), .val (.ref sb_465), .val (.ref w_LOWER_ROMAN), .unset] [(.ref sb_465)])) (fun t k => ?_) ?_
       ·refine XS.astore X614.here hx rfl (hb hby at_100) rfl rfl (l' := #[.val (.int p1), .val (.int p2), .val (.int p3), .val (.int p4), .val (.int 1), .val (.int ch_458), .val (.int ch_460), .val (.int ch_462), .val (.ref sb_465), .val (.ref w_LOWER_ROMAN), .unset]) rfl ?_
        show Steps p.tables e below (T614.setTop (mkF m 102 #[.val (.int p1), .val (.int p2), .val (.int p3), .val (.int p4), .val (.int 1), .val (.int ch_458), .val (.int ch_460), .val (.int ch_462), .val (.ref sb_465), .val (.ref w_LOWER_ROMAN), .unset] [])) _
        refine XS.goto X614.here hx rfl (pc0 := 102) (pc' := 117) rfl (hb hby at_102) (by decide) (by decide) ?_
        show Steps p.tables e below (T614.setTop (mkF m 117 #[.val (.int p1), .val (.int p2), .val (.int p3), .val (.int p4), .val (.int 1), .val (.int ch_458), .val (.int ch_460), .val (.int ch_462), .val (.ref sb_465), .val (.ref w_LOWER_ROMAN), .unset] [])) _
        refine XS.aload X614.here hx rfl (hb hby at_117) rfl rfl ?_
        show Steps p.tables e below (T614.setTop (mkF m 119 #[.val (.int p1), .val (.int p2), .val (.int p3), .val (.int p4), .val (.int 1), .val (.int ch_458), .val (.int ch_460), .val (.int ch_462), .val (.ref sb_465), .val (.ref w_LOWER_ROMAN), .unset] [(.ref sb_465)])) _
        exact k
       have f617 : Sta Z T465.heap "com/example/restate/restate/MarkerStyle" "STYLES" "[Lcom/example/restate/restate/MarkerStyle;" (.ref w_STYLES) := (own_staKeep (own_staKeep (own_staKeep (own_staKeep S_STYLES q458_0 (fun x hx_ => nomatch hx_)) q460_0 (fun x hx_ => nomatch hx_)) q462_0 (fun x hx_ => nomatch hx_)) q465_0 (fun x hx_ => nomatch hx_))
       have f618 : Sta Z T465.heap "com/example/restate/restate/MarkerStyle" "NUMBER" "Lcom/example/restate/restate/MarkerStyle;" (.ref w_NUMBER) := (own_staKeep (own_staKeep (own_staKeep (own_staKeep S_NUMBER q458_0 (fun x hx_ => nomatch hx_)) q460_0 (fun x hx_ => nomatch hx_)) q462_0 (fun x hx_ => nomatch hx_)) q465_0 (fun x hx_ => nomatch hx_))
       have f619 : Exa Z T465.heap w_NUMBER "com/example/restate/restate/MarkerStyle" := ((((E_NUMBER.keep q458_0).keep q460_0).keep q462_0).keep q465_0)
       have f620 : Fld Z T465.heap w_NUMBER "com/example/restate/restate/MarkerStyle" "first" "Ljava/lang/String;" (.ref w_NUMBER_first) := ((((F_NUMBER_first.keep q458_0 nin0).keep q460_0 nin0).keep q462_0 nin0).keep q465_0 nin0)
       have f621 : Exa Z T465.heap w_NUMBER_first "java/lang/String" := ((((E_NUMBER_first.keep q458_0).keep q460_0).keep q462_0).keep q465_0)
       have f622 : Fld Z T465.heap w_NUMBER_first "java/lang/String" "value" "[B" (.ref w_NUMBER_first_value) := ((((F_NUMBER_first_value.keep q458_0 nin0).keep q460_0 nin0).keep q462_0 nin0).keep q465_0 nin0)
       have f623 : Sta Z T465.heap "com/example/restate/restate/MarkerStyle" "LOWER_LETTER" "Lcom/example/restate/restate/MarkerStyle;" (.ref w_LOWER_LETTER) := (own_staKeep (own_staKeep (own_staKeep (own_staKeep S_LOWER_LETTER q458_0 (fun x hx_ => nomatch hx_)) q460_0 (fun x hx_ => nomatch hx_)) q462_0 (fun x hx_ => nomatch hx_)) q465_0 (fun x hx_ => nomatch hx_))
       have f624 : Exa Z T465.heap w_LOWER_LETTER "com/example/restate/restate/MarkerStyle" := ((((E_LOWER_LETTER.keep q458_0).keep q460_0).keep q462_0).keep q465_0)
       have f625 : Fld Z T465.heap w_LOWER_LETTER "com/example/restate/restate/MarkerStyle" "first" "Ljava/lang/String;" (.ref w_LOWER_LETTER_first) := ((((F_LOWER_LETTER_first.keep q458_0 nin0).keep q460_0 nin0).keep q462_0 nin0).keep q465_0 nin0)
       have f626 : Exa Z T465.heap w_LOWER_LETTER_first "java/lang/String" := ((((E_LOWER_LETTER_first.keep q458_0).keep q460_0).keep q462_0).keep q465_0)
       have f627 : Fld Z T465.heap w_LOWER_LETTER_first "java/lang/String" "value" "[B" (.ref w_LOWER_LETTER_first_value) := ((((F_LOWER_LETTER_first_value.keep q458_0 nin0).keep q460_0 nin0).keep q462_0 nin0).keep q465_0 nin0)
       have f628 : Sta Z T465.heap "com/example/restate/restate/MarkerStyle" "UPPER_LETTER" "Lcom/example/restate/restate/MarkerStyle;" (.ref w_UPPER_LETTER) := (own_staKeep (own_staKeep (own_staKeep (own_staKeep S_UPPER_LETTER q458_0 (fun x hx_ => nomatch hx_)) q460_0 (fun x hx_ => nomatch hx_)) q462_0 (fun x hx_ => nomatch hx_)) q465_0 (fun x hx_ => nomatch hx_))
       have f629 : Exa Z T465.heap w_UPPER_LETTER "com/example/restate/restate/MarkerStyle" := ((((E_UPPER_LETTER.keep q458_0).keep q460_0).keep q462_0).keep q465_0)
       have f630 : Fld Z T465.heap w_UPPER_LETTER "com/example/restate/restate/MarkerStyle" "first" "Ljava/lang/String;" (.ref w_UPPER_LETTER_first) := ((((F_UPPER_LETTER_first.keep q458_0 nin0).keep q460_0 nin0).keep q462_0 nin0).keep q465_0 nin0)
       have f631 : Exa Z T465.heap w_UPPER_LETTER_first "java/lang/String" := ((((E_UPPER_LETTER_first.keep q458_0).keep q460_0).keep q462_0).keep q465_0)
       have f632 : Fld Z T465.heap w_UPPER_LETTER_first "java/lang/String" "value" "[B" (.ref w_UPPER_LETTER_first_value) := ((((F_UPPER_LETTER_first_value.keep q458_0 nin0).keep q460_0 nin0).keep q462_0 nin0).keep q465_0 nin0)
       have f633 : Exa Z T465.heap w_LOWER_ROMAN "com/example/restate/restate/MarkerStyle" := ((((E_LOWER_ROMAN.keep q458_0).keep q460_0).keep q462_0).keep q465_0)
       have f634 : Fld Z T465.heap w_LOWER_ROMAN "com/example/restate/restate/MarkerStyle" "first" "Ljava/lang/String;" (.ref w_LOWER_ROMAN_first) := ((((F_LOWER_ROMAN_first.keep q458_0 nin0).keep q460_0 nin0).keep q462_0 nin0).keep q465_0 nin0)
       have f635 : Exa Z T465.heap w_LOWER_ROMAN_first "java/lang/String" := ((((E_LOWER_ROMAN_first.keep q458_0).keep q460_0).keep q462_0).keep q465_0)
       have f636 : Fld Z T465.heap w_LOWER_ROMAN_first "java/lang/String" "value" "[B" (.ref w_LOWER_ROMAN_first_value) := ((((F_LOWER_ROMAN_first_value.keep q458_0 nin0).keep q460_0 nin0).keep q462_0 nin0).keep q465_0 nin0)
       have f637 : Sta Z T465.heap "com/example/restate/restate/MarkerStyle" "UPPER_ROMAN" "Lcom/example/restate/restate/MarkerStyle;" (.ref w_UPPER_ROMAN) := (own_staKeep (own_staKeep (own_staKeep (own_staKeep S_UPPER_ROMAN q458_0 (fun x hx_ => nomatch hx_)) q460_0 (fun x hx_ => nomatch hx_)) q462_0 (fun x hx_ => nomatch hx_)) q465_0 (fun x hx_ => nomatch hx_))
       have f638 : Exa Z T465.heap w_UPPER_ROMAN "com/example/restate/restate/MarkerStyle" := ((((E_UPPER_ROMAN.keep q458_0).keep q460_0).keep q462_0).keep q465_0)
       have f639 : Fld Z T465.heap w_UPPER_ROMAN "com/example/restate/restate/MarkerStyle" "first" "Ljava/lang/String;" (.ref w_UPPER_ROMAN_first) := ((((F_UPPER_ROMAN_first.keep q458_0 nin0).keep q460_0 nin0).keep q462_0 nin0).keep q465_0 nin0)
       have f640 : Exa Z T465.heap w_UPPER_ROMAN_first "java/lang/String" := ((((E_UPPER_ROMAN_first.keep q458_0).keep q460_0).keep q462_0).keep q465_0)
       have f641 : Fld Z T465.heap w_UPPER_ROMAN_first "java/lang/String" "value" "[B" (.ref w_UPPER_ROMAN_first_value) := ((((F_UPPER_ROMAN_first_value.keep q458_0 nin0).keep q460_0 nin0).keep q462_0 nin0).keep q465_0 nin0)
       have f642 : Sta Z T465.heap "java/lang/String" "COMPACT_STRINGS" "Z" (.int w_COMPACT_STRINGS) := (own_staKeep f466 q465_0 (fun x hx_ => nomatch hx_))
       have f643 : Fld Z T465.heap w_NUMBER_first "java/lang/String" "coder" "B" (.int 0) := ((((F_NUMBER_first_coder.keep q458_0 nin0).keep q460_0 nin0).keep q462_0 nin0).keep q465_0 nin0)
       have f644 : Fld Z T465.heap w_LOWER_LETTER_first "java/lang/String" "coder" "B" (.int 0) := ((((F_LOWER_LETTER_first_coder.keep q458_0 nin0).keep q460_0 nin0).keep q462_0 nin0).keep q465_0 nin0)
       have f645 : Fld Z T465.heap w_UPPER_LETTER_first "java/lang/String" "coder" "B" (.int 0) := ((((F_UPPER_LETTER_first_coder.keep q458_0 nin0).keep q460_0 nin0).keep q462_0 nin0).keep q465_0 nin0)
       have f646 : Fld Z T465.heap w_LOWER_ROMAN_first "java/lang/String" "coder" "B" (.int 0) := ((((F_LOWER_ROMAN_first_coder.keep q458_0 nin0).keep q460_0 nin0).keep q462_0 nin0).keep q465_0 nin0)
       have f647 : Fld Z T465.heap w_UPPER_ROMAN_first "java/lang/String" "coder" "B" (.int 0) := ((((F_UPPER_ROMAN_first_coder.keep q458_0 nin0).keep q460_0 nin0).keep q462_0 nin0).keep q465_0 nin0)
       have f648 : Arv Z T465.heap w_STYLES k_STYLES (.object "com/example/restate/restate/MarkerStyle") (5 : Int32) [(.ref w_NUMBER), (.ref w_LOWER_LETTER), (.ref w_UPPER_LETTER), (.ref w_LOWER_ROMAN), (.ref w_UPPER_ROMAN)] .null := ((((V_STYLES.keep q458_0 nin0).keep q460_0 nin0).keep q462_0 nin0).keep q465_0 nin0)
       have f649 : Arv Z T465.heap w_NUMBER_first_value k_NUMBER_first_value .byte (1 : Int32) [(.int 49)] (.int 0) := ((((V_NUMBER_first_value.keep q458_0 nin0).keep q460_0 nin0).keep q462_0 nin0).keep q465_0 nin0)
       have f650 : Arv Z T465.heap w_LOWER_LETTER_first_value k_LOWER_LETTER_first_value .byte (1 : Int32) [(.int 97)] (.int 0) := ((((V_LOWER_LETTER_first_value.keep q458_0 nin0).keep q460_0 nin0).keep q462_0 nin0).keep q465_0 nin0)
       have f651 : Arv Z T465.heap w_UPPER_LETTER_first_value k_UPPER_LETTER_first_value .byte (1 : Int32) [(.int 65)] (.int 0) := ((((V_UPPER_LETTER_first_value.keep q458_0 nin0).keep q460_0 nin0).keep q462_0 nin0).keep q465_0 nin0)
       have f652 : Arv Z T465.heap w_LOWER_ROMAN_first_value k_LOWER_ROMAN_first_value .byte (1 : Int32) [(.int 105)] (.int 0) := ((((V_LOWER_ROMAN_first_value.keep q458_0 nin0).keep q460_0 nin0).keep q462_0 nin0).keep q465_0 nin0)
       have f653 : Arv Z T465.heap w_UPPER_ROMAN_first_value k_UPPER_ROMAN_first_value .byte (1 : Int32) [(.int 73)] (.int 0) := ((((V_UPPER_ROMAN_first_value.keep q458_0 nin0).keep q460_0 nin0).keep q462_0 nin0).keep q465_0 nin0)
       have ne654 : w_NUMBER_first ≠ sb_465 := (Nat.ne_of_lt (Nat.lt_of_lt_of_le (Nat.lt_of_lt_of_le E_NUMBER_first.lt le467) q465_1))
       have ne655 : w_LOWER_LETTER_first ≠ sb_465 := (Nat.ne_of_lt (Nat.lt_of_lt_of_le (Nat.lt_of_lt_of_le E_LOWER_LETTER_first.lt le467) q465_1))
       have ne656 : w_UPPER_LETTER_first ≠ sb_465 := (Nat.ne_of_lt (Nat.lt_of_lt_of_le (Nat.lt_of_lt_of_le E_UPPER_LETTER_first.lt le467) q465_1))
       have ne657 : w_LOWER_ROMAN_first ≠ sb_465 := (Nat.ne_of_lt (Nat.lt_of_lt_of_le (Nat.lt_of_lt_of_le E_LOWER_ROMAN_first.lt le467) q465_1))
       have ne658 : w_UPPER_ROMAN_first ≠ sb_465 := (Nat.ne_of_lt (Nat.lt_of_lt_of_le (Nat.lt_of_lt_of_le E_UPPER_ROMAN_first.lt le467) q465_1))
       have le659 : h0.size ≤ T465.heap.size := (Nat.le_trans (Nat.le_trans (Nat.le_trans q458_0.1 q460_0.1) q462_0.1) q465_0.1)
       obtain ⟨_, _, ⟨T616, L616, k616, n616⟩, -, X616, ⟨Lc616, hQ616, l616, y616, z616⟩, st616⟩ := Jvm.LawKit.callS X614 hx (y := (⟨"com/example/restate/restate/MarkerStyle", "openedBy", "(Ljava/lang/String;)Lcom/example/restate/restate/MarkerStyle;"⟩ : MethodName)) hown (mvT hZ (hw _ (List.mem_of_getElem? (i := 29) rfl))) (mvT hZ (hw _ (List.mem_of_getElem? (i := 30) rfl))) (mvT hZ (hw _ (List.mem_of_getElem? (i := 31) rfl))) (mvT hZ (hw _ (List.mem_of_getElem? (i := 32) rfl))) (by decide) (backOf (W := 0) (rm6_1c3 l Z a0 hw [] sb_465 w_STYLES w_NUMBER w_NUMBER_first w_NUMBER_first_value w_LOWER_LETTER w_LOWER_LETTER_first w_LOWER_LETTER_first_value w_UPPER_LETTER w_UPPER_LETTER_first w_UPPER_LETTER_first_value w_LOWER_ROMAN w_LOWER_ROMAN_first w_LOWER_ROMAN_first_value w_UPPER_ROMAN w_UPPER_ROMAN_first w_UPPER_ROMAN_first_value w_COMPACT_STRINGS k_STYLES k_NUMBER_first_value k_LOWER_LETTER_first_value k_UPPER_LETTER_first_value k_LOWER_ROMAN_first_value k_UPPER_ROMAN_first_value bn_465 kn_465 (ch_458.toInt8.toInt32) T465.heap n0 (Nat.le_trans Z0 le659) f617 f618 f619 f620 f621 f622 f623 f624 f625 f626 f627 f628 f629 f630 f631 f632 f615 f633 f634 f635 f636 f637 f638 f639 f640 f641 f642 f643 f644 f645 f646 f647 (N_COMPACT_STRINGS) f648 f649 f650 f651 f652 f653 q465_2 q465_3 q465_4 q465_5 ne654 ne655 ne656 ne657 ne658 (by rw [hc613]; decide)) hZ (hw _ (List.mem_of_getElem? (i := 32) rfl)) (hw _ (List.mem_of_getElem? (i := 31) rfl)) (by decide) (by decide)) (g := (mkF m 119 #[.val (.int p1), .val (.int p2), .val (.int p3), .val (.int p4), .val (.int 1), .val (.int ch_458), .val (.int ch_460), .val (.int ch_462), .val (.ref sb_465), .val (.ref w_LOWER_ROMAN), .unset] [(.ref sb_465)])) rfl (by rw [hml]; rfl) (argsL := [(.ref sb_465)]) (rest := []) (lenOf pd_9 rfl) rfl (by show 2 * 0 + _ ≤ _; exact Nat.le_of_eq rfl) (hb hby at_119) (fun _ _ => ⟨rfl, e614, (by decide : 6 + 0 ≤ _), (by decide : 30 + 0 ≤ _)⟩)
       dsimp only [Pt.U, Pt.locs, Pt.cells, Pt.slots] at X616 l616 y616 z616 st616 hQ616
       subst l616 y616 z616
       obtain ⟨rfl, M616, q616_0⟩ := hQ616
       have N616 := Fr.app N465 M616
       refine own_go st616 ?_
       refine own_go (B := T616.setTop (mkF m 136 #[.val (.int p1), .val (.int p2), .val (.int p3), .val (.int p4), .val (.int 1), .val (.int ch_458), .val (.int ch_460), .val (.int ch_462), .val (.ref sb_465), .val (.ref w_LOWER_ROMAN), .val (.ref w_LOWER_ROMAN)] [(.int 1)])) (fun t k => ?_) ?_
       ·refine XS.astore X616.here hx rfl (hb hby at_122) rfl rfl (l' := #[.val (.int p1), .val (.int p2), .val (.int p3), .val (.int p4), .val (.int 1), .val (.int ch_458), .val (.int ch_460), .val (.int ch_462), .val (.ref sb_465), .val (.ref w_LOWER_ROMAN), .val (.ref w_LOWER_ROMAN)]) rfl ?_
        show Steps p.tables e below (T616.setTop (mkF m 124 #[.val (.int p1), .val (.int p2), .val (.int p3), .val (.int p4), .val (.int 1), .val (.int ch_458), .val (.int ch_460), .val (.int ch_462), .val (.ref sb_465), .val (.ref w_LOWER_ROMAN), .val (.ref w_LOWER_ROMAN)] [])) _
        refine XS.aload X616.here hx rfl (hb hby at_124) rfl rfl ?_
        show Steps p.tables e below (T616.setTop (mkF m 126 #[.val (.int p1), .val (.int p2), .val (.int p3), .val (.int p4), .val (.int 1), .val (.int ch_458), .val (.int ch_460), .val (.int ch_462), .val (.ref sb_465), .val (.ref w_LOWER_ROMAN), .val (.ref w_LOWER_ROMAN)] [(.ref w_LOWER_ROMAN)])) _
        refine XS.aload X616.here hx rfl (hb hby at_126) rfl rfl ?_
        show Steps p.tables e below (T616.setTop (mkF m 128 #[.val (.int p1), .val (.int p2), .val (.int p3), .val (.int p4), .val (.int 1), .val (.int ch_458), .val (.int ch_460), .val (.int ch_462), .val (.ref sb_465), .val (.ref w_LOWER_ROMAN), .val (.ref w_LOWER_ROMAN)] [(.ref w_LOWER_ROMAN), (.ref w_LOWER_ROMAN)])) _
        refine Jvm.RoadKit.acmp (g := (mkF m 128 #[.val (.int p1), .val (.int p2), .val (.int p3), .val (.int p4), .val (.int 1), .val (.int ch_458), .val (.int ch_460), .val (.int ch_462), .val (.ref sb_465), .val (.ref w_LOWER_ROMAN), .val (.ref w_LOWER_ROMAN)] [(.ref w_LOWER_ROMAN), (.ref w_LOWER_ROMAN)])) X616 hx rfl rfl rfl (pc0 := 128) (pc' := 131) (same := true) rfl (hb hby at_128) rfl (decide_eq_true rfl) (by decide) (by decide) ?_
        show Steps p.tables e below (T616.setTop (mkF m 131 #[.val (.int p1), .val (.int p2), .val (.int p3), .val (.int p4), .val (.int 1), .val (.int ch_458), .val (.int ch_460), .val (.int ch_462), .val (.ref sb_465), .val (.ref w_LOWER_ROMAN), .val (.ref w_LOWER_ROMAN)] [])) _
        refine XS.iconst X616.here hx rfl (hb hby at_131) ?_
        show Steps p.tables e below (T616.setTop (mkF m 132 #[.val (.int p1), .val (.int p2), .val (.int p3), .val (.int p4), .val (.int 1), .val (.int ch_458), .val (.int ch_460), .val (.int ch_462), .val (.ref sb_465), .val (.ref w_LOWER_ROMAN), .val (.ref w_LOWER_ROMAN)] [(.int 1)])) _
        refine XS.goto X616.here hx rfl (pc0 := 132) (pc' := 136) rfl (hb hby at_132) (by decide) (by decide) ?_
        show Steps p.tables e below (T616.setTop (mkF m 136 #[.val (.int p1), .val (.int p2), .val (.int p3), .val (.int p4), .val (.int 1), .val (.int ch_458), .val (.int ch_460), .val (.int ch_462), .val (.ref sb_465), .val (.ref w_LOWER_ROMAN), .val (.ref w_LOWER_ROMAN)] [(.int 1)])) _
        exact k
       obtain ⟨fs, hr, hrun, hended, hW⟩ := X616.leaveW hS0 (show _ ≤ T616.heap.size by rw [q616_0]; exact (Nat.le_trans (Nat.le_refl _) le659)) (v := some (.int 1)) (fun h => by rw [Bd.returns] at h; cases h)
       refine ⟨_, _, ?_, hrun, hended, _, _, rfl, ?_, ⟨hW.1, hW.2.1, hW.2.2.1, hW.2.2.2.mono (by decide) (by decide)⟩⟩
       ·exact retN X616 hx (t := .boolean) Bd.returns (by simp) (hb hby at_136) hr
       ·show Q0 Z p1 p2 p3 p4 w_STYLES w_NUMBER w_NUMBER_first w_NUMBER_first_value w_LOWER_LETTER w_LOWER_LETTER_first w_LOWER_LETTER_first_value w_UPPER_LETTER w_UPPER_LETTER_first w_UPPER_LETTER_first_value w_LOWER_ROMAN w_LOWER_ROMAN_first w_LOWER_ROMAN_first_value w_UPPER_ROMAN w_UPPER_ROMAN_first w_UPPER_ROMAN_first_value w_COMPACT_STRINGS k_STYLES k_NUMBER_first_value k_LOWER_LETTER_first_value k_UPPER_LETTER_first_value k_LOWER_ROMAN_first_value k_UPPER_ROMAN_first_value h0 n0 _ T616.heap _
        rw [q616_0]
        exact ⟨rfl, N616⟩
      ·refine own_go (B := T465.setTop (mkF m 109 #[.val (.int p1), .val (.int p2), .val (.int p3), .val (.int p4), .val (.int 1), .val (.int ch_458), .val (.int ch_460), .val (.int ch_462), .val (.ref sb_465), .val .null, .unset] [(.int 73), (.int ch_458)])) (fun t k => ?_) ?_
       ·refine XS.icmpYes X465.here hx rfl (pc0 := 94) (pc' := 105) rfl (hb hby at_94) rfl (feq hc613).2 (by decide) (by decide) ?_
        show Steps p.tables e below (T465.setTop (mkF m 105 #[.val (.int p1), .val (.int p2), .val (.int p3), .val (.int p4), .val (.int 1), .val (.int ch_458), .val (.int ch_460), .val (.int ch_462), .val (.ref sb_465), .val .null, .unset] [])) _
        refine XS.iload X465.here hx rfl (hb hby at_105) rfl ?_
        show Steps p.tables e below (T465.setTop (mkF m 107 #[.val (.int p1), .val (.int p2), .val (.int p3), .val (.int p4), .val (.int 1), .val (.int ch_458), .val (.int ch_460), .val (.int ch_462), .val (.ref sb_465), .val .null, .unset] [(.int ch_458)])) _
        refine XS.bipush X465.here hx rfl (hb hby at_107) ?_
        show Steps p.tables e below (T465.setTop (mkF m 109 #[.val (.int p1), .val (.int p2), .val (.int p3), .val (.int p4), .val (.int 1), .val (.int ch_458), .val (.int ch_460), .val (.int ch_462), .val (.ref sb_465), .val .null, .unset] [(.int 73), (.int ch_458)])) _
        exact k
       by_cases hc661 : ch_458 = (73 : Int32)
       ·refine own_go (B := T465.setTop (mkF m 112 #[.val (.int p1), .val (.int p2), .val (.int p3), .val (.int p4), .val (.int 1), .val (.int ch_458), .val (.int ch_460), .val (.int ch_462), .val (.ref sb_465), .val .null, .unset] [])) (fun t k => ?_) ?_
        ·refine XS.icmpNo X465.here hx rfl (hb hby at_109) rfl (teq hc661).2 ?_
         show Steps p.tables e below (T465.setTop (mkF m 112 #[.val (.int p1), .val (.int p2), .val (.int p3), .val (.int p4), .val (.int 1), .val (.int ch_458), .val (.int ch_460), .val (.int ch_462), .val (.ref sb_465), .val .null, .unset] [])) _
         exact k
        have f663 : Sta Z T465.heap "com/example/restate/restate/MarkerStyle" "UPPER_ROMAN" "Lcom/example/restate/restate/MarkerStyle;" (.ref w_UPPER_ROMAN) := (own_staKeep (own_staKeep (own_staKeep (own_staKeep S_UPPER_ROMAN q458_0 (fun x hx_ => nomatch hx_)) q460_0 (fun x hx_ => nomatch hx_)) q462_0 (fun x hx_ => nomatch hx_)) q465_0 (fun x hx_ => nomatch hx_))
        obtain ⟨T662, X662, e662, st662⟩ := getS2 X465 hx hZ hown (host := "") (Or.inl (hw _ (List.mem_of_getElem? (i := 65) rfl))) Via.refl rfl f663 (g := (mkF m 112 #[.val (.int p1), .val (.int p2), .val (.int p3), .val (.int p4), .val (.int 1), .val (.int ch_458), .val (.int ch_460), .val (.int ch_462), .val (.ref sb_465), .val .null, .unset] [])) rfl (hb hby at_112)
        refine own_go st662 ?_
        refine own_go (B := T662.setTop (mkF m 119 #[.val (.int p1), .val (.int p2), .val (.int p3), .val (.int p4), .val (.int 1), .val (.int ch_458), .val (.int ch_460), .val (.int ch_462), .val (.ref sb_465), .val (.ref w_UPPER_ROMAN), .unset] [(.ref sb_465)])) (fun t k => ?_) ?_
        ·refine XS.astore X662.here hx rfl (hb hby at_115) rfl rfl (l' := #[.val (.int p1), .val (.int p2), .val (.int p3), .val (.int p4), .val (.int 1), .val (.int ch_458), .val (.int ch_460), .val (.int ch_462), .val (.ref sb_465), .val (.ref w_UPPER_ROMAN), .unset]) rfl ?_
         show Steps p.tables e below (T662.setTop (mkF m 117 #[.val (.int p1), .val (.int p2), .val (.int p3), .val (.int p4), .val (.int 1), .val (.int ch_458), .val (.int ch_460), .val (.int ch_462), .val (.ref sb_465), .val (.ref w_UPPER_ROMAN), .unset] [])) _
         refine XS.aload X662.here hx rfl (hb hby at_117) rfl rfl ?_
         show Steps p.tables e below (T662.setTop (mkF m 119 #[.val (.int p1), .val (.int p2), .val (.int p3), .val (.int p4), .val (.int 1), .val (.int ch_458), .val (.int ch_460), .val (.int ch_462), .val (.ref sb_465), .val (.ref w_UPPER_ROMAN), .unset] [(.ref sb_465)])) _
         exact k
        have f665 : Sta Z T465.heap "com/example/restate/restate/MarkerStyle" "STYLES" "[Lcom/example/restate/restate/MarkerStyle;" (.ref w_STYLES) := (own_staKeep (own_staKeep (own_staKeep (own_staKeep S_STYLES q458_0 (fun x hx_ => nomatch hx_)) q460_0 (fun x hx_ => nomatch hx_)) q462_0 (fun x hx_ => nomatch hx_)) q465_0 (fun x hx_ => nomatch hx_))
        have f666 : Sta Z T465.heap "com/example/restate/restate/MarkerStyle" "NUMBER" "Lcom/example/restate/restate/MarkerStyle;" (.ref w_NUMBER) := (own_staKeep (own_staKeep (own_staKeep (own_staKeep S_NUMBER q458_0 (fun x hx_ => nomatch hx_)) q460_0 (fun x hx_ => nomatch hx_)) q462_0 (fun x hx_ => nomatch hx_)) q465_0 (fun x hx_ => nomatch hx_))
        have f667 : Exa Z T465.heap w_NUMBER "com/example/restate/restate/MarkerStyle" := ((((E_NUMBER.keep q458_0).keep q460_0).keep q462_0).keep q465_0)
        have f668 : Fld Z T465.heap w_NUMBER "com/example/restate/restate/MarkerStyle" "first" "Ljava/lang/String;" (.ref w_NUMBER_first) := ((((F_NUMBER_first.keep q458_0 nin0).keep q460_0 nin0).keep q462_0 nin0).keep q465_0 nin0)
        have f669 : Exa Z T465.heap w_NUMBER_first "java/lang/String" := ((((E_NUMBER_first.keep q458_0).keep q460_0).keep q462_0).keep q465_0)
        have f670 : Fld Z T465.heap w_NUMBER_first "java/lang/String" "value" "[B" (.ref w_NUMBER_first_value) := ((((F_NUMBER_first_value.keep q458_0 nin0).keep q460_0 nin0).keep q462_0 nin0).keep q465_0 nin0)
        have f671 : Sta Z T465.heap "com/example/restate/restate/MarkerStyle" "LOWER_LETTER" "Lcom/example/restate/restate/MarkerStyle;" (.ref w_LOWER_LETTER) := (own_staKeep (own_staKeep (own_staKeep (own_staKeep S_LOWER_LETTER q458_0 (fun x hx_ => nomatch hx_)) q460_0 (fun x hx_ => nomatch hx_)) q462_0 (fun x hx_ => nomatch hx_)) q465_0 (fun x hx_ => nomatch hx_))
        have f672 : Exa Z T465.heap w_LOWER_LETTER "com/example/restate/restate/MarkerStyle" := ((((E_LOWER_LETTER.keep q458_0).keep q460_0).keep q462_0).keep q465_0)
        have f673 : Fld Z T465.heap w_LOWER_LETTER "com/example/restate/restate/MarkerStyle" "first" "Ljava/lang/String;" (.ref w_LOWER_LETTER_first) := ((((F_LOWER_LETTER_first.keep q458_0 nin0).keep q460_0 nin0).keep q462_0 nin0).keep q465_0 nin0)
        have f674 : Exa Z T465.heap w_LOWER_LETTER_first "java/lang/String" := ((((E_LOWER_LETTER_first.keep q458_0).keep q460_0).keep q462_0).keep q465_0)
        have f675 : Fld Z T465.heap w_LOWER_LETTER_first "java/lang/String" "value" "[B" (.ref w_LOWER_LETTER_first_value) := ((((F_LOWER_LETTER_first_value.keep q458_0 nin0).keep q460_0 nin0).keep q462_0 nin0).keep q465_0 nin0)
        have f676 : Sta Z T465.heap "com/example/restate/restate/MarkerStyle" "UPPER_LETTER" "Lcom/example/restate/restate/MarkerStyle;" (.ref w_UPPER_LETTER) := (own_staKeep (own_staKeep (own_staKeep (own_staKeep S_UPPER_LETTER q458_0 (fun x hx_ => nomatch hx_)) q460_0 (fun x hx_ => nomatch hx_)) q462_0 (fun x hx_ => nomatch hx_)) q465_0 (fun x hx_ => nomatch hx_))
        have f677 : Exa Z T465.heap w_UPPER_LETTER "com/example/restate/restate/MarkerStyle" := ((((E_UPPER_LETTER.keep q458_0).keep q460_0).keep q462_0).keep q465_0)
        have f678 : Fld Z T465.heap w_UPPER_LETTER "com/example/restate/restate/MarkerStyle" "first" "Ljava/lang/String;" (.ref w_UPPER_LETTER_first) := ((((F_UPPER_LETTER_first.keep q458_0 nin0).keep q460_0 nin0).keep q462_0 nin0).keep q465_0 nin0)
        have f679 : Exa Z T465.heap w_UPPER_LETTER_first "java/lang/String" := ((((E_UPPER_LETTER_first.keep q458_0).keep q460_0).keep q462_0).keep q465_0)
        have f680 : Fld Z T465.heap w_UPPER_LETTER_first "java/lang/String" "value" "[B" (.ref w_UPPER_LETTER_first_value) := ((((F_UPPER_LETTER_first_value.keep q458_0 nin0).keep q460_0 nin0).keep q462_0 nin0).keep q465_0 nin0)
        have f681 : Sta Z T465.heap "com/example/restate/restate/MarkerStyle" "LOWER_ROMAN" "Lcom/example/restate/restate/MarkerStyle;" (.ref w_LOWER_ROMAN) := (own_staKeep (own_staKeep (own_staKeep (own_staKeep S_LOWER_ROMAN q458_0 (fun x hx_ => nomatch hx_)) q460_0 (fun x hx_ => nomatch hx_)) q462_0 (fun x hx_ => nomatch hx_)) q465_0 (fun x hx_ => nomatch hx_))
        have f682 : Exa Z T465.heap w_LOWER_ROMAN "com/example/restate/restate/MarkerStyle" := ((((E_LOWER_ROMAN.keep q458_0).keep q460_0).keep q462_0).keep q465_0)
        have f683 : Fld Z T465.heap w_LOWER_ROMAN "com/example/restate/restate/MarkerStyle" "first" "Ljava/lang/String;" (.ref w_LOWER_ROMAN_first) := ((((F_LOWER_ROMAN_first.keep q458_0 nin0).keep q460_0 nin0).keep q462_0 nin0).keep q465_0 nin0)
        have f684 : Exa Z T465.heap w_LOWER_ROMAN_first "java/lang/String" := ((((E_LOWER_ROMAN_first.keep q458_0).keep q460_0).keep q462_0).keep q465_0)
        have f685 : Fld Z T465.heap w_LOWER_ROMAN_first "java/lang/String" "value" "[B" (.ref w_LOWER_ROMAN_first_value) := ((((F_LOWER_ROMAN_first_value.keep q458_0 nin0).keep q460_0 nin0).keep q462_0 nin0).keep q465_0 nin0)
        have f686 : Exa Z T465.heap w_UPPER_ROMAN "com/example/restate/restate/MarkerStyle" := ((((E_UPPER_ROMAN.keep q458_0).keep q460_0).keep q462_0).keep q465_0)
        have f687 : Fld Z T465.heap w_UPPER_ROMAN "com/example/restate/restate/MarkerStyle" "first" "Ljava/lang/String;" (.ref w_UPPER_ROMAN_first) := ((((F_UPPER_ROMAN_first.keep q458_0 nin0).keep q460_0 nin0).keep q462_0 nin0).keep q465_0 nin0)
        have f688 : Exa Z T465.heap w_UPPER_ROMAN_first "java/lang/String" := ((((E_UPPER_ROMAN_first.keep q458_0).keep q460_0).keep q462_0).keep q465_0)
        have f689 : Fld Z T465.heap w_UPPER_ROMAN_first "java/lang/String" "value" "[B" (.ref w_UPPER_ROMAN_first_value) := ((((F_UPPER_ROMAN_first_value.keep q458_0 nin0).keep q460_0 nin0).keep q462_0 nin0).keep q465_0 nin0)
        have f690 : Sta Z T465.heap "java/lang/String" "COMPACT_STRINGS" "Z" (.int w_COMPACT_STRINGS) := (own_staKeep f466 q465_0 (fun x hx_ => nomatch hx_))
        have f691 : Fld Z T465.heap w_NUMBER_first "java/lang/String" "coder" "B" (.int 0) := ((((F_NUMBER_first_coder.keep q458_0 nin0).keep q460_0 nin0).keep q462_0 nin0).keep q465_0 nin0)
        have f692 : Fld Z T465.heap w_LOWER_LETTER_first "java/lang/String" "coder" "B" (.int 0) := ((((F_LOWER_LETTER_first_coder.keep q458_0 nin0).keep q460_0 nin0).keep q462_0 nin0).keep q465_0 nin0)
        have f693 : Fld Z T465.heap w_UPPER_LETTER_first "java/lang/String" "coder" "B" (.int 0) := ((((F_UPPER_LETTER_first_coder.keep q458_0 nin0).keep q460_0 nin0).keep q462_0 nin0).keep q465_0 nin0)
        have f694 : Fld Z T465.heap w_LOWER_ROMAN_first "java/lang/String" "coder" "B" (.int 0) := ((((F_LOWER_ROMAN_first_coder.keep q458_0 nin0).keep q460_0 nin0).keep q462_0 nin0).keep q465_0 nin0)
        have f695 : Fld Z T465.heap w_UPPER_ROMAN_first "java/lang/String" "coder" "B" (.int 0) := ((((F_UPPER_ROMAN_first_coder.keep q458_0 nin0).keep q460_0 nin0).keep q462_0 nin0).keep q465_0 nin0)
        have f696 : Arv Z T465.heap w_STYLES k_STYLES (.object "com/example/restate/restate/MarkerStyle") (5 : Int32) [(.ref w_NUMBER), (.ref w_LOWER_LETTER), (.ref w_UPPER_LETTER), (.ref w_LOWER_ROMAN), (.ref w_UPPER_ROMAN)] .null := ((((V_STYLES.keep q458_0 nin0).keep q460_0 nin0).keep q462_0 nin0).keep q465_0 nin0)
        have f697 : Arv Z T465.heap w_NUMBER_first_value k_NUMBER_first_value .byte (1 : Int32) [(.int 49)] (.int 0) := ((((V_NUMBER_first_value.keep q458_0 nin0).keep q460_0 nin0).keep q462_0 nin0).keep q465_0 nin0)
        have f698 : Arv Z T465.heap w_LOWER_LETTER_first_value k_LOWER_LETTER_first_value .byte (1 : Int32) [(.int 97)] (.int 0) := ((((V_LOWER_LETTER_first_value.keep q458_0 nin0).keep q460_0 nin0).keep q462_0 nin0).keep q465_0 nin0)
        have f699 : Arv Z T465.heap w_UPPER_LETTER_first_value k_UPPER_LETTER_first_value .byte (1 : Int32) [(.int 65)] (.int 0) := ((((V_UPPER_LETTER_first_value.keep q458_0 nin0).keep q460_0 nin0).keep q462_0 nin0).keep q465_0 nin0)
        have f700 : Arv Z T465.heap w_LOWER_ROMAN_first_value k_LOWER_ROMAN_first_value .byte (1 : Int32) [(.int 105)] (.int 0) := ((((V_LOWER_ROMAN_first_value.keep q458_0 nin0).keep q460_0 nin0).keep q462_0 nin0).keep q465_0 nin0)
        have f701 : Arv Z T465.heap w_UPPER_ROMAN_first_value k_UPPER_ROMAN_first_value .byte (1 : Int32) [(.int 73)] (.int 0) := ((((V_UPPER_ROMAN_first_value.keep q458_0 nin0).keep q460_0 nin0).keep q462_0 nin0).keep q465_0 nin0)
        have ne702 : w_NUMBER_first ≠ sb_465 := (Nat.ne_of_lt (Nat.lt_of_lt_of_le (Nat.lt_of_lt_of_le E_NUMBER_first.lt le467) q465_1))
        have ne703 : w_LOWER_LETTER_first ≠ sb_465 := (Nat.ne_of_lt (Nat.lt_of_lt_of_le (Nat.lt_of_lt_of_le E_LOWER_LETTER_first.lt le467) q465_1))
        have ne704 : w_UPPER_LETTER_first ≠ sb_465 := (Nat.ne_of_lt (Nat.lt_of_lt_of_le (Nat.lt_of_lt_of_le E_UPPER_LETTER_first.lt le467) q465_1))
        have ne705 : w_LOWER_ROMAN_first ≠ sb_465 := (Nat.ne_of_lt (Nat.lt_of_lt_of_le (Nat.lt_of_lt_of_le E_LOWER_ROMAN_first.lt le467) q465_1))
        have ne706 : w_UPPER_ROMAN_first ≠ sb_465 := (Nat.ne_of_lt (Nat.lt_of_lt_of_le (Nat.lt_of_lt_of_le E_UPPER_ROMAN_first.lt le467) q465_1))
        have le707 : h0.size ≤ T465.heap.size := (Nat.le_trans (Nat.le_trans (Nat.le_trans q458_0.1 q460_0.1) q462_0.1) q465_0.1)
        obtain ⟨_, _, ⟨T664, L664, k664, n664⟩, -, X664, ⟨Lc664, hQ664, l664, y664, z664⟩, st664⟩ := Jvm.LawKit.callS X662 hx (y := (⟨"com/example/restate/restate/MarkerStyle", "openedBy", "(Ljava/lang/String;)Lcom/example/restate/restate/MarkerStyle;"⟩ : MethodName)) hown (mvT hZ (hw _ (List.mem_of_getElem? (i := 29) rfl))) (mvT hZ (hw _ (List.mem_of_getElem? (i := 30) rfl))) (mvT hZ (hw _ (List.mem_of_getElem? (i := 31) rfl))) (mvT hZ (hw _ (List.mem_of_getElem? (i := 32) rfl))) (by decide) (backOf (W := 0) (rm6_1c4 l Z a0 hw [] sb_465 w_STYLES w_NUMBER w_NUMBER_first w_NUMBER_first_value w_LOWER_LETTER w_LOWER_LETTER_first w_LOWER_LETTER_first_value w_UPPER_LETTER w_UPPER_LETTER_first w_UPPER_LETTER_first_value w_LOWER_ROMAN w_LOWER_ROMAN_first w_LOWER_ROMAN_first_value w_UPPER_ROMAN w_UPPER_ROMAN_first w_UPPER_ROMAN_first_value w_COMPACT_STRINGS k_STYLES k_NUMBER_first_value k_LOWER_LETTER_first_value k_UPPER_LETTER_first_value k_LOWER_ROMAN_first_value k_UPPER_ROMAN_first_value bn_465 kn_465 (ch_458.toInt8.toInt32) T465.heap n0 (Nat.le_trans Z0 le707) f665 f666 f667 f668 f669 f670 f671 f672 f673 f674 f675 f676 f677 f678 f679 f680 f681 f682 f683 f684 f685 f663 f686 f687 f688 f689 f690 f691 f692 f693 f694 f695 (N_COMPACT_STRINGS) f696 f697 f698 f699 f700 f701 q465_2 q465_3 q465_4 q465_5 ne702 ne703 ne704 ne705 ne706 (by rw [hc661]; decide)) hZ (hw _ (List.mem_of_getElem? (i := 32) rfl)) (hw _ (List.mem_of_getElem? (i := 31) rfl)) (by decide) (by decide)) (g := (mkF m 119 #[.val (.int p1), .val (.int p2), .val (.int p3), .val (.int p4), .val (.int 1), .val (.int ch_458), .val (.int ch_460), .val (.int ch_462), .val (.ref sb_465), .val (.ref w_UPPER_ROMAN), .unset] [(.ref sb_465)])) rfl (by rw [hml]; rfl) (argsL := [(.ref sb_465)]) (rest := []) (lenOf pd_9 rfl) rfl (by show 2 * 0 + _ ≤ _; exact Nat.le_of_eq rfl) (hb hby at_119) (fun _ _ => ⟨rfl, e662, (by decide : 6 + 0 ≤ _), (by decide : 30 + 0 ≤ _)⟩)
        dsimp only [Pt.U, Pt.locs, Pt.cells, Pt.slots] at X664 l664 y664 z664 st664 hQ664
        subst l664 y664 z664
        obtain ⟨rfl, M664, q664_0⟩ := hQ664
        have N664 := Fr.app N465 M664
        refine own_go st664 ?_
        refine own_go (B := T664.setTop (mkF m 136 #[.val (.int p1), .val (.int p2), .val (.int p3), .val (.int p4), .val (.int 1), .val (.int ch_458), .val (.int ch_460), .val (.int ch_462), .val (.ref sb_465), .val (.ref w_UPPER_ROMAN), .val (.ref w_UPPER_ROMAN)] [(.int 1)])) (fun t k => ?_) ?_
        ·refine XS.astore X664.here hx rfl (hb hby at_122) rfl rfl (l' := #[.val (.int p1), .val (.int p2), .val (.int p3), .val (.int p4), .val (.int 1), .val (.int ch_458), .val (.int ch_460), .val (.int ch_462), .val (.ref sb_465), .val (.ref w_UPPER_ROMAN), .val (.ref w_UPPER_ROMAN)]) rfl ?_
         show Steps p.tables e below (T664.setTop (mkF m 124 #[.val (.int p1), .val (.int p2), .val (.int p3), .val (.int p4), .val (.int 1), .val (.int ch_458), .val (.int ch_460), .val (.int ch_462), .val (.ref sb_465), .val (.ref w_UPPER_ROMAN), .val (.ref w_UPPER_ROMAN)] [])) _
         refine XS.aload X664.here hx rfl (hb hby at_124) rfl rfl ?_
         show Steps p.tables e below (T664.setTop (mkF m 126 #[.val (.int p1), .val (.int p2), .val (.int p3), .val (.int p4), .val (.int 1), .val (.int ch_458), .val (.int ch_460), .val (.int ch_462), .val (.ref sb_465), .val (.ref w_UPPER_ROMAN), .val (.ref w_UPPER_ROMAN)] [(.ref w_UPPER_ROMAN)])) _
         refine XS.aload X664.here hx rfl (hb hby at_126) rfl rfl ?_
         show Steps p.tables e below (T664.setTop (mkF m 128 #[.val (.int p1), .val (.int p2), .val (.int p3), .val (.int p4), .val (.int 1), .val (.int ch_458), .val (.int ch_460), .val (.int ch_462), .val (.ref sb_465), .val (.ref w_UPPER_ROMAN), .val (.ref w_UPPER_ROMAN)] [(.ref w_UPPER_ROMAN), (.ref w_UPPER_ROMAN)])) _
         refine Jvm.RoadKit.acmp (g := (mkF m 128 #[.val (.int p1), .val (.int p2), .val (.int p3), .val (.int p4), .val (.int 1), .val (.int ch_458), .val (.int ch_460), .val (.int ch_462), .val (.ref sb_465), .val (.ref w_UPPER_ROMAN), .val (.ref w_UPPER_ROMAN)] [(.ref w_UPPER_ROMAN), (.ref w_UPPER_ROMAN)])) X664 hx rfl rfl rfl (pc0 := 128) (pc' := 131) (same := true) rfl (hb hby at_128) rfl (decide_eq_true rfl) (by decide) (by decide) ?_
         show Steps p.tables e below (T664.setTop (mkF m 131 #[.val (.int p1), .val (.int p2), .val (.int p3), .val (.int p4), .val (.int 1), .val (.int ch_458), .val (.int ch_460), .val (.int ch_462), .val (.ref sb_465), .val (.ref w_UPPER_ROMAN), .val (.ref w_UPPER_ROMAN)] [])) _
         refine XS.iconst X664.here hx rfl (hb hby at_131) ?_
         show Steps p.tables e below (T664.setTop (mkF m 132 #[.val (.int p1), .val (.int p2), .val (.int p3), .val (.int p4), .val (.int 1), .val (.int ch_458), .val (.int ch_460), .val (.int ch_462), .val (.ref sb_465), .val (.ref w_UPPER_ROMAN), .val (.ref w_UPPER_ROMAN)] [(.int 1)])) _
         refine XS.goto X664.here hx rfl (pc0 := 132) (pc' := 136) rfl (hb hby at_132) (by decide) (by decide) ?_
         show Steps p.tables e below (T664.setTop (mkF m 136 #[.val (.int p1), .val (.int p2), .val (.int p3), .val (.int p4), .val (.int 1), .val (.int ch_458), .val (.int ch_460), .val (.int ch_462), .val (.ref sb_465), .val (.ref w_UPPER_ROMAN), .val (.ref w_UPPER_ROMAN)] [(.int 1)])) _
         exact k
        obtain ⟨fs, hr, hrun, hended, hW⟩ := X664.leaveW hS0 (show _ ≤ T664.heap.size by rw [q664_0]; exact (Nat.le_trans (Nat.le_refl _) le707)) (v := some (.int 1)) (fun h => by rw [Bd.returns] at h; cases h)
        refine ⟨_, _, ?_, hrun, hended, _, _, rfl, ?_, ⟨hW.1, hW.2.1, hW.2.2.1, hW.2.2.2.mono (by decide) (by decide)⟩⟩
        ·exact retN X664 hx (t := .boolean) Bd.returns (by simp) (hb hby at_136) hr
        ·show Q0 Z p1 p2 p3 p4 w_STYLES w_NUMBER w_NUMBER_first w_NUMBER_first_value w_LOWER_LETTER w_LOWER_LETTER_first w_LOWER_LETTER_first_value w_UPPER_LETTER w_UPPER_LETTER_first w_UPPER_LETTER_first_value w_LOWER_ROMAN w_LOWER_ROMAN_first w_LOWER_ROMAN_first_value w_UPPER_ROMAN w_UPPER_ROMAN_first w_UPPER_ROMAN_first_value w_COMPACT_STRINGS k_STYLES k_NUMBER_first_value k_LOWER_LETTER_first_value k_UPPER_LETTER_first_value k_LOWER_ROMAN_first_value k_UPPER_ROMAN_first_value h0 n0 _ T664.heap _
         rw [q664_0]
         exact ⟨rfl, N664⟩
       ·refine own_go (B := T465.setTop (mkF m 119 #[.val (.int p1), .val (.int p2), .val (.int p3), .val (.int p4), .val (.int 1), .val (.int ch_458), .val (.int ch_460), .val (.int ch_462), .val (.ref sb_465), .val .null, .unset] [(.ref sb_465)])) (fun t k => ?_) ?_
        ·refine XS.icmpYes X465.here hx rfl (pc0 := 109) (pc' := 117) rfl (hb hby at_109) rfl (feq hc661).2 (by decide) (by decide) ?_
         show Steps p.tables e below (T465.setTop (mkF m 117 #[.val (.int p1), .val (.int p2), .val (.int p3), .val (.int p4), .val (.int 1), .val (.int ch_458), .val (.int ch_460), .val (.int ch_462), .val (.ref sb_465), .val .null, .unset] [])) _
         refine XS.aload X465.here hx rfl (hb hby at_117) rfl rfl ?_
         show Steps p.tables e below (T465.setTop (mkF m 119 #[.val (.int p1), .val (.int p2), .val (.int p3), .val (.int p4), .val (.int 1), .val (.int ch_458), .val (.int ch_460), .val (.int ch_462), .val (.ref sb_465), .val .null, .unset] [(.ref sb_465)])) _
         exact k
        have f710 : Sta Z T465.heap "com/example/restate/restate/MarkerStyle" "STYLES" "[Lcom/example/restate/restate/MarkerStyle;" (.ref w_STYLES) := (own_staKeep (own_staKeep (own_staKeep (own_staKeep S_STYLES q458_0 (fun x hx_ => nomatch hx_)) q460_0 (fun x hx_ => nomatch hx_)) q462_0 (fun x hx_ => nomatch hx_)) q465_0 (fun x hx_ => nomatch hx_))
        have f711 : Sta Z T465.heap "com/example/restate/restate/MarkerStyle" "NUMBER" "Lcom/example/restate/restate/MarkerStyle;" (.ref w_NUMBER) := (own_staKeep (own_staKeep (own_staKeep (own_staKeep S_NUMBER q458_0 (fun x hx_ => nomatch hx_)) q460_0 (fun x hx_ => nomatch hx_)) q462_0 (fun x hx_ => nomatch hx_)) q465_0 (fun x hx_ => nomatch hx_))
        have f712 : Exa Z T465.heap w_NUMBER "com/example/restate/restate/MarkerStyle" := ((((E_NUMBER.keep q458_0).keep q460_0).keep q462_0).keep q465_0)
        have f713 : Fld Z T465.heap w_NUMBER "com/example/restate/restate/MarkerStyle" "first" "Ljava/lang/String;" (.ref w_NUMBER_first) := ((((F_NUMBER_first.keep q458_0 nin0).keep q460_0 nin0).keep q462_0 nin0).keep q465_0 nin0)
        have f714 : Exa Z T465.heap w_NUMBER_first "java/lang/String" := ((((E_NUMBER_first.keep q458_0).keep q460_0).keep q462_0).keep q465_0)
        have f715 : Fld Z T465.heap w_NUMBER_first "java/lang/String" "value" "[B" (.ref w_NUMBER_first_value) := ((((F_NUMBER_first_value.keep q458_0 nin0).keep q460_0 nin0).keep q462_0 nin0).keep q465_0 nin0)
        have f716 : Sta Z T465.heap "com/example/restate/restate/MarkerStyle" "LOWER_LETTER" "Lcom/example/restate/restate/MarkerStyle;" (.ref w_LOWER_LETTER) := (own_staKeep (own_staKeep (own_staKeep (own_staKeep S_LOWER_LETTER q458_0 (fun x hx_ => nomatch hx_)) q460_0 (fun x hx_ => nomatch hx_)) q462_0 (fun x hx_ => nomatch hx_)) q465_0 (fun x hx_ => nomatch hx_))
        have f717 : Exa Z T465.heap w_LOWER_LETTER "com/example/restate/restate/MarkerStyle" := ((((E_LOWER_LETTER.keep q458_0).keep q460_0).keep q462_0).keep q465_0)
        have f718 : Fld Z T465.heap w_LOWER_LETTER "com/example/restate/restate/MarkerStyle" "first" "Ljava/lang/String;" (.ref w_LOWER_LETTER_first) := ((((F_LOWER_LETTER_first.keep q458_0 nin0).keep q460_0 nin0).keep q462_0 nin0).keep q465_0 nin0)
        have f719 : Exa Z T465.heap w_LOWER_LETTER_first "java/lang/String" := ((((E_LOWER_LETTER_first.keep q458_0).keep q460_0).keep q462_0).keep q465_0)
        have f720 : Fld Z T465.heap w_LOWER_LETTER_first "java/lang/String" "value" "[B" (.ref w_LOWER_LETTER_first_value) := ((((F_LOWER_LETTER_first_value.keep q458_0 nin0).keep q460_0 nin0).keep q462_0 nin0).keep q465_0 nin0)
        have f721 : Sta Z T465.heap "com/example/restate/restate/MarkerStyle" "UPPER_LETTER" "Lcom/example/restate/restate/MarkerStyle;" (.ref w_UPPER_LETTER) := (own_staKeep (own_staKeep (own_staKeep (own_staKeep S_UPPER_LETTER q458_0 (fun x hx_ => nomatch hx_)) q460_0 (fun x hx_ => nomatch hx_)) q462_0 (fun x hx_ => nomatch hx_)) q465_0 (fun x hx_ => nomatch hx_))
        have f722 : Exa Z T465.heap w_UPPER_LETTER "com/example/restate/restate/MarkerStyle" := ((((E_UPPER_LETTER.keep q458_0).keep q460_0).keep q462_0).keep q465_0)
        have f723 : Fld Z T465.heap w_UPPER_LETTER "com/example/restate/restate/MarkerStyle" "first" "Ljava/lang/String;" (.ref w_UPPER_LETTER_first) := ((((F_UPPER_LETTER_first.keep q458_0 nin0).keep q460_0 nin0).keep q462_0 nin0).keep q465_0 nin0)
        have f724 : Exa Z T465.heap w_UPPER_LETTER_first "java/lang/String" := ((((E_UPPER_LETTER_first.keep q458_0).keep q460_0).keep q462_0).keep q465_0)
        have f725 : Fld Z T465.heap w_UPPER_LETTER_first "java/lang/String" "value" "[B" (.ref w_UPPER_LETTER_first_value) := ((((F_UPPER_LETTER_first_value.keep q458_0 nin0).keep q460_0 nin0).keep q462_0 nin0).keep q465_0 nin0)
        have f726 : Sta Z T465.heap "com/example/restate/restate/MarkerStyle" "LOWER_ROMAN" "Lcom/example/restate/restate/MarkerStyle;" (.ref w_LOWER_ROMAN) := (own_staKeep (own_staKeep (own_staKeep (own_staKeep S_LOWER_ROMAN q458_0 (fun x hx_ => nomatch hx_)) q460_0 (fun x hx_ => nomatch hx_)) q462_0 (fun x hx_ => nomatch hx_)) q465_0 (fun x hx_ => nomatch hx_))
        have f727 : Exa Z T465.heap w_LOWER_ROMAN "com/example/restate/restate/MarkerStyle" := ((((E_LOWER_ROMAN.keep q458_0).keep q460_0).keep q462_0).keep q465_0)
        have f728 : Fld Z T465.heap w_LOWER_ROMAN "com/example/restate/restate/MarkerStyle" "first" "Ljava/lang/String;" (.ref w_LOWER_ROMAN_first) := ((((F_LOWER_ROMAN_first.keep q458_0 nin0).keep q460_0 nin0).keep q462_0 nin0).keep q465_0 nin0)
        have f729 : Exa Z T465.heap w_LOWER_ROMAN_first "java/lang/String" := ((((E_LOWER_ROMAN_first.keep q458_0).keep q460_0).keep q462_0).keep q465_0)
        have f730 : Fld Z T465.heap w_LOWER_ROMAN_first "java/lang/String" "value" "[B" (.ref w_LOWER_ROMAN_first_value) := ((((F_LOWER_ROMAN_first_value.keep q458_0 nin0).keep q460_0 nin0).keep q462_0 nin0).keep q465_0 nin0)
        have f731 : Sta Z T465.heap "com/example/restate/restate/MarkerStyle" "UPPER_ROMAN" "Lcom/example/restate/restate/MarkerStyle;" (.ref w_UPPER_ROMAN) := (own_staKeep (own_staKeep (own_staKeep (own_staKeep S_UPPER_ROMAN q458_0 (fun x hx_ => nomatch hx_)) q460_0 (fun x hx_ => nomatch hx_)) q462_0 (fun x hx_ => nomatch hx_)) q465_0 (fun x hx_ => nomatch hx_))
        have f732 : Exa Z T465.heap w_UPPER_ROMAN "com/example/restate/restate/MarkerStyle" := ((((E_UPPER_ROMAN.keep q458_0).keep q460_0).keep q462_0).keep q465_0)
        have f733 : Fld Z T465.heap w_UPPER_ROMAN "com/example/restate/restate/MarkerStyle" "first" "Ljava/lang/String;" (.ref w_UPPER_ROMAN_first) := ((((F_UPPER_ROMAN_first.keep q458_0 nin0).keep q460_0 nin0).keep q462_0 nin0).keep q465_0 nin0)
        have f734 : Exa Z T465.heap w_UPPER_ROMAN_first "java/lang/String" := ((((E_UPPER_ROMAN_first.keep q458_0).keep q460_0).keep q462_0).keep q465_0)
        have f735 : Fld Z T465.heap w_UPPER_ROMAN_first "java/lang/String" "value" "[B" (.ref w_UPPER_ROMAN_first_value) := ((((F_UPPER_ROMAN_first_value.keep q458_0 nin0).keep q460_0 nin0).keep q462_0 nin0).keep q465_0 nin0)
        have f736 : Sta Z T465.heap "java/lang/String" "COMPACT_STRINGS" "Z" (.int w_COMPACT_STRINGS) := (own_staKeep f466 q465_0 (fun x hx_ => nomatch hx_))
        have f737 : Fld Z T465.heap w_NUMBER_first "java/lang/String" "coder" "B" (.int 0) := ((((F_NUMBER_first_coder.keep q458_0 nin0).keep q460_0 nin0).keep q462_0 nin0).keep q465_0 nin0)
        have f738 : Fld Z T465.heap w_LOWER_LETTER_first "java/lang/String" "coder" "B" (.int 0) := ((((F_LOWER_LETTER_first_coder.keep q458_0 nin0).keep q460_0 nin0).keep q462_0 nin0).keep q465_0 nin0)
        have f739 : Fld Z T465.heap w_UPPER_LETTER_first "java/lang/String" "coder" "B" (.int 0) := ((((F_UPPER_LETTER_first_coder.keep q458_0 nin0).keep q460_0 nin0).keep q462_0 nin0).keep q465_0 nin0)
        have f740 : Fld Z T465.heap w_LOWER_ROMAN_first "java/lang/String" "coder" "B" (.int 0) := ((((F_LOWER_ROMAN_first_coder.keep q458_0 nin0).keep q460_0 nin0).keep q462_0 nin0).keep q465_0 nin0)
        have f741 : Fld Z T465.heap w_UPPER_ROMAN_first "java/lang/String" "coder" "B" (.int 0) := ((((F_UPPER_ROMAN_first_coder.keep q458_0 nin0).keep q460_0 nin0).keep q462_0 nin0).keep q465_0 nin0)
        have f742 : Arv Z T465.heap w_STYLES k_STYLES (.object "com/example/restate/restate/MarkerStyle") (5 : Int32) [(.ref w_NUMBER), (.ref w_LOWER_LETTER), (.ref w_UPPER_LETTER), (.ref w_LOWER_ROMAN), (.ref w_UPPER_ROMAN)] .null := ((((V_STYLES.keep q458_0 nin0).keep q460_0 nin0).keep q462_0 nin0).keep q465_0 nin0)
        have f743 : Arv Z T465.heap w_NUMBER_first_value k_NUMBER_first_value .byte (1 : Int32) [(.int 49)] (.int 0) := ((((V_NUMBER_first_value.keep q458_0 nin0).keep q460_0 nin0).keep q462_0 nin0).keep q465_0 nin0)
        have f744 : Arv Z T465.heap w_LOWER_LETTER_first_value k_LOWER_LETTER_first_value .byte (1 : Int32) [(.int 97)] (.int 0) := ((((V_LOWER_LETTER_first_value.keep q458_0 nin0).keep q460_0 nin0).keep q462_0 nin0).keep q465_0 nin0)
        have f745 : Arv Z T465.heap w_UPPER_LETTER_first_value k_UPPER_LETTER_first_value .byte (1 : Int32) [(.int 65)] (.int 0) := ((((V_UPPER_LETTER_first_value.keep q458_0 nin0).keep q460_0 nin0).keep q462_0 nin0).keep q465_0 nin0)
        have f746 : Arv Z T465.heap w_LOWER_ROMAN_first_value k_LOWER_ROMAN_first_value .byte (1 : Int32) [(.int 105)] (.int 0) := ((((V_LOWER_ROMAN_first_value.keep q458_0 nin0).keep q460_0 nin0).keep q462_0 nin0).keep q465_0 nin0)
        have f747 : Arv Z T465.heap w_UPPER_ROMAN_first_value k_UPPER_ROMAN_first_value .byte (1 : Int32) [(.int 73)] (.int 0) := ((((V_UPPER_ROMAN_first_value.keep q458_0 nin0).keep q460_0 nin0).keep q462_0 nin0).keep q465_0 nin0)
        have ne748 : w_NUMBER_first ≠ sb_465 := (Nat.ne_of_lt (Nat.lt_of_lt_of_le (Nat.lt_of_lt_of_le E_NUMBER_first.lt le467) q465_1))
        have ne749 : w_LOWER_LETTER_first ≠ sb_465 := (Nat.ne_of_lt (Nat.lt_of_lt_of_le (Nat.lt_of_lt_of_le E_LOWER_LETTER_first.lt le467) q465_1))
        have ne750 : w_UPPER_LETTER_first ≠ sb_465 := (Nat.ne_of_lt (Nat.lt_of_lt_of_le (Nat.lt_of_lt_of_le E_UPPER_LETTER_first.lt le467) q465_1))
        have ne751 : w_LOWER_ROMAN_first ≠ sb_465 := (Nat.ne_of_lt (Nat.lt_of_lt_of_le (Nat.lt_of_lt_of_le E_LOWER_ROMAN_first.lt le467) q465_1))
        have ne752 : w_UPPER_ROMAN_first ≠ sb_465 := (Nat.ne_of_lt (Nat.lt_of_lt_of_le (Nat.lt_of_lt_of_le E_UPPER_ROMAN_first.lt le467) q465_1))
        have le753 : h0.size ≤ T465.heap.size := (Nat.le_trans (Nat.le_trans (Nat.le_trans q458_0.1 q460_0.1) q462_0.1) q465_0.1)
        obtain ⟨_, _, ⟨T709, L709, k709, n709⟩, -, X709, ⟨Lc709, hQ709, l709, y709, z709⟩, st709⟩ := Jvm.LawKit.callS X465 hx (y := (⟨"com/example/restate/restate/MarkerStyle", "openedBy", "(Ljava/lang/String;)Lcom/example/restate/restate/MarkerStyle;"⟩ : MethodName)) hown (mvT hZ (hw _ (List.mem_of_getElem? (i := 29) rfl))) (mvT hZ (hw _ (List.mem_of_getElem? (i := 30) rfl))) (mvT hZ (hw _ (List.mem_of_getElem? (i := 31) rfl))) (mvT hZ (hw _ (List.mem_of_getElem? (i := 32) rfl))) (by decide) (backOf (W := 0) (rm6_1c5 l Z a0 hw [] sb_465 w_STYLES w_NUMBER w_NUMBER_first w_NUMBER_first_value w_LOWER_LETTER w_LOWER_LETTER_first w_LOWER_LETTER_first_value w_UPPER_LETTER w_UPPER_LETTER_first w_UPPER_LETTER_first_value w_LOWER_ROMAN w_LOWER_ROMAN_first w_LOWER_ROMAN_first_value w_UPPER_ROMAN w_UPPER_ROMAN_first w_UPPER_ROMAN_first_value w_COMPACT_STRINGS k_STYLES k_NUMBER_first_value k_LOWER_LETTER_first_value k_UPPER_LETTER_first_value k_LOWER_ROMAN_first_value k_UPPER_ROMAN_first_value bn_465 kn_465 (ch_458.toInt8.toInt32) T465.heap n0 (Nat.le_trans Z0 le753) f710 f711 f712 f713 f714 f715 f716 f717 f718 f719 f720 f721 f722 f723 f724 f725 f726 f727 f728 f729 f730 f731 f732 f733 f734 f735 f736 f737 f738 f739 f740 f741 (N_COMPACT_STRINGS) f742 f743 f744 f745 f746 f747 q465_2 q465_3 q465_4 q465_5 ne748 ne749 ne750 ne751 ne752 (own_ne8 ch_458 (49 : Int32) q458_1 (by decide) hc469) (own_ne8 ch_458 (97 : Int32) q458_1 (by decide) hc517) (own_ne8 ch_458 (65 : Int32) q458_1 (by decide) hc565) (own_ne8 ch_458 (105 : Int32) q458_1 (by decide) hc613) (own_ne8 ch_458 (73 : Int32) q458_1 (by decide) hc661)) hZ (hw _ (List.mem_of_getElem? (i := 32) rfl)) (hw _ (List.mem_of_getElem? (i := 31) rfl)) (by decide) (by decide)) (g := (mkF m 119 #[.val (.int p1), .val (.int p2), .val (.int p3), .val (.int p4), .val (.int 1), .val (.int ch_458), .val (.int ch_460), .val (.int ch_462), .val (.ref sb_465), .val .null, .unset] [(.ref sb_465)])) rfl (by rw [hml]; rfl) (argsL := [(.ref sb_465)]) (rest := []) (lenOf pd_9 rfl) rfl (by show 2 * 0 + _ ≤ _; exact Nat.le_of_eq rfl) (hb hby at_119) (fun _ _ => ⟨rfl, rfl, (by decide : 6 + 0 ≤ _), (by decide : 30 + 0 ≤ _)⟩)
        dsimp only [Pt.U, Pt.locs, Pt.cells, Pt.slots] at X709 l709 y709 z709 st709 hQ709
        subst l709 y709 z709
        obtain ⟨rfl, M709, q709_0⟩ := hQ709
        have N709 := Fr.app N465 M709
        refine own_go st709 ?_
        refine own_go (B := T709.setTop (mkF m 136 #[.val (.int p1), .val (.int p2), .val (.int p3), .val (.int p4), .val (.int 1), .val (.int ch_458), .val (.int ch_460), .val (.int ch_462), .val (.ref sb_465), .val .null, .val .null] [(.int 1)])) (fun t k => ?_) ?_
        ·refine XS.astore X709.here hx rfl (hb hby at_122) rfl rfl (l' := #[.val (.int p1), .val (.int p2), .val (.int p3), .val (.int p4), .val (.int 1), .val (.int ch_458), .val (.int ch_460), .val (.int ch_462), .val (.ref sb_465), .val .null, .val .null]) rfl ?_
         show Steps p.tables e below (T709.setTop (mkF m 124 #[.val (.int p1), .val (.int p2), .val (.int p3), .val (.int p4), .val (.int 1), .val (.int ch_458), .val (.int ch_460), .val (.int ch_462), .val (.ref sb_465), .val .null, .val .null] [])) _
         refine XS.aload X709.here hx rfl (hb hby at_124) rfl rfl ?_
         show Steps p.tables e below (T709.setTop (mkF m 126 #[.val (.int p1), .val (.int p2), .val (.int p3), .val (.int p4), .val (.int 1), .val (.int ch_458), .val (.int ch_460), .val (.int ch_462), .val (.ref sb_465), .val .null, .val .null] [.null])) _
         refine XS.aload X709.here hx rfl (hb hby at_126) rfl rfl ?_
         show Steps p.tables e below (T709.setTop (mkF m 128 #[.val (.int p1), .val (.int p2), .val (.int p3), .val (.int p4), .val (.int 1), .val (.int ch_458), .val (.int ch_460), .val (.int ch_462), .val (.ref sb_465), .val .null, .val .null] [.null, .null])) _
         refine Jvm.RoadKit.acmp (g := (mkF m 128 #[.val (.int p1), .val (.int p2), .val (.int p3), .val (.int p4), .val (.int 1), .val (.int ch_458), .val (.int ch_460), .val (.int ch_462), .val (.ref sb_465), .val .null, .val .null] [.null, .null])) X709 hx rfl rfl rfl (pc0 := 128) (pc' := 131) (same := true) rfl (hb hby at_128) rfl (decide_eq_true rfl) (by decide) (by decide) ?_
         show Steps p.tables e below (T709.setTop (mkF m 131 #[.val (.int p1), .val (.int p2), .val (.int p3), .val (.int p4), .val (.int 1), .val (.int ch_458), .val (.int ch_460), .val (.int ch_462), .val (.ref sb_465), .val .null, .val .null] [])) _
         refine XS.iconst X709.here hx rfl (hb hby at_131) ?_
         show Steps p.tables e below (T709.setTop (mkF m 132 #[.val (.int p1), .val (.int p2), .val (.int p3), .val (.int p4), .val (.int 1), .val (.int ch_458), .val (.int ch_460), .val (.int ch_462), .val (.ref sb_465), .val .null, .val .null] [(.int 1)])) _
         refine XS.goto X709.here hx rfl (pc0 := 132) (pc' := 136) rfl (hb hby at_132) (by decide) (by decide) ?_
         show Steps p.tables e below (T709.setTop (mkF m 136 #[.val (.int p1), .val (.int p2), .val (.int p3), .val (.int p4), .val (.int 1), .val (.int ch_458), .val (.int ch_460), .val (.int ch_462), .val (.ref sb_465), .val .null, .val .null] [(.int 1)])) _
         exact k
        obtain ⟨fs, hr, hrun, hended, hW⟩ := X709.leaveW hS0 (show _ ≤ T709.heap.size by rw [q709_0]; exact (Nat.le_trans (Nat.le_refl _) le753)) (v := some (.int 1)) (fun h => by rw [Bd.returns] at h; cases h)
        refine ⟨_, _, ?_, hrun, hended, _, _, rfl, ?_, ⟨hW.1, hW.2.1, hW.2.2.1, hW.2.2.2.mono (by decide) (by decide)⟩⟩
        ·exact retN X709 hx (t := .boolean) Bd.returns (by simp) (hb hby at_136) hr
        ·show Q0 Z p1 p2 p3 p4 w_STYLES w_NUMBER w_NUMBER_first w_NUMBER_first_value w_LOWER_LETTER w_LOWER_LETTER_first w_LOWER_LETTER_first_value w_UPPER_LETTER w_UPPER_LETTER_first w_UPPER_LETTER_first_value w_LOWER_ROMAN w_LOWER_ROMAN_first w_LOWER_ROMAN_first_value w_UPPER_ROMAN w_UPPER_ROMAN_first w_UPPER_ROMAN_first_value w_COMPACT_STRINGS k_STYLES k_NUMBER_first_value k_LOWER_LETTER_first_value k_UPPER_LETTER_first_value k_LOWER_ROMAN_first_value k_UPPER_ROMAN_first_value h0 n0 _ T709.heap _
         rw [q709_0]
         exact ⟨rfl, N709⟩
  ·by_cases hn2 : (p1 &&& (3 : Int32)) = (2 : Int32)
   ·rw [show (p1 &&& (3 : Int32)) = (2 : Int32) from hn2]
    refine own_go (B := s₁.setTop (mkF m 6 #[.val (.int p1), .val (.int p2), .val (.int p3), .val (.int p4), .val (.int 2), .unset, .unset, .unset, .unset, .unset, .unset] [(.int p2)])) (fun t k => ?_) ?_
    ·refine XS.iloadN X0.here hx rfl (hb hby at_5) rfl ?_
     show Steps p.tables e below (s₁.setTop (mkF m 6 #[.val (.int p1), .val (.int p2), .val (.int p3), .val (.int p4), .val (.int 2), .unset, .unset, .unset, .unset, .unset, .unset] [(.int p2)])) _
     exact k
    obtain ⟨_, _, ⟨T755, L755, k755, n755⟩, -, X755, ⟨Lc755, hQ755, l755, y755, z755⟩, st755⟩ := Jvm.LawKit.callS X0 hx (y := (⟨"com/example/restate/restate/MarkerStyleOpenedByPinLaw", "draw", "(I)C"⟩ : MethodName)) hown (mvT hZ (hw _ (List.mem_of_getElem? (i := 0) rfl))) (mvT hZ (hw _ (List.mem_of_getElem? (i := 1) rfl))) (mvT hZ (hw _ (List.mem_of_getElem? (i := 2) rfl))) (mvT hZ (hw _ (List.mem_of_getElem? (i := 3) rfl))) (by decide) (backOf (W := 0) (rm1 l Z a0 hw [] p2 h0 n0 Z0 ) hZ (hw _ (List.mem_of_getElem? (i := 3) rfl)) (hw _ (List.mem_of_getElem? (i := 2) rfl)) (by decide) (by decide)) (g := (mkF m 6 #[.val (.int p1), .val (.int p2), .val (.int p3), .val (.int p4), .val (.int 2), .unset, .unset, .unset, .unset, .unset, .unset] [(.int p2)])) rfl (by rw [hml]; rfl) (argsL := [(.int p2)]) (rest := []) (lenOf pd_7 rfl) rfl (by show 2 * 0 + _ ≤ _; exact Nat.le_of_eq rfl) (hb hby at_6) (fun _ _ => ⟨rfl, e0, (by decide : 0 + 1 ≤ _), (by decide : 0 + 8 ≤ _)⟩)
    dsimp only [Pt.U, Pt.locs, Pt.cells, Pt.slots] at X755 l755 y755 z755 st755 hQ755
    subst l755 y755 z755
    obtain ⟨ch_755, rfl, M755, q755_0, q755_1⟩ := hQ755
    have N755 := Fr.app N0 M755
    have K755 : Keep h0 T755.heap [] := Keep.trans (Keep.refl h0 []) q755_0 all0
    have cs756 : CHr Z consts_1 s.vm h0 s.vm T755.heap := (CHr.keep q755_0 all0 (CHr.refl hCH).1)
    refine own_go st755 ?_
    refine own_go (B := T755.setTop (mkF m 12 #[.val (.int p1), .val (.int p2), .val (.int p3), .val (.int p4), .val (.int 2), .val (.int ch_755), .unset, .unset, .unset, .unset, .unset] [(.int p3)])) (fun t k => ?_) ?_
    ·refine XS.istore X755.here hx rfl (hb hby at_9) rfl (l' := #[.val (.int p1), .val (.int p2), .val (.int p3), .val (.int p4), .val (.int 2), .val (.int ch_755), .unset, .unset, .unset, .unset, .unset]) rfl ?_
     show Steps p.tables e below (T755.setTop (mkF m 11 #[.val (.int p1), .val (.int p2), .val (.int p3), .val (.int p4), .val (.int 2), .val (.int ch_755), .unset, .unset, .unset, .unset, .unset] [])) _
     refine XS.iloadN X755.here hx rfl (hb hby at_11) rfl ?_
     show Steps p.tables e below (T755.setTop (mkF m 12 #[.val (.int p1), .val (.int p2), .val (.int p3), .val (.int p4), .val (.int 2), .val (.int ch_755), .unset, .unset, .unset, .unset, .unset] [(.int p3)])) _
     exact k
    obtain ⟨_, _, ⟨T757, L757, k757, n757⟩, -, X757, ⟨Lc757, hQ757, l757, y757, z757⟩, st757⟩ := Jvm.LawKit.callS X755 hx (y := (⟨"com/example/restate/restate/MarkerStyleOpenedByPinLaw", "draw", "(I)C"⟩ : MethodName)) hown (mvT hZ (hw _ (List.mem_of_getElem? (i := 0) rfl))) (mvT hZ (hw _ (List.mem_of_getElem? (i := 1) rfl))) (mvT hZ (hw _ (List.mem_of_getElem? (i := 2) rfl))) (mvT hZ (hw _ (List.mem_of_getElem? (i := 3) rfl))) (by decide) (backOf (W := 0) (rm1 l Z a0 hw [] p3 T755.heap n0 (Nat.le_trans Z0 q755_0.1) ) hZ (hw _ (List.mem_of_getElem? (i := 3) rfl)) (hw _ (List.mem_of_getElem? (i := 2) rfl)) (by decide) (by decide)) (g := (mkF m 12 #[.val (.int p1), .val (.int p2), .val (.int p3), .val (.int p4), .val (.int 2), .val (.int ch_755), .unset, .unset, .unset, .unset, .unset] [(.int p3)])) rfl (by rw [hml]; rfl) (argsL := [(.int p3)]) (rest := []) (lenOf pd_7 rfl) rfl (by show 2 * 0 + _ ≤ _; exact Nat.le_of_eq rfl) (hb hby at_12) (fun _ _ => ⟨rfl, rfl, (by decide : 1 + 1 ≤ _), (by decide : 8 + 8 ≤ _)⟩)
    dsimp only [Pt.U, Pt.locs, Pt.cells, Pt.slots] at X757 l757 y757 z757 st757 hQ757
    subst l757 y757 z757
    obtain ⟨ch_757, rfl, M757, q757_0, q757_1⟩ := hQ757
    have N757 := Fr.app N755 M757
    have K757 : Keep h0 T757.heap [] := Keep.trans K755 q757_0 all0
    have cs758 : CHr Z consts_1 s.vm T755.heap s.vm T757.heap := (CHr.keep q757_0 all0 ((CHr.refl hCH).trans cs756).1)
    refine own_go st757 ?_
    refine own_go (B := T757.setTop (mkF m 18 #[.val (.int p1), .val (.int p2), .val (.int p3), .val (.int p4), .val (.int 2), .val (.int ch_755), .val (.int ch_757), .unset, .unset, .unset, .unset] [(.int p4)])) (fun t k => ?_) ?_
    ·refine XS.istore X757.here hx rfl (hb hby at_15) rfl (l' := #[.val (.int p1), .val (.int p2), .val (.int p3), .val (.int p4), .val (.int 2), .val (.int ch_755), .val (.int ch_757), .unset, .unset, .unset, .unset]) rfl ?_
     show Steps p.tables e below (T757.setTop (mkF m 17 #[.val (.int p1), .val (.int p2), .val (.int p3), .val (.int p4), .val (.int 2), .val (.int ch_755), .val (.int ch_757), .unset, .unset, .unset, .unset] [])) _
     refine XS.iloadN X757.here hx rfl (hb hby at_17) rfl ?_
     show Steps p.tables e below (T757.setTop (mkF m 18 #[.val (.int p1), .val (.int p2), .val (.int p3), .val (.int p4), .val (.int 2), .val (.int ch_755), .val (.int ch_757), .unset, .unset, .unset, .unset] [(.int p4)])) _
     exact k
    have le760 : h0.size ≤ T757.heap.size := (Nat.le_trans q755_0.1 q757_0.1)
    obtain ⟨_, _, ⟨T759, L759, k759, n759⟩, -, X759, ⟨Lc759, hQ759, l759, y759, z759⟩, st759⟩ := Jvm.LawKit.callS X757 hx (y := (⟨"com/example/restate/restate/MarkerStyleOpenedByPinLaw", "draw", "(I)C"⟩ : MethodName)) hown (mvT hZ (hw _ (List.mem_of_getElem? (i := 0) rfl))) (mvT hZ (hw _ (List.mem_of_getElem? (i := 1) rfl))) (mvT hZ (hw _ (List.mem_of_getElem? (i := 2) rfl))) (mvT hZ (hw _ (List.mem_of_getElem? (i := 3) rfl))) (by decide) (backOf (W := 0) (rm1 l Z a0 hw [] p4 T757.heap n0 (Nat.le_trans Z0 le760) ) hZ (hw _ (List.mem_of_getElem? (i := 3) rfl)) (hw _ (List.mem_of_getElem? (i := 2) rfl)) (by decide) (by decide)) (g := (mkF m 18 #[.val (.int p1), .val (.int p2), .val (.int p3), .val (.int p4), .val (.int 2), .val (.int ch_755), .val (.int ch_757), .unset, .unset, .unset, .unset] [(.int p4)])) rfl (by rw [hml]; rfl) (argsL := [(.int p4)]) (rest := []) (lenOf pd_7 rfl) rfl (by show 2 * 0 + _ ≤ _; exact Nat.le_of_eq rfl) (hb hby at_18) (fun _ _ => ⟨rfl, rfl, (by decide : 2 + 1 ≤ _), (by decide : 16 + 8 ≤ _)⟩)
    dsimp only [Pt.U, Pt.locs, Pt.cells, Pt.slots] at X759 l759 y759 z759 st759 hQ759
    subst l759 y759 z759
    obtain ⟨ch_759, rfl, M759, q759_0, q759_1⟩ := hQ759
    have N759 := Fr.app N757 M759
    have K759 : Keep h0 T759.heap [] := Keep.trans K757 q759_0 all0
    have cs761 : CHr Z consts_1 s.vm T757.heap s.vm T759.heap := (CHr.keep q759_0 all0 ((CHr.refl hCH).trans (cs756.trans cs758)).1)
    refine own_go st759 ?_
    refine own_go (B := T759.setTop (mkF m 31 #[.val (.int p1), .val (.int p2), .val (.int p3), .val (.int p4), .val (.int 2), .val (.int ch_755), .val (.int ch_757), .val (.int ch_759), .unset, .unset, .unset] [(.int ch_759), (.int ch_757), (.int ch_755), (.int 2)])) (fun t k => ?_) ?_
    ·refine XS.istore X759.here hx rfl (hb hby at_21) rfl (l' := #[.val (.int p1), .val (.int p2), .val (.int p3), .val (.int p4), .val (.int 2), .val (.int ch_755), .val (.int ch_757), .val (.int ch_759), .unset, .unset, .unset]) rfl ?_
     show Steps p.tables e below (T759.setTop (mkF m 23 #[.val (.int p1), .val (.int p2), .val (.int p3), .val (.int p4), .val (.int 2), .val (.int ch_755), .val (.int ch_757), .val (.int ch_759), .unset, .unset, .unset] [])) _
     refine XS.iload X759.here hx rfl (hb hby at_23) rfl ?_
     show Steps p.tables e below (T759.setTop (mkF m 25 #[.val (.int p1), .val (.int p2), .val (.int p3), .val (.int p4), .val (.int 2), .val (.int ch_755), .val (.int ch_757), .val (.int ch_759), .unset, .unset, .unset] [(.int 2)])) _
     refine XS.iload X759.here hx rfl (hb hby at_25) rfl ?_
     show Steps p.tables e below (T759.setTop (mkF m 27 #[.val (.int p1), .val (.int p2), .val (.int p3), .val (.int p4), .val (.int 2), .val (.int ch_755), .val (.int ch_757), .val (.int ch_759), .unset, .unset, .unset] [(.int ch_755), (.int 2)])) _
     refine XS.iload X759.here hx rfl (hb hby at_27) rfl ?_
     show Steps p.tables e below (T759.setTop (mkF m 29 #[.val (.int p1), .val (.int p2), .val (.int p3), .val (.int p4), .val (.int 2), .val (.int ch_755), .val (.int ch_757), .val (.int ch_759), .unset, .unset, .unset] [(.int ch_757), (.int ch_755), (.int 2)])) _
     refine XS.iload X759.here hx rfl (hb hby at_29) rfl ?_
     show Steps p.tables e below (T759.setTop (mkF m 31 #[.val (.int p1), .val (.int p2), .val (.int p3), .val (.int p4), .val (.int 2), .val (.int ch_755), .val (.int ch_757), .val (.int ch_759), .unset, .unset, .unset] [(.int ch_759), (.int ch_757), (.int ch_755), (.int 2)])) _
     exact k
    have f763 : Sta Z T759.heap "java/lang/String" "COMPACT_STRINGS" "Z" (.int w_COMPACT_STRINGS) := (own_staKeep (own_staKeep (own_staKeep S_COMPACT_STRINGS q755_0 (fun x hx_ => nomatch hx_)) q757_0 (fun x hx_ => nomatch hx_)) q759_0 (fun x hx_ => nomatch hx_))
    have le764 : h0.size ≤ T759.heap.size := (Nat.le_trans (Nat.le_trans q755_0.1 q757_0.1) q759_0.1)
    obtain ⟨_, _, ⟨T762, L762, k762, n762⟩, -, X762, ⟨Lc762, hQ762, l762, y762, z762⟩, st762⟩ := Jvm.LawKit.callS X759 hx (y := (⟨"com/example/restate/restate/MarkerStyleOpenedByPinLaw", "text", "(ICCC)Ljava/lang/String;"⟩ : MethodName)) hown (mvT hZ (hw _ (List.mem_of_getElem? (i := 5) rfl))) (mvT hZ (hw _ (List.mem_of_getElem? (i := 6) rfl))) (mvT hZ (hw _ (List.mem_of_getElem? (i := 2) rfl))) (mvT hZ (hw _ (List.mem_of_getElem? (i := 7) rfl))) (by decide) (backOf (W := 0) (rm2_2 l Z a0 hw [] ch_755 ch_757 ch_759 w_COMPACT_STRINGS T759.heap n0 (Nat.le_trans Z0 le764) f763 (N_COMPACT_STRINGS) (q755_1) (q757_1) (q759_1)) hZ (hw _ (List.mem_of_getElem? (i := 7) rfl)) (hw _ (List.mem_of_getElem? (i := 2) rfl)) (by decide) (by decide)) (g := (mkF m 31 #[.val (.int p1), .val (.int p2), .val (.int p3), .val (.int p4), .val (.int 2), .val (.int ch_755), .val (.int ch_757), .val (.int ch_759), .unset, .unset, .unset] [(.int ch_759), (.int ch_757), (.int ch_755), (.int 2)])) rfl (by rw [hml]; rfl) (argsL := [(.int 2), (.int ch_755), (.int ch_757), (.int ch_759)]) (rest := []) (lenOf pd_8 rfl) rfl (by show 2 * 0 + _ ≤ _; exact Nat.le_of_eq rfl) (hb hby at_31) (fun _ _ => ⟨rfl, rfl, (by decide : 3 + 3 ≤ _), (by decide : 24 + 8 ≤ _)⟩)
    dsimp only [Pt.U, Pt.locs, Pt.cells, Pt.slots] at X762 l762 y762 z762 st762 hQ762
    subst l762 y762 z762
    obtain ⟨sb_762, bn_762, kn_762, rfl, M762, q762_0, q762_1, q762_2, q762_3, q762_4, q762_5⟩ := hQ762
    have N762 := Fr.app N759 M762
    have K762 : Keep h0 T762.heap [] := Keep.trans K759 q762_0 all0
    have cs765 : CHr Z consts_1 s.vm T759.heap s.vm T762.heap := (CHr.keep q762_0 all0 ((CHr.refl hCH).trans ((cs756.trans cs758).trans cs761)).1)
    refine own_go st762 ?_
    refine own_go (B := T762.setTop (mkF m 119 #[.val (.int p1), .val (.int p2), .val (.int p3), .val (.int p4), .val (.int 2), .val (.int ch_755), .val (.int ch_757), .val (.int ch_759), .val (.ref sb_762), .val .null, .unset] [(.ref sb_762)])) (fun t k => ?_) ?_
    ·refine XS.astore X762.here hx rfl (hb hby at_34) rfl rfl (l' := #[.val (.int p1), .val (.int p2), .val (.int p3), .val (.int p4), .val (.int 2), .val (.int ch_755), .val (.int ch_757), .val (.int ch_759), .val (.ref sb_762), .unset, .unset]) rfl ?_
     show Steps p.tables e below (T762.setTop (mkF m 36 #[.val (.int p1), .val (.int p2), .val (.int p3), .val (.int p4), .val (.int 2), .val (.int ch_755), .val (.int ch_757), .val (.int ch_759), .val (.ref sb_762), .unset, .unset] [])) _
     refine XS.aconstNull X762.here hx rfl (hb hby at_36) ?_
     show Steps p.tables e below (T762.setTop (mkF m 37 #[.val (.int p1), .val (.int p2), .val (.int p3), .val (.int p4), .val (.int 2), .val (.int ch_755), .val (.int ch_757), .val (.int ch_759), .val (.ref sb_762), .unset, .unset] [.null])) _
     refine XS.astore X762.here hx rfl (hb hby at_37) rfl rfl (l' := #[.val (.int p1), .val (.int p2), .val (.int p3), .val (.int p4), .val (.int 2), .val (.int ch_755), .val (.int ch_757), .val (.int ch_759), .val (.ref sb_762), .val .null, .unset]) rfl ?_
     show Steps p.tables e below (T762.setTop (mkF m 39 #[.val (.int p1), .val (.int p2), .val (.int p3), .val (.int p4), .val (.int 2), .val (.int ch_755), .val (.int ch_757), .val (.int ch_759), .val (.ref sb_762), .val .null, .unset] [])) _
     refine XS.iload X762.here hx rfl (hb hby at_39) rfl ?_
     show Steps p.tables e below (T762.setTop (mkF m 41 #[.val (.int p1), .val (.int p2), .val (.int p3), .val (.int p4), .val (.int 2), .val (.int ch_755), .val (.int ch_757), .val (.int ch_759), .val (.ref sb_762), .val .null, .unset] [(.int 2)])) _
     refine XS.iconst X762.here hx rfl (hb hby at_41) ?_
     show Steps p.tables e below (T762.setTop (mkF m 42 #[.val (.int p1), .val (.int p2), .val (.int p3), .val (.int p4), .val (.int 2), .val (.int ch_755), .val (.int ch_757), .val (.int ch_759), .val (.ref sb_762), .val .null, .unset] [(.int 1), (.int 2)])) _
     refine XS.icmpYes X762.here hx rfl (pc0 := 42) (pc' := 117) rfl (hb hby at_42) rfl (feq (by decide : ¬ ((2 : Int32) = (1 : Int32)))).2 (by decide) (by decide) ?_
     show Steps p.tables e below (T762.setTop (mkF m 117 #[.val (.int p1), .val (.int p2), .val (.int p3), .val (.int p4), .val (.int 2), .val (.int ch_755), .val (.int ch_757), .val (.int ch_759), .val (.ref sb_762), .val .null, .unset] [])) _
     refine XS.aload X762.here hx rfl (hb hby at_117) rfl rfl ?_
     show Steps p.tables e below (T762.setTop (mkF m 119 #[.val (.int p1), .val (.int p2), .val (.int p3), .val (.int p4), .val (.int 2), .val (.int ch_755), .val (.int ch_757), .val (.int ch_759), .val (.ref sb_762), .val .null, .unset] [(.ref sb_762)])) _
     exact k
    have f767 : Sta Z T762.heap "com/example/restate/restate/MarkerStyle" "STYLES" "[Lcom/example/restate/restate/MarkerStyle;" (.ref w_STYLES) := (own_staKeep (own_staKeep (own_staKeep (own_staKeep S_STYLES q755_0 (fun x hx_ => nomatch hx_)) q757_0 (fun x hx_ => nomatch hx_)) q759_0 (fun x hx_ => nomatch hx_)) q762_0 (fun x hx_ => nomatch hx_))
    have f768 : Sta Z T762.heap "com/example/restate/restate/MarkerStyle" "NUMBER" "Lcom/example/restate/restate/MarkerStyle;" (.ref w_NUMBER) := (own_staKeep (own_staKeep (own_staKeep (own_staKeep S_NUMBER q755_0 (fun x hx_ => nomatch hx_)) q757_0 (fun x hx_ => nomatch hx_)) q759_0 (fun x hx_ => nomatch hx_)) q762_0 (fun x hx_ => nomatch hx_))
    have f769 : Exa Z T762.heap w_NUMBER "com/example/restate/restate/MarkerStyle" := ((((E_NUMBER.keep q755_0).keep q757_0).keep q759_0).keep q762_0)
    have f770 : Fld Z T762.heap w_NUMBER "com/example/restate/restate/MarkerStyle" "first" "Ljava/lang/String;" (.ref w_NUMBER_first) := ((((F_NUMBER_first.keep q755_0 nin0).keep q757_0 nin0).keep q759_0 nin0).keep q762_0 nin0)
    have f771 : Exa Z T762.heap w_NUMBER_first "java/lang/String" := ((((E_NUMBER_first.keep q755_0).keep q757_0).keep q759_0).keep q762_0)
    have f772 : Fld Z T762.heap w_NUMBER_first "java/lang/String" "value" "[B" (.ref w_NUMBER_first_value) := ((((F_NUMBER_first_value.keep q755_0 nin0).keep q757_0 nin0).keep q759_0 nin0).keep q762_0 nin0)
    have f773 : Sta Z T762.heap "com/example/restate/restate/MarkerStyle" "LOWER_LETTER" "Lcom/example/restate/restate/MarkerStyle;" (.ref w_LOWER_LETTER) := (own_staKeep (own_staKeep (own_staKeep (own_staKeep S_LOWER_LETTER q755_0 (fun x hx_ => nomatch hx_)) q757_0 (fun x hx_ => nomatch hx_)) q759_0 (fun x hx_ => nomatch hx_)) q762_0 (fun x hx_ => nomatch hx_))
    have f774 : Exa Z T762.heap w_LOWER_LETTER "com/example/restate/restate/MarkerStyle" := ((((E_LOWER_LETTER.keep q755_0).keep q757_0).keep q759_0).keep q762_0)
    have f775 : Fld Z T762.heap w_LOWER_LETTER "com/example/restate/restate/MarkerStyle" "first" "Ljava/lang/String;" (.ref w_LOWER_LETTER_first) := ((((F_LOWER_LETTER_first.keep q755_0 nin0).keep q757_0 nin0).keep q759_0 nin0).keep q762_0 nin0)
    have f776 : Exa Z T762.heap w_LOWER_LETTER_first "java/lang/String" := ((((E_LOWER_LETTER_first.keep q755_0).keep q757_0).keep q759_0).keep q762_0)
    have f777 : Fld Z T762.heap w_LOWER_LETTER_first "java/lang/String" "value" "[B" (.ref w_LOWER_LETTER_first_value) := ((((F_LOWER_LETTER_first_value.keep q755_0 nin0).keep q757_0 nin0).keep q759_0 nin0).keep q762_0 nin0)
    have f778 : Sta Z T762.heap "com/example/restate/restate/MarkerStyle" "UPPER_LETTER" "Lcom/example/restate/restate/MarkerStyle;" (.ref w_UPPER_LETTER) := (own_staKeep (own_staKeep (own_staKeep (own_staKeep S_UPPER_LETTER q755_0 (fun x hx_ => nomatch hx_)) q757_0 (fun x hx_ => nomatch hx_)) q759_0 (fun x hx_ => nomatch hx_)) q762_0 (fun x hx_ => nomatch hx_))
    have f779 : Exa Z T762.heap w_UPPER_LETTER "com/example/restate/restate/MarkerStyle" := ((((E_UPPER_LETTER.keep q755_0).keep q757_0).keep q759_0).keep q762_0)
    have f780 : Fld Z T762.heap w_UPPER_LETTER "com/example/restate/restate/MarkerStyle" "first" "Ljava/lang/String;" (.ref w_UPPER_LETTER_first) := ((((F_UPPER_LETTER_first.keep q755_0 nin0).keep q757_0 nin0).keep q759_0 nin0).keep q762_0 nin0)
    have f781 : Exa Z T762.heap w_UPPER_LETTER_first "java/lang/String" := ((((E_UPPER_LETTER_first.keep q755_0).keep q757_0).keep q759_0).keep q762_0)
    have f782 : Fld Z T762.heap w_UPPER_LETTER_first "java/lang/String" "value" "[B" (.ref w_UPPER_LETTER_first_value) := ((((F_UPPER_LETTER_first_value.keep q755_0 nin0).keep q757_0 nin0).keep q759_0 nin0).keep q762_0 nin0)
    have f783 : Sta Z T762.heap "com/example/restate/restate/MarkerStyle" "LOWER_ROMAN" "Lcom/example/restate/restate/MarkerStyle;" (.ref w_LOWER_ROMAN) := (own_staKeep (own_staKeep (own_staKeep (own_staKeep S_LOWER_ROMAN q755_0 (fun x hx_ => nomatch hx_)) q757_0 (fun x hx_ => nomatch hx_)) q759_0 (fun x hx_ => nomatch hx_)) q762_0 (fun x hx_ => nomatch hx_))
    have f784 : Exa Z T762.heap w_LOWER_ROMAN "com/example/restate/restate/MarkerStyle" := ((((E_LOWER_ROMAN.keep q755_0).keep q757_0).keep q759_0).keep q762_0)
    have f785 : Fld Z T762.heap w_LOWER_ROMAN "com/example/restate/restate/MarkerStyle" "first" "Ljava/lang/String;" (.ref w_LOWER_ROMAN_first) := ((((F_LOWER_ROMAN_first.keep q755_0 nin0).keep q757_0 nin0).keep q759_0 nin0).keep q762_0 nin0)
    have f786 : Exa Z T762.heap w_LOWER_ROMAN_first "java/lang/String" := ((((E_LOWER_ROMAN_first.keep q755_0).keep q757_0).keep q759_0).keep q762_0)
    have f787 : Fld Z T762.heap w_LOWER_ROMAN_first "java/lang/String" "value" "[B" (.ref w_LOWER_ROMAN_first_value) := ((((F_LOWER_ROMAN_first_value.keep q755_0 nin0).keep q757_0 nin0).keep q759_0 nin0).keep q762_0 nin0)
    have f788 : Sta Z T762.heap "com/example/restate/restate/MarkerStyle" "UPPER_ROMAN" "Lcom/example/restate/restate/MarkerStyle;" (.ref w_UPPER_ROMAN) := (own_staKeep (own_staKeep (own_staKeep (own_staKeep S_UPPER_ROMAN q755_0 (fun x hx_ => nomatch hx_)) q757_0 (fun x hx_ => nomatch hx_)) q759_0 (fun x hx_ => nomatch hx_)) q762_0 (fun x hx_ => nomatch hx_))
    have f789 : Exa Z T762.heap w_UPPER_ROMAN "com/example/restate/restate/MarkerStyle" := ((((E_UPPER_ROMAN.keep q755_0).keep q757_0).keep q759_0).keep q762_0)
    have f790 : Fld Z T762.heap w_UPPER_ROMAN "com/example/restate/restate/MarkerStyle" "first" "Ljava/lang/String;" (.ref w_UPPER_ROMAN_first) := ((((F_UPPER_ROMAN_first.keep q755_0 nin0).keep q757_0 nin0).keep q759_0 nin0).keep q762_0 nin0)
    have f791 : Exa Z T762.heap w_UPPER_ROMAN_first "java/lang/String" := ((((E_UPPER_ROMAN_first.keep q755_0).keep q757_0).keep q759_0).keep q762_0)
    have f792 : Fld Z T762.heap w_UPPER_ROMAN_first "java/lang/String" "value" "[B" (.ref w_UPPER_ROMAN_first_value) := ((((F_UPPER_ROMAN_first_value.keep q755_0 nin0).keep q757_0 nin0).keep q759_0 nin0).keep q762_0 nin0)
    have f793 : Sta Z T762.heap "java/lang/String" "COMPACT_STRINGS" "Z" (.int w_COMPACT_STRINGS) := (own_staKeep f763 q762_0 (fun x hx_ => nomatch hx_))
    have f794 : Fld Z T762.heap w_NUMBER_first "java/lang/String" "coder" "B" (.int 0) := ((((F_NUMBER_first_coder.keep q755_0 nin0).keep q757_0 nin0).keep q759_0 nin0).keep q762_0 nin0)
    have f795 : Fld Z T762.heap w_LOWER_LETTER_first "java/lang/String" "coder" "B" (.int 0) := ((((F_LOWER_LETTER_first_coder.keep q755_0 nin0).keep q757_0 nin0).keep q759_0 nin0).keep q762_0 nin0)
    have f796 : Fld Z T762.heap w_UPPER_LETTER_first "java/lang/String" "coder" "B" (.int 0) := ((((F_UPPER_LETTER_first_coder.keep q755_0 nin0).keep q757_0 nin0).keep q759_0 nin0).keep q762_0 nin0)
    have f797 : Fld Z T762.heap w_LOWER_ROMAN_first "java/lang/String" "coder" "B" (.int 0) := ((((F_LOWER_ROMAN_first_coder.keep q755_0 nin0).keep q757_0 nin0).keep q759_0 nin0).keep q762_0 nin0)
    have f798 : Fld Z T762.heap w_UPPER_ROMAN_first "java/lang/String" "coder" "B" (.int 0) := ((((F_UPPER_ROMAN_first_coder.keep q755_0 nin0).keep q757_0 nin0).keep q759_0 nin0).keep q762_0 nin0)
    have f799 : Arv Z T762.heap w_STYLES k_STYLES (.object "com/example/restate/restate/MarkerStyle") (5 : Int32) [(.ref w_NUMBER), (.ref w_LOWER_LETTER), (.ref w_UPPER_LETTER), (.ref w_LOWER_ROMAN), (.ref w_UPPER_ROMAN)] .null := ((((V_STYLES.keep q755_0 nin0).keep q757_0 nin0).keep q759_0 nin0).keep q762_0 nin0)
    have f800 : Arv Z T762.heap w_NUMBER_first_value k_NUMBER_first_value .byte (1 : Int32) [(.int 49)] (.int 0) := ((((V_NUMBER_first_value.keep q755_0 nin0).keep q757_0 nin0).keep q759_0 nin0).keep q762_0 nin0)
    have f801 : Arv Z T762.heap w_LOWER_LETTER_first_value k_LOWER_LETTER_first_value .byte (1 : Int32) [(.int 97)] (.int 0) := ((((V_LOWER_LETTER_first_value.keep q755_0 nin0).keep q757_0 nin0).keep q759_0 nin0).keep q762_0 nin0)
    have f802 : Arv Z T762.heap w_UPPER_LETTER_first_value k_UPPER_LETTER_first_value .byte (1 : Int32) [(.int 65)] (.int 0) := ((((V_UPPER_LETTER_first_value.keep q755_0 nin0).keep q757_0 nin0).keep q759_0 nin0).keep q762_0 nin0)
    have f803 : Arv Z T762.heap w_LOWER_ROMAN_first_value k_LOWER_ROMAN_first_value .byte (1 : Int32) [(.int 105)] (.int 0) := ((((V_LOWER_ROMAN_first_value.keep q755_0 nin0).keep q757_0 nin0).keep q759_0 nin0).keep q762_0 nin0)
    have f804 : Arv Z T762.heap w_UPPER_ROMAN_first_value k_UPPER_ROMAN_first_value .byte (1 : Int32) [(.int 73)] (.int 0) := ((((V_UPPER_ROMAN_first_value.keep q755_0 nin0).keep q757_0 nin0).keep q759_0 nin0).keep q762_0 nin0)
    have ne805 : w_NUMBER_first ≠ sb_762 := (Nat.ne_of_lt (Nat.lt_of_lt_of_le (Nat.lt_of_lt_of_le E_NUMBER_first.lt le764) q762_1))
    have ne806 : w_LOWER_LETTER_first ≠ sb_762 := (Nat.ne_of_lt (Nat.lt_of_lt_of_le (Nat.lt_of_lt_of_le E_LOWER_LETTER_first.lt le764) q762_1))
    have ne807 : w_UPPER_LETTER_first ≠ sb_762 := (Nat.ne_of_lt (Nat.lt_of_lt_of_le (Nat.lt_of_lt_of_le E_UPPER_LETTER_first.lt le764) q762_1))
    have ne808 : w_LOWER_ROMAN_first ≠ sb_762 := (Nat.ne_of_lt (Nat.lt_of_lt_of_le (Nat.lt_of_lt_of_le E_LOWER_ROMAN_first.lt le764) q762_1))
    have ne809 : w_UPPER_ROMAN_first ≠ sb_762 := (Nat.ne_of_lt (Nat.lt_of_lt_of_le (Nat.lt_of_lt_of_le E_UPPER_ROMAN_first.lt le764) q762_1))
    have le810 : h0.size ≤ T762.heap.size := (Nat.le_trans (Nat.le_trans (Nat.le_trans q755_0.1 q757_0.1) q759_0.1) q762_0.1)
    obtain ⟨_, _, ⟨T766, L766, k766, n766⟩, -, X766, ⟨Lc766, hQ766, l766, y766, z766⟩, st766⟩ := Jvm.LawKit.callS X762 hx (y := (⟨"com/example/restate/restate/MarkerStyle", "openedBy", "(Ljava/lang/String;)Lcom/example/restate/restate/MarkerStyle;"⟩ : MethodName)) hown (mvT hZ (hw _ (List.mem_of_getElem? (i := 29) rfl))) (mvT hZ (hw _ (List.mem_of_getElem? (i := 30) rfl))) (mvT hZ (hw _ (List.mem_of_getElem? (i := 31) rfl))) (mvT hZ (hw _ (List.mem_of_getElem? (i := 32) rfl))) (by decide) (backOf (W := 0) (rm6_2 l Z a0 hw [] sb_762 w_STYLES w_NUMBER w_NUMBER_first w_NUMBER_first_value w_LOWER_LETTER w_LOWER_LETTER_first w_LOWER_LETTER_first_value w_UPPER_LETTER w_UPPER_LETTER_first w_UPPER_LETTER_first_value w_LOWER_ROMAN w_LOWER_ROMAN_first w_LOWER_ROMAN_first_value w_UPPER_ROMAN w_UPPER_ROMAN_first w_UPPER_ROMAN_first_value w_COMPACT_STRINGS k_STYLES k_NUMBER_first_value k_LOWER_LETTER_first_value k_UPPER_LETTER_first_value k_LOWER_ROMAN_first_value k_UPPER_ROMAN_first_value bn_762 kn_762 (ch_755.toInt8.toInt32) (ch_757.toInt8.toInt32) T762.heap n0 (Nat.le_trans Z0 le810) f767 f768 f769 f770 f771 f772 f773 f774 f775 f776 f777 f778 f779 f780 f781 f782 f783 f784 f785 f786 f787 f788 f789 f790 f791 f792 f793 f794 f795 f796 f797 f798 (N_COMPACT_STRINGS) f799 f800 f801 f802 f803 f804 q762_2 q762_3 q762_4 q762_5 ne805 ne806 ne807 ne808 ne809) hZ (hw _ (List.mem_of_getElem? (i := 32) rfl)) (hw _ (List.mem_of_getElem? (i := 31) rfl)) (by decide) (by decide)) (g := (mkF m 119 #[.val (.int p1), .val (.int p2), .val (.int p3), .val (.int p4), .val (.int 2), .val (.int ch_755), .val (.int ch_757), .val (.int ch_759), .val (.ref sb_762), .val .null, .unset] [(.ref sb_762)])) rfl (by rw [hml]; rfl) (argsL := [(.ref sb_762)]) (rest := []) (lenOf pd_9 rfl) rfl (by show 2 * 0 + _ ≤ _; exact Nat.le_of_eq rfl) (hb hby at_119) (fun _ _ => ⟨rfl, rfl, (by decide : 6 + 0 ≤ _), (by decide : 32 + 0 ≤ _)⟩)
    dsimp only [Pt.U, Pt.locs, Pt.cells, Pt.slots] at X766 l766 y766 z766 st766 hQ766
    subst l766 y766 z766
    obtain ⟨rfl, M766, q766_0⟩ := hQ766
    have N766 := Fr.app N762 M766
    refine own_go st766 ?_
    refine own_go (B := T766.setTop (mkF m 136 #[.val (.int p1), .val (.int p2), .val (.int p3), .val (.int p4), .val (.int 2), .val (.int ch_755), .val (.int ch_757), .val (.int ch_759), .val (.ref sb_762), .val .null, .val .null] [(.int 1)])) (fun t k => ?_) ?_
    ·refine XS.astore X766.here hx rfl (hb hby at_122) rfl rfl (l' := #[.val (.int p1), .val (.int p2), .val (.int p3), .val (.int p4), .val (.int 2), .val (.int ch_755), .val (.int ch_757), .val (.int ch_759), .val (.ref sb_762), .val .null, .val .null]) rfl ?_
     show Steps p.tables e below (T766.setTop (mkF m 124 #[.val (.int p1), .val (.int p2), .val (.int p3), .val (.int p4), .val (.int 2), .val (.int ch_755), .val (.int ch_757), .val (.int ch_759), .val (.ref sb_762), .val .null, .val .null] [])) _
     refine XS.aload X766.here hx rfl (hb hby at_124) rfl rfl ?_
     show Steps p.tables e below (T766.setTop (mkF m 126 #[.val (.int p1), .val (.int p2), .val (.int p3), .val (.int p4), .val (.int 2), .val (.int ch_755), .val (.int ch_757), .val (.int ch_759), .val (.ref sb_762), .val .null, .val .null] [.null])) _
     refine XS.aload X766.here hx rfl (hb hby at_126) rfl rfl ?_
     show Steps p.tables e below (T766.setTop (mkF m 128 #[.val (.int p1), .val (.int p2), .val (.int p3), .val (.int p4), .val (.int 2), .val (.int ch_755), .val (.int ch_757), .val (.int ch_759), .val (.ref sb_762), .val .null, .val .null] [.null, .null])) _
     refine Jvm.RoadKit.acmp (g := (mkF m 128 #[.val (.int p1), .val (.int p2), .val (.int p3), .val (.int p4), .val (.int 2), .val (.int ch_755), .val (.int ch_757), .val (.int ch_759), .val (.ref sb_762), .val .null, .val .null] [.null, .null])) X766 hx rfl rfl rfl (pc0 := 128) (pc' := 131) (same := true) rfl (hb hby at_128) rfl (decide_eq_true rfl) (by decide) (by decide) ?_
     show Steps p.tables e below (T766.setTop (mkF m 131 #[.val (.int p1), .val (.int p2), .val (.int p3), .val (.int p4), .val (.int 2), .val (.int ch_755), .val (.int ch_757), .val (.int ch_759), .val (.ref sb_762), .val .null, .val .null] [])) _
     refine XS.iconst X766.here hx rfl (hb hby at_131) ?_
     show Steps p.tables e below (T766.setTop (mkF m 132 #[.val (.int p1), .val (.int p2), .val (.int p3), .val (.int p4), .val (.int 2), .val (.int ch_755), .val (.int ch_757), .val (.int ch_759), .val (.ref sb_762), .val .null, .val .null] [(.int 1)])) _
     refine XS.goto X766.here hx rfl (pc0 := 132) (pc' := 136) rfl (hb hby at_132) (by decide) (by decide) ?_
     show Steps p.tables e below (T766.setTop (mkF m 136 #[.val (.int p1), .val (.int p2), .val (.int p3), .val (.int p4), .val (.int 2), .val (.int ch_755), .val (.int ch_757), .val (.int ch_759), .val (.ref sb_762), .val .null, .val .null] [(.int 1)])) _
     exact k
    obtain ⟨fs, hr, hrun, hended, hW⟩ := X766.leaveW hS0 (show _ ≤ T766.heap.size by rw [q766_0]; exact (Nat.le_trans (Nat.le_refl _) le810)) (v := some (.int 1)) (fun h => by rw [Bd.returns] at h; cases h)
    refine ⟨_, _, ?_, hrun, hended, _, _, rfl, ?_, ⟨hW.1, hW.2.1, hW.2.2.1, hW.2.2.2.mono (by decide) (by decide)⟩⟩
    ·exact retN X766 hx (t := .boolean) Bd.returns (by simp) (hb hby at_136) hr
    ·show Q0 Z p1 p2 p3 p4 w_STYLES w_NUMBER w_NUMBER_first w_NUMBER_first_value w_LOWER_LETTER w_LOWER_LETTER_first w_LOWER_LETTER_first_value w_UPPER_LETTER w_UPPER_LETTER_first w_UPPER_LETTER_first_value w_LOWER_ROMAN w_LOWER_ROMAN_first w_LOWER_ROMAN_first_value w_UPPER_ROMAN w_UPPER_ROMAN_first w_UPPER_ROMAN_first_value w_COMPACT_STRINGS k_STYLES k_NUMBER_first_value k_LOWER_LETTER_first_value k_UPPER_LETTER_first_value k_LOWER_ROMAN_first_value k_UPPER_ROMAN_first_value h0 n0 _ T766.heap _
     rw [q766_0]
     exact ⟨rfl, N766⟩
   ·rw [show (p1 &&& (3 : Int32)) = (3 : Int32) from own_m3 p1 hn0 hn1 hn2]
    refine own_go (B := s₁.setTop (mkF m 6 #[.val (.int p1), .val (.int p2), .val (.int p3), .val (.int p4), .val (.int 3), .unset, .unset, .unset, .unset, .unset, .unset] [(.int p2)])) (fun t k => ?_) ?_
    ·refine XS.iloadN X0.here hx rfl (hb hby at_5) rfl ?_
     show Steps p.tables e below (s₁.setTop (mkF m 6 #[.val (.int p1), .val (.int p2), .val (.int p3), .val (.int p4), .val (.int 3), .unset, .unset, .unset, .unset, .unset, .unset] [(.int p2)])) _
     exact k
    obtain ⟨_, _, ⟨T812, L812, k812, n812⟩, -, X812, ⟨Lc812, hQ812, l812, y812, z812⟩, st812⟩ := Jvm.LawKit.callS X0 hx (y := (⟨"com/example/restate/restate/MarkerStyleOpenedByPinLaw", "draw", "(I)C"⟩ : MethodName)) hown (mvT hZ (hw _ (List.mem_of_getElem? (i := 0) rfl))) (mvT hZ (hw _ (List.mem_of_getElem? (i := 1) rfl))) (mvT hZ (hw _ (List.mem_of_getElem? (i := 2) rfl))) (mvT hZ (hw _ (List.mem_of_getElem? (i := 3) rfl))) (by decide) (backOf (W := 0) (rm1 l Z a0 hw [] p2 h0 n0 Z0 ) hZ (hw _ (List.mem_of_getElem? (i := 3) rfl)) (hw _ (List.mem_of_getElem? (i := 2) rfl)) (by decide) (by decide)) (g := (mkF m 6 #[.val (.int p1), .val (.int p2), .val (.int p3), .val (.int p4), .val (.int 3), .unset, .unset, .unset, .unset, .unset, .unset] [(.int p2)])) rfl (by rw [hml]; rfl) (argsL := [(.int p2)]) (rest := []) (lenOf pd_7 rfl) rfl (by show 2 * 0 + _ ≤ _; exact Nat.le_of_eq rfl) (hb hby at_6) (fun _ _ => ⟨rfl, e0, (by decide : 0 + 1 ≤ _), (by decide : 0 + 8 ≤ _)⟩)
    dsimp only [Pt.U, Pt.locs, Pt.cells, Pt.slots] at X812 l812 y812 z812 st812 hQ812
    subst l812 y812 z812
    obtain ⟨ch_812, rfl, M812, q812_0, q812_1⟩ := hQ812
    have N812 := Fr.app N0 M812
    have K812 : Keep h0 T812.heap [] := Keep.trans (Keep.refl h0 []) q812_0 all0
    have cs813 : CHr Z consts_1 s.vm h0 s.vm T812.heap := (CHr.keep q812_0 all0 (CHr.refl hCH).1)
    refine own_go st812 ?_
    refine own_go (B := T812.setTop (mkF m 12 #[.val (.int p1), .val (.int p2), .val (.int p3), .val (.int p4), .val (.int 3), .val (.int ch_812), .unset, .unset, .unset, .unset, .unset] [(.int p3)])) (fun t k => ?_) ?_
    ·refine XS.istore X812.here hx rfl (hb hby at_9) rfl (l' := #[.val (.int p1), .val (.int p2), .val (.int p3), .val (.int p4), .val (.int 3), .val (.int ch_812), .unset, .unset, .unset, .unset, .unset]) rfl ?_
     show Steps p.tables e below (T812.setTop (mkF m 11 #[.val (.int p1), .val (.int p2), .val (.int p3), .val (.int p4), .val (.int 3), .val (.int ch_812), .unset, .unset, .unset, .unset, .unset] [])) _
     refine XS.iloadN X812.here hx rfl (hb hby at_11) rfl ?_
     show Steps p.tables e below (T812.setTop (mkF m 12 #[.val (.int p1), .val (.int p2), .val (.int p3), .val (.int p4), .val (.int 3), .val (.int ch_812), .unset, .unset, .unset, .unset, .unset] [(.int p3)])) _
     exact k
    obtain ⟨_, _, ⟨T814, L814, k814, n814⟩, -, X814, ⟨Lc814, hQ814, l814, y814, z814⟩, st814⟩ := Jvm.LawKit.callS X812 hx (y := (⟨"com/example/restate/restate/MarkerStyleOpenedByPinLaw", "draw", "(I)C"⟩ : MethodName)) hown (mvT hZ (hw _ (List.mem_of_getElem? (i := 0) rfl))) (mvT hZ (hw _ (List.mem_of_getElem? (i := 1) rfl))) (mvT hZ (hw _ (List.mem_of_getElem? (i := 2) rfl))) (mvT hZ (hw _ (List.mem_of_getElem? (i := 3) rfl))) (by decide) (backOf (W := 0) (rm1 l Z a0 hw [] p3 T812.heap n0 (Nat.le_trans Z0 q812_0.1) ) hZ (hw _ (List.mem_of_getElem? (i := 3) rfl)) (hw _ (List.mem_of_getElem? (i := 2) rfl)) (by decide) (by decide)) (g := (mkF m 12 #[.val (.int p1), .val (.int p2), .val (.int p3), .val (.int p4), .val (.int 3), .val (.int ch_812), .unset, .unset, .unset, .unset, .unset] [(.int p3)])) rfl (by rw [hml]; rfl) (argsL := [(.int p3)]) (rest := []) (lenOf pd_7 rfl) rfl (by show 2 * 0 + _ ≤ _; exact Nat.le_of_eq rfl) (hb hby at_12) (fun _ _ => ⟨rfl, rfl, (by decide : 1 + 1 ≤ _), (by decide : 8 + 8 ≤ _)⟩)
    dsimp only [Pt.U, Pt.locs, Pt.cells, Pt.slots] at X814 l814 y814 z814 st814 hQ814
    subst l814 y814 z814
    obtain ⟨ch_814, rfl, M814, q814_0, q814_1⟩ := hQ814
    have N814 := Fr.app N812 M814
    have K814 : Keep h0 T814.heap [] := Keep.trans K812 q814_0 all0
    have cs815 : CHr Z consts_1 s.vm T812.heap s.vm T814.heap := (CHr.keep q814_0 all0 ((CHr.refl hCH).trans cs813).1)
    refine own_go st814 ?_
    refine own_go (B := T814.setTop (mkF m 18 #[.val (.int p1), .val (.int p2), .val (.int p3), .val (.int p4), .val (.int 3), .val (.int ch_812), .val (.int ch_814), .unset, .unset, .unset, .unset] [(.int p4)])) (fun t k => ?_) ?_
    ·refine XS.istore X814.here hx rfl (hb hby at_15) rfl (l' := #[.val (.int p1), .val (.int p2), .val (.int p3), .val (.int p4), .val (.int 3), .val (.int ch_812), .val (.int ch_814), .unset, .unset, .unset, .unset]) rfl ?_
     show Steps p.tables e below (T814.setTop (mkF m 17 #[.val (.int p1), .val (.int p2), .val (.int p3), .val (.int p4), .val (.int 3), .val (.int ch_812), .val (.int ch_814), .unset, .unset, .unset, .unset] [])) _
     refine XS.iloadN X814.here hx rfl (hb hby at_17) rfl ?_
     show Steps p.tables e below (T814.setTop (mkF m 18 #[.val (.int p1), .val (.int p2), .val (.int p3), .val (.int p4), .val (.int 3), .val (.int ch_812), .val (.int ch_814), .unset, .unset, .unset, .unset] [(.int p4)])) _
     exact k
    have le817 : h0.size ≤ T814.heap.size := (Nat.le_trans q812_0.1 q814_0.1)
    obtain ⟨_, _, ⟨T816, L816, k816, n816⟩, -, X816, ⟨Lc816, hQ816, l816, y816, z816⟩, st816⟩ := Jvm.LawKit.callS X814 hx (y := (⟨"com/example/restate/restate/MarkerStyleOpenedByPinLaw", "draw", "(I)C"⟩ : MethodName)) hown (mvT hZ (hw _ (List.mem_of_getElem? (i := 0) rfl))) (mvT hZ (hw _ (List.mem_of_getElem? (i := 1) rfl))) (mvT hZ (hw _ (List.mem_of_getElem? (i := 2) rfl))) (mvT hZ (hw _ (List.mem_of_getElem? (i := 3) rfl))) (by decide) (backOf (W := 0) (rm1 l Z a0 hw [] p4 T814.heap n0 (Nat.le_trans Z0 le817) ) hZ (hw _ (List.mem_of_getElem? (i := 3) rfl)) (hw _ (List.mem_of_getElem? (i := 2) rfl)) (by decide) (by decide)) (g := (mkF m 18 #[.val (.int p1), .val (.int p2), .val (.int p3), .val (.int p4), .val (.int 3), .val (.int ch_812), .val (.int ch_814), .unset, .unset, .unset, .unset] [(.int p4)])) rfl (by rw [hml]; rfl) (argsL := [(.int p4)]) (rest := []) (lenOf pd_7 rfl) rfl (by show 2 * 0 + _ ≤ _; exact Nat.le_of_eq rfl) (hb hby at_18) (fun _ _ => ⟨rfl, rfl, (by decide : 2 + 1 ≤ _), (by decide : 16 + 8 ≤ _)⟩)
    dsimp only [Pt.U, Pt.locs, Pt.cells, Pt.slots] at X816 l816 y816 z816 st816 hQ816
    subst l816 y816 z816
    obtain ⟨ch_816, rfl, M816, q816_0, q816_1⟩ := hQ816
    have N816 := Fr.app N814 M816
    have K816 : Keep h0 T816.heap [] := Keep.trans K814 q816_0 all0
    have cs818 : CHr Z consts_1 s.vm T814.heap s.vm T816.heap := (CHr.keep q816_0 all0 ((CHr.refl hCH).trans (cs813.trans cs815)).1)
    refine own_go st816 ?_
    refine own_go (B := T816.setTop (mkF m 31 #[.val (.int p1), .val (.int p2), .val (.int p3), .val (.int p4), .val (.int 3), .val (.int ch_812), .val (.int ch_814), .val (.int ch_816), .unset, .unset, .unset] [(.int ch_816), (.int ch_814), (.int ch_812), (.int 3)])) (fun t k => ?_) ?_
    ·refine XS.istore X816.here hx rfl (hb hby at_21) rfl (l' := #[.val (.int p1), .val (.int p2), .val (.int p3), .val (.int p4), .val (.int 3), .val (.int ch_812), .val (.int ch_814), .val (.int ch_816), .unset, .unset, .unset]) rfl ?_
     show Steps p.tables e below (T816.setTop (mkF m 23 #[.val (.int p1), .val (.int p2), .val (.int p3), .val (.int p4), .val (.int 3), .val (.int ch_812), .val (.int ch_814), .val (.int ch_816), .unset, .unset, .unset] [])) _
     refine XS.iload X816.here hx rfl (hb hby at_23) rfl ?_
     show Steps p.tables e below (T816.setTop (mkF m 25 #[.val (.int p1), .val (.int p2), .val (.int p3), .val (.int p4), .val (.int 3), .val (.int ch_812), .val (.int ch_814), .val (.int ch_816), .unset, .unset, .unset] [(.int 3)])) _
     refine XS.iload X816.here hx rfl (hb hby at_25) rfl ?_
     show Steps p.tables e below (T816.setTop (mkF m 27 #[.val (.int p1), .val (.int p2), .val (.int p3), .val (.int p4), .val (.int 3), .val (.int ch_812), .val (.int ch_814), .val (.int ch_816), .unset, .unset, .unset] [(.int ch_812), (.int 3)])) _
     refine XS.iload X816.here hx rfl (hb hby at_27) rfl ?_
     show Steps p.tables e below (T816.setTop (mkF m 29 #[.val (.int p1), .val (.int p2), .val (.int p3), .val (.int p4), .val (.int 3), .val (.int ch_812), .val (.int ch_814), .val (.int ch_816), .unset, .unset, .unset] [(.int ch_814), (.int ch_812), (.int 3)])) _
     refine XS.iload X816.here hx rfl (hb hby at_29) rfl ?_
     show Steps p.tables e below (T816.setTop (mkF m 31 #[.val (.int p1), .val (.int p2), .val (.int p3), .val (.int p4), .val (.int 3), .val (.int ch_812), .val (.int ch_814), .val (.int ch_816), .unset, .unset, .unset] [(.int ch_816), (.int ch_814), (.int ch_812), (.int 3)])) _
     exact k
    have f820 : Sta Z T816.heap "java/lang/String" "COMPACT_STRINGS" "Z" (.int w_COMPACT_STRINGS) := (own_staKeep (own_staKeep (own_staKeep S_COMPACT_STRINGS q812_0 (fun x hx_ => nomatch hx_)) q814_0 (fun x hx_ => nomatch hx_)) q816_0 (fun x hx_ => nomatch hx_))
    have le821 : h0.size ≤ T816.heap.size := (Nat.le_trans (Nat.le_trans q812_0.1 q814_0.1) q816_0.1)
    obtain ⟨_, _, ⟨T819, L819, k819, n819⟩, -, X819, ⟨Lc819, hQ819, l819, y819, z819⟩, st819⟩ := Jvm.LawKit.callS X816 hx (y := (⟨"com/example/restate/restate/MarkerStyleOpenedByPinLaw", "text", "(ICCC)Ljava/lang/String;"⟩ : MethodName)) hown (mvT hZ (hw _ (List.mem_of_getElem? (i := 5) rfl))) (mvT hZ (hw _ (List.mem_of_getElem? (i := 6) rfl))) (mvT hZ (hw _ (List.mem_of_getElem? (i := 2) rfl))) (mvT hZ (hw _ (List.mem_of_getElem? (i := 7) rfl))) (by decide) (backOf (W := 0) (rm2_3 l Z a0 hw [] ch_812 ch_814 ch_816 w_COMPACT_STRINGS T816.heap n0 (Nat.le_trans Z0 le821) f820 (N_COMPACT_STRINGS) (q812_1) (q814_1) (q816_1)) hZ (hw _ (List.mem_of_getElem? (i := 7) rfl)) (hw _ (List.mem_of_getElem? (i := 2) rfl)) (by decide) (by decide)) (g := (mkF m 31 #[.val (.int p1), .val (.int p2), .val (.int p3), .val (.int p4), .val (.int 3), .val (.int ch_812), .val (.int ch_814), .val (.int ch_816), .unset, .unset, .unset] [(.int ch_816), (.int ch_814), (.int ch_812), (.int 3)])) rfl (by rw [hml]; rfl) (argsL := [(.int 3), (.int ch_812), (.int ch_814), (.int ch_816)]) (rest := []) (lenOf pd_8 rfl) rfl (by show 2 * 0 + _ ≤ _; exact Nat.le_of_eq rfl) (hb hby at_31) (fun _ _ => ⟨rfl, rfl, (by decide : 3 + 3 ≤ _), (by decide : 24 + 10 ≤ _)⟩)
    dsimp only [Pt.U, Pt.locs, Pt.cells, Pt.slots] at X819 l819 y819 z819 st819 hQ819
    subst l819 y819 z819
    obtain ⟨sb_819, bn_819, kn_819, rfl, M819, q819_0, q819_1, q819_2, q819_3, q819_4, q819_5⟩ := hQ819
    have N819 := Fr.app N816 M819
    have K819 : Keep h0 T819.heap [] := Keep.trans K816 q819_0 all0
    have cs822 : CHr Z consts_1 s.vm T816.heap s.vm T819.heap := (CHr.keep q819_0 all0 ((CHr.refl hCH).trans ((cs813.trans cs815).trans cs818)).1)
    refine own_go st819 ?_
    refine own_go (B := T819.setTop (mkF m 119 #[.val (.int p1), .val (.int p2), .val (.int p3), .val (.int p4), .val (.int 3), .val (.int ch_812), .val (.int ch_814), .val (.int ch_816), .val (.ref sb_819), .val .null, .unset] [(.ref sb_819)])) (fun t k => ?_) ?_
    ·refine XS.astore X819.here hx rfl (hb hby at_34) rfl rfl (l' := #[.val (.int p1), .val (.int p2), .val (.int p3), .val (.int p4), .val (.int 3), .val (.int ch_812), .val (.int ch_814), .val (.int ch_816), .val (.ref sb_819), .unset, .unset]) rfl ?_
     show Steps p.tables e below (T819.setTop (mkF m 36 #[.val (.int p1), .val (.int p2), .val (.int p3), .val (.int p4), .val (.int 3), .val (.int ch_812), .val (.int ch_814), .val (.int ch_816), .val (.ref sb_819), .unset, .unset] [])) _
     refine XS.aconstNull X819.here hx rfl (hb hby at_36) ?_
     show Steps p.tables e below (T819.setTop (mkF m 37 #[.val (.int p1), .val (.int p2), .val (.int p3), .val (.int p4), .val (.int 3), .val (.int ch_812), .val (.int ch_814), .val (.int ch_816), .val (.ref sb_819), .unset, .unset] [.null])) _
     refine XS.astore X819.here hx rfl (hb hby at_37) rfl rfl (l' := #[.val (.int p1), .val (.int p2), .val (.int p3), .val (.int p4), .val (.int 3), .val (.int ch_812), .val (.int ch_814), .val (.int ch_816), .val (.ref sb_819), .val .null, .unset]) rfl ?_
     show Steps p.tables e below (T819.setTop (mkF m 39 #[.val (.int p1), .val (.int p2), .val (.int p3), .val (.int p4), .val (.int 3), .val (.int ch_812), .val (.int ch_814), .val (.int ch_816), .val (.ref sb_819), .val .null, .unset] [])) _
     refine XS.iload X819.here hx rfl (hb hby at_39) rfl ?_
     show Steps p.tables e below (T819.setTop (mkF m 41 #[.val (.int p1), .val (.int p2), .val (.int p3), .val (.int p4), .val (.int 3), .val (.int ch_812), .val (.int ch_814), .val (.int ch_816), .val (.ref sb_819), .val .null, .unset] [(.int 3)])) _
     refine XS.iconst X819.here hx rfl (hb hby at_41) ?_
     show Steps p.tables e below (T819.setTop (mkF m 42 #[.val (.int p1), .val (.int p2), .val (.int p3), .val (.int p4), .val (.int 3), .val (.int ch_812), .val (.int ch_814), .val (.int ch_816), .val (.ref sb_819), .val .null, .unset] [(.int 1), (.int 3)])) _
     refine XS.icmpYes X819.here hx rfl (pc0 := 42) (pc' := 117) rfl (hb hby at_42) rfl (feq (by decide : ¬ ((3 : Int32) = (1 : Int32)))).2 (by decide) (by decide) ?_
     show Steps p.tables e below (T819.setTop (mkF m 117 #[.val (.int p1), .val (.int p2), .val (.int p3), .val (.int p4), .val (.int 3), .val (.int ch_812), .val (.int ch_814), .val (.int ch_816), .val (.ref sb_819), .val .null, .unset] [])) _
     refine XS.aload X819.here hx rfl (hb hby at_117) rfl rfl ?_
     show Steps p.tables e below (T819.setTop (mkF m 119 #[.val (.int p1), .val (.int p2), .val (.int p3), .val (.int p4), .val (.int 3), .val (.int ch_812), .val (.int ch_814), .val (.int ch_816), .val (.ref sb_819), .val .null, .unset] [(.ref sb_819)])) _
     exact k
    have f824 : Sta Z T819.heap "com/example/restate/restate/MarkerStyle" "STYLES" "[Lcom/example/restate/restate/MarkerStyle;" (.ref w_STYLES) := (own_staKeep (own_staKeep (own_staKeep (own_staKeep S_STYLES q812_0 (fun x hx_ => nomatch hx_)) q814_0 (fun x hx_ => nomatch hx_)) q816_0 (fun x hx_ => nomatch hx_)) q819_0 (fun x hx_ => nomatch hx_))
    have f825 : Sta Z T819.heap "com/example/restate/restate/MarkerStyle" "NUMBER" "Lcom/example/restate/restate/MarkerStyle;" (.ref w_NUMBER) := (own_staKeep (own_staKeep (own_staKeep (own_staKeep S_NUMBER q812_0 (fun x hx_ => nomatch hx_)) q814_0 (fun x hx_ => nomatch hx_)) q816_0 (fun x hx_ => nomatch hx_)) q819_0 (fun x hx_ => nomatch hx_))
    have f826 : Exa Z T819.heap w_NUMBER "com/example/restate/restate/MarkerStyle" := ((((E_NUMBER.keep q812_0).keep q814_0).keep q816_0).keep q819_0)
    have f827 : Fld Z T819.heap w_NUMBER "com/example/restate/restate/MarkerStyle" "first" "Ljava/lang/String;" (.ref w_NUMBER_first) := ((((F_NUMBER_first.keep q812_0 nin0).keep q814_0 nin0).keep q816_0 nin0).keep q819_0 nin0)
    have f828 : Exa Z T819.heap w_NUMBER_first "java/lang/String" := ((((E_NUMBER_first.keep q812_0).keep q814_0).keep q816_0).keep q819_0)
    have f829 : Fld Z T819.heap w_NUMBER_first "java/lang/String" "value" "[B" (.ref w_NUMBER_first_value) := ((((F_NUMBER_first_value.keep q812_0 nin0).keep q814_0 nin0).keep q816_0 nin0).keep q819_0 nin0)
    have f830 : Sta Z T819.heap "com/example/restate/restate/MarkerStyle" "LOWER_LETTER" "Lcom/example/restate/restate/MarkerStyle;" (.ref w_LOWER_LETTER) := (own_staKeep (own_staKeep (own_staKeep (own_staKeep S_LOWER_LETTER q812_0 (fun x hx_ => nomatch hx_)) q814_0 (fun x hx_ => nomatch hx_)) q816_0 (fun x hx_ => nomatch hx_)) q819_0 (fun x hx_ => nomatch hx_))
    have f831 : Exa Z T819.heap w_LOWER_LETTER "com/example/restate/restate/MarkerStyle" := ((((E_LOWER_LETTER.keep q812_0).keep q814_0).keep q816_0).keep q819_0)
    have f832 : Fld Z T819.heap w_LOWER_LETTER "com/example/restate/restate/MarkerStyle" "first" "Ljava/lang/String;" (.ref w_LOWER_LETTER_first) := ((((F_LOWER_LETTER_first.keep q812_0 nin0).keep q814_0 nin0).keep q816_0 nin0).keep q819_0 nin0)
    have f833 : Exa Z T819.heap w_LOWER_LETTER_first "java/lang/String" := ((((E_LOWER_LETTER_first.keep q812_0).keep q814_0).keep q816_0).keep q819_0)
    have f834 : Fld Z T819.heap w_LOWER_LETTER_first "java/lang/String" "value" "[B" (.ref w_LOWER_LETTER_first_value) := ((((F_LOWER_LETTER_first_value.keep q812_0 nin0).keep q814_0 nin0).keep q816_0 nin0).keep q819_0 nin0)
    have f835 : Sta Z T819.heap "com/example/restate/restate/MarkerStyle" "UPPER_LETTER" "Lcom/example/restate/restate/MarkerStyle;" (.ref w_UPPER_LETTER) := (own_staKeep (own_staKeep (own_staKeep (own_staKeep S_UPPER_LETTER q812_0 (fun x hx_ => nomatch hx_)) q814_0 (fun x hx_ => nomatch hx_)) q816_0 (fun x hx_ => nomatch hx_)) q819_0 (fun x hx_ => nomatch hx_))
    have f836 : Exa Z T819.heap w_UPPER_LETTER "com/example/restate/restate/MarkerStyle" := ((((E_UPPER_LETTER.keep q812_0).keep q814_0).keep q816_0).keep q819_0)
    have f837 : Fld Z T819.heap w_UPPER_LETTER "com/example/restate/restate/MarkerStyle" "first" "Ljava/lang/String;" (.ref w_UPPER_LETTER_first) := ((((F_UPPER_LETTER_first.keep q812_0 nin0).keep q814_0 nin0).keep q816_0 nin0).keep q819_0 nin0)
    have f838 : Exa Z T819.heap w_UPPER_LETTER_first "java/lang/String" := ((((E_UPPER_LETTER_first.keep q812_0).keep q814_0).keep q816_0).keep q819_0)
    have f839 : Fld Z T819.heap w_UPPER_LETTER_first "java/lang/String" "value" "[B" (.ref w_UPPER_LETTER_first_value) := ((((F_UPPER_LETTER_first_value.keep q812_0 nin0).keep q814_0 nin0).keep q816_0 nin0).keep q819_0 nin0)
    have f840 : Sta Z T819.heap "com/example/restate/restate/MarkerStyle" "LOWER_ROMAN" "Lcom/example/restate/restate/MarkerStyle;" (.ref w_LOWER_ROMAN) := (own_staKeep (own_staKeep (own_staKeep (own_staKeep S_LOWER_ROMAN q812_0 (fun x hx_ => nomatch hx_)) q814_0 (fun x hx_ => nomatch hx_)) q816_0 (fun x hx_ => nomatch hx_)) q819_0 (fun x hx_ => nomatch hx_))
    have f841 : Exa Z T819.heap w_LOWER_ROMAN "com/example/restate/restate/MarkerStyle" := ((((E_LOWER_ROMAN.keep q812_0).keep q814_0).keep q816_0).keep q819_0)
    have f842 : Fld Z T819.heap w_LOWER_ROMAN "com/example/restate/restate/MarkerStyle" "first" "Ljava/lang/String;" (.ref w_LOWER_ROMAN_first) := ((((F_LOWER_ROMAN_first.keep q812_0 nin0).keep q814_0 nin0).keep q816_0 nin0).keep q819_0 nin0)
    have f843 : Exa Z T819.heap w_LOWER_ROMAN_first "java/lang/String" := ((((E_LOWER_ROMAN_first.keep q812_0).keep q814_0).keep q816_0).keep q819_0)
    have f844 : Fld Z T819.heap w_LOWER_ROMAN_first "java/lang/String" "value" "[B" (.ref w_LOWER_ROMAN_first_value) := ((((F_LOWER_ROMAN_first_value.keep q812_0 nin0).keep q814_0 nin0).keep q816_0 nin0).keep q819_0 nin0)
    have f845 : Sta Z T819.heap "com/example/restate/restate/MarkerStyle" "UPPER_ROMAN" "Lcom/example/restate/restate/MarkerStyle;" (.ref w_UPPER_ROMAN) := (own_staKeep (own_staKeep (own_staKeep (own_staKeep S_UPPER_ROMAN q812_0 (fun x hx_ => nomatch hx_)) q814_0 (fun x hx_ => nomatch hx_)) q816_0 (fun x hx_ => nomatch hx_)) q819_0 (fun x hx_ => nomatch hx_))
    have f846 : Exa Z T819.heap w_UPPER_ROMAN "com/example/restate/restate/MarkerStyle" := ((((E_UPPER_ROMAN.keep q812_0).keep q814_0).keep q816_0).keep q819_0)
    have f847 : Fld Z T819.heap w_UPPER_ROMAN "com/example/restate/restate/MarkerStyle" "first" "Ljava/lang/String;" (.ref w_UPPER_ROMAN_first) := ((((F_UPPER_ROMAN_first.keep q812_0 nin0).keep q814_0 nin0).keep q816_0 nin0).keep q819_0 nin0)
    have f848 : Exa Z T819.heap w_UPPER_ROMAN_first "java/lang/String" := ((((E_UPPER_ROMAN_first.keep q812_0).keep q814_0).keep q816_0).keep q819_0)
    have f849 : Fld Z T819.heap w_UPPER_ROMAN_first "java/lang/String" "value" "[B" (.ref w_UPPER_ROMAN_first_value) := ((((F_UPPER_ROMAN_first_value.keep q812_0 nin0).keep q814_0 nin0).keep q816_0 nin0).keep q819_0 nin0)
    have f850 : Sta Z T819.heap "java/lang/String" "COMPACT_STRINGS" "Z" (.int w_COMPACT_STRINGS) := (own_staKeep f820 q819_0 (fun x hx_ => nomatch hx_))
    have f851 : Fld Z T819.heap w_NUMBER_first "java/lang/String" "coder" "B" (.int 0) := ((((F_NUMBER_first_coder.keep q812_0 nin0).keep q814_0 nin0).keep q816_0 nin0).keep q819_0 nin0)
    have f852 : Fld Z T819.heap w_LOWER_LETTER_first "java/lang/String" "coder" "B" (.int 0) := ((((F_LOWER_LETTER_first_coder.keep q812_0 nin0).keep q814_0 nin0).keep q816_0 nin0).keep q819_0 nin0)
    have f853 : Fld Z T819.heap w_UPPER_LETTER_first "java/lang/String" "coder" "B" (.int 0) := ((((F_UPPER_LETTER_first_coder.keep q812_0 nin0).keep q814_0 nin0).keep q816_0 nin0).keep q819_0 nin0)
    have f854 : Fld Z T819.heap w_LOWER_ROMAN_first "java/lang/String" "coder" "B" (.int 0) := ((((F_LOWER_ROMAN_first_coder.keep q812_0 nin0).keep q814_0 nin0).keep q816_0 nin0).keep q819_0 nin0)
    have f855 : Fld Z T819.heap w_UPPER_ROMAN_first "java/lang/String" "coder" "B" (.int 0) := ((((F_UPPER_ROMAN_first_coder.keep q812_0 nin0).keep q814_0 nin0).keep q816_0 nin0).keep q819_0 nin0)
    have f856 : Arv Z T819.heap w_STYLES k_STYLES (.object "com/example/restate/restate/MarkerStyle") (5 : Int32) [(.ref w_NUMBER), (.ref w_LOWER_LETTER), (.ref w_UPPER_LETTER), (.ref w_LOWER_ROMAN), (.ref w_UPPER_ROMAN)] .null := ((((V_STYLES.keep q812_0 nin0).keep q814_0 nin0).keep q816_0 nin0).keep q819_0 nin0)
    have f857 : Arv Z T819.heap w_NUMBER_first_value k_NUMBER_first_value .byte (1 : Int32) [(.int 49)] (.int 0) := ((((V_NUMBER_first_value.keep q812_0 nin0).keep q814_0 nin0).keep q816_0 nin0).keep q819_0 nin0)
    have f858 : Arv Z T819.heap w_LOWER_LETTER_first_value k_LOWER_LETTER_first_value .byte (1 : Int32) [(.int 97)] (.int 0) := ((((V_LOWER_LETTER_first_value.keep q812_0 nin0).keep q814_0 nin0).keep q816_0 nin0).keep q819_0 nin0)
    have f859 : Arv Z T819.heap w_UPPER_LETTER_first_value k_UPPER_LETTER_first_value .byte (1 : Int32) [(.int 65)] (.int 0) := ((((V_UPPER_LETTER_first_value.keep q812_0 nin0).keep q814_0 nin0).keep q816_0 nin0).keep q819_0 nin0)
    have f860 : Arv Z T819.heap w_LOWER_ROMAN_first_value k_LOWER_ROMAN_first_value .byte (1 : Int32) [(.int 105)] (.int 0) := ((((V_LOWER_ROMAN_first_value.keep q812_0 nin0).keep q814_0 nin0).keep q816_0 nin0).keep q819_0 nin0)
    have f861 : Arv Z T819.heap w_UPPER_ROMAN_first_value k_UPPER_ROMAN_first_value .byte (1 : Int32) [(.int 73)] (.int 0) := ((((V_UPPER_ROMAN_first_value.keep q812_0 nin0).keep q814_0 nin0).keep q816_0 nin0).keep q819_0 nin0)
    have ne862 : w_NUMBER_first ≠ sb_819 := (Nat.ne_of_lt (Nat.lt_of_lt_of_le (Nat.lt_of_lt_of_le E_NUMBER_first.lt le821) q819_1))
    have ne863 : w_LOWER_LETTER_first ≠ sb_819 := (Nat.ne_of_lt (Nat.lt_of_lt_of_le (Nat.lt_of_lt_of_le E_LOWER_LETTER_first.lt le821) q819_1))
    have ne864 : w_UPPER_LETTER_first ≠ sb_819 := (Nat.ne_of_lt (Nat.lt_of_lt_of_le (Nat.lt_of_lt_of_le E_UPPER_LETTER_first.lt le821) q819_1))
    have ne865 : w_LOWER_ROMAN_first ≠ sb_819 := (Nat.ne_of_lt (Nat.lt_of_lt_of_le (Nat.lt_of_lt_of_le E_LOWER_ROMAN_first.lt le821) q819_1))
    have ne866 : w_UPPER_ROMAN_first ≠ sb_819 := (Nat.ne_of_lt (Nat.lt_of_lt_of_le (Nat.lt_of_lt_of_le E_UPPER_ROMAN_first.lt le821) q819_1))
    have le867 : h0.size ≤ T819.heap.size := (Nat.le_trans (Nat.le_trans (Nat.le_trans q812_0.1 q814_0.1) q816_0.1) q819_0.1)
    obtain ⟨_, _, ⟨T823, L823, k823, n823⟩, -, X823, ⟨Lc823, hQ823, l823, y823, z823⟩, st823⟩ := Jvm.LawKit.callS X819 hx (y := (⟨"com/example/restate/restate/MarkerStyle", "openedBy", "(Ljava/lang/String;)Lcom/example/restate/restate/MarkerStyle;"⟩ : MethodName)) hown (mvT hZ (hw _ (List.mem_of_getElem? (i := 29) rfl))) (mvT hZ (hw _ (List.mem_of_getElem? (i := 30) rfl))) (mvT hZ (hw _ (List.mem_of_getElem? (i := 31) rfl))) (mvT hZ (hw _ (List.mem_of_getElem? (i := 32) rfl))) (by decide) (backOf (W := 0) (rm6_3 l Z a0 hw [] sb_819 w_STYLES w_NUMBER w_NUMBER_first w_NUMBER_first_value w_LOWER_LETTER w_LOWER_LETTER_first w_LOWER_LETTER_first_value w_UPPER_LETTER w_UPPER_LETTER_first w_UPPER_LETTER_first_value w_LOWER_ROMAN w_LOWER_ROMAN_first w_LOWER_ROMAN_first_value w_UPPER_ROMAN w_UPPER_ROMAN_first w_UPPER_ROMAN_first_value w_COMPACT_STRINGS k_STYLES k_NUMBER_first_value k_LOWER_LETTER_first_value k_UPPER_LETTER_first_value k_LOWER_ROMAN_first_value k_UPPER_ROMAN_first_value bn_819 kn_819 (ch_812.toInt8.toInt32) (ch_814.toInt8.toInt32) (ch_816.toInt8.toInt32) T819.heap n0 (Nat.le_trans Z0 le867) f824 f825 f826 f827 f828 f829 f830 f831 f832 f833 f834 f835 f836 f837 f838 f839 f840 f841 f842 f843 f844 f845 f846 f847 f848 f849 f850 f851 f852 f853 f854 f855 (N_COMPACT_STRINGS) f856 f857 f858 f859 f860 f861 q819_2 q819_3 q819_4 q819_5 ne862 ne863 ne864 ne865 ne866) hZ (hw _ (List.mem_of_getElem? (i := 32) rfl)) (hw _ (List.mem_of_getElem? (i := 31) rfl)) (by decide) (by decide)) (g := (mkF m 119 #[.val (.int p1), .val (.int p2), .val (.int p3), .val (.int p4), .val (.int 3), .val (.int ch_812), .val (.int ch_814), .val (.int ch_816), .val (.ref sb_819), .val .null, .unset] [(.ref sb_819)])) rfl (by rw [hml]; rfl) (argsL := [(.ref sb_819)]) (rest := []) (lenOf pd_9 rfl) rfl (by show 2 * 0 + _ ≤ _; exact Nat.le_of_eq rfl) (hb hby at_119) (fun _ _ => ⟨rfl, rfl, (by decide : 6 + 0 ≤ _), (by decide : 34 + 0 ≤ _)⟩)
    dsimp only [Pt.U, Pt.locs, Pt.cells, Pt.slots] at X823 l823 y823 z823 st823 hQ823
    subst l823 y823 z823
    obtain ⟨rfl, M823, q823_0⟩ := hQ823
    have N823 := Fr.app N819 M823
    refine own_go st823 ?_
    refine own_go (B := T823.setTop (mkF m 136 #[.val (.int p1), .val (.int p2), .val (.int p3), .val (.int p4), .val (.int 3), .val (.int ch_812), .val (.int ch_814), .val (.int ch_816), .val (.ref sb_819), .val .null, .val .null] [(.int 1)])) (fun t k => ?_) ?_
    ·refine XS.astore X823.here hx rfl (hb hby at_122) rfl rfl (l' := #[.val (.int p1), .val (.int p2), .val (.int p3), .val (.int p4), .val (.int 3), .val (.int ch_812), .val (.int ch_814), .val (.int ch_816), .val (.ref sb_819), .val .null, .val .null]) rfl ?_
     show Steps p.tables e below (T823.setTop (mkF m 124 #[.val (.int p1), .val (.int p2), .val (.int p3), .val (.int p4), .val (.int 3), .val (.int ch_812), .val (.int ch_814), .val (.int ch_816), .val (.ref sb_819), .val .null, .val .null] [])) _
     refine XS.aload X823.here hx rfl (hb hby at_124) rfl rfl ?_
     show Steps p.tables e below (T823.setTop (mkF m 126 #[.val (.int p1), .val (.int p2), .val (.int p3), .val (.int p4), .val (.int 3), .val (.int ch_812), .val (.int ch_814), .val (.int ch_816), .val (.ref sb_819), .val .null, .val .null] [.null])) _
     refine XS.aload X823.here hx rfl (hb hby at_126) rfl rfl ?_
     show Steps p.tables e below (T823.setTop (mkF m 128 #[.val (.int p1), .val (.int p2), .val (.int p3), .val (.int p4), .val (.int 3), .val (.int ch_812), .val (.int ch_814), .val (.int ch_816), .val (.ref sb_819), .val .null, .val .null] [.null, .null])) _
     refine Jvm.RoadKit.acmp (g := (mkF m 128 #[.val (.int p1), .val (.int p2), .val (.int p3), .val (.int p4), .val (.int 3), .val (.int ch_812), .val (.int ch_814), .val (.int ch_816), .val (.ref sb_819), .val .null, .val .null] [.null, .null])) X823 hx rfl rfl rfl (pc0 := 128) (pc' := 131) (same := true) rfl (hb hby at_128) rfl (decide_eq_true rfl) (by decide) (by decide) ?_
     show Steps p.tables e below (T823.setTop (mkF m 131 #[.val (.int p1), .val (.int p2), .val (.int p3), .val (.int p4), .val (.int 3), .val (.int ch_812), .val (.int ch_814), .val (.int ch_816), .val (.ref sb_819), .val .null, .val .null] [])) _
     refine XS.iconst X823.here hx rfl (hb hby at_131) ?_
     show Steps p.tables e below (T823.setTop (mkF m 132 #[.val (.int p1), .val (.int p2), .val (.int p3), .val (.int p4), .val (.int 3), .val (.int ch_812), .val (.int ch_814), .val (.int ch_816), .val (.ref sb_819), .val .null, .val .null] [(.int 1)])) _
     refine XS.goto X823.here hx rfl (pc0 := 132) (pc' := 136) rfl (hb hby at_132) (by decide) (by decide) ?_
     show Steps p.tables e below (T823.setTop (mkF m 136 #[.val (.int p1), .val (.int p2), .val (.int p3), .val (.int p4), .val (.int 3), .val (.int ch_812), .val (.int ch_814), .val (.int ch_816), .val (.ref sb_819), .val .null, .val .null] [(.int 1)])) _
     exact k
    obtain ⟨fs, hr, hrun, hended, hW⟩ := X823.leaveW hS0 (show _ ≤ T823.heap.size by rw [q823_0]; exact (Nat.le_trans (Nat.le_refl _) le867)) (v := some (.int 1)) (fun h => by rw [Bd.returns] at h; cases h)
    refine ⟨_, _, ?_, hrun, hended, _, _, rfl, ?_, ⟨hW.1, hW.2.1, hW.2.2.1, hW.2.2.2.mono (by decide) (by decide)⟩⟩
    ·exact retN X823 hx (t := .boolean) Bd.returns (by simp) (hb hby at_136) hr
    ·show Q0 Z p1 p2 p3 p4 w_STYLES w_NUMBER w_NUMBER_first w_NUMBER_first_value w_LOWER_LETTER w_LOWER_LETTER_first w_LOWER_LETTER_first_value w_UPPER_LETTER w_UPPER_LETTER_first w_UPPER_LETTER_first_value w_LOWER_ROMAN w_LOWER_ROMAN_first w_LOWER_ROMAN_first_value w_UPPER_ROMAN w_UPPER_ROMAN_first w_UPPER_ROMAN_first_value w_COMPACT_STRINGS k_STYLES k_NUMBER_first_value k_LOWER_LETTER_first_value k_UPPER_LETTER_first_value k_LOWER_ROMAN_first_value k_UPPER_ROMAN_first_value h0 n0 _ T823.heap _
     rw [q823_0]
     exact ⟨rfl, N823⟩
set_option maxRecDepth 65536 in
set_option maxHeartbeats 40000000 in
theorem comes_1 {Post : Tables → Env → Array Value → State → Outcome → State → Prop} (hpost : ∀ tb e args s v u, (limb_1_1.after args s (.returned v) u = true ∧ limb_1_2.after args s (.returned v) u = true ∧ True) → ReturnedEndW s (.returned v) u (Jvm.fieldLocs frame_1_writes args s ++ Jvm.arrayLocs frame_1_arrays args s ++ Jvm.staticLocs frame_1_statics s) 24 1216 → Post tb e args s (.returned v) u) :
  ArmFor flags0 classFile x code maxLocals ret World_1 tables_1 room_1 Calls_1 rest_1 Pre_1 Post := by
 intro l hfl _ _ p e ha hc hk s m args below hf hA hF happ hP
 obtain ⟨hcalls, hrest, hpre⟩ := hP
 obtain ⟨-, -, -, hnamed, -, -, -, hat⟩ := (Spec.applies_iff hf).mp happ
 obtain ⟨hg, hn⟩ := and_e (Cond.before_iff.mp (show (Jvm.Cond.and given_1 narrow_1).before args s = true from hpre))
 obtain ⟨g0, hg0⟩ := and_e hg
 obtain ⟨g1, hg1⟩ := and_e hg0
 obtain ⟨g2, hg2⟩ := and_e hg1
 obtain ⟨g3, hg3⟩ := and_e hg2
 obtain ⟨w0, w1, w2, w3, rfl⟩ : ∃ w0 w1 w2 w3 : Value, args = #[w0, w1, w2, w3] := by
  have hs : args.size = 4 := by simpa [Cond.value, given_1] using g0
  obtain ⟨L⟩ := args
  match L, hs with
  | [w0, w1, w2, w3], _ => exact ⟨w0, w1, w2, w3, rfl⟩
 have hw := fun d (hd : d ∈ tables_1) => atoms_spec (ws := Jvm.Cond.code x code maxLocals ret :: tables_1) hat d (List.mem_cons_of_mem _ hd)
 have hfit : Fit s := fun {y c} hc i hi => by
  obtain ⟨ha, rfl⟩ := Array.getElem?_eq_some_iff.mp hc
  have q := List.all_eq_true.mp ((Array.all_eq_true_iff_forall_mem.mp hF) _ (Array.getElem_mem ha)) i (List.mem_range.mpr hi)
  simpa [Array.getElem?_eq_getElem hi] using q
 obtain ⟨hsets, hown0⟩ := atoms_of _ (rest_1_c_eq ▸ (show rest_1_c.before _ s = true from hrest))
 obtain ⟨i0, ei0⟩ := is_v g1
 obtain rfl : w0 = (.int i0) := Option.some.inj ei0
 obtain ⟨i1, ei1⟩ := is_v g2
 obtain rfl : w1 = (.int i1) := Option.some.inj ei1
 obtain ⟨i2, ei2⟩ := is_v g3
 obtain rfl : w2 = (.int i2) := Option.some.inj ei2
 obtain ⟨i3, ei3⟩ := is_v hg3
 obtain rfl : w3 = (.int i3) := Option.some.inj ei3
 obtain ⟨u1a, u1b⟩ := and_e hn
 obtain ⟨u2a, u2b⟩ := and_e u1b
 obtain ⟨u3a, u3b⟩ := and_e u2b
 obtain ⟨u4a, u4b⟩ := and_e u3b
 obtain ⟨u5a, u5b⟩ := and_e u4b
 obtain ⟨u6a, u6b⟩ := and_e u5b
 obtain ⟨u7a, u7b⟩ := and_e u6b
 obtain ⟨u8a, u8b⟩ := and_e u7b
 obtain ⟨u9a, u9b⟩ := and_e u8b
 obtain ⟨u10a, u10b⟩ := and_e u9b
 obtain ⟨u11a, u11b⟩ := and_e u10b
 obtain ⟨u12a, u12b⟩ := and_e u11b
 obtain ⟨u13a, u13b⟩ := and_e u12b
 obtain ⟨u14a, u14b⟩ := and_e u13b
 obtain ⟨u15a, u15b⟩ := and_e u14b
 obtain ⟨u16a, u16b⟩ := and_e u15b
 obtain ⟨u17a, u17b⟩ := and_e u16b
 obtain ⟨u18a, u18b⟩ := and_e u17b
 obtain ⟨u19a, u19b⟩ := and_e u18b
 obtain ⟨u20a, u20b⟩ := and_e u19b
 obtain ⟨u21a, u21b⟩ := and_e u20b
 obtain ⟨u22a, u22b⟩ := and_e u21b
 obtain ⟨u23a, u23b⟩ := and_e u22b
 obtain ⟨u24a, u24b⟩ := and_e u23b
 obtain ⟨u25a, u25b⟩ := and_e u24b
 obtain ⟨u26a, u26b⟩ := and_e u25b
 obtain ⟨u27a, u27b⟩ := and_e u26b
 obtain ⟨u28a, u28b⟩ := and_e u27b
 obtain ⟨u29a, u29b⟩ := and_e u28b
 obtain ⟨u30a, u30b⟩ := and_e u29b
 obtain ⟨u31a, u31b⟩ := and_e u30b
 obtain ⟨u32a, u32b⟩ := and_e u31b
 obtain ⟨u33a, u33b⟩ := and_e u32b
 obtain ⟨u34a, u34b⟩ := and_e u33b
 obtain ⟨u35a, u35b⟩ := and_e u34b
 obtain ⟨u36a, u36b⟩ := and_e u35b
 obtain ⟨w_STYLES, ev_STYLES⟩ := arr_v u1a
 have S_STYLES := Sta.start ev_STYLES (Or.inr ⟨(hw _ (List.mem_of_getElem? (i := 31) rfl)), (hw _ (List.mem_of_getElem? (i := 34) rfl))⟩)
 obtain ⟨cl_STYLES, A_STYLES⟩ := Arr.start ev_STYLES u1a
 obtain ⟨w_NUMBER, ev_NUMBER⟩ := exa_v u3a
 have S_NUMBER := Sta.start ev_NUMBER (Or.inr ⟨(hw _ (List.mem_of_getElem? (i := 31) rfl)), (hw _ (List.mem_of_getElem? (i := 35) rfl))⟩)
 have E_NUMBER := Exa.start ev_NUMBER u3a
 obtain ⟨w_NUMBER_first, ev_NUMBER_first⟩ := exa_v u5a
 have F_NUMBER_first := own_fldRef ev_NUMBER ev_NUMBER_first
 have E_NUMBER_first := Exa.start ev_NUMBER_first u5a
 obtain ⟨w_NUMBER_first_value, ev_NUMBER_first_value⟩ := arr_v u7a
 have F_NUMBER_first_value := own_fldRef ev_NUMBER_first ev_NUMBER_first_value
 obtain ⟨cl_NUMBER_first_value, A_NUMBER_first_value⟩ := Arr.start ev_NUMBER_first_value u7a
 obtain ⟨w_LOWER_LETTER, ev_LOWER_LETTER⟩ := exa_v u9a
 have S_LOWER_LETTER := Sta.start ev_LOWER_LETTER (Or.inr ⟨(hw _ (List.mem_of_getElem? (i := 31) rfl)), (hw _ (List.mem_of_getElem? (i := 49) rfl))⟩)
 have E_LOWER_LETTER := Exa.start ev_LOWER_LETTER u9a
 obtain ⟨w_LOWER_LETTER_first, ev_LOWER_LETTER_first⟩ := exa_v u11a
 have F_LOWER_LETTER_first := own_fldRef ev_LOWER_LETTER ev_LOWER_LETTER_first
 have E_LOWER_LETTER_first := Exa.start ev_LOWER_LETTER_first u11a
 obtain ⟨w_LOWER_LETTER_first_value, ev_LOWER_LETTER_first_value⟩ := arr_v u13a
 have F_LOWER_LETTER_first_value := own_fldRef ev_LOWER_LETTER_first ev_LOWER_LETTER_first_value
 obtain ⟨cl_LOWER_LETTER_first_value, A_LOWER_LETTER_first_value⟩ := Arr.start ev_LOWER_LETTER_first_value u13a
 obtain ⟨w_UPPER_LETTER, ev_UPPER_LETTER⟩ := exa_v u15a
 have S_UPPER_LETTER := Sta.start ev_UPPER_LETTER (Or.inr ⟨(hw _ (List.mem_of_getElem? (i := 31) rfl)), (hw _ (List.mem_of_getElem? (i := 50) rfl))⟩)
 have E_UPPER_LETTER := Exa.start ev_UPPER_LETTER u15a
 obtain ⟨w_UPPER_LETTER_first, ev_UPPER_LETTER_first⟩ := exa_v u17a
 have F_UPPER_LETTER_first := own_fldRef ev_UPPER_LETTER ev_UPPER_LETTER_first
 have E_UPPER_LETTER_first := Exa.start ev_UPPER_LETTER_first u17a
 obtain ⟨w_UPPER_LETTER_first_value, ev_UPPER_LETTER_first_value⟩ := arr_v u19a
 have F_UPPER_LETTER_first_value := own_fldRef ev_UPPER_LETTER_first ev_UPPER_LETTER_first_value
 obtain ⟨cl_UPPER_LETTER_first_value, A_UPPER_LETTER_first_value⟩ := Arr.start ev_UPPER_LETTER_first_value u19a
 obtain ⟨w_LOWER_ROMAN, ev_LOWER_ROMAN⟩ := exa_v u21a
 have S_LOWER_ROMAN := Sta.start ev_LOWER_ROMAN (Or.inr ⟨(hw _ (List.mem_of_getElem? (i := 31) rfl)), (hw _ (List.mem_of_getElem? (i := 51) rfl))⟩)
 have E_LOWER_ROMAN := Exa.start ev_LOWER_ROMAN u21a
 obtain ⟨w_LOWER_ROMAN_first, ev_LOWER_ROMAN_first⟩ := exa_v u23a
 have F_LOWER_ROMAN_first := own_fldRef ev_LOWER_ROMAN ev_LOWER_ROMAN_first
 have E_LOWER_ROMAN_first := Exa.start ev_LOWER_ROMAN_first u23a
 obtain ⟨w_LOWER_ROMAN_first_value, ev_LOWER_ROMAN_first_value⟩ := arr_v u25a
 have F_LOWER_ROMAN_first_value := own_fldRef ev_LOWER_ROMAN_first ev_LOWER_ROMAN_first_value
 obtain ⟨cl_LOWER_ROMAN_first_value, A_LOWER_ROMAN_first_value⟩ := Arr.start ev_LOWER_ROMAN_first_value u25a
 obtain ⟨w_UPPER_ROMAN, ev_UPPER_ROMAN⟩ := exa_v u27a
 have S_UPPER_ROMAN := Sta.start ev_UPPER_ROMAN (Or.inr ⟨(hw _ (List.mem_of_getElem? (i := 31) rfl)), (hw _ (List.mem_of_getElem? (i := 52) rfl))⟩)
 have E_UPPER_ROMAN := Exa.start ev_UPPER_ROMAN u27a
 obtain ⟨w_UPPER_ROMAN_first, ev_UPPER_ROMAN_first⟩ := exa_v u29a
 have F_UPPER_ROMAN_first := own_fldRef ev_UPPER_ROMAN ev_UPPER_ROMAN_first
 have E_UPPER_ROMAN_first := Exa.start ev_UPPER_ROMAN_first u29a
 obtain ⟨w_UPPER_ROMAN_first_value, ev_UPPER_ROMAN_first_value⟩ := arr_v u31a
 have F_UPPER_ROMAN_first_value := own_fldRef ev_UPPER_ROMAN_first ev_UPPER_ROMAN_first_value
 obtain ⟨cl_UPPER_ROMAN_first_value, A_UPPER_ROMAN_first_value⟩ := Arr.start ev_UPPER_ROMAN_first_value u31a
 obtain ⟨w_COMPACT_STRINGS, ev_COMPACT_STRINGS⟩ := is_v (Cond.before_iff.mp (hsets _ (List.mem_of_getElem? (i := 1) rfl)))
 have S_COMPACT_STRINGS := Sta.start ev_COMPACT_STRINGS (Or.inl (hsets _ (List.mem_of_getElem? (i := 0) rfl)))
 have L_STYLES := own_lenStart ev_STYLES A_STYLES u2a
 have G_STYLES_0 := own_elemStart ev_STYLES A_STYLES ev_NUMBER u4a
 have F_NUMBER_first_coder := own_fldStart ev_NUMBER_first u6a
 have L_NUMBER_first_value := own_lenStart ev_NUMBER_first_value A_NUMBER_first_value u8a
 have G_STYLES_1 := own_elemStart ev_STYLES A_STYLES ev_LOWER_LETTER u10a
 have F_LOWER_LETTER_first_coder := own_fldStart ev_LOWER_LETTER_first u12a
 have L_LOWER_LETTER_first_value := own_lenStart ev_LOWER_LETTER_first_value A_LOWER_LETTER_first_value u14a
 have G_STYLES_2 := own_elemStart ev_STYLES A_STYLES ev_UPPER_LETTER u16a
 have F_UPPER_LETTER_first_coder := own_fldStart ev_UPPER_LETTER_first u18a
 have L_UPPER_LETTER_first_value := own_lenStart ev_UPPER_LETTER_first_value A_UPPER_LETTER_first_value u20a
 have G_STYLES_3 := own_elemStart ev_STYLES A_STYLES ev_LOWER_ROMAN u22a
 have F_LOWER_ROMAN_first_coder := own_fldStart ev_LOWER_ROMAN_first u24a
 have L_LOWER_ROMAN_first_value := own_lenStart ev_LOWER_ROMAN_first_value A_LOWER_ROMAN_first_value u26a
 have G_STYLES_4 := own_elemStart ev_STYLES A_STYLES ev_UPPER_ROMAN u28a
 have F_UPPER_ROMAN_first_coder := own_fldStart ev_UPPER_ROMAN_first u30a
 have L_UPPER_ROMAN_first_value := own_lenStart ev_UPPER_ROMAN_first_value A_UPPER_ROMAN_first_value u32a
 have G_NUMBER_first_value_0 := own_elemStart ev_NUMBER_first_value A_NUMBER_first_value (Term.int_eval _) u33a
 have G_LOWER_LETTER_first_value_0 := own_elemStart ev_LOWER_LETTER_first_value A_LOWER_LETTER_first_value (Term.int_eval _) u34a
 have G_UPPER_LETTER_first_value_0 := own_elemStart ev_UPPER_LETTER_first_value A_UPPER_LETTER_first_value (Term.int_eval _) u35a
 have G_LOWER_ROMAN_first_value_0 := own_elemStart ev_LOWER_ROMAN_first_value A_LOWER_ROMAN_first_value (Term.int_eval _) u36a
 have G_UPPER_ROMAN_first_value_0 := own_elemStart ev_UPPER_ROMAN_first_value A_UPPER_ROMAN_first_value (Term.int_eval _) u36b
 have N_COMPACT_STRINGS : ¬ w_COMPACT_STRINGS = (0 : Int32) := own_neStart ev_COMPACT_STRINGS (Cond.before_iff.mp (hsets _ (List.mem_of_getElem? (i := 2) rfl)))
 have V_STYLES : Arv s s.heap w_STYLES cl_STYLES.cls (.object "com/example/restate/restate/MarkerStyle") (5 : Int32) [(.ref w_NUMBER), (.ref w_LOWER_LETTER), (.ref w_UPPER_LETTER), (.ref w_LOWER_ROMAN), (.ref w_UPPER_ROMAN)] .null := Arv.start hfit A_STYLES L_STYLES.1 L_STYLES.2 (by decide) rfl ⟨G_STYLES_0, G_STYLES_1, G_STYLES_2, G_STYLES_3, G_STYLES_4, trivial⟩
 have V_NUMBER_first_value : Arv s s.heap w_NUMBER_first_value cl_NUMBER_first_value.cls .byte (1 : Int32) [(.int 49)] (.int 0) := Arv.start hfit A_NUMBER_first_value L_NUMBER_first_value.1 L_NUMBER_first_value.2 (by decide) rfl ⟨G_NUMBER_first_value_0, trivial⟩
 have V_LOWER_LETTER_first_value : Arv s s.heap w_LOWER_LETTER_first_value cl_LOWER_LETTER_first_value.cls .byte (1 : Int32) [(.int 97)] (.int 0) := Arv.start hfit A_LOWER_LETTER_first_value L_LOWER_LETTER_first_value.1 L_LOWER_LETTER_first_value.2 (by decide) rfl ⟨G_LOWER_LETTER_first_value_0, trivial⟩
 have V_UPPER_LETTER_first_value : Arv s s.heap w_UPPER_LETTER_first_value cl_UPPER_LETTER_first_value.cls .byte (1 : Int32) [(.int 65)] (.int 0) := Arv.start hfit A_UPPER_LETTER_first_value L_UPPER_LETTER_first_value.1 L_UPPER_LETTER_first_value.2 (by decide) rfl ⟨G_UPPER_LETTER_first_value_0, trivial⟩
 have V_LOWER_ROMAN_first_value : Arv s s.heap w_LOWER_ROMAN_first_value cl_LOWER_ROMAN_first_value.cls .byte (1 : Int32) [(.int 105)] (.int 0) := Arv.start hfit A_LOWER_ROMAN_first_value L_LOWER_ROMAN_first_value.1 L_LOWER_ROMAN_first_value.2 (by decide) rfl ⟨G_LOWER_ROMAN_first_value_0, trivial⟩
 have V_UPPER_ROMAN_first_value : Arv s s.heap w_UPPER_ROMAN_first_value cl_UPPER_ROMAN_first_value.cls .byte (1 : Int32) [(.int 73)] (.int 0) := Arv.start hfit A_UPPER_ROMAN_first_value L_UPPER_ROMAN_first_value.1 L_UPPER_ROMAN_first_value.2 (by decide) rfl ⟨G_UPPER_ROMAN_first_value_0, trivial⟩
 have hEL : EW s _ consts_1 := (EW.cons (hw _ (List.mem_of_getElem? (i := 21) rfl)) (by decide) EW.nil)
 have hCH0 : CHv s consts_1 s.vm s.heap := CHv.start hEL (fun p hp => hcalls.1 p hp) (hsets _ (List.mem_of_getElem? (i := 2) rfl)) (hw _ (List.mem_of_getElem? (i := 22) rfl)) (hw _ (List.mem_of_getElem? (i := 9) rfl))
 obtain ⟨n, o, h1, h2, h3, _, L, rfl, ⟨rfl, N⟩, hq⟩ := rm0 l s _ hw tables_1 i0 i1 i2 i3 w_STYLES w_NUMBER w_NUMBER_first w_NUMBER_first_value w_LOWER_LETTER w_LOWER_LETTER_first w_LOWER_LETTER_first_value w_UPPER_LETTER w_UPPER_LETTER_first w_UPPER_LETTER_first_value w_LOWER_ROMAN w_LOWER_ROMAN_first w_LOWER_ROMAN_first_value w_UPPER_ROMAN w_UPPER_ROMAN_first w_UPPER_ROMAN_first_value w_COMPACT_STRINGS cl_STYLES.cls cl_NUMBER_first_value.cls cl_LOWER_LETTER_first_value.cls cl_UPPER_LETTER_first_value.cls cl_LOWER_ROMAN_first_value.cls cl_UPPER_ROMAN_first_value.cls s.heap s.heap.size (Nat.le_refl _) hEL S_STYLES S_NUMBER E_NUMBER F_NUMBER_first E_NUMBER_first F_NUMBER_first_value S_LOWER_LETTER E_LOWER_LETTER F_LOWER_LETTER_first E_LOWER_LETTER_first F_LOWER_LETTER_first_value S_UPPER_LETTER E_UPPER_LETTER F_UPPER_LETTER_first E_UPPER_LETTER_first F_UPPER_LETTER_first_value S_LOWER_ROMAN E_LOWER_ROMAN F_LOWER_ROMAN_first E_LOWER_ROMAN_first F_LOWER_ROMAN_first_value S_UPPER_ROMAN E_UPPER_ROMAN F_UPPER_ROMAN_first E_UPPER_ROMAN_first F_UPPER_ROMAN_first_value S_COMPACT_STRINGS F_NUMBER_first_coder F_LOWER_LETTER_first_coder F_UPPER_LETTER_first_coder F_LOWER_ROMAN_first_coder F_UPPER_ROMAN_first_coder N_COMPACT_STRINGS V_STYLES V_NUMBER_first_value V_LOWER_LETTER_first_value V_UPPER_LETTER_first_value V_LOWER_ROMAN_first_value V_UPPER_ROMAN_first_value p e ha hc hk s m _ below hf ((Spec.applies_iff_loose hf).mp happ).1 ⟨rfl, State.Warmed39.refl s, rfl, hCH0⟩ trivial
 refine ⟨n, _, h1, h2, h3, hpost _ _ _ _ _ _ ⟨Cond.after_iff.mpr rfl, Cond.after_iff.mpr (eq_i res_at (Term.int_eval (1)) rfl), trivial⟩ ⟨hq.1, hq.2.1, hq.2.2.1, (hq.2.2.2.sift fun y hy => Or.inr (N y hy)).mono (by decide) (by decide)⟩⟩
theorem main_1_1 : Claimed_1_1 := comes_1 fun _ _ _ _ _ _ h hF => ⟨h.1, hF⟩
theorem main_1_2 : Claimed_1_2 := comes_1 fun _ _ _ _ _ _ h hF => ⟨h.2.1, hF⟩
end Jvm.Pilot.@@N@@
namespace Jvm.Pilot.@@N@@
open Jvm Jvm.ClassFile Sem Op Lib Jvm.Free Jvm.Stand Jvm.Pilot.@@N@@.Jvm.D
/-! MADE BY PROGRAM (witnessworld.py) out of the Statement's table words and the real class files: 22 classes; the members and pool entries that the words name. The judged class is class 1, her method 3. -/
namespace start1
open Jvm.ClassFile
def u (s : String) : CpInfo := .utf8 (stringToUtf16 s)
/-- a pool by its gaps: so many unusable entries, then the entry; so many at the end -/
def gap : Nat → List CpInfo → List CpInfo
  | 0, r => r
  | n + 1, r => .unusable :: gap n r
def poolList (es : List (Nat × CpInfo)) (last : Nat) : List CpInfo := es.foldr (fun e r => gap e.1 (e.2 :: r)) (gap last [])
def pool (es : List (Nat × CpInfo)) (last : Nat) : Array CpInfo := ⟨poolList es last⟩
def fileOf (pool : Array CpInfo) (this : Nat) (attrs : Array Attribute := #[]) (ms : Array MethodInfo := #[]) (fl : Nat := 33) (sup : Nat := 0) (ifs : Array Nat := #[]) (fds : Array FieldInfo := #[]) : ClassFile where
  minorVersion := 0
  majorVersion := 65
  constantPool := pool
  accessFlags := fl
  thisClass := this
  superClass := sup
  interfaces := ifs
  fields := fds
  methods := ms
  attributes := attrs
def plain (name : String) (sup : Option ClassId) : Class where
  name := name
  kind := .ordinary
  loader := none
  accessFlags := 33
  super := sup
  interfaces := #[]
  cf := none
  fields := #[]
  methods := #[]
  instanceTypes := #[]
  staticTypes := #[]
  resolved := #[]
  callSites := []
  init := .initialized
  statics := none
  mirror := none

def pool0 : Array CpInfo := pool [(5, u "<init>"), (0, u "()V"), (1, .class_ 10), (1, u "java/lang/Object")] 113

def k0c0 : Code := { maxStack := 0, maxLocals := 1, code := object_method_1_code, exceptionTable := #[], attributes := #[] }
def k0m0 : Method := { name := "<init>", desc := "()V", sig := { parameters := [], returnType := none }, accessFlags := 1, code := some k0c0 }
/-- java/lang/Object -/
def k0 : Class := { plain "java/lang/Object" none with
  accessFlags := 33
  interfaces := #[]
  cf := some (fileOf pool0 8 #[] #[{ accessFlags := 1, nameIndex := 5, descriptorIndex := 6, attributes := #[] }] 33 0 #[] #[])
  fields := #[]
  methods := #[k0m0]
  instanceTypes := #[]
  staticTypes := #[]
  resolved := Array.replicate 124 none
  statics := none }

def pool1 : Array CpInfo := pool [(2, .class_ 4), (1, u "java/lang/Object"), (0, u "<init>"), (0, u "()V"), (0, .class_ 8), (0, u "java/lang/String"), (0, .methodref 7 10), (0, .nameAndType 5 11), (0, u "([C)V"), (0, .methodref 13 14), (0, .class_ 15), (0, .nameAndType 16 17), (0, u "com/example/restate/restate/MarkerStyleOpenedByPinLaw"), (0, u "draw"), (0, u "(I)C"), (0, .methodref 13 19), (0, .nameAndType 20 21), (0, u "text"), (0, u "(ICCC)Ljava/lang/String;"), (0, .fieldref 23 24), (0, .class_ 25), (0, .nameAndType 26 27), (0, u "com/example/restate/restate/MarkerStyle"), (0, u "NUMBER"), (0, u "Lcom/example/restate/restate/MarkerStyle;"), (0, .fieldref 23 29), (0, .nameAndType 30 27), (0, u "LOWER_LETTER"), (0, .fieldref 23 32), (0, .nameAndType 33 27), (0, u "UPPER_LETTER"), (0, .fieldref 23 35), (0, .nameAndType 36 27), (0, u "LOWER_ROMAN"), (0, .fieldref 23 38), (0, .nameAndType 39 27), (0, u "UPPER_ROMAN"), (0, .methodref 23 41), (0, .nameAndType 42 43), (0, u "openedBy"), (0, u "(Ljava/lang/String;)Lcom/example/restate/restate/MarkerStyle;"), (5, u "law"), (0, u "(IIII)Z")] 2

def k1m0 : Method := { name := "<init>", desc := "()V", sig := { parameters := [], returnType := none }, accessFlags := 1, code := none }
def k1c1 : Code := { maxStack := 4, maxLocals := 2, code := method_2_code, exceptionTable := #[], attributes := #[] }
def k1m1 : Method := { name := "draw", desc := "(I)C", sig := { parameters := [.int], returnType := some .char }, accessFlags := 10, code := some k1c1 }
def k1c2 : Code := { maxStack := 6, maxLocals := 4, code := method_3_code, exceptionTable := #[], attributes := #[] }
def k1m2 : Method := { name := "text", desc := "(ICCC)Ljava/lang/String;", sig := { parameters := [.int, .char, .char, .char], returnType := some (.object "java/lang/String") }, accessFlags := 10, code := some k1c2 }
def k1c3 : Code := { maxStack := 4, maxLocals := 11, code := code, exceptionTable := #[], attributes := #[] }
def k1m3 : Method := { name := "law", desc := "(IIII)Z", sig := { parameters := [.int, .int, .int, .int], returnType := some .boolean }, accessFlags := 9, code := some k1c3 }
/-- com/example/restate/restate/MarkerStyleOpenedByPinLaw -/
def k1 : Class := { plain "com/example/restate/restate/MarkerStyleOpenedByPinLaw" (some 0) with
  accessFlags := 49
  interfaces := #[]
  cf := some (fileOf pool1 13 #[] #[{ accessFlags := 1, nameIndex := 5, descriptorIndex := 6, attributes := #[] }, { accessFlags := 10, nameIndex := 16, descriptorIndex := 17, attributes := #[] }, { accessFlags := 10, nameIndex := 20, descriptorIndex := 21, attributes := #[] }, { accessFlags := 9, nameIndex := 49, descriptorIndex := 50, attributes := #[] }] 49 2 #[] #[])
  fields := #[]
  methods := #[k1m0, k1m1, k1m2, k1m3]
  instanceTypes := #[]
  staticTypes := #[]
  resolved := Array.replicate 53 none
  statics := none }

def pool2 : Array CpInfo := pool [(1, .class_ 2), (0, u "java/io/Serializable"), (0, .class_ 4), (0, u "java/lang/Object")] 2

/-- java/io/Serializable -/
def k2 : Class := { plain "java/io/Serializable" (some 0) with
  accessFlags := 1537
  interfaces := #[]
  cf := some (fileOf pool2 1 #[] #[] 1537 3 #[] #[])
  fields := #[]
  methods := #[]
  instanceTypes := #[]
  staticTypes := #[]
  resolved := Array.replicate 7 none
  statics := none }

def pool3 : Array CpInfo := pool [(1, .class_ 2), (0, u "java/lang/Comparable"), (0, .class_ 4), (0, u "java/lang/Object")] 7

/-- java/lang/Comparable -/
def k3 : Class := { plain "java/lang/Comparable" (some 0) with
  accessFlags := 1537
  interfaces := #[]
  cf := some (fileOf pool3 1 #[] #[] 1537 3 #[] #[])
  fields := #[]
  methods := #[]
  instanceTypes := #[]
  staticTypes := #[]
  resolved := Array.replicate 12 none
  statics := none }

def pool4 : Array CpInfo := pool [(2, .class_ 4), (1, u "java/lang/CharSequence"), (42, .class_ 48), (0, u "java/lang/CharSequence$1CodePointIterator"), (10, .class_ 60), (0, u "java/lang/CharSequence$1CharIterator"), (5, .class_ 67), (0, u "java/lang/Object")] 63

/-- java/lang/CharSequence -/
def k4 : Class := { plain "java/lang/CharSequence" (some 0) with
  accessFlags := 1537
  interfaces := #[]
  cf := some (fileOf pool4 2 #[.nestMembers #[47, 59]] #[] 1537 66 #[] #[])
  fields := #[]
  methods := #[]
  instanceTypes := #[]
  staticTypes := #[]
  resolved := Array.replicate 131 none
  statics := none }

def pool5 : Array CpInfo := pool [(1, .class_ 2), (0, u "java/lang/constant/Constable"), (0, .class_ 4), (0, u "java/lang/Object")] 6

/-- java/lang/constant/Constable -/
def k5 : Class := { plain "java/lang/constant/Constable" (some 0) with
  accessFlags := 1537
  interfaces := #[]
  cf := some (fileOf pool5 1 #[] #[] 1537 3 #[] #[])
  fields := #[]
  methods := #[]
  instanceTypes := #[]
  staticTypes := #[]
  resolved := Array.replicate 11 none
  statics := none }

def pool6 : Array CpInfo := pool [(1, .class_ 2), (0, u "java/lang/constant/ConstantDesc"), (0, .class_ 4), (0, u "java/lang/Object")] 32

/-- java/lang/constant/ConstantDesc -/
def k6 : Class := { plain "java/lang/constant/ConstantDesc" (some 0) with
  accessFlags := 1537
  interfaces := #[]
  cf := some (fileOf pool6 1 #[] #[] 1537 3 #[] #[])
  fields := #[]
  methods := #[]
  instanceTypes := #[]
  staticTypes := #[]
  resolved := Array.replicate 37 none
  statics := none }

def pool7 : Array CpInfo := pool [(1, .methodref 2 3), (0, .class_ 4), (0, .nameAndType 5 6), (0, u "java/lang/Object"), (0, u "<init>"), (0, u "()V"), (0, .string 8), (0, u ""), (0, .fieldref 10 11), (0, .class_ 12), (0, .nameAndType 13 14), (0, u "java/lang/String"), (0, u "value"), (0, u "[B"), (0, .fieldref 10 16), (0, .nameAndType 17 18), (0, u "coder"), (0, u "B"), (2, u "hash"), (0, u "I"), (2, u "hashIsZero"), (0, u "Z"), (0, .methodref 10 28), (0, .nameAndType 5 29), (0, u "([CIILjava/lang/Void;)V"), (8, .fieldref 10 39), (0, .nameAndType 40 26), (0, u "COMPACT_STRINGS"), (1, .class_ 44), (1, u "java/lang/StringUTF16"), (0, u "compress"), (1, .methodref 42 48), (0, .nameAndType 49 50), (0, u "coderFromArrayLen"), (0, u "([BI)B"), (56, .class_ 109), (1, u "java/lang/StringLatin1"), (67, .methodref 42 178), (0, .nameAndType 45 179), (0, u "([CII)[B"), (361, .methodref 107 542), (0, .nameAndType 543 544), (0, u "equals"), (0, u "([B[B)Z"), (28, u "(Ljava/lang/Object;)Z"), (1, .class_ 576), (0, u "java/lang/CharSequence"), (22, u "CASE_INSENSITIVE_ORDER"), (0, u "Ljava/util/Comparator;"), (409, u "([C)V"), (90, u "serialPersistentFields"), (0, u "[Ljava/io/ObjectStreamField;"), (0, .class_ 1104), (0, u "java/lang/String$CaseInsensitiveComparator"), (1, .class_ 1107), (0, u "java/io/Serializable"), (0, .class_ 1109), (0, u "java/lang/Comparable"), (0, .class_ 1111), (0, u "java/lang/constant/Constable"), (0, .class_ 1113), (0, u "java/lang/constant/ConstantDesc"), (2, u "serialVersionUID"), (0, u "J"), (3, u "REPL"), (0, u "C"), (2, u "LATIN1"), (1, u "UTF16")] 323

def k7m0 : Method := { name := "<init>", desc := "()V", sig := { parameters := [], returnType := none }, accessFlags := 1, code := none }
def k7c1 : Code := { maxStack := 5, maxLocals := 2, code := jdk_42_method_3_code, exceptionTable := #[], attributes := #[] }
def k7m1 : Method := { name := "<init>", desc := "([C)V", sig := { parameters := [(.array .char)], returnType := none }, accessFlags := 1, code := some k7c1 }
def k7c2 : Code := { maxStack := 2, maxLocals := 3, code := jdk_42_method_66_code, exceptionTable := #[], attributes := #[] }
def k7m2 : Method := { name := "equals", desc := "(Ljava/lang/Object;)Z", sig := { parameters := [(.object "java/lang/Object")], returnType := some .boolean }, accessFlags := 1, code := some k7c2 }
def k7c3 : Code := { maxStack := 4, maxLocals := 6, code := jdk_42_method_149_code, exceptionTable := #[], attributes := #[] }
def k7m3 : Method := { name := "<init>", desc := "([CIILjava/lang/Void;)V", sig := { parameters := [(.array .char), .int, .int, (.object "java/lang/Void")], returnType := none }, accessFlags := 2, code := some k7c3 }
/-- java/lang/String -/
def k7 : Class := { plain "java/lang/String" (some 0) with
  accessFlags := 49
  interfaces := #[2, 3, 4, 5, 6]
  cf := some (fileOf pool7 10 #[.nestMembers #[1103]] #[{ accessFlags := 1, nameIndex := 5, descriptorIndex := 6, attributes := #[] }, { accessFlags := 1, nameIndex := 5, descriptorIndex := 1010, attributes := #[] }, { accessFlags := 1, nameIndex := 543, descriptorIndex := 573, attributes := #[] }, { accessFlags := 2, nameIndex := 5, descriptorIndex := 29, attributes := #[] }] 49 2 #[1106, 1108, 575, 1110, 1112] #[{ accessFlags := 18, nameIndex := 13, descriptorIndex := 14, attributes := #[] }, { accessFlags := 18, nameIndex := 17, descriptorIndex := 18, attributes := #[] }, { accessFlags := 2, nameIndex := 21, descriptorIndex := 22, attributes := #[] }, { accessFlags := 2, nameIndex := 25, descriptorIndex := 26, attributes := #[] }, { accessFlags := 26, nameIndex := 1116, descriptorIndex := 1117, attributes := #[] }, { accessFlags := 24, nameIndex := 40, descriptorIndex := 26, attributes := #[] }, { accessFlags := 26, nameIndex := 1101, descriptorIndex := 1102, attributes := #[] }, { accessFlags := 26, nameIndex := 1121, descriptorIndex := 1122, attributes := #[] }, { accessFlags := 25, nameIndex := 599, descriptorIndex := 600, attributes := #[] }, { accessFlags := 24, nameIndex := 1125, descriptorIndex := 18, attributes := #[] }, { accessFlags := 24, nameIndex := 1127, descriptorIndex := 18, attributes := #[] }])
  fields := #[{ name := "value", type := (.array .byte), accessFlags := 18, slot := 0, constantValue := 0 }, { name := "coder", type := .byte, accessFlags := 18, slot := 1, constantValue := 0 }, { name := "hash", type := .int, accessFlags := 2, slot := 2, constantValue := 0 }, { name := "hashIsZero", type := .boolean, accessFlags := 2, slot := 3, constantValue := 0 }, { name := "serialVersionUID", type := .long, accessFlags := 26, slot := 0, constantValue := 0 }, { name := "COMPACT_STRINGS", type := .boolean, accessFlags := 24, slot := 1, constantValue := 0 }, { name := "serialPersistentFields", type := (.array (.object "java/io/ObjectStreamField")), accessFlags := 26, slot := 2, constantValue := 0 }, { name := "REPL", type := .char, accessFlags := 26, slot := 3, constantValue := 0 }, { name := "CASE_INSENSITIVE_ORDER", type := (.object "java/util/Comparator"), accessFlags := 25, slot := 4, constantValue := 0 }, { name := "LATIN1", type := .byte, accessFlags := 24, slot := 5, constantValue := 0 }, { name := "UTF16", type := .byte, accessFlags := 24, slot := 6, constantValue := 0 }]
  methods := #[k7m0, k7m1, k7m2, k7m3]
  instanceTypes := #[(.array .byte), .byte, .int, .boolean]
  staticTypes := #[.long, .boolean, (.array (.object "java/io/ObjectStreamField")), .char, (.object "java/util/Comparator"), .byte, .byte]
  resolved := Array.replicate 1451 none
  statics := some 0 }

def pool8 : Array CpInfo := pool [(2, .class_ 4), (1, u "java/lang/Enum"), (0, u "name"), (0, u "Ljava/lang/String;"), (2, u "ordinal"), (0, u "I"), (1, .class_ 14), (1, u "java/lang/Object"), (4, u "hash"), (86, .class_ 108), (1, u "java/lang/Enum$EnumDesc"), (2, .class_ 112), (0, u "java/lang/constant/Constable"), (0, .class_ 114), (0, u "java/lang/Comparable"), (0, .class_ 116), (0, u "java/io/Serializable")] 87

/-- java/lang/Enum -/
def k8 : Class := { plain "java/lang/Enum" (some 0) with
  accessFlags := 1057
  interfaces := #[5, 3, 2]
  cf := some (fileOf pool8 2 #[.nestMembers #[106]] #[] 1057 12 #[111, 113, 115] #[{ accessFlags := 18, nameIndex := 5, descriptorIndex := 6, attributes := #[] }, { accessFlags := 18, nameIndex := 9, descriptorIndex := 10, attributes := #[] }, { accessFlags := 2, nameIndex := 19, descriptorIndex := 10, attributes := #[] }])
  fields := #[{ name := "name", type := (.object "java/lang/String"), accessFlags := 18, slot := 0, constantValue := 0 }, { name := "ordinal", type := .int, accessFlags := 18, slot := 1, constantValue := 0 }, { name := "hash", type := .int, accessFlags := 2, slot := 2, constantValue := 0 }]
  methods := #[]
  instanceTypes := #[(.object "java/lang/String"), .int, .int]
  staticTypes := #[]
  resolved := Array.replicate 204 none
  statics := none }

def pool9 : Array CpInfo := pool [(1, .class_ 2), (0, u "com/example/restate/restate/MarkerStyle"), (2, u "NUMBER"), (0, u "Lcom/example/restate/restate/MarkerStyle;"), (2, u "LOWER_LETTER"), (2, u "UPPER_LETTER"), (2, u "LOWER_ROMAN"), (2, u "UPPER_ROMAN"), (2, u "$VALUES"), (0, u "[Lcom/example/restate/restate/MarkerStyle;"), (6, .class_ 31), (1, u "java/lang/Enum"), (6, .fieldref 1 39), (0, .nameAndType 40 41), (0, u "first"), (0, u "Ljava/lang/String;"), (0, .fieldref 1 43), (0, .nameAndType 44 22), (0, u "STYLES"), (0, .methodref 46 47), (0, .class_ 48), (0, .nameAndType 49 50), (0, u "java/lang/String"), (0, u "equals"), (0, u "(Ljava/lang/Object;)Z"), (121, u "(Ljava/lang/String;)Lcom/example/restate/restate/MarkerStyle;"), (4, u "openedBy")] 22

def k9c0 : Code := { maxStack := 2, maxLocals := 5, code := prog_61_method_5_code, exceptionTable := #[], attributes := #[] }
def k9m0 : Method := { name := "openedBy", desc := "(Ljava/lang/String;)Lcom/example/restate/restate/MarkerStyle;", sig := { parameters := [(.object "java/lang/String")], returnType := some (.object "com/example/restate/restate/MarkerStyle") }, accessFlags := 8, code := some k9c0 }
/-- com/example/restate/restate/MarkerStyle -/
def k9 : Class := { plain "com/example/restate/restate/MarkerStyle" (some 8) with
  accessFlags := 16432
  interfaces := #[]
  cf := some (fileOf pool9 1 #[] #[{ accessFlags := 8, nameIndex := 177, descriptorIndex := 172, attributes := #[] }] 16432 29 #[] #[{ accessFlags := 16409, nameIndex := 5, descriptorIndex := 6, attributes := #[] }, { accessFlags := 16409, nameIndex := 9, descriptorIndex := 6, attributes := #[] }, { accessFlags := 16409, nameIndex := 12, descriptorIndex := 6, attributes := #[] }, { accessFlags := 16409, nameIndex := 15, descriptorIndex := 6, attributes := #[] }, { accessFlags := 16409, nameIndex := 18, descriptorIndex := 6, attributes := #[] }, { accessFlags := 26, nameIndex := 44, descriptorIndex := 22, attributes := #[] }, { accessFlags := 18, nameIndex := 40, descriptorIndex := 41, attributes := #[] }, { accessFlags := 4122, nameIndex := 21, descriptorIndex := 22, attributes := #[] }])
  fields := #[{ name := "NUMBER", type := (.object "com/example/restate/restate/MarkerStyle"), accessFlags := 16409, slot := 0, constantValue := 0 }, { name := "LOWER_LETTER", type := (.object "com/example/restate/restate/MarkerStyle"), accessFlags := 16409, slot := 1, constantValue := 0 }, { name := "UPPER_LETTER", type := (.object "com/example/restate/restate/MarkerStyle"), accessFlags := 16409, slot := 2, constantValue := 0 }, { name := "LOWER_ROMAN", type := (.object "com/example/restate/restate/MarkerStyle"), accessFlags := 16409, slot := 3, constantValue := 0 }, { name := "UPPER_ROMAN", type := (.object "com/example/restate/restate/MarkerStyle"), accessFlags := 16409, slot := 4, constantValue := 0 }, { name := "STYLES", type := (.array (.object "com/example/restate/restate/MarkerStyle")), accessFlags := 26, slot := 5, constantValue := 0 }, { name := "first", type := (.object "java/lang/String"), accessFlags := 18, slot := 3, constantValue := 0 }, { name := "$VALUES", type := (.array (.object "com/example/restate/restate/MarkerStyle")), accessFlags := 4122, slot := 6, constantValue := 0 }]
  methods := #[k9m0]
  instanceTypes := #[(.object "java/lang/String"), .int, .int, (.object "java/lang/String")]
  staticTypes := #[(.object "com/example/restate/restate/MarkerStyle"), (.object "com/example/restate/restate/MarkerStyle"), (.object "com/example/restate/restate/MarkerStyle"), (.object "com/example/restate/restate/MarkerStyle"), (.object "com/example/restate/restate/MarkerStyle"), (.array (.object "com/example/restate/restate/MarkerStyle")), (.array (.object "com/example/restate/restate/MarkerStyle"))]
  resolved := Array.replicate 200 none
  statics := some 1 }

def pool10 : Array CpInfo := pool [(4, .class_ 6), (1, u "java/lang/Object"), (0, u "<init>"), (0, u "()V"), (5, .class_ 16), (1, u "java/lang/StringLatin1"), (104, u "$assertionsDisabled"), (0, u "Z"), (98, .class_ 223), (1, u "java/lang/StringLatin1$LinesSpliterator"), (57, u "equals"), (0, u "([B[B)Z"), (107, .class_ 391), (0, u "java/lang/StringLatin1$CharsSpliterator")] 3

def k10m0 : Method := { name := "<init>", desc := "()V", sig := { parameters := [], returnType := none }, accessFlags := 0, code := none }
def k10c1 : Code := { maxStack := 3, maxLocals := 3, code := jdk_43_method_13_code, exceptionTable := #[], attributes := #[] }
def k10m1 : Method := { name := "equals", desc := "([B[B)Z", sig := { parameters := [(.array .byte), (.array .byte)], returnType := some .boolean }, accessFlags := 9, code := some k10c1 }
/-- java/lang/StringLatin1 -/
def k10 : Class := { plain "java/lang/StringLatin1" (some 0) with
  accessFlags := 48
  interfaces := #[]
  cf := some (fileOf pool10 14 #[.nestMembers #[390, 221]] #[{ accessFlags := 0, nameIndex := 7, descriptorIndex := 8, attributes := #[] }, { accessFlags := 9, nameIndex := 281, descriptorIndex := 282, attributes := #[] }] 48 4 #[] #[{ accessFlags := 4120, nameIndex := 121, descriptorIndex := 122, attributes := #[] }])
  fields := #[{ name := "$assertionsDisabled", type := .boolean, accessFlags := 4120, slot := 0, constantValue := 0 }]
  methods := #[k10m0, k10m1]
  instanceTypes := #[]
  staticTypes := #[.boolean]
  resolved := Array.replicate 395 none
  statics := none }

def pool11 : Array CpInfo := pool [(6, .class_ 8), (1, u "java/lang/Object"), (0, u "<init>"), (0, u "()V"), (1, .class_ 14), (1, u "java/lang/StringUTF16"), (31, u "$assertionsDisabled"), (0, u "Z"), (13, u "HI_BYTE_SHIFT"), (0, u "I"), (2, u "LO_BYTE_SHIFT"), (49, .methodref 12 116), (0, .nameAndType 117 118), (0, u "compress"), (0, u "([CI[BII)I"), (3, u "([CII)[B"), (138, u "coderFromArrayLen"), (0, u "([BI)B"), (106, .class_ 371), (1, u "java/lang/StringUTF16$LinesSpliterator"), (58, u "MAX_LENGTH"), (196, .class_ 628), (0, u "java/lang/StringUTF16$CodePointsSpliterator"), (0, .class_ 630), (0, u "java/lang/StringUTF16$CharsSpliterator")] 4

def k11m0 : Method := { name := "<init>", desc := "()V", sig := { parameters := [], returnType := none }, accessFlags := 0, code := none }
def k11c1 : Code := { maxStack := 2, maxLocals := 2, code := jdk_52_method_15_code, exceptionTable := #[], attributes := #[] }
def k11m1 : Method := { name := "coderFromArrayLen", desc := "([BI)B", sig := { parameters := [(.array .byte), .int], returnType := some .byte }, accessFlags := 8, code := some k11c1 }
def k11c2 : Code := { maxStack := 5, maxLocals := 6, code := jdk_52_method_16_code, exceptionTable := #[], attributes := #[] }
def k11m2 : Method := { name := "compress", desc := "([CII)[B", sig := { parameters := [(.array .char), .int, .int], returnType := some (.array .byte) }, accessFlags := 9, code := some k11c2 }
def k11c3 : Code := { maxStack := 3, maxLocals := 7, code := jdk_52_method_21_code, exceptionTable := #[], attributes := #[] }
def k11m3 : Method := { name := "compress", desc := "([CI[BII)I", sig := { parameters := [(.array .char), .int, (.array .byte), .int, .int], returnType := some .int }, accessFlags := 9, code := some k11c3 }
/-- java/lang/StringUTF16 -/
def k11 : Class := { plain "java/lang/StringUTF16" (some 0) with
  accessFlags := 48
  interfaces := #[]
  cf := some (fileOf pool11 12 #[.nestMembers #[627, 629, 369]] #[{ accessFlags := 0, nameIndex := 9, descriptorIndex := 10, attributes := #[] }, { accessFlags := 8, nameIndex := 261, descriptorIndex := 262, attributes := #[] }, { accessFlags := 9, nameIndex := 117, descriptorIndex := 122, attributes := #[] }, { accessFlags := 9, nameIndex := 117, descriptorIndex := 118, attributes := #[] }] 48 6 #[] #[{ accessFlags := 26, nameIndex := 61, descriptorIndex := 62, attributes := #[] }, { accessFlags := 26, nameIndex := 65, descriptorIndex := 62, attributes := #[] }, { accessFlags := 24, nameIndex := 430, descriptorIndex := 62, attributes := #[] }, { accessFlags := 4120, nameIndex := 46, descriptorIndex := 47, attributes := #[] }])
  fields := #[{ name := "HI_BYTE_SHIFT", type := .int, accessFlags := 26, slot := 0, constantValue := 0 }, { name := "LO_BYTE_SHIFT", type := .int, accessFlags := 26, slot := 1, constantValue := 0 }, { name := "MAX_LENGTH", type := .int, accessFlags := 24, slot := 2, constantValue := 0 }, { name := "$assertionsDisabled", type := .boolean, accessFlags := 4120, slot := 3, constantValue := 0 }]
  methods := #[k11m0, k11m1, k11m2, k11m3]
  instanceTypes := #[]
  staticTypes := #[.int, .int, .int, .boolean]
  resolved := Array.replicate 635 none
  statics := none }

def pool12 : Array CpInfo := pool [(2, .class_ 4), (1, u "java/lang/Object"), (0, u "<init>"), (0, u "()V"), (17, .class_ 26), (1, u "jdk/internal/util/Preconditions"), (28, .class_ 56), (0, u "jdk/internal/util/Preconditions$4"), (57, .class_ 115), (0, u "jdk/internal/util/Preconditions$1"), (7, u "SIOOBE_FORMATTER"), (0, u "Ljava/util/function/BiFunction;"), (0, .class_ 126), (0, u "jdk/internal/util/Preconditions$2"), (3, u "AIOOBE_FORMATTER"), (0, .class_ 132), (0, u "jdk/internal/util/Preconditions$3"), (3, u "IOOBE_FORMATTER")] 57

def k12m0 : Method := { name := "<init>", desc := "()V", sig := { parameters := [], returnType := none }, accessFlags := 1, code := none }
/-- jdk/internal/util/Preconditions -/
def k12 : Class := { plain "jdk/internal/util/Preconditions" (some 0) with
  accessFlags := 33
  interfaces := #[]
  cf := some (fileOf pool12 24 #[.nestMembers #[55, 131, 125, 114]] #[{ accessFlags := 1, nameIndex := 5, descriptorIndex := 6, attributes := #[] }] 33 2 #[] #[{ accessFlags := 25, nameIndex := 123, descriptorIndex := 124, attributes := #[] }, { accessFlags := 25, nameIndex := 130, descriptorIndex := 124, attributes := #[] }, { accessFlags := 25, nameIndex := 136, descriptorIndex := 124, attributes := #[] }])
  fields := #[{ name := "SIOOBE_FORMATTER", type := (.object "java/util/function/BiFunction"), accessFlags := 25, slot := 0, constantValue := 0 }, { name := "AIOOBE_FORMATTER", type := (.object "java/util/function/BiFunction"), accessFlags := 25, slot := 1, constantValue := 0 }, { name := "IOOBE_FORMATTER", type := (.object "java/util/function/BiFunction"), accessFlags := 25, slot := 2, constantValue := 0 }]
  methods := #[k12m0]
  instanceTypes := #[]
  staticTypes := #[(.object "java/util/function/BiFunction"), (.object "java/util/function/BiFunction"), (.object "java/util/function/BiFunction")]
  resolved := Array.replicate 194 none
  statics := some 2 }

def pool13 : Array CpInfo := pool [(9, u "<init>"), (6, .class_ 18), (1, u "java/lang/Object"), (0, u "()V"), (1, .class_ 23), (1, u "jdk/internal/util/ArraysSupport"), (0, u "LOG2_ARRAY_LONG_INDEX_SCALE"), (0, u "I"), (2, u "U"), (0, u "Ljdk/internal/misc/Unsafe;"), (8, u "BIG_ENDIAN"), (0, u "Z"), (8, u "LOG2_BYTE_BIT_SIZE"), (4, u "LOG2_ARRAY_INT_INDEX_SCALE"), (54, u "JLA"), (0, u "Ljdk/internal/access/JavaLangAccess;"), (11, u "LOG2_ARRAY_BOOLEAN_INDEX_SCALE"), (9, u "LOG2_ARRAY_BYTE_INDEX_SCALE"), (5, u "LOG2_ARRAY_CHAR_INDEX_SCALE"), (5, u "LOG2_ARRAY_SHORT_INDEX_SCALE"), (18, u "LOG2_ARRAY_FLOAT_INDEX_SCALE"), (24, u "LOG2_ARRAY_DOUBLE_INDEX_SCALE"), (89, u "T_BOOLEAN"), (2, u "T_CHAR"), (1, u "T_FLOAT"), (1, u "T_DOUBLE"), (1, u "T_BYTE"), (1, u "T_SHORT"), (1, u "T_INT"), (1, u "T_LONG"), (1, u "SOFT_MAX_ARRAY_LENGTH")] 83

def k13m0 : Method := { name := "<init>", desc := "()V", sig := { parameters := [], returnType := none }, accessFlags := 2, code := none }
/-- jdk/internal/util/ArraysSupport -/
def k13 : Class := { plain "jdk/internal/util/ArraysSupport" (some 0) with
  accessFlags := 33
  interfaces := #[]
  cf := some (fileOf pool13 21 #[] #[{ accessFlags := 2, nameIndex := 9, descriptorIndex := 19, attributes := #[] }] 33 16 #[] #[{ accessFlags := 24, nameIndex := 28, descriptorIndex := 29, attributes := #[] }, { accessFlags := 26, nameIndex := 38, descriptorIndex := 39, attributes := #[] }, { accessFlags := 25, nameIndex := 121, descriptorIndex := 25, attributes := #[] }, { accessFlags := 25, nameIndex := 131, descriptorIndex := 25, attributes := #[] }, { accessFlags := 25, nameIndex := 137, descriptorIndex := 25, attributes := #[] }, { accessFlags := 25, nameIndex := 143, descriptorIndex := 25, attributes := #[] }, { accessFlags := 25, nameIndex := 53, descriptorIndex := 25, attributes := #[] }, { accessFlags := 25, nameIndex := 24, descriptorIndex := 25, attributes := #[] }, { accessFlags := 25, nameIndex := 162, descriptorIndex := 25, attributes := #[] }, { accessFlags := 25, nameIndex := 187, descriptorIndex := 25, attributes := #[] }, { accessFlags := 26, nameIndex := 48, descriptorIndex := 25, attributes := #[] }, { accessFlags := 25, nameIndex := 277, descriptorIndex := 25, attributes := #[] }, { accessFlags := 25, nameIndex := 280, descriptorIndex := 25, attributes := #[] }, { accessFlags := 25, nameIndex := 282, descriptorIndex := 25, attributes := #[] }, { accessFlags := 25, nameIndex := 284, descriptorIndex := 25, attributes := #[] }, { accessFlags := 25, nameIndex := 286, descriptorIndex := 25, attributes := #[] }, { accessFlags := 25, nameIndex := 288, descriptorIndex := 25, attributes := #[] }, { accessFlags := 25, nameIndex := 290, descriptorIndex := 25, attributes := #[] }, { accessFlags := 25, nameIndex := 292, descriptorIndex := 25, attributes := #[] }, { accessFlags := 26, nameIndex := 108, descriptorIndex := 109, attributes := #[] }, { accessFlags := 25, nameIndex := 294, descriptorIndex := 25, attributes := #[] }])
  fields := #[{ name := "U", type := (.object "jdk/internal/misc/Unsafe"), accessFlags := 24, slot := 0, constantValue := 0 }, { name := "BIG_ENDIAN", type := .boolean, accessFlags := 26, slot := 1, constantValue := 0 }, { name := "LOG2_ARRAY_BOOLEAN_INDEX_SCALE", type := .int, accessFlags := 25, slot := 2, constantValue := 0 }, { name := "LOG2_ARRAY_BYTE_INDEX_SCALE", type := .int, accessFlags := 25, slot := 3, constantValue := 0 }, { name := "LOG2_ARRAY_CHAR_INDEX_SCALE", type := .int, accessFlags := 25, slot := 4, constantValue := 0 }, { name := "LOG2_ARRAY_SHORT_INDEX_SCALE", type := .int, accessFlags := 25, slot := 5, constantValue := 0 }, { name := "LOG2_ARRAY_INT_INDEX_SCALE", type := .int, accessFlags := 25, slot := 6, constantValue := 0 }, { name := "LOG2_ARRAY_LONG_INDEX_SCALE", type := .int, accessFlags := 25, slot := 7, constantValue := 0 }, { name := "LOG2_ARRAY_FLOAT_INDEX_SCALE", type := .int, accessFlags := 25, slot := 8, constantValue := 0 }, { name := "LOG2_ARRAY_DOUBLE_INDEX_SCALE", type := .int, accessFlags := 25, slot := 9, constantValue := 0 }, { name := "LOG2_BYTE_BIT_SIZE", type := .int, accessFlags := 26, slot := 10, constantValue := 0 }, { name := "T_BOOLEAN", type := .int, accessFlags := 25, slot := 11, constantValue := 0 }, { name := "T_CHAR", type := .int, accessFlags := 25, slot := 12, constantValue := 0 }, { name := "T_FLOAT", type := .int, accessFlags := 25, slot := 13, constantValue := 0 }, { name := "T_DOUBLE", type := .int, accessFlags := 25, slot := 14, constantValue := 0 }, { name := "T_BYTE", type := .int, accessFlags := 25, slot := 15, constantValue := 0 }, { name := "T_SHORT", type := .int, accessFlags := 25, slot := 16, constantValue := 0 }, { name := "T_INT", type := .int, accessFlags := 25, slot := 17, constantValue := 0 }, { name := "T_LONG", type := .int, accessFlags := 25, slot := 18, constantValue := 0 }, { name := "JLA", type := (.object "jdk/internal/access/JavaLangAccess"), accessFlags := 26, slot := 19, constantValue := 0 }, { name := "SOFT_MAX_ARRAY_LENGTH", type := .int, accessFlags := 25, slot := 20, constantValue := 0 }]
  methods := #[k13m0]
  instanceTypes := #[]
  staticTypes := #[(.object "jdk/internal/misc/Unsafe"), .boolean, .int, .int, .int, .int, .int, .int, .int, .int, .int, .int, .int, .int, .int, .int, .int, .int, .int, (.object "jdk/internal/access/JavaLangAccess"), .int]
  resolved := Array.replicate 378 none
  statics := none }

def pool14 : Array CpInfo := pool [(1, u "java/lang/Cloneable"), (0, .class_ 1), (0, u "java/lang/Object"), (0, .class_ 3)] 3

/-- java/lang/Cloneable -/
def k14 : Class := { plain "java/lang/Cloneable" (some 0) with
  accessFlags := 1537
  interfaces := #[]
  cf := some (fileOf pool14 2 #[] #[] 1537 4 #[] #[])
  fields := #[]
  methods := #[]
  instanceTypes := #[]
  staticTypes := #[]
  resolved := Array.replicate 8 none
  statics := none }

/-- the primitive byte -/
def k15 : Class := { plain "byte" none with kind := .primitive 'B', accessFlags := 0x411 }
/-- [B -/
def k16 : Class := { plain "[B" (some 0) with kind := .array 15 .byte, interfaces := #[14, 2], accessFlags := 1041 }

/-- the primitive char -/
def k17 : Class := { plain "char" none with kind := .primitive 'C', accessFlags := 0x411 }
/-- [C -/
def k18 : Class := { plain "[C" (some 0) with kind := .array 17 .char, interfaces := #[14, 2], accessFlags := 1041 }

/-- the primitive int -/
def k19 : Class := { plain "int" none with kind := .primitive 'I', accessFlags := 0x411 }
/-- [I -/
def k20 : Class := { plain "[I" (some 0) with kind := .array 19 .int, interfaces := #[14, 2], accessFlags := 1041 }

/-- [Lcom/example/restate/restate/MarkerStyle; -/
def k21 : Class := { plain "[Lcom/example/restate/restate/MarkerStyle;" (some 0) with kind := .array 9 (.object "com/example/restate/restate/MarkerStyle"), interfaces := #[14, 2], accessFlags := 1041 }

def heap : Heap := #[{ cls := 7, slots := #[.long 0, .int 1, .null, .int 0, .null, .int 0, .int 0], vm := .statics 7 },
  { cls := 9, slots := #[.ref 4, .ref 5, .ref 6, .ref 7, .ref 8, .ref 3, .null], vm := .statics 9 },
  { cls := 12, slots := #[.null, .null, .null], vm := .statics 12 },
  { cls := 21, slots := #[.ref 4, .ref 5, .ref 6, .ref 7, .ref 8], vm := .none },
  { cls := 9, slots := #[.null, .int 0, .int 0, .ref 9], vm := .none },
  { cls := 9, slots := #[.null, .int 1, .int 0, .ref 10], vm := .none },
  { cls := 9, slots := #[.null, .int 2, .int 0, .ref 11], vm := .none },
  { cls := 9, slots := #[.null, .int 3, .int 0, .ref 12], vm := .none },
  { cls := 9, slots := #[.null, .int 4, .int 0, .ref 13], vm := .none },
  { cls := 7, slots := #[.ref 14, .int 0, .int 0, .int 0], vm := .none },
  { cls := 7, slots := #[.ref 15, .int 0, .int 0, .int 0], vm := .none },
  { cls := 7, slots := #[.ref 16, .int 0, .int 0, .int 0], vm := .none },
  { cls := 7, slots := #[.ref 17, .int 0, .int 0, .int 0], vm := .none },
  { cls := 7, slots := #[.ref 18, .int 0, .int 0, .int 0], vm := .none },
  { cls := 16, slots := #[.int 49], vm := .none },
  { cls := 16, slots := #[.int 97], vm := .none },
  { cls := 16, slots := #[.int 65], vm := .none },
  { cls := 16, slots := #[.int 105], vm := .none },
  { cls := 16, slots := #[.int 73], vm := .none }]
def classes : Array Class := #[k0, k1, k2, k3, k4, k5, k6, k7, k8, k9, k10, k11, k12, k13, k14, k15, k16, k17, k18, k19, k20, k21]
def interned : List (Array UInt16 × Addr) := []
def slotsUsed : Nat := 67
def theMethod : MethodId := ⟨1, 3⟩
def args0 : Array Value := #[.int 5, .int 7, .int 9, .int 1]
def aboutOver (below : List Frame) : State where
  vm := { classes := classes, interned := interned.toArray }
  heap := heap
  slotsUsed := slotsUsed
  threads := #[{ frames := .invoking theMethod args0 :: below }]
def below0 : List Frame := [.native { method := ⟨0, 0⟩, args := #[] }]
def about1 : State := aboutOver below0
def p0 : Program := .bare "" "" ""
def e0 : Env := launch0.env 0 0 0
theorem w_frames : about1.frames = Frame.invoking theMethod args0 :: below0 := rfl
set_option maxRecDepth 65536 in
theorem w_args : argsFit about1.vm theMethod args0 = true := by decide +kernel
set_option maxRecDepth 65536 in
theorem w_heap : heapFits about1 = true := by decide +kernel
set_option maxRecDepth 65536 in
theorem w_runnable : about1.curStatus? = some .runnable := by decide +kernel
set_option maxRecDepth 65536 in
theorem w_alone : about1.alone = true := by decide +kernel
set_option maxRecDepth 65536 in
theorem w_named : about1.methodNamed? x = some theMethod := by decide +kernel
set_option maxRecDepth 65536 in
theorem w_hears : about1.hears theMethod below0 = true := by decide +kernel
set_option maxRecDepth 65536 in
theorem w_ripe : about1.ripe theMethod args0 below0 = true := by decide +kernel
theorem w_running : about1.status = .running := rfl
set_option maxRecDepth 65536 in
theorem w_room : about1.hasRoom e0.platform room_1 = true :=
  launch0.hasRoom_least _ room_1 (by decide +kernel) (by decide +kernel) (by decide +kernel) (by decide +kernel) (by decide +kernel) (by decide +kernel)
theorem allAtoms_all (ts : List Jvm.Cond) (a : Array Jvm.Value) (st : Jvm.State) : (allAtoms ts).before a st = ts.all (fun c => c.before a st) := by
  induction ts with
  | nil => rfl
  | cons c t ih =>
    show (Jvm.Cond.and c (allAtoms t)).before a st = _
    rw [Jvm.Cond.before_and, ih, List.all_cons]
def words1 : List Jvm.Cond := Jvm.Cond.code x code maxLocals ret :: tables_1
/-- a 'code' word, met by the world's own term for the bytes: nothing is compared byte by byte -/
theorem code_word {y : MethodName} {bytes : ByteArray} {mx : Nat} {rt : Option FieldType} {a : Array Value} {s : State} {m : MethodId} {meth : Method} {c : Code} (h1 : s.methodNamed? y = some m) (h2 : s.vm.method? m = some meth) (h3 : meth.code = some c) (h4 : c.code = bytes)
    (h5 : (c.maxLocals == mx && c.exceptionTable.isEmpty && decide (c.maxStack ≤ mostOperands) && decide (meth.sig.returnType = rt) && !meth.locks && decide (parseMethodDescriptor y.desc = some meth.sig)) = true) : (Jvm.Cond.code y bytes mx rt).before a s = true := by
  simp only [Bool.and_eq_true, beq_iff_eq, Bool.not_eq_true', decide_eq_true_eq] at h5
  obtain ⟨⟨⟨⟨⟨g1, g2⟩, g3⟩, g4⟩, g5⟩, g6⟩ := h5
  simp [Cond.before, Cond.holds, Cond.value, h1, h2, h3, h4, g1, g2, g3, g4, g5, g6]
def isCode : Jvm.Cond → Bool
  | .code _ _ _ _ => true
  | _ => false
theorem all_split {L : List Jvm.Cond} {P : Jvm.Cond → Bool} (h1 : L.all (fun c => isCode c || P c) = true) (h2 : ∀ c ∈ L.filter isCode, P c = true) : L.all P = true := by
  refine List.all_eq_true.mpr fun c hc => ?_
  have h := List.all_eq_true.mp h1 c hc
  rcases Bool.eq_false_or_eq_true (isCode c) with hi | hi
  · exact h2 c (List.mem_filter.mpr ⟨hc, hi⟩)
  · simpa [hi] using h
set_option maxRecDepth 65536 in
theorem w_c0 : (Jvm.Cond.code x code maxLocals ret).before args0 about1 = true := code_word (m := ⟨1, 3⟩) (meth := k1m3) (c := k1c3) (by decide +kernel) rfl rfl rfl (by decide +kernel)
set_option maxRecDepth 65536 in
theorem w_c1 : (Jvm.Cond.code ({ cls := "com/example/restate/restate/MarkerStyleOpenedByPinLaw", name := "draw", desc := "(I)C" } : Jvm.MethodName) method_2_code (2 : Nat) (Option.some Jvm.ClassFile.FieldType.char)).before args0 about1 = true := code_word (m := ⟨1, 1⟩) (meth := k1m1) (c := k1c1) (by decide +kernel) rfl rfl rfl (by decide +kernel)
set_option maxRecDepth 65536 in
theorem w_c2 : (Jvm.Cond.code ({ cls := "com/example/restate/restate/MarkerStyleOpenedByPinLaw", name := "text", desc := "(ICCC)Ljava/lang/String;" } : Jvm.MethodName) method_3_code (4 : Nat) (Option.some (Jvm.ClassFile.FieldType.object "java/lang/String"))).before args0 about1 = true := code_word (m := ⟨1, 2⟩) (meth := k1m2) (c := k1c2) (by decide +kernel) rfl rfl rfl (by decide +kernel)
set_option maxRecDepth 65536 in
theorem w_c3 : (Jvm.Cond.code ({ cls := "java/lang/String", name := "<init>", desc := "([C)V" } : Jvm.MethodName) jdk_42_method_3_code (2 : Nat) (Option.none : Option Jvm.ClassFile.FieldType)).before args0 about1 = true := code_word (m := ⟨7, 1⟩) (meth := k7m1) (c := k7c1) (by decide +kernel) rfl rfl rfl (by decide +kernel)
set_option maxRecDepth 65536 in
theorem w_c4 : (Jvm.Cond.code ({ cls := "java/lang/String", name := "<init>", desc := "([CIILjava/lang/Void;)V" } : Jvm.MethodName) jdk_42_method_149_code (6 : Nat) (Option.none : Option Jvm.ClassFile.FieldType)).before args0 about1 = true := code_word (m := ⟨7, 3⟩) (meth := k7m3) (c := k7c3) (by decide +kernel) rfl rfl rfl (by decide +kernel)
set_option maxRecDepth 65536 in
theorem w_c5 : (Jvm.Cond.code ({ cls := "java/lang/Object", name := "<init>", desc := "()V" } : Jvm.MethodName) object_method_1_code (1 : Nat) (Option.none : Option Jvm.ClassFile.FieldType)).before args0 about1 = true := code_word (m := ⟨0, 0⟩) (meth := k0m0) (c := k0c0) (by decide +kernel) rfl rfl rfl (by decide +kernel)
set_option maxRecDepth 65536 in
theorem w_c6 : (Jvm.Cond.code ({ cls := "com/example/restate/restate/MarkerStyle", name := "openedBy", desc := "(Ljava/lang/String;)Lcom/example/restate/restate/MarkerStyle;" } : Jvm.MethodName) prog_61_method_5_code (5 : Nat) (Option.some (Jvm.ClassFile.FieldType.object "com/example/restate/restate/MarkerStyle"))).before args0 about1 = true := code_word (m := ⟨9, 0⟩) (meth := k9m0) (c := k9c0) (by decide +kernel) rfl rfl rfl (by decide +kernel)
set_option maxRecDepth 65536 in
theorem w_c7 : (Jvm.Cond.code ({ cls := "java/lang/String", name := "equals", desc := "(Ljava/lang/Object;)Z" } : Jvm.MethodName) jdk_42_method_66_code (3 : Nat) (Option.some Jvm.ClassFile.FieldType.boolean)).before args0 about1 = true := code_word (m := ⟨7, 2⟩) (meth := k7m2) (c := k7c2) (by decide +kernel) rfl rfl rfl (by decide +kernel)
set_option maxRecDepth 65536 in
theorem w_c8 : (Jvm.Cond.code ({ cls := "java/lang/StringLatin1", name := "equals", desc := "([B[B)Z" } : Jvm.MethodName) jdk_43_method_13_code (3 : Nat) (Option.some Jvm.ClassFile.FieldType.boolean)).before args0 about1 = true := code_word (m := ⟨10, 1⟩) (meth := k10m1) (c := k10c1) (by decide +kernel) rfl rfl rfl (by decide +kernel)
set_option maxRecDepth 65536 in
theorem w_c9 : (Jvm.Cond.code ({ cls := "java/lang/StringUTF16", name := "compress", desc := "([CII)[B" } : Jvm.MethodName) jdk_52_method_16_code (6 : Nat) (Option.some (Jvm.ClassFile.FieldType.array Jvm.ClassFile.FieldType.byte))).before args0 about1 = true := code_word (m := ⟨11, 2⟩) (meth := k11m2) (c := k11c2) (by decide +kernel) rfl rfl rfl (by decide +kernel)
set_option maxRecDepth 65536 in
theorem w_c10 : (Jvm.Cond.code ({ cls := "java/lang/StringUTF16", name := "compress", desc := "([CI[BII)I" } : Jvm.MethodName) jdk_52_method_21_code (7 : Nat) (Option.some Jvm.ClassFile.FieldType.int)).before args0 about1 = true := code_word (m := ⟨11, 3⟩) (meth := k11m3) (c := k11c3) (by decide +kernel) rfl rfl rfl (by decide +kernel)
set_option maxRecDepth 65536 in
theorem w_c11 : (Jvm.Cond.code ({ cls := "java/lang/StringUTF16", name := "coderFromArrayLen", desc := "([BI)B" } : Jvm.MethodName) jdk_52_method_15_code (2 : Nat) (Option.some Jvm.ClassFile.FieldType.byte)).before args0 about1 = true := code_word (m := ⟨11, 1⟩) (meth := k11m1) (c := k11c1) (by decide +kernel) rfl rfl rfl (by decide +kernel)
def codes1 : List Jvm.Cond := [Jvm.Cond.code x code maxLocals ret, Jvm.Cond.code ({ cls := "com/example/restate/restate/MarkerStyleOpenedByPinLaw", name := "draw", desc := "(I)C" } : Jvm.MethodName) method_2_code (2 : Nat) (Option.some Jvm.ClassFile.FieldType.char), Jvm.Cond.code ({ cls := "com/example/restate/restate/MarkerStyleOpenedByPinLaw", name := "text", desc := "(ICCC)Ljava/lang/String;" } : Jvm.MethodName) method_3_code (4 : Nat) (Option.some (Jvm.ClassFile.FieldType.object "java/lang/String")), Jvm.Cond.code ({ cls := "java/lang/String", name := "<init>", desc := "([C)V" } : Jvm.MethodName) jdk_42_method_3_code (2 : Nat) (Option.none : Option Jvm.ClassFile.FieldType), Jvm.Cond.code ({ cls := "java/lang/String", name := "<init>", desc := "([CIILjava/lang/Void;)V" } : Jvm.MethodName) jdk_42_method_149_code (6 : Nat) (Option.none : Option Jvm.ClassFile.FieldType), Jvm.Cond.code ({ cls := "java/lang/Object", name := "<init>", desc := "()V" } : Jvm.MethodName) object_method_1_code (1 : Nat) (Option.none : Option Jvm.ClassFile.FieldType), Jvm.Cond.code ({ cls := "com/example/restate/restate/MarkerStyle", name := "openedBy", desc := "(Ljava/lang/String;)Lcom/example/restate/restate/MarkerStyle;" } : Jvm.MethodName) prog_61_method_5_code (5 : Nat) (Option.some (Jvm.ClassFile.FieldType.object "com/example/restate/restate/MarkerStyle")), Jvm.Cond.code ({ cls := "java/lang/String", name := "equals", desc := "(Ljava/lang/Object;)Z" } : Jvm.MethodName) jdk_42_method_66_code (3 : Nat) (Option.some Jvm.ClassFile.FieldType.boolean), Jvm.Cond.code ({ cls := "java/lang/StringLatin1", name := "equals", desc := "([B[B)Z" } : Jvm.MethodName) jdk_43_method_13_code (3 : Nat) (Option.some Jvm.ClassFile.FieldType.boolean), Jvm.Cond.code ({ cls := "java/lang/StringUTF16", name := "compress", desc := "([CII)[B" } : Jvm.MethodName) jdk_52_method_16_code (6 : Nat) (Option.some (Jvm.ClassFile.FieldType.array Jvm.ClassFile.FieldType.byte)), Jvm.Cond.code ({ cls := "java/lang/StringUTF16", name := "compress", desc := "([CI[BII)I" } : Jvm.MethodName) jdk_52_method_21_code (7 : Nat) (Option.some Jvm.ClassFile.FieldType.int), Jvm.Cond.code ({ cls := "java/lang/StringUTF16", name := "coderFromArrayLen", desc := "([BI)B" } : Jvm.MethodName) jdk_52_method_15_code (2 : Nat) (Option.some Jvm.ClassFile.FieldType.byte)]
set_option maxRecDepth 65536 in
theorem codes_eq : words1.filter isCode = codes1 := rfl
theorem w_codes : ∀ c ∈ words1.filter isCode, c.before args0 about1 = true := by
  rw [codes_eq]
  intro c hc
  simp only [codes1, List.mem_cons, List.not_mem_nil, or_false] at hc
  rcases hc with rfl | rfl | rfl | rfl | rfl | rfl | rfl | rfl | rfl | rfl | rfl | rfl
  · exact w_c0
  · exact w_c1
  · exact w_c2
  · exact w_c3
  · exact w_c4
  · exact w_c5
  · exact w_c6
  · exact w_c7
  · exact w_c8
  · exact w_c9
  · exact w_c10
  · exact w_c11
set_option maxRecDepth 65536 in
theorem w_t1 : (words1.take 24).all (fun c => isCode c || c.before args0 about1) = true := by decide +kernel
set_option maxRecDepth 65536 in
theorem w_t2 : ((words1.drop 24).take 24).all (fun c => isCode c || c.before args0 about1) = true := by decide +kernel
set_option maxRecDepth 65536 in
theorem w_t3 : ((words1.drop 24).drop 24).all (fun c => isCode c || c.before args0 about1) = true := by decide +kernel
theorem w_tables : (allAtoms (Jvm.Cond.code x code maxLocals ret :: tables_1)).before args0 about1 = true := by
  rw [allAtoms_all]
  show words1.all (fun c => c.before args0 about1) = true
  refine all_split ?_ w_codes
  rw [← List.take_append_drop 24 words1, List.all_append, w_t1, ← List.take_append_drop 24 (words1.drop 24), List.all_append, w_t2, w_t3]
  rfl
set_option maxRecDepth 65536 in
theorem w_rest : rest_1_c.before args0 about1 = true := by decide +kernel
set_option maxRecDepth 65536 in
theorem w_case : (Jvm.Cond.and given_1 narrow_1).before args0 about1 = true := by decide +kernel
set_option maxRecDepth 65536 in
theorem w_consts : constsHeld consts_1 about1 := Jvm.Lit.constsHeldB_iff.mp (by decide +kernel)
theorem w_applies : (headSpec (Jvm.Cond.code x code maxLocals ret :: tables_1) room_1).applies x e0.platform about1 = true :=
  (Spec.applies_iff w_frames).mpr ⟨w_running, w_runnable, w_alone, w_named, w_hears, w_ripe, w_room, w_tables⟩
theorem atStart : AtStart classFile x code maxLocals ret World_1 tables_1 room_1 Calls_1 rest_1 Pre_1 launch0 p0 e0 about1 theMethod args0 below0 :=
  ⟨lists_1, trivial, launch0.admits_env _ _ _, launch0.least_env, fairChoices_fair.cas, fairChoices_fair.clock, w_frames, w_args, w_heap, w_applies, ⟨w_consts, trivial⟩, w_rest, w_case⟩
end start1
theorem witness_1 : WitnessClaimed_1 := ⟨start1.p0, start1.e0, start1.about1, start1.theMethod, start1.args0, start1.below0, start1.atStart⟩
end Jvm.Pilot.@@N@@
