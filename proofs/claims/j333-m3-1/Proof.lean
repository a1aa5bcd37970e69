import JvmDerived
import JvmDerived.Pilot.@@N@@Statement
import JvmDerived.Pilot.@@N@@Code
set_option linter.unusedVariables false
set_option linter.unusedSimpArgs false
namespace Jvm.RoadKit
open Sem ClassFile Op Lib Jvm.Stand Jvm.Free Jvm.LawKit
section New
variable {p : Program} {l : Launch} {e : Env} {R : Room} {s : State} {m : MethodId} {args : Array Value} {below : List Frame} {meth : Method} {c : Code} {T : State} {locs : List Loc} {cells slots : Nat}
theorem retI (X : Stand p l e R s m args below meth c T locs cells slots) (hx : p.tables.exec = Jvm.exec) {pc : Nat} {Ls : Array Slot} {z : Int32} {rest : List Value} (hret : meth.sig.returnType = some .int) (hd : decode c.code pc = .ok (.ireturn, 1)) {fs : List Frame}
    (hl : ∀ (f : JFrame) (acts : List Action), f.method = m → f.locked = none → f.entered = [] → (doReturn e (T.setTop f) acts (some (.int z))).1 = T.setFrames fs) : Steps p.tables e below (T.setTop (mkF m pc Ls (.int z :: rest))) (T.setFrames fs) := by
  have hm' : T.vm.method? m = some meth := X.method'
  have hn : narrow .int (.int z) = .int z := rfl
  show Steps p.tables e below (T.setTop { method := m, pc := pc, locals := Ls, stack := _ :: rest, locked := none }) _
  jvm_step X.here [X.here.top, hx, hd, hm', hret, hn]
  first | (intro acts; rw [hl _ acts rfl rfl rfl]) | rw [hl _ _ rfl rfl rfl]
  exact Steps.refl _
theorem own_retJ (X : Stand p l e R s m args below meth c T locs cells slots) (hx : p.tables.exec = Jvm.exec) {pc : Nat} {Ls : Array Slot} {z : Int64} {rest : List Value} (hret : meth.sig.returnType = some .long) (hd : decode c.code pc = .ok (.lreturn, 1)) {fs : List Frame}
    (hl : ∀ (f : JFrame) (acts : List Action), f.method = m → f.locked = none → f.entered = [] → (doReturn e (T.setTop f) acts (some (.long z))).1 = T.setFrames fs) : Steps p.tables e below (T.setTop (mkF m pc Ls (.long z :: rest))) (T.setFrames fs) :=
  retOut X hx hret rfl (Or.inr (Or.inl ⟨rfl, rfl, z, rfl⟩)) hd hl
theorem own_retR (X : Stand p l e R s m args below meth c T locs cells slots) (hx : p.tables.exec = Jvm.exec) {pc : Nat} {Ls : Array Slot} {w : Value} {t : FieldType} {rest : List Value} (hret : meth.sig.returnType = some t) (ht : t.isReference = true) (hw : w.isRef = true) (hd : decode c.code pc = .ok (.areturn, 1)) {fs : List Frame}
    (hl : ∀ (f : JFrame) (acts : List Action), f.method = m → f.locked = none → f.entered = [] → (doReturn e (T.setTop f) acts (some w)).1 = T.setFrames fs) : Steps p.tables e below (T.setTop (mkF m pc Ls (w :: rest))) (T.setFrames fs) :=
  retOut X hx hret (by cases t <;> first | rfl | cases ht) (Or.inr (Or.inr (Or.inr (Or.inr ⟨rfl, ht, hw⟩)))) hd hl
theorem own_lrem {tb : Tables} [Ours tb] {e : Env} {below : List Frame} {T target : State} {m : MethodId} {c : Code} {g : JFrame} (h : At T m c below) (hx : tb.exec = Jvm.exec) (hg : g.method = m) {x y : Int64} {rest : List Value} (hd : decode c.code g.pc = .ok (.lrem, 1)) (hs : g.stack = .long y :: .long x :: rest) (hy : y ≠ 0)
    (hr : Steps tb e below (T.setTop { g with pc := g.pc + 1, stack := .long (x % y) :: rest }) target) : Steps tb e below (T.setTop g) target :=
  XS.lrem h hx hg hd hs hy (by rw [lrem_mod]; exact hr)
theorem own_go {tb : Tables} {e : Env} {below : List Frame} {A B : State} {P : State → Outcome → Prop} (h : ∀ t, Steps tb e below B t → Steps tb e below A t) (k : ∃ s₂ o, Steps tb e below B s₂ ∧ P s₂ o) : ∃ s₂ o, Steps tb e below A s₂ ∧ P s₂ o := by
  obtain ⟨s₂, o, h1, h2⟩ := k
  exact ⟨s₂, o, h _ h1, h2⟩
theorem own_cut {α : Type} {C : α → Prop} {B : α → State} {tb : Tables} {e : Env} {below : List Frame} {A : State} {P : State → Outcome → Prop} (h : ∀ a, C a → ∃ s₂ o, Steps tb e below (B a) s₂ ∧ P s₂ o) (k : (∀ a, C a → ∃ s₂ o, Steps tb e below (B a) s₂ ∧ P s₂ o) → ∃ s₂ o, Steps tb e below A s₂ ∧ P s₂ o) : ∃ s₂ o, Steps tb e below A s₂ ∧ P s₂ o := k h
theorem own_narZ (P : Prop) [Decidable P] : narrow .boolean (.int (if P then (1 : Int32) else 0)) = .int (if P then (1 : Int32) else 0) := by split <;> rfl
theorem own_fitZ (P : Prop) [Decidable P] : fits .boolean (.int (if P then (1 : Int32) else 0)) = true := by split <;> rfl
theorem own_retZ (P : Prop) [Decidable P] : (some (.int (nar .boolean (if P then (1 : Int32) else 0))) : Option Value) = some (.int (if P then (1 : Int32) else 0)) := by split <;> rfl
theorem own_staKeep {Z : State} {h h' : Heap} {C n d : String} {v : Value} {ws : List Addr} (F : Sta Z h C n d v) (K : Keep h h' ws) (q : ∀ x ∈ ws, ∃ c : Cell, h[x]? = some c ∧ c.vm.isStatics = false) : Sta Z h' C n d v := by
  obtain ⟨cf, i, k, f, st, cell, h1, h2, h3, h4, h5, h6, h7⟩ := F
  refine ⟨cf, i, k, f, st, cell, h1, h2, h3, h4, K.2.1 _ _ h5 fun hm => ?_, h6, h7⟩
  obtain ⟨c', g1, g2⟩ := q _ hm
  cases h5.symm.trans g1
  rw [h6] at g2
  cases g2
theorem own_arrKeep {Z : State} {h h' : Heap} {a : Addr} {c : Cell} {ty : FieldType} {ws : List Addr} (F : Arr Z h a c ty) (K : Keep h h' ws) (q : a ∉ ws) : Arr Z h' a c ty := ⟨K.2.1 _ _ F.1 q, F.2⟩
theorem own_ns0 {h : Heap} : ∀ x ∈ ([] : List Addr), ∃ c : Cell, h[x]? = some c ∧ c.vm.isStatics = false := fun _ q => nomatch q
theorem own_nsS {h : Heap} {y : Addr} {L : List Addr} (q : ∃ c : Cell, h[y]? = some c ∧ c.vm.isStatics = false) (r : ∀ x ∈ L, ∃ c : Cell, h[x]? = some c ∧ c.vm.isStatics = false) : ∀ x ∈ y :: L, ∃ c : Cell, h[x]? = some c ∧ c.vm.isStatics = false := fun x z => (List.mem_cons.mp z).elim (fun u => u ▸ q) (r x)
theorem own_nsE {Z : State} {h : Heap} {a : Addr} {C : String} (F : Exa Z h a C) : ∃ c : Cell, h[a]? = some c ∧ c.vm.isStatics = false := by
  obtain ⟨c, k, h1, h2, h3, h4, h5⟩ := F
  exact ⟨c, h1, h4⟩
theorem own_nsV {Z : State} {h : Heap} {a : Addr} {k : ClassId} {ty : FieldType} {z : Int32} {vs : List Value} {d : Value} (F : Arv Z h a k ty z vs d) : ∃ c : Cell, h[a]? = some c ∧ c.vm.isStatics = false := by
  obtain ⟨c, A, r⟩ := F
  exact ⟨c, A.1, A.plain⟩
theorem own_safeStr {Z : State} {EL : List (String × Nat)} {vm : Vm} {h : Heap} {x : Addr} (hal : Z.vm.Alike vm) (E : Exa Z h x "java/lang/String") (N : Fld Z h x "java/lang/String" "value" "[B" .null) : Safe Z EL vm h x := fun B => by
  obtain ⟨cell, k, e1, e2, e3, -, -⟩ := E
  obtain ⟨cell', cf, k', i, f, n1, n2, -, -, -, -, n7⟩ := N
  cases e1.symm.trans n1
  obtain ⟨p, -, u, a, -, q, -, F, rfl | rfl⟩ := B
  · cases (show h[q.sa]? = some q.sC from F.ha).symm.trans e1
    obtain ⟨cS, ⟨⟨s1, s2, s3, ⟨cv, kv, iv, s4, s4'⟩, -, s6, s7, s8, -⟩, -, -⟩, -⟩ := F
    obtain ⟨kv', z4⟩ := ff_back (U := Wst Z vm h) hal s4
    cases n2.symm.trans z4
    cases n7.symm.trans s8
  · cases (show h[q.sd]? = some q.SA from F.hd).symm.trans e1
    obtain ⟨cS, -, -, g, -⟩ := F
    have g' : vm.findClass "[B" = some q.SA.cls := g
    rw [hal.findClass] at g'
    obtain ⟨k1, q1, q2⟩ := Vm.findClass_spec g'
    obtain ⟨k2, q3, q4⟩ := Vm.findClass_spec e2
    cases q1.symm.trans q3
    exact absurd (q2.symm.trans q4) (by decide)
theorem own_since (s : State) (n : Nat) : s.Since s.vm n := ⟨State.Warmed39.refl s, fun j p hj hp => absurd (Array.getElem?_eq_some_iff.mp hp).1 (Nat.not_lt.mpr hj)⟩
end New
end Jvm.RoadKit
namespace Jvm.Pilot.@@N@@
open Jvm Jvm.ClassFile Sem Op Lib Jvm.Free Jvm.Stand Jvm.LawKit Jvm.RoadKit Bundle Jvm.Pilot.@@N@@.Jvm.D
theorem own_lenStart {Z : State} {args : Array Value} {t : Term} {ty : FieldType} {a : Addr} {cl : Cell} {n : Int32} (ev : t.eval args Z none [] Z = some (.ref a)) (A : Arr Z Z.heap a cl ty) (hl : (Jvm.Cond.eq (.length t) (.int n)).value args Z none Z [] = some true) : cl.slots.size < 2 ^ 31 ∧ cl.slots.size.toInt32 = n := by
  have hA : Z.arrayAt? a = some cl := Arr.fin (Vm.Alike.refl _) A
  by_cases q : cl.slots.size < 2 ^ 31
  · have e2 := len_f ev hA q
    refine ⟨q, ?_⟩
    simp only [Cond.value, e2, Term.int_eval] at hl
    simpa using hl
  · have e2 : (Term.length t).eval args Z none [] Z = none := by simp [Term.eval, ev, hA, q]
    simp only [Cond.value, e2, Term.int_eval] at hl
    cases hl
theorem own_eqStart {Z : State} {args : Array Value} {t u : Term} {v : Value} (hv : u.eval args Z none [] Z = some v) (h : (Jvm.Cond.eq t u).value args Z none Z [] = some true) : t.eval args Z none [] Z = some v := by
  cases ht : t.eval args Z none [] Z with
  | none => simp only [Cond.value, ht, hv] at h; cases v <;> cases h
  | some y => simp only [Cond.value, ht, hv] at h; cases v <;> cases y <;> simp at h <;> first | rw [h] | rfl
theorem own_elemStart {Z : State} {args : Array Value} {t u : Term} {ty : FieldType} {a : Addr} {cl : Cell} {j : Int32} {v : Value} (ev : t.eval args Z none [] Z = some (.ref a)) (A : Arr Z Z.heap a cl ty) (hv : u.eval args Z none [] Z = some v) (h : (Jvm.Cond.eq (.elem t (.int j)) u).value args Z none Z [] = some true) : cl.slots[j.toNatClampNeg]? = some v :=
  (elem_in (own_eqStart hv h) ev (Term.int_eval j) A.1).2
theorem own_fldRef {Z : State} {args : Array Value} {t : Term} {C n d : String} {a b : Addr} (ev : t.eval args Z none [] Z = some (.ref a)) (h : (Term.field t C n d).eval args Z none [] Z = some (.ref b)) : Fld Z Z.heap a C n d (.ref b) := Fld.start ((fld_at ev).symm.trans h)
theorem own_neStart {Z : State} {args : Array Value} {t : Term} {x k : Int32} (ev : t.eval args Z none [] Z = some (.int x)) (h : (Jvm.Cond.not (Jvm.Cond.eq t (.int k))).value args Z none Z [] = some true) : ¬ x = k := by
  have h1 := not_v h
  simp only [Cond.value, ev, Term.int_eval] at h1
  simpa using h1
theorem own_m3 (x : Int32) : 0 ≤ ((x &&& (2147483647 : Int32)) % (3 : Int32)).toInt ∧ ((x &&& (2147483647 : Int32)) % (3 : Int32)).toInt ≤ 2 := by
  have e1 := c_mask x 2147483647 31 (by decide) (by decide)
  have e2 := (c_irem (x &&& 2147483647) 3 3 (by decide)).1 (by omega)
  omega
theorem own_w (w : Int32) (h : 0 ≤ w.toInt ∧ w.toInt ≤ 2) : ¬ w < (0 : Int32) ∧ ¬ (3 : Int32) < w := by
  have l0 : (0 : Int32).toInt = 0 := by decide
  have l3 : (3 : Int32).toInt = 3 := by decide
  rw [Int32.lt_iff_toInt_lt, Int32.lt_iff_toInt_lt]
  omega
theorem own_warm (w : Int32) : ((3 : Int32) - ((3 : Int32) - w)) = w := by
  rw [← Int32.toInt_inj]
  have e1 := c_isub 3 w
  have e2 := c_isub 3 ((3 : Int32) - w)
  have e3 := rng32 ((3 : Int32) - ((3 : Int32) - w))
  have e4 := rng32 w
  omega
theorem own_k2 (k : Int32) (h : 0 ≤ k.toInt ∧ k.toInt ≤ 2) (h0 : ¬ k = (0 : Int32)) (h1 : ¬ k = (1 : Int32)) : k = (2 : Int32) := by
  rw [← Int32.toInt_inj] at h0 h1 ⊢
  have l0 : (0 : Int32).toInt = 0 := by decide
  have l1 : (1 : Int32).toInt = 1 := by decide
  have l2 : (2 : Int32).toInt = 2 := by decide
  omega
theorem pn_3 : plainName "java/lang/Record" = true := by first | (simp [plainName, overriddenIn]; done) | decide +kernel
theorem d6_0 : decode jdk_30_method_1_code 0 = .ok (.aload_n 0, 1) := by decide +kernel
theorem d6_1 : decode jdk_30_method_1_code 1 = .ok (.invokespecial 1, 3) := by decide +kernel
theorem d6_4 : decode jdk_30_method_1_code 4 = .ok (.return_, 1) := by decide +kernel
theorem ef_6 (m : MethodId) (a1 : Addr) : entryFrame m #[(.ref a1)] 1 = mkF m 0 #[.val (.ref a1)] [] := by first | (simp [entryFrame, mkF, argsToLocals, Value.category]; done) | rfl
def Q6 (Z : State) (a1 : Addr) (h0 : Heap) (n0 : Nat) (v : Option Value) (h : Heap) (L : List Loc) : Prop := v = none ∧ Fr n0 L ∧ h = h0
set_option maxRecDepth 65536 in
set_option maxHeartbeats 40000000 in
theorem rm6 (l : Launch) (Z : State) (a0 : Array Value) (hw : ∀ d ∈ tables_1, d.before a0 Z = true) (ws : List Jvm.Cond) (a1 : Addr) (h0 : Heap) (n0 : Nat) (Z0 : n0 ≤ h0.size) :
    MetFree l (⟨"java/lang/Record", "<init>", "()V"⟩ : MethodName) (head1 (Jvm.Cond.code (⟨"java/lang/Record", "<init>", "()V"⟩ : MethodName) jdk_30_method_1_code 1 none :: ws) ({ frames := 1, cells := 0, slots := 0, locals := 12 } : Room)) (fun a U => a = #[(.ref a1)] ∧ Z.Warmed39 U.vm ∧ U.heap = h0) (fun _ _ _ _ _ => True) (fun _ U o U' => ∃ v L, o = .returned v ∧ Q6 Z a1 h0 n0 v U'.heap L ∧ FrameEnd U o U' L ({ frames := 1, cells := 0, slots := 0, locals := 12 } : Room).cells ({ frames := 1, cells := 0, slots := 0, locals := 12 } : Room).slots) := by
  refine MetFree.of_bodySF (plainFor_of_name pn_3) hisR ?_
  intro p e s m args below meth c s₁ Bd hml0 hP hK
  obtain ⟨rfl, hZ, hh⟩ := hP
  have hx := Bd.exec
  have hby := Bd.bytes
  have hml : c.maxLocals = 1 := hml0
  have hown : s.vm.findClass "java/lang/Record" = some m.cls := findClass_of_methodNamed Bd.named
  have hnm := (name_of_methodNamed Bd.named Bd.method).1
  have X0 : Stand p l e ({ frames := 1, cells := 0, slots := 0, locals := 12 } : Room) s m #[(.ref a1)] below meth c s₁ [] 0 0 := Stand.of_body Bd
  have e0 : s₁.heap = h0 := by rw [← hh, Bd.state]; rfl
  have N0 := Fr.nil n0
  refine own_go (B := s₁.setTop (mkF m 0 #[.val (.ref a1)] [])) (fun t k => castTop (ef_6 m a1) k) ?_
  refine own_go (B := s₁.setTop (mkF m 1 #[.val (.ref a1)] [(.ref a1)])) (fun t k => ?_) ?_
  · show Steps p.tables e below (s₁.setTop (mkF m 0 #[.val (.ref a1)] [])) _
    refine XS.aloadN X0.here hx rfl (hb hby d6_0) rfl rfl ?_
    show Steps p.tables e below (s₁.setTop (mkF m 1 #[.val (.ref a1)] [(.ref a1)])) _
    exact k
  obtain ⟨T1, X1, e1, st1⟩ := initO X0 hx hZ hown (hw _ (List.mem_of_getElem? (i := 38) rfl)) (hw _ (List.mem_of_getElem? (i := 20) rfl)) (hw _ (List.mem_of_getElem? (i := 21) rfl)) e0 (g := (mkF m 1 #[.val (.ref a1)] [(.ref a1)])) rfl (by rw [hml]; rfl) rfl (hb hby d6_1) (by decide) (W := 0) (by show 2 * 0 + _ ≤ _; exact Nat.le_of_eq rfl) (by decide)
  refine own_go st1 ?_
  obtain ⟨fs, hr, hrun, hended, hW, hsame⟩ := X1.leave (v := none) (fun _ => rfl)
  refine ⟨_, _, ?_, hrun, hended, _, _, rfl, ?_, ⟨_, rfl⟩, hW, hsame.mono (by decide) (by decide)⟩
  · exact X1.returnOut hx Bd.returns (hb hby d6_4) hr
  · show Q6 Z a1 h0 n0 _ T1.heap _
    rw [e1]
    exact ⟨rfl, N0, rfl⟩
theorem pn_7 : plainName "java/util/AbstractCollection" = true := by first | (simp [plainName, overriddenIn]; done) | decide +kernel
theorem d3_0 : decode jdk_22_method_1_code 0 = .ok (.aload_n 0, 1) := by decide +kernel
theorem d3_1 : decode jdk_22_method_1_code 1 = .ok (.invokespecial 1, 3) := by decide +kernel
theorem d3_4 : decode jdk_22_method_1_code 4 = .ok (.return_, 1) := by decide +kernel
theorem ef_3 (m : MethodId) (a1 : Addr) : entryFrame m #[(.ref a1)] 1 = mkF m 0 #[.val (.ref a1)] [] := by first | (simp [entryFrame, mkF, argsToLocals, Value.category]; done) | rfl
def Q3 (Z : State) (a1 : Addr) (h0 : Heap) (n0 : Nat) (v : Option Value) (h : Heap) (L : List Loc) : Prop := v = none ∧ Fr n0 L ∧ h = h0
set_option maxRecDepth 65536 in
set_option maxHeartbeats 40000000 in
theorem rm3 (l : Launch) (Z : State) (a0 : Array Value) (hw : ∀ d ∈ tables_1, d.before a0 Z = true) (ws : List Jvm.Cond) (a1 : Addr) (h0 : Heap) (n0 : Nat) (Z0 : n0 ≤ h0.size) :
    MetFree l (⟨"java/util/AbstractCollection", "<init>", "()V"⟩ : MethodName) (head1 (Jvm.Cond.code (⟨"java/util/AbstractCollection", "<init>", "()V"⟩ : MethodName) jdk_22_method_1_code 1 none :: ws) ({ frames := 1, cells := 0, slots := 0, locals := 12 } : Room)) (fun a U => a = #[(.ref a1)] ∧ Z.Warmed39 U.vm ∧ U.heap = h0) (fun _ _ _ _ _ => True) (fun _ U o U' => ∃ v L, o = .returned v ∧ Q3 Z a1 h0 n0 v U'.heap L ∧ FrameEnd U o U' L ({ frames := 1, cells := 0, slots := 0, locals := 12 } : Room).cells ({ frames := 1, cells := 0, slots := 0, locals := 12 } : Room).slots) := by
  refine MetFree.of_bodySF (plainFor_of_name pn_7) hisR ?_
  intro p e s m args below meth c s₁ Bd hml0 hP hK
  obtain ⟨rfl, hZ, hh⟩ := hP
  have hx := Bd.exec
  have hby := Bd.bytes
  have hml : c.maxLocals = 1 := hml0
  have hown : s.vm.findClass "java/util/AbstractCollection" = some m.cls := findClass_of_methodNamed Bd.named
  have hnm := (name_of_methodNamed Bd.named Bd.method).1
  have X0 : Stand p l e ({ frames := 1, cells := 0, slots := 0, locals := 12 } : Room) s m #[(.ref a1)] below meth c s₁ [] 0 0 := Stand.of_body Bd
  have e0 : s₁.heap = h0 := by rw [← hh, Bd.state]; rfl
  have N0 := Fr.nil n0
  refine own_go (B := s₁.setTop (mkF m 0 #[.val (.ref a1)] [])) (fun t k => castTop (ef_3 m a1) k) ?_
  refine own_go (B := s₁.setTop (mkF m 1 #[.val (.ref a1)] [(.ref a1)])) (fun t k => ?_) ?_
  · show Steps p.tables e below (s₁.setTop (mkF m 0 #[.val (.ref a1)] [])) _
    refine XS.aloadN X0.here hx rfl (hb hby d3_0) rfl rfl ?_
    show Steps p.tables e below (s₁.setTop (mkF m 1 #[.val (.ref a1)] [(.ref a1)])) _
    exact k
  obtain ⟨T3, X3, e3, st3⟩ := initO X0 hx hZ hown (hw _ (List.mem_of_getElem? (i := 19) rfl)) (hw _ (List.mem_of_getElem? (i := 20) rfl)) (hw _ (List.mem_of_getElem? (i := 21) rfl)) e0 (g := (mkF m 1 #[.val (.ref a1)] [(.ref a1)])) rfl (by rw [hml]; rfl) rfl (hb hby d3_1) (by decide) (W := 0) (by show 2 * 0 + _ ≤ _; exact Nat.le_of_eq rfl) (by decide)
  refine own_go st3 ?_
  obtain ⟨fs, hr, hrun, hended, hW, hsame⟩ := X3.leave (v := none) (fun _ => rfl)
  refine ⟨_, _, ?_, hrun, hended, _, _, rfl, ?_, ⟨_, rfl⟩, hW, hsame.mono (by decide) (by decide)⟩
  · exact X3.returnOut hx Bd.returns (hb hby d3_4) hr
  · show Q3 Z a1 h0 n0 _ T3.heap _
    rw [e3]
    exact ⟨rfl, N0, rfl⟩
theorem pd_0 : parseMethodDescriptor "()V" = some ⟨[], none⟩ := by decide +kernel
theorem pn_14 : plainName "java/util/AbstractList" = true := by first | (simp [plainName, overriddenIn]; done) | decide +kernel
theorem d2_0 : decode jdk_39_method_1_code 0 = .ok (.aload_n 0, 1) := by decide +kernel
theorem d2_1 : decode jdk_39_method_1_code 1 = .ok (.invokespecial 1, 3) := by decide +kernel
theorem d2_4 : decode jdk_39_method_1_code 4 = .ok (.aload_n 0, 1) := by decide +kernel
theorem d2_5 : decode jdk_39_method_1_code 5 = .ok (.iconst 0, 1) := by decide +kernel
theorem d2_6 : decode jdk_39_method_1_code 6 = .ok (.putfield 7, 3) := by decide +kernel
theorem d2_9 : decode jdk_39_method_1_code 9 = .ok (.return_, 1) := by decide +kernel
theorem ef_2A (m : MethodId) (a1 : Addr) : entryFrame m #[(.ref a1)] 1 = mkF m 0 #[.val (.ref a1)] [] := by first | (simp [entryFrame, mkF, argsToLocals, Value.category]; done) | rfl
def Q2A (Z : State) (a1 : Addr) (h0 : Heap) (n0 : Nat) (v : Option Value) (h : Heap) (L : List Loc) : Prop := v = none ∧ Fr n0 L ∧ Keep h0 h [a1] ∧ Exa Z h a1 "java/util/ArrayList" ∧ Fld Z h a1 "java/util/AbstractList" "modCount" "I" (.int (0 : Int32))
set_option maxRecDepth 65536 in
set_option maxHeartbeats 40000000 in
theorem rm2A (l : Launch) (Z : State) (a0 : Array Value) (hw : ∀ d ∈ tables_1, d.before a0 Z = true) (ws : List Jvm.Cond) (a1 : Addr) (h0 : Heap) (n0 : Nat) (Z0 : n0 ≤ h0.size) (E_a1 : Exa Z h0 a1 "java/util/ArrayList") (F_modCount_a1 : Fld Z h0 a1 "java/util/AbstractList" "modCount" "I" (.int (0 : Int32))) (g_a1 : n0 ≤ a1) :
    MetFree l (⟨"java/util/AbstractList", "<init>", "()V"⟩ : MethodName) (head1 (Jvm.Cond.code (⟨"java/util/AbstractList", "<init>", "()V"⟩ : MethodName) jdk_39_method_1_code 1 none :: ws) ({ frames := 2, cells := 0, slots := 0, locals := 24 } : Room)) (fun a U => a = #[(.ref a1)] ∧ Z.Warmed39 U.vm ∧ U.heap = h0) (fun _ _ _ _ _ => True) (fun _ U o U' => ∃ v L, o = .returned v ∧ Q2A Z a1 h0 n0 v U'.heap L ∧ FrameEnd U o U' L ({ frames := 2, cells := 0, slots := 0, locals := 24 } : Room).cells ({ frames := 2, cells := 0, slots := 0, locals := 24 } : Room).slots) := by
  refine MetFree.of_bodySF (plainFor_of_name pn_14) hisR ?_
  intro p e s m args below meth c s₁ Bd hml0 hP hK
  obtain ⟨rfl, hZ, hh⟩ := hP
  have hx := Bd.exec
  have hby := Bd.bytes
  have hml : c.maxLocals = 1 := hml0
  have hown : s.vm.findClass "java/util/AbstractList" = some m.cls := findClass_of_methodNamed Bd.named
  have hnm := (name_of_methodNamed Bd.named Bd.method).1
  have X0 : Stand p l e ({ frames := 2, cells := 0, slots := 0, locals := 24 } : Room) s m #[(.ref a1)] below meth c s₁ [] 0 0 := Stand.of_body Bd
  have e0 : s₁.heap = h0 := by rw [← hh, Bd.state]; rfl
  have N0 := Fr.nil n0
  refine own_go (B := s₁.setTop (mkF m 0 #[.val (.ref a1)] [])) (fun t k => castTop (ef_2A m a1) k) ?_
  refine own_go (B := s₁.setTop (mkF m 1 #[.val (.ref a1)] [(.ref a1)])) (fun t k => ?_) ?_
  · show Steps p.tables e below (s₁.setTop (mkF m 0 #[.val (.ref a1)] [])) _
    refine XS.aloadN X0.here hx rfl (hb hby d2_0) rfl rfl ?_
    show Steps p.tables e below (s₁.setTop (mkF m 1 #[.val (.ref a1)] [(.ref a1)])) _
    exact k
  obtain ⟨_, _, ⟨T5, L5, k5, n5⟩, -, X5, ⟨Lc5, hQ5, l5, y5, z5⟩, st5⟩ := X0.specialBack hx (y := (⟨"java/util/AbstractCollection", "<init>", "()V"⟩ : MethodName)) rfl hown (mvT hZ (hw _ (List.mem_of_getElem? (i := 13) rfl))) (mvT hZ (hw _ (List.mem_of_getElem? (i := 14) rfl))) (mvT hZ (hw _ (List.mem_of_getElem? (i := 18) rfl))) (by decide) (backOf (W := 0) (rm3 l Z a0 hw [] a1 h0 n0 Z0 ) hZ (hw _ (List.mem_of_getElem? (i := 18) rfl)) (hw _ (List.mem_of_getElem? (i := 17) rfl)) (by decide) (by decide)) (g := (mkF m 1 #[.val (.ref a1)] [(.ref a1)])) rfl (by rw [hml]; rfl) (Steps.refl _) (a := a1) (argsL := []) (rest := []) (lenOf pd_0 rfl) rfl (by show 2 * 0 + _ ≤ _; exact Nat.le_of_eq rfl) (hb hby d2_1) (fun _ _ => ⟨rfl, e0, (by decide : 0 + 0 ≤ _), (by decide : 0 + 0 ≤ _)⟩)
  dsimp only [Pt.U, Pt.locs, Pt.cells, Pt.slots] at X5 l5 y5 z5 st5 hQ5
  subst l5 y5 z5
  obtain ⟨rfl, M5, q5_0⟩ := hQ5
  have N5 := Fr.app N0 M5
  refine own_go (fun t k => st5.trans k) ?_
  refine own_go (B := T5.setTop (mkF m 6 #[.val (.ref a1)] [(.int (0 : Int32)), (.ref a1)])) (fun t k => ?_) ?_
  · show Steps p.tables e below (T5.setTop (mkF m 4 #[.val (.ref a1)] [])) _
    refine XS.aloadN X5.here hx rfl (hb hby d2_4) rfl rfl ?_
    show Steps p.tables e below (T5.setTop (mkF m 5 #[.val (.ref a1)] [(.ref a1)])) _
    refine XS.iconst X5.here hx rfl (hb hby d2_5) ?_
    show Steps p.tables e below (T5.setTop (mkF m 6 #[.val (.ref a1)] [(.int (0 : Int32)), (.ref a1)])) _
    exact k
  obtain ⟨T6, h6, X6, e6, W6, st6⟩ := putF X5 hx hZ hown (host := "") (Or.inl (hw _ (List.mem_of_getElem? (i := 22) rfl))) Via.refl q5_0 F_modCount_a1 E_a1 (Or.inl (hw _ (List.mem_of_getElem? (i := 23) rfl))) (hw _ (List.mem_of_getElem? (i := 2) rfl)) (ty := .int) (by decide) rfl rfl (g := (mkF m 6 #[.val (.ref a1)] [(.int (0 : Int32)), (.ref a1)])) rfl rfl (hb hby d2_6)
  refine own_go st6 ?_
  have F6 : Fld Z h6 a1 "java/util/AbstractList" "modCount" "I" (.int (0 : Int32)) := F_modCount_a1.same W6
  have K6 : Keep h0 h6 [a1] := Keep.wr (Keep.refl h0 [a1]) W6 (Or.inl (List.mem_of_getElem? (i := 0) rfl))
  have N6 := Fr.snoc X6 N5 g_a1
  obtain ⟨fs, hr, hrun, hended, hW, hsame⟩ := X6.leave (v := none) (fun _ => rfl)
  refine ⟨_, _, ?_, hrun, hended, _, _, rfl, ?_, ⟨_, rfl⟩, hW, hsame.mono (by decide) (by decide)⟩
  · exact X6.returnOut hx Bd.returns (hb hby d2_9) hr
  · show Q2A Z a1 h0 n0 _ T6.heap _
    rw [e6]
    have f8 : Exa Z h6 a1 "java/util/ArrayList" := (E_a1.wr W6)
    exact ⟨rfl, N6, K6, f8, F6⟩
theorem ef_2S (m : MethodId) (a1 : Addr) : entryFrame m #[(.ref a1)] 1 = mkF m 0 #[.val (.ref a1)] [] := by first | (simp [entryFrame, mkF, argsToLocals, Value.category]; done) | rfl
def Q2S (Z : State) (a1 : Addr) (h0 : Heap) (n0 : Nat) (v : Option Value) (h : Heap) (L : List Loc) : Prop := v = none ∧ Fr n0 L ∧ Keep h0 h [a1] ∧ Exa Z h a1 "java/util/ArrayList$SubList" ∧ Fld Z h a1 "java/util/AbstractList" "modCount" "I" (.int (0 : Int32))
set_option maxRecDepth 65536 in
set_option maxHeartbeats 40000000 in
theorem rm2S (l : Launch) (Z : State) (a0 : Array Value) (hw : ∀ d ∈ tables_1, d.before a0 Z = true) (ws : List Jvm.Cond) (a1 : Addr) (h0 : Heap) (n0 : Nat) (Z0 : n0 ≤ h0.size) (E_a1 : Exa Z h0 a1 "java/util/ArrayList$SubList") (F_modCount_a1 : Fld Z h0 a1 "java/util/AbstractList" "modCount" "I" (.int (0 : Int32))) (g_a1 : n0 ≤ a1) :
    MetFree l (⟨"java/util/AbstractList", "<init>", "()V"⟩ : MethodName) (head1 (Jvm.Cond.code (⟨"java/util/AbstractList", "<init>", "()V"⟩ : MethodName) jdk_39_method_1_code 1 none :: ws) ({ frames := 2, cells := 0, slots := 0, locals := 24 } : Room)) (fun a U => a = #[(.ref a1)] ∧ Z.Warmed39 U.vm ∧ U.heap = h0) (fun _ _ _ _ _ => True) (fun _ U o U' => ∃ v L, o = .returned v ∧ Q2S Z a1 h0 n0 v U'.heap L ∧ FrameEnd U o U' L ({ frames := 2, cells := 0, slots := 0, locals := 24 } : Room).cells ({ frames := 2, cells := 0, slots := 0, locals := 24 } : Room).slots) := by
  refine MetFree.of_bodySF (plainFor_of_name pn_14) hisR ?_
  intro p e s m args below meth c s₁ Bd hml0 hP hK
  obtain ⟨rfl, hZ, hh⟩ := hP
  have hx := Bd.exec
  have hby := Bd.bytes
  have hml : c.maxLocals = 1 := hml0
  have hown : s.vm.findClass "java/util/AbstractList" = some m.cls := findClass_of_methodNamed Bd.named
  have hnm := (name_of_methodNamed Bd.named Bd.method).1
  have X0 : Stand p l e ({ frames := 2, cells := 0, slots := 0, locals := 24 } : Room) s m #[(.ref a1)] below meth c s₁ [] 0 0 := Stand.of_body Bd
  have e0 : s₁.heap = h0 := by rw [← hh, Bd.state]; rfl
  have N0 := Fr.nil n0
  refine own_go (B := s₁.setTop (mkF m 0 #[.val (.ref a1)] [])) (fun t k => castTop (ef_2S m a1) k) ?_
  refine own_go (B := s₁.setTop (mkF m 1 #[.val (.ref a1)] [(.ref a1)])) (fun t k => ?_) ?_
  · show Steps p.tables e below (s₁.setTop (mkF m 0 #[.val (.ref a1)] [])) _
    refine XS.aloadN X0.here hx rfl (hb hby d2_0) rfl rfl ?_
    show Steps p.tables e below (s₁.setTop (mkF m 1 #[.val (.ref a1)] [(.ref a1)])) _
    exact k
  obtain ⟨_, _, ⟨T9, L9, k9, n9⟩, -, X9, ⟨Lc9, hQ9, l9, y9, z9⟩, st9⟩ := X0.specialBack hx (y := (⟨"java/util/AbstractCollection", "<init>", "()V"⟩ : MethodName)) rfl hown (mvT hZ (hw _ (List.mem_of_getElem? (i := 13) rfl))) (mvT hZ (hw _ (List.mem_of_getElem? (i := 14) rfl))) (mvT hZ (hw _ (List.mem_of_getElem? (i := 18) rfl))) (by decide) (backOf (W := 0) (rm3 l Z a0 hw [] a1 h0 n0 Z0 ) hZ (hw _ (List.mem_of_getElem? (i := 18) rfl)) (hw _ (List.mem_of_getElem? (i := 17) rfl)) (by decide) (by decide)) (g := (mkF m 1 #[.val (.ref a1)] [(.ref a1)])) rfl (by rw [hml]; rfl) (Steps.refl _) (a := a1) (argsL := []) (rest := []) (lenOf pd_0 rfl) rfl (by show 2 * 0 + _ ≤ _; exact Nat.le_of_eq rfl) (hb hby d2_1) (fun _ _ => ⟨rfl, e0, (by decide : 0 + 0 ≤ _), (by decide : 0 + 0 ≤ _)⟩)
  dsimp only [Pt.U, Pt.locs, Pt.cells, Pt.slots] at X9 l9 y9 z9 st9 hQ9
  subst l9 y9 z9
  obtain ⟨rfl, M9, q9_0⟩ := hQ9
  have N9 := Fr.app N0 M9
  refine own_go (fun t k => st9.trans k) ?_
  refine own_go (B := T9.setTop (mkF m 6 #[.val (.ref a1)] [(.int (0 : Int32)), (.ref a1)])) (fun t k => ?_) ?_
  · show Steps p.tables e below (T9.setTop (mkF m 4 #[.val (.ref a1)] [])) _
    refine XS.aloadN X9.here hx rfl (hb hby d2_4) rfl rfl ?_
    show Steps p.tables e below (T9.setTop (mkF m 5 #[.val (.ref a1)] [(.ref a1)])) _
    refine XS.iconst X9.here hx rfl (hb hby d2_5) ?_
    show Steps p.tables e below (T9.setTop (mkF m 6 #[.val (.ref a1)] [(.int (0 : Int32)), (.ref a1)])) _
    exact k
  obtain ⟨T10, h10, X10, e10, W10, st10⟩ := putF X9 hx hZ hown (host := "") (Or.inl (hw _ (List.mem_of_getElem? (i := 22) rfl))) Via.refl q9_0 F_modCount_a1 E_a1 (Or.inl (hw _ (List.mem_of_getElem? (i := 134) rfl))) (hw _ (List.mem_of_getElem? (i := 125) rfl)) (ty := .int) (by decide) rfl rfl (g := (mkF m 6 #[.val (.ref a1)] [(.int (0 : Int32)), (.ref a1)])) rfl rfl (hb hby d2_6)
  refine own_go st10 ?_
  have F10 : Fld Z h10 a1 "java/util/AbstractList" "modCount" "I" (.int (0 : Int32)) := F_modCount_a1.same W10
  have K10 : Keep h0 h10 [a1] := Keep.wr (Keep.refl h0 [a1]) W10 (Or.inl (List.mem_of_getElem? (i := 0) rfl))
  have N10 := Fr.snoc X10 N9 g_a1
  obtain ⟨fs, hr, hrun, hended, hW, hsame⟩ := X10.leave (v := none) (fun _ => rfl)
  refine ⟨_, _, ?_, hrun, hended, _, _, rfl, ?_, ⟨_, rfl⟩, hW, hsame.mono (by decide) (by decide)⟩
  · exact X10.returnOut hx Bd.returns (hb hby d2_9) hr
  · show Q2S Z a1 h0 n0 _ T10.heap _
    rw [e10]
    have f12 : Exa Z h10 a1 "java/util/ArrayList$SubList" := (E_a1.wr W10)
    exact ⟨rfl, N10, K10, f12, F10⟩
theorem ef_2L (m : MethodId) (a1 : Addr) : entryFrame m #[(.ref a1)] 1 = mkF m 0 #[.val (.ref a1)] [] := by first | (simp [entryFrame, mkF, argsToLocals, Value.category]; done) | rfl
def Q2L (Z : State) (a1 : Addr) (h0 : Heap) (n0 : Nat) (v : Option Value) (h : Heap) (L : List Loc) : Prop := v = none ∧ Fr n0 L ∧ Keep h0 h [a1] ∧ Exa Z h a1 "java/util/ArrayList" ∧ Fld Z h a1 "java/util/AbstractList" "modCount" "I" (.int (0 : Int32)) ∧ Fld Z h a1 "java/util/ArrayList" "elementData" "[Ljava/lang/Object;" .null ∧ Fld Z h a1 "java/util/ArrayList" "size" "I" (.int (0 : Int32))
set_option maxRecDepth 65536 in
set_option maxHeartbeats 40000000 in
theorem rm2L (l : Launch) (Z : State) (a0 : Array Value) (hw : ∀ d ∈ tables_1, d.before a0 Z = true) (ws : List Jvm.Cond) (a1 : Addr) (h0 : Heap) (n0 : Nat) (Z0 : n0 ≤ h0.size) (E_a1 : Exa Z h0 a1 "java/util/ArrayList") (F_modCount_a1 : Fld Z h0 a1 "java/util/AbstractList" "modCount" "I" (.int (0 : Int32))) (F_elementData_a1 : Fld Z h0 a1 "java/util/ArrayList" "elementData" "[Ljava/lang/Object;" .null) (F_size_a1 : Fld Z h0 a1 "java/util/ArrayList" "size" "I" (.int (0 : Int32))) (g_a1 : n0 ≤ a1) :
    MetFree l (⟨"java/util/AbstractList", "<init>", "()V"⟩ : MethodName) (head1 (Jvm.Cond.code (⟨"java/util/AbstractList", "<init>", "()V"⟩ : MethodName) jdk_39_method_1_code 1 none :: ws) ({ frames := 2, cells := 0, slots := 0, locals := 24 } : Room)) (fun a U => a = #[(.ref a1)] ∧ Z.Warmed39 U.vm ∧ U.heap = h0) (fun _ _ _ _ _ => True) (fun _ U o U' => ∃ v L, o = .returned v ∧ Q2L Z a1 h0 n0 v U'.heap L ∧ FrameEnd U o U' L ({ frames := 2, cells := 0, slots := 0, locals := 24 } : Room).cells ({ frames := 2, cells := 0, slots := 0, locals := 24 } : Room).slots) := by
  refine MetFree.of_bodySF (plainFor_of_name pn_14) hisR ?_
  intro p e s m args below meth c s₁ Bd hml0 hP hK
  obtain ⟨rfl, hZ, hh⟩ := hP
  have hx := Bd.exec
  have hby := Bd.bytes
  have hml : c.maxLocals = 1 := hml0
  have hown : s.vm.findClass "java/util/AbstractList" = some m.cls := findClass_of_methodNamed Bd.named
  have hnm := (name_of_methodNamed Bd.named Bd.method).1
  have X0 : Stand p l e ({ frames := 2, cells := 0, slots := 0, locals := 24 } : Room) s m #[(.ref a1)] below meth c s₁ [] 0 0 := Stand.of_body Bd
  have e0 : s₁.heap = h0 := by rw [← hh, Bd.state]; rfl
  have N0 := Fr.nil n0
  refine own_go (B := s₁.setTop (mkF m 0 #[.val (.ref a1)] [])) (fun t k => castTop (ef_2L m a1) k) ?_
  refine own_go (B := s₁.setTop (mkF m 1 #[.val (.ref a1)] [(.ref a1)])) (fun t k => ?_) ?_
  · show Steps p.tables e below (s₁.setTop (mkF m 0 #[.val (.ref a1)] [])) _
    refine XS.aloadN X0.here hx rfl (hb hby d2_0) rfl rfl ?_
    show Steps p.tables e below (s₁.setTop (mkF m 1 #[.val (.ref a1)] [(.ref a1)])) _
    exact k
  obtain ⟨_, _, ⟨T13, L13, k13, n13⟩, -, X13, ⟨Lc13, hQ13, l13, y13, z13⟩, st13⟩ := X0.specialBack hx (y := (⟨"java/util/AbstractCollection", "<init>", "()V"⟩ : MethodName)) rfl hown (mvT hZ (hw _ (List.mem_of_getElem? (i := 13) rfl))) (mvT hZ (hw _ (List.mem_of_getElem? (i := 14) rfl))) (mvT hZ (hw _ (List.mem_of_getElem? (i := 18) rfl))) (by decide) (backOf (W := 0) (rm3 l Z a0 hw [] a1 h0 n0 Z0 ) hZ (hw _ (List.mem_of_getElem? (i := 18) rfl)) (hw _ (List.mem_of_getElem? (i := 17) rfl)) (by decide) (by decide)) (g := (mkF m 1 #[.val (.ref a1)] [(.ref a1)])) rfl (by rw [hml]; rfl) (Steps.refl _) (a := a1) (argsL := []) (rest := []) (lenOf pd_0 rfl) rfl (by show 2 * 0 + _ ≤ _; exact Nat.le_of_eq rfl) (hb hby d2_1) (fun _ _ => ⟨rfl, e0, (by decide : 0 + 0 ≤ _), (by decide : 0 + 0 ≤ _)⟩)
  dsimp only [Pt.U, Pt.locs, Pt.cells, Pt.slots] at X13 l13 y13 z13 st13 hQ13
  subst l13 y13 z13
  obtain ⟨rfl, M13, q13_0⟩ := hQ13
  have N13 := Fr.app N0 M13
  refine own_go (fun t k => st13.trans k) ?_
  refine own_go (B := T13.setTop (mkF m 6 #[.val (.ref a1)] [(.int (0 : Int32)), (.ref a1)])) (fun t k => ?_) ?_
  · show Steps p.tables e below (T13.setTop (mkF m 4 #[.val (.ref a1)] [])) _
    refine XS.aloadN X13.here hx rfl (hb hby d2_4) rfl rfl ?_
    show Steps p.tables e below (T13.setTop (mkF m 5 #[.val (.ref a1)] [(.ref a1)])) _
    refine XS.iconst X13.here hx rfl (hb hby d2_5) ?_
    show Steps p.tables e below (T13.setTop (mkF m 6 #[.val (.ref a1)] [(.int (0 : Int32)), (.ref a1)])) _
    exact k
  obtain ⟨T14, h14, X14, e14, W14, st14⟩ := putF X13 hx hZ hown (host := "") (Or.inl (hw _ (List.mem_of_getElem? (i := 22) rfl))) Via.refl q13_0 F_modCount_a1 E_a1 (Or.inl (hw _ (List.mem_of_getElem? (i := 23) rfl))) (hw _ (List.mem_of_getElem? (i := 2) rfl)) (ty := .int) (by decide) rfl rfl (g := (mkF m 6 #[.val (.ref a1)] [(.int (0 : Int32)), (.ref a1)])) rfl rfl (hb hby d2_6)
  refine own_go st14 ?_
  have F14 : Fld Z h14 a1 "java/util/AbstractList" "modCount" "I" (.int (0 : Int32)) := F_modCount_a1.same W14
  have K14 : Keep h0 h14 [a1] := Keep.wr (Keep.refl h0 [a1]) W14 (Or.inl (List.mem_of_getElem? (i := 0) rfl))
  have N14 := Fr.snoc X14 N13 g_a1
  obtain ⟨fs, hr, hrun, hended, hW, hsame⟩ := X14.leave (v := none) (fun _ => rfl)
  refine ⟨_, _, ?_, hrun, hended, _, _, rfl, ?_, ⟨_, rfl⟩, hW, hsame.mono (by decide) (by decide)⟩
  · exact X14.returnOut hx Bd.returns (hb hby d2_9) hr
  · show Q2L Z a1 h0 n0 _ T14.heap _
    rw [e14]
    have f16 : Exa Z h14 a1 "java/util/ArrayList" := (E_a1.wr W14)
    have f17 : Fld Z h14 a1 "java/util/ArrayList" "elementData" "[Ljava/lang/Object;" .null := (F_elementData_a1.other W14 (Or.inr (slot_ne (Or.inl (hw _ (List.mem_of_getElem? (i := 26) rfl))) (Or.inl (hw _ (List.mem_of_getElem? (i := 23) rfl))) (by decide) (t := (.array (.object "java/lang/Object"))) (t' := .int) (by decide) (by decide))))
    have f18 : Fld Z h14 a1 "java/util/ArrayList" "size" "I" (.int (0 : Int32)) := (F_size_a1.other W14 (Or.inr (slot_ne (Or.inl (hw _ (List.mem_of_getElem? (i := 57) rfl))) (Or.inl (hw _ (List.mem_of_getElem? (i := 23) rfl))) (by decide) (t := .int) (t' := .int) (by decide) (by decide))))
    exact ⟨rfl, N14, K14, f16, F14, f17, f18⟩
theorem pn_21 : plainName "java/util/ArrayList" = true := by first | (simp [plainName, overriddenIn]; done) | decide +kernel
theorem d1_0 : decode jdk_38_method_2_code 0 = .ok (.aload_n 0, 1) := by decide +kernel
theorem d1_1 : decode jdk_38_method_2_code 1 = .ok (.invokespecial 1, 3) := by decide +kernel
theorem d1_4 : decode jdk_38_method_2_code 4 = .ok (.aload_n 0, 1) := by decide +kernel
theorem d1_5 : decode jdk_38_method_2_code 5 = .ok (.getstatic 39, 3) := by decide +kernel
theorem d1_8 : decode jdk_38_method_2_code 8 = .ok (.putfield 9, 3) := by decide +kernel
theorem d1_11 : decode jdk_38_method_2_code 11 = .ok (.return_, 1) := by decide +kernel
theorem ef_1 (m : MethodId) (a1 : Addr) : entryFrame m #[(.ref a1)] 1 = mkF m 0 #[.val (.ref a1)] [] := by first | (simp [entryFrame, mkF, argsToLocals, Value.category]; done) | rfl
def Q1 (Z : State) (a1 : Addr) (w_DEFAULTCAPACITY_EMPTY_ELEMENTDATA : Addr) (h0 : Heap) (n0 : Nat) (v : Option Value) (h : Heap) (L : List Loc) : Prop := v = none ∧ Fr n0 L ∧ Keep h0 h [a1] ∧ Exa Z h a1 "java/util/ArrayList" ∧ Fld Z h a1 "java/util/AbstractList" "modCount" "I" (.int (0 : Int32)) ∧ Fld Z h a1 "java/util/ArrayList" "elementData" "[Ljava/lang/Object;" (.ref w_DEFAULTCAPACITY_EMPTY_ELEMENTDATA) ∧ Fld Z h a1 "java/util/ArrayList" "size" "I" (.int (0 : Int32))
set_option maxRecDepth 65536 in
set_option maxHeartbeats 40000000 in
theorem rm1 (l : Launch) (Z : State) (a0 : Array Value) (hw : ∀ d ∈ tables_1, d.before a0 Z = true) (ws : List Jvm.Cond) (a1 : Addr) (w_DEFAULTCAPACITY_EMPTY_ELEMENTDATA : Addr) (h0 : Heap) (n0 : Nat) (Z0 : n0 ≤ h0.size) (E_a1 : Exa Z h0 a1 "java/util/ArrayList") (F_modCount_a1 : Fld Z h0 a1 "java/util/AbstractList" "modCount" "I" (.int (0 : Int32))) (F_elementData_a1 : Fld Z h0 a1 "java/util/ArrayList" "elementData" "[Ljava/lang/Object;" .null) (F_size_a1 : Fld Z h0 a1 "java/util/ArrayList" "size" "I" (.int (0 : Int32))) (g_a1 : n0 ≤ a1) (S_DEFAULTCAPACITY_EMPTY_ELEMENTDATA : Sta Z h0 "java/util/ArrayList" "DEFAULTCAPACITY_EMPTY_ELEMENTDATA" "[Ljava/lang/Object;" (.ref w_DEFAULTCAPACITY_EMPTY_ELEMENTDATA)) :
    MetFree l (⟨"java/util/ArrayList", "<init>", "()V"⟩ : MethodName) (head1 (Jvm.Cond.code (⟨"java/util/ArrayList", "<init>", "()V"⟩ : MethodName) jdk_38_method_2_code 1 none :: ws) ({ frames := 3, cells := 0, slots := 0, locals := 36 } : Room)) (fun a U => a = #[(.ref a1)] ∧ Z.Warmed39 U.vm ∧ U.heap = h0) (fun _ _ _ _ _ => True) (fun _ U o U' => ∃ v L, o = .returned v ∧ Q1 Z a1 w_DEFAULTCAPACITY_EMPTY_ELEMENTDATA h0 n0 v U'.heap L ∧ FrameEnd U o U' L ({ frames := 3, cells := 0, slots := 0, locals := 36 } : Room).cells ({ frames := 3, cells := 0, slots := 0, locals := 36 } : Room).slots) := by
  refine MetFree.of_bodySF (plainFor_of_name pn_21) hisR ?_
  intro p e s m args below meth c s₁ Bd hml0 hP hK
  obtain ⟨rfl, hZ, hh⟩ := hP
  have hx := Bd.exec
  have hby := Bd.bytes
  have hml : c.maxLocals = 1 := hml0
  have hown : s.vm.findClass "java/util/ArrayList" = some m.cls := findClass_of_methodNamed Bd.named
  have hnm := (name_of_methodNamed Bd.named Bd.method).1
  have X0 : Stand p l e ({ frames := 3, cells := 0, slots := 0, locals := 36 } : Room) s m #[(.ref a1)] below meth c s₁ [] 0 0 := Stand.of_body Bd
  have e0 : s₁.heap = h0 := by rw [← hh, Bd.state]; rfl
  have N0 := Fr.nil n0
  refine own_go (B := s₁.setTop (mkF m 0 #[.val (.ref a1)] [])) (fun t k => castTop (ef_1 m a1) k) ?_
  refine own_go (B := s₁.setTop (mkF m 1 #[.val (.ref a1)] [(.ref a1)])) (fun t k => ?_) ?_
  · show Steps p.tables e below (s₁.setTop (mkF m 0 #[.val (.ref a1)] [])) _
    refine XS.aloadN X0.here hx rfl (hb hby d1_0) rfl rfl ?_
    show Steps p.tables e below (s₁.setTop (mkF m 1 #[.val (.ref a1)] [(.ref a1)])) _
    exact k
  obtain ⟨_, _, ⟨T19, L19, k19, n19⟩, -, X19, ⟨Lc19, hQ19, l19, y19, z19⟩, st19⟩ := X0.specialBack hx (y := (⟨"java/util/AbstractList", "<init>", "()V"⟩ : MethodName)) rfl hown (mvT hZ (hw _ (List.mem_of_getElem? (i := 7) rfl))) (mvT hZ (hw _ (List.mem_of_getElem? (i := 8) rfl))) (mvT hZ (hw _ (List.mem_of_getElem? (i := 12) rfl))) (by decide) (backOf (W := 0) (rm2L l Z a0 hw [] a1 h0 n0 Z0 E_a1 F_modCount_a1 F_elementData_a1 F_size_a1 g_a1) hZ (hw _ (List.mem_of_getElem? (i := 12) rfl)) (hw _ (List.mem_of_getElem? (i := 11) rfl)) (by decide) (by decide)) (g := (mkF m 1 #[.val (.ref a1)] [(.ref a1)])) rfl (by rw [hml]; rfl) (Steps.refl _) (a := a1) (argsL := []) (rest := []) (lenOf pd_0 rfl) rfl (by show 2 * 0 + _ ≤ _; exact Nat.le_of_eq rfl) (hb hby d1_1) (fun _ _ => ⟨rfl, e0, (by decide : 0 + 0 ≤ _), (by decide : 0 + 0 ≤ _)⟩)
  dsimp only [Pt.U, Pt.locs, Pt.cells, Pt.slots] at X19 l19 y19 z19 st19 hQ19
  subst l19 y19 z19
  obtain ⟨rfl, M19, q19_0, q19_1, q19_2, q19_3, q19_4⟩ := hQ19
  have N19 := Fr.app N0 M19
  have K19 : Keep h0 T19.heap [a1] := Keep.trans (Keep.refl h0 [a1]) q19_0 (allS (Or.inl (List.mem_of_getElem? (i := 0) rfl)) all0)
  refine own_go (fun t k => st19.trans k) ?_
  refine own_go (B := T19.setTop (mkF m 5 #[.val (.ref a1)] [(.ref a1)])) (fun t k => ?_) ?_
  · show Steps p.tables e below (T19.setTop (mkF m 4 #[.val (.ref a1)] [])) _
    refine XS.aloadN X19.here hx rfl (hb hby d1_4) rfl rfl ?_
    show Steps p.tables e below (T19.setTop (mkF m 5 #[.val (.ref a1)] [(.ref a1)])) _
    exact k
  have f21 : Sta Z T19.heap "java/util/ArrayList" "DEFAULTCAPACITY_EMPTY_ELEMENTDATA" "[Ljava/lang/Object;" (.ref w_DEFAULTCAPACITY_EMPTY_ELEMENTDATA) := (own_staKeep S_DEFAULTCAPACITY_EMPTY_ELEMENTDATA q19_0 (own_nsS (own_nsE E_a1) own_ns0))
  obtain ⟨T20, X20, e20, st20⟩ := getS2 X19 hx hZ hown (host := "") (Or.inl (hw _ (List.mem_of_getElem? (i := 24) rfl))) Via.refl rfl f21 (g := (mkF m 5 #[.val (.ref a1)] [(.ref a1)])) rfl (hb hby d1_5)
  refine own_go st20 ?_
  obtain ⟨T22, h22, X22, e22, W22, st22⟩ := putF X20 hx hZ hown (host := "") (Or.inl (hw _ (List.mem_of_getElem? (i := 25) rfl))) Via.refl e20 q19_3 q19_1 (Or.inl (hw _ (List.mem_of_getElem? (i := 26) rfl))) (hw _ (List.mem_of_getElem? (i := 2) rfl)) (ty := (.array (.object "java/lang/Object"))) (by decide) rfl rfl (g := (mkF m 8 #[.val (.ref a1)] [(.ref w_DEFAULTCAPACITY_EMPTY_ELEMENTDATA), (.ref a1)])) rfl rfl (hb hby d1_8)
  refine own_go st22 ?_
  have F22 : Fld Z h22 a1 "java/util/ArrayList" "elementData" "[Ljava/lang/Object;" (.ref w_DEFAULTCAPACITY_EMPTY_ELEMENTDATA) := q19_3.same W22
  have K22 : Keep h0 h22 [a1] := Keep.wr K19 W22 (Or.inl (List.mem_of_getElem? (i := 0) rfl))
  have N22 := Fr.snoc X22 N19 g_a1
  obtain ⟨fs, hr, hrun, hended, hW, hsame⟩ := X22.leave (v := none) (fun _ => rfl)
  refine ⟨_, _, ?_, hrun, hended, _, _, rfl, ?_, ⟨_, rfl⟩, hW, hsame.mono (by decide) (by decide)⟩
  · exact X22.returnOut hx Bd.returns (hb hby d1_11) hr
  · show Q1 Z a1 w_DEFAULTCAPACITY_EMPTY_ELEMENTDATA h0 n0 _ T22.heap _
    rw [e22]
    have f24 : Exa Z h22 a1 "java/util/ArrayList" := (q19_1.wr W22)
    have f25 : Fld Z h22 a1 "java/util/AbstractList" "modCount" "I" (.int (0 : Int32)) := (q19_2.other W22 (Or.inr (slot_ne (Or.inl (hw _ (List.mem_of_getElem? (i := 23) rfl))) (Or.inl (hw _ (List.mem_of_getElem? (i := 26) rfl))) (by decide) (t := .int) (t' := (.array (.object "java/lang/Object"))) (by decide) (by decide))))
    have f26 : Fld Z h22 a1 "java/util/ArrayList" "size" "I" (.int (0 : Int32)) := (q19_4.other W22 (Or.inr (slot_ne (Or.inl (hw _ (List.mem_of_getElem? (i := 57) rfl))) (Or.inl (hw _ (List.mem_of_getElem? (i := 26) rfl))) (by decide) (t := .int) (t' := (.array (.object "java/lang/Object"))) (by decide) (by decide))))
    exact ⟨rfl, N22, K22, f24, f25, F22, f26⟩
theorem d11_0 : decode jdk_29_method_65_code 0 = .ok (.iload_n 0, 1) := by decide +kernel
theorem d11_1 : decode jdk_29_method_65_code 1 = .ok (.iload_n 1, 1) := by decide +kernel
theorem d11_2 : decode jdk_29_method_65_code 2 = .ok (.if_icmp .lt 7, 3) := by decide +kernel
theorem d11_5 : decode jdk_29_method_65_code 5 = .ok (.iload_n 0, 1) := by decide +kernel
theorem d11_6 : decode jdk_29_method_65_code 6 = .ok (.goto 4, 3) := by decide +kernel
theorem d11_9 : decode jdk_29_method_65_code 9 = .ok (.iload_n 1, 1) := by decide +kernel
theorem d11_10 : decode jdk_29_method_65_code 10 = .ok (.ireturn, 1) := by decide +kernel
theorem ef_11 (m : MethodId) (p1 : Int32) (p2 : Int32) : entryFrame m #[(.int p1), (.int p2)] 2 = mkF m 0 #[.val (.int p1), .val (.int p2)] [] := by first | (simp [entryFrame, mkF, argsToLocals, Value.category]; done) | rfl
def Q11 (Z : State) (p1 : Int32) (p2 : Int32) (h0 : Heap) (n0 : Nat) (v : Option Value) (h : Heap) (L : List Loc) : Prop := v = some (.int (if p1 < p2 then p2 else p1)) ∧ Fr n0 L ∧ h = h0
set_option maxRecDepth 65536 in
set_option maxHeartbeats 40000000 in
theorem rm11 (l : Launch) (Z : State) (a0 : Array Value) (hw : ∀ d ∈ tables_1, d.before a0 Z = true) (ws : List Jvm.Cond) (p1 : Int32) (p2 : Int32) (h0 : Heap) (n0 : Nat) (Z0 : n0 ≤ h0.size) :
    MetFree l (⟨"java/lang/Math", "max", "(II)I"⟩ : MethodName) (head1 (Jvm.Cond.code (⟨"java/lang/Math", "max", "(II)I"⟩ : MethodName) jdk_29_method_65_code 2 (some .int) :: ws) ({ frames := 0, cells := 0, slots := 0, locals := 0 } : Room)) (fun a U => a = #[(.int p1), (.int p2)] ∧ Z.Warmed39 U.vm ∧ U.heap = h0) (fun _ _ _ _ _ => True) (fun _ U o U' => ∃ v L, o = .returned v ∧ Q11 Z p1 p2 h0 n0 v U'.heap L ∧ FrameEnd U o U' L ({ frames := 0, cells := 0, slots := 0, locals := 0 } : Room).cells ({ frames := 0, cells := 0, slots := 0, locals := 0 } : Room).slots) := by
  refine MetFree.of_bodySF (Jvm.Free.JP.mathPlain rfl (by decide +kernel)) hisR ?_
  intro p e s m args below meth c s₁ Bd hml0 hP hK
  obtain ⟨rfl, hZ, hh⟩ := hP
  have hx := Bd.exec
  have hby := Bd.bytes
  have hml : c.maxLocals = 2 := hml0
  have hown : s.vm.findClass "java/lang/Math" = some m.cls := findClass_of_methodNamed Bd.named
  have hnm := (name_of_methodNamed Bd.named Bd.method).1
  have X0 : Stand p l e ({ frames := 0, cells := 0, slots := 0, locals := 0 } : Room) s m #[(.int p1), (.int p2)] below meth c s₁ [] 0 0 := Stand.of_body Bd
  have e0 : s₁.heap = h0 := by rw [← hh, Bd.state]; rfl
  have N0 := Fr.nil n0
  refine own_go (B := s₁.setTop (mkF m 0 #[.val (.int p1), .val (.int p2)] [])) (fun t k => castTop (ef_11 m p1 p2) k) ?_
  refine own_go (B := s₁.setTop (mkF m 2 #[.val (.int p1), .val (.int p2)] [(.int p2), (.int p1)])) (fun t k => ?_) ?_
  · show Steps p.tables e below (s₁.setTop (mkF m 0 #[.val (.int p1), .val (.int p2)] [])) _
    refine XS.iloadN X0.here hx rfl (hb hby d11_0) rfl ?_
    show Steps p.tables e below (s₁.setTop (mkF m 1 #[.val (.int p1), .val (.int p2)] [(.int p1)])) _
    refine XS.iloadN X0.here hx rfl (hb hby d11_1) rfl ?_
    show Steps p.tables e below (s₁.setTop (mkF m 2 #[.val (.int p1), .val (.int p2)] [(.int p2), (.int p1)])) _
    exact k
  by_cases hc27 : p1 < p2
  · refine own_go (B := s₁.setTop (mkF m 10 #[.val (.int p1), .val (.int p2)] [(.int p2)])) (fun t k => ?_) ?_
    · show Steps p.tables e below (s₁.setTop (mkF m 2 #[.val (.int p1), .val (.int p2)] [(.int p2), (.int p1)])) _
      refine XS.icmpYes X0.here hx rfl (pc0 := 2) (pc' := 9) rfl (hb hby d11_2) rfl (tlt hc27).1 (by decide) (by decide) ?_
      show Steps p.tables e below (s₁.setTop (mkF m 9 #[.val (.int p1), .val (.int p2)] [])) _
      refine XS.iloadN X0.here hx rfl (hb hby d11_9) rfl ?_
      show Steps p.tables e below (s₁.setTop (mkF m 10 #[.val (.int p1), .val (.int p2)] [(.int p2)])) _
      exact k
    obtain ⟨fs, hr, hrun, hended, hW, hsame⟩ := X0.leave (v := some (.int p2)) (fun h => by rw [Bd.returns] at h; cases h)
    refine ⟨_, _, ?_, hrun, hended, _, _, rfl, ?_, ⟨_, rfl⟩, hW, hsame.mono (by decide) (by decide)⟩
    · exact retI X0 hx Bd.returns (hb hby d11_10) hr
    · show Q11 Z p1 p2 h0 n0 _ s₁.heap _
      rw [e0]
      exact ⟨(by rw [if_pos hc27]), N0, rfl⟩
  · refine own_go (B := s₁.setTop (mkF m 10 #[.val (.int p1), .val (.int p2)] [(.int p1)])) (fun t k => ?_) ?_
    · show Steps p.tables e below (s₁.setTop (mkF m 2 #[.val (.int p1), .val (.int p2)] [(.int p2), (.int p1)])) _
      refine XS.icmpNo X0.here hx rfl (hb hby d11_2) rfl (flt hc27).1 ?_
      show Steps p.tables e below (s₁.setTop (mkF m 5 #[.val (.int p1), .val (.int p2)] [])) _
      refine XS.iloadN X0.here hx rfl (hb hby d11_5) rfl ?_
      show Steps p.tables e below (s₁.setTop (mkF m 6 #[.val (.int p1), .val (.int p2)] [(.int p1)])) _
      refine XS.goto X0.here hx rfl (pc0 := 6) (pc' := 10) rfl (hb hby d11_6) (by decide) (by decide) ?_
      show Steps p.tables e below (s₁.setTop (mkF m 10 #[.val (.int p1), .val (.int p2)] [(.int p1)])) _
      exact k
    obtain ⟨fs, hr, hrun, hended, hW, hsame⟩ := X0.leave (v := some (.int p1)) (fun h => by rw [Bd.returns] at h; cases h)
    refine ⟨_, _, ?_, hrun, hended, _, _, rfl, ?_, ⟨_, rfl⟩, hW, hsame.mono (by decide) (by decide)⟩
    · exact retI X0 hx Bd.returns (hb hby d11_10) hr
    · show Q11 Z p1 p2 h0 n0 _ s₁.heap _
      rw [e0]
      exact ⟨(by rw [if_neg hc27]), N0, rfl⟩
theorem pd_1 : parseMethodDescriptor "(II)I" = some ⟨[.int, .int], some .int⟩ := by decide +kernel
theorem d10_0 : decode jdk_38_method_6_code 0 = .ok (.aload_n 0, 1) := by decide +kernel
theorem d10_1 : decode jdk_38_method_6_code 1 = .ok (.getfield 9, 3) := by decide +kernel
theorem d10_4 : decode jdk_38_method_6_code 4 = .ok (.arraylength, 1) := by decide +kernel
theorem d10_5 : decode jdk_38_method_6_code 5 = .ok (.istore_n 2, 1) := by decide +kernel
theorem d10_6 : decode jdk_38_method_6_code 6 = .ok (.iload_n 2, 1) := by decide +kernel
theorem d10_7 : decode jdk_38_method_6_code 7 = .ok (.ifCond .gt 13, 3) := by decide +kernel
theorem d10_10 : decode jdk_38_method_6_code 10 = .ok (.aload_n 0, 1) := by decide +kernel
theorem d10_11 : decode jdk_38_method_6_code 11 = .ok (.getfield 9, 3) := by decide +kernel
theorem d10_14 : decode jdk_38_method_6_code 14 = .ok (.getstatic 39, 3) := by decide +kernel
theorem d10_17 : decode jdk_38_method_6_code 17 = .ok (.if_acmp .eq 28, 3) := by decide +kernel
theorem d10_45 : decode jdk_38_method_6_code 45 = .ok (.aload_n 0, 1) := by decide +kernel
theorem d10_46 : decode jdk_38_method_6_code 46 = .ok (.bipush 10, 2) := by decide +kernel
theorem d10_48 : decode jdk_38_method_6_code 48 = .ok (.iload_n 1, 1) := by decide +kernel
theorem d10_49 : decode jdk_38_method_6_code 49 = .ok (.invokestatic 79, 3) := by decide +kernel
theorem d10_52 : decode jdk_38_method_6_code 52 = .ok (.anewarray 7, 3) := by decide +kernel
theorem d10_55 : decode jdk_38_method_6_code 55 = .ok (.dup_x1, 1) := by decide +kernel
theorem d10_56 : decode jdk_38_method_6_code 56 = .ok (.putfield 9, 3) := by decide +kernel
theorem d10_59 : decode jdk_38_method_6_code 59 = .ok (.areturn, 1) := by decide +kernel
theorem ef_10 (m : MethodId) (a1 : Addr) : entryFrame m #[(.ref a1), (.int (1 : Int32))] 4 = mkF m 0 #[.val (.ref a1), .val (.int (1 : Int32)), .unset, .unset] [] := by first | (simp [entryFrame, mkF, argsToLocals, Value.category]; done) | rfl
def Q10 (Z : State) (a1 : Addr) (w_DEFAULTCAPACITY_EMPTY_ELEMENTDATA : Addr) (k_DEFAULTCAPACITY_EMPTY_ELEMENTDATA : ClassId) (h0 : Heap) (n0 : Nat) (v : Option Value) (h : Heap) (L : List Loc) : Prop := ∃ (bn : Addr) (kn : ClassId), v = some (.ref bn) ∧ Fr n0 L ∧ Keep h0 h [a1] ∧ h0.size ≤ bn ∧ Arv Z h bn kn (.object "java/lang/Object") (10 : Int32) [.null, .null, .null, .null, .null, .null, .null, .null, .null, .null] .null ∧ Ovr Z kn "java/lang/Object" ∧ Exa Z h a1 "java/util/ArrayList" ∧ Fld Z h a1 "java/util/AbstractList" "modCount" "I" (.int (1 : Int32)) ∧ Fld Z h a1 "java/util/ArrayList" "elementData" "[Ljava/lang/Object;" (.ref bn) ∧ Fld Z h a1 "java/util/ArrayList" "size" "I" (.int (0 : Int32))
set_option maxRecDepth 65536 in
set_option maxHeartbeats 40000000 in
theorem rm10 (l : Launch) (Z : State) (a0 : Array Value) (hw : ∀ d ∈ tables_1, d.before a0 Z = true) (ws : List Jvm.Cond) (a1 : Addr) (w_DEFAULTCAPACITY_EMPTY_ELEMENTDATA : Addr) (k_DEFAULTCAPACITY_EMPTY_ELEMENTDATA : ClassId) (h0 : Heap) (n0 : Nat) (Z0 : n0 ≤ h0.size) (E_a1 : Exa Z h0 a1 "java/util/ArrayList") (F_mc : Fld Z h0 a1 "java/util/AbstractList" "modCount" "I" (.int (1 : Int32))) (F_ea : Fld Z h0 a1 "java/util/ArrayList" "elementData" "[Ljava/lang/Object;" (.ref w_DEFAULTCAPACITY_EMPTY_ELEMENTDATA)) (F_sz : Fld Z h0 a1 "java/util/ArrayList" "size" "I" (.int (0 : Int32))) (S_DEFAULTCAPACITY_EMPTY_ELEMENTDATA : Sta Z h0 "java/util/ArrayList" "DEFAULTCAPACITY_EMPTY_ELEMENTDATA" "[Ljava/lang/Object;" (.ref w_DEFAULTCAPACITY_EMPTY_ELEMENTDATA)) (E_DEFAULTCAPACITY_EMPTY_ELEMENTDATA : Exa Z h0 w_DEFAULTCAPACITY_EMPTY_ELEMENTDATA "[Ljava/lang/Object;") (V_DEFAULTCAPACITY_EMPTY_ELEMENTDATA : Arv Z h0 w_DEFAULTCAPACITY_EMPTY_ELEMENTDATA k_DEFAULTCAPACITY_EMPTY_ELEMENTDATA (.object "java/lang/Object") (0 : Int32) [] .null) (g_a1 : n0 ≤ a1) :
    MetFree l (⟨"java/util/ArrayList", "grow", "(I)[Ljava/lang/Object;"⟩ : MethodName) (head1 (Jvm.Cond.code (⟨"java/util/ArrayList", "grow", "(I)[Ljava/lang/Object;"⟩ : MethodName) jdk_38_method_6_code 4 (some (.array (.object "java/lang/Object"))) :: ws) ({ frames := 1, cells := 1, slots := 10, locals := 14 } : Room)) (fun a U => a = #[(.ref a1), (.int (1 : Int32))] ∧ Z.Warmed39 U.vm ∧ U.heap = h0) (fun _ _ _ _ _ => True) (fun _ U o U' => ∃ v L, o = .returned v ∧ Q10 Z a1 w_DEFAULTCAPACITY_EMPTY_ELEMENTDATA k_DEFAULTCAPACITY_EMPTY_ELEMENTDATA h0 n0 v U'.heap L ∧ FrameEnd U o U' L ({ frames := 1, cells := 1, slots := 10, locals := 14 } : Room).cells ({ frames := 1, cells := 1, slots := 10, locals := 14 } : Room).slots) := by
  refine MetFree.of_bodySF (plainFor_of_name pn_21) hisR ?_
  intro p e s m args below meth c s₁ Bd hml0 hP hK
  obtain ⟨rfl, hZ, hh⟩ := hP
  have hx := Bd.exec
  have hby := Bd.bytes
  have hml : c.maxLocals = 4 := hml0
  have hown : s.vm.findClass "java/util/ArrayList" = some m.cls := findClass_of_methodNamed Bd.named
  have hnm := (name_of_methodNamed Bd.named Bd.method).1
  have X0 : Stand p l e ({ frames := 1, cells := 1, slots := 10, locals := 14 } : Room) s m #[(.ref a1), (.int (1 : Int32))] below meth c s₁ [] 0 0 := Stand.of_body Bd
  have e0 : s₁.heap = h0 := by rw [← hh, Bd.state]; rfl
  have N0 := Fr.nil n0
  refine own_go (B := s₁.setTop (mkF m 0 #[.val (.ref a1), .val (.int (1 : Int32)), .unset, .unset] [])) (fun t k => castTop (ef_10 m a1) k) ?_
  refine own_go (B := s₁.setTop (mkF m 1 #[.val (.ref a1), .val (.int (1 : Int32)), .unset, .unset] [(.ref a1)])) (fun t k => ?_) ?_
  · show Steps p.tables e below (s₁.setTop (mkF m 0 #[.val (.ref a1), .val (.int (1 : Int32)), .unset, .unset] [])) _
    refine XS.aloadN X0.here hx rfl (hb hby d10_0) rfl rfl ?_
    show Steps p.tables e below (s₁.setTop (mkF m 1 #[.val (.ref a1), .val (.int (1 : Int32)), .unset, .unset] [(.ref a1)])) _
    exact k
  obtain ⟨T30, X30, e30, st30⟩ := getF X0 hx hZ hown (host := "") (Or.inl (hw _ (List.mem_of_getElem? (i := 25) rfl))) Via.refl e0 F_ea (g := (mkF m 1 #[.val (.ref a1), .val (.int (1 : Int32)), .unset, .unset] [(.ref a1)])) rfl rfl (hb hby d10_1)
  refine own_go st30 ?_
  obtain ⟨cl31, Ar31, cq31, cS31, cN31, cH31, cG31⟩ := id V_DEFAULTCAPACITY_EMPTY_ELEMENTDATA
  refine own_go (B := T30.setTop (mkF m 11 #[.val (.ref a1), .val (.int (1 : Int32)), .val (.int (0 : Int32)), .unset] [(.ref a1)])) (fun t k => ?_) ?_
  · show Steps p.tables e below (T30.setTop (mkF m 4 #[.val (.ref a1), .val (.int (1 : Int32)), .unset, .unset] [(.ref w_DEFAULTCAPACITY_EMPTY_ELEMENTDATA)])) _
    refine X30.arraylength hx (by rw [e30]; exact Ar31.1) (State.isArrayOf_alike hZ.alike Ar31.2.1) (g := (mkF m 4 #[.val (.ref a1), .val (.int (1 : Int32)), .unset, .unset] [(.ref w_DEFAULTCAPACITY_EMPTY_ELEMENTDATA)])) rfl rfl (hb hby d10_4) _ ?_
    rw [len_of cS31 cN31]
    show Steps p.tables e below (T30.setTop (mkF m 5 #[.val (.ref a1), .val (.int (1 : Int32)), .unset, .unset] [(.int (0 : Int32))])) _
    refine XS.istoreN X30.here hx rfl (hb hby d10_5) rfl (l' := #[.val (.ref a1), .val (.int (1 : Int32)), .val (.int (0 : Int32)), .unset]) rfl ?_
    show Steps p.tables e below (T30.setTop (mkF m 6 #[.val (.ref a1), .val (.int (1 : Int32)), .val (.int (0 : Int32)), .unset] [])) _
    refine XS.iloadN X30.here hx rfl (hb hby d10_6) rfl ?_
    show Steps p.tables e below (T30.setTop (mkF m 7 #[.val (.ref a1), .val (.int (1 : Int32)), .val (.int (0 : Int32)), .unset] [(.int (0 : Int32))])) _
    refine XS.ifNo X30.here hx rfl (hb hby d10_7) rfl ((if0 _ _).trans (flt (by decide : ¬ ((0 : Int32) < (0 : Int32)))).2.2.1) ?_
    show Steps p.tables e below (T30.setTop (mkF m 10 #[.val (.ref a1), .val (.int (1 : Int32)), .val (.int (0 : Int32)), .unset] [])) _
    refine XS.aloadN X30.here hx rfl (hb hby d10_10) rfl rfl ?_
    show Steps p.tables e below (T30.setTop (mkF m 11 #[.val (.ref a1), .val (.int (1 : Int32)), .val (.int (0 : Int32)), .unset] [(.ref a1)])) _
    exact k
  obtain ⟨T32, X32, e32, st32⟩ := getF X30 hx hZ hown (host := "") (Or.inl (hw _ (List.mem_of_getElem? (i := 25) rfl))) Via.refl e30 F_ea (g := (mkF m 11 #[.val (.ref a1), .val (.int (1 : Int32)), .val (.int (0 : Int32)), .unset] [(.ref a1)])) rfl rfl (hb hby d10_11)
  refine own_go st32 ?_
  obtain ⟨T33, X33, e33, st33⟩ := getS2 X32 hx hZ hown (host := "") (Or.inl (hw _ (List.mem_of_getElem? (i := 24) rfl))) Via.refl e32 S_DEFAULTCAPACITY_EMPTY_ELEMENTDATA (g := (mkF m 14 #[.val (.ref a1), .val (.int (1 : Int32)), .val (.int (0 : Int32)), .unset] [(.ref w_DEFAULTCAPACITY_EMPTY_ELEMENTDATA)])) rfl (hb hby d10_14)
  refine own_go st33 ?_
  refine own_go (B := T33.setTop (mkF m 49 #[.val (.ref a1), .val (.int (1 : Int32)), .val (.int (0 : Int32)), .unset] [(.int (1 : Int32)), (.int (10 : Int32)), (.ref a1)])) (fun t k => ?_) ?_
  · show Steps p.tables e below (T33.setTop (mkF m 17 #[.val (.ref a1), .val (.int (1 : Int32)), .val (.int (0 : Int32)), .unset] [(.ref w_DEFAULTCAPACITY_EMPTY_ELEMENTDATA), (.ref w_DEFAULTCAPACITY_EMPTY_ELEMENTDATA)])) _
    refine Jvm.RoadKit.acmp (g := (mkF m 17 #[.val (.ref a1), .val (.int (1 : Int32)), .val (.int (0 : Int32)), .unset] [(.ref w_DEFAULTCAPACITY_EMPTY_ELEMENTDATA), (.ref w_DEFAULTCAPACITY_EMPTY_ELEMENTDATA)])) X33 hx rfl rfl rfl (pc0 := 17) (pc' := 45) (same := true) rfl (hb hby d10_17) rfl (decide_eq_true rfl) (by decide) (by decide) ?_
    show Steps p.tables e below (T33.setTop (mkF m 45 #[.val (.ref a1), .val (.int (1 : Int32)), .val (.int (0 : Int32)), .unset] [])) _
    refine XS.aloadN X33.here hx rfl (hb hby d10_45) rfl rfl ?_
    show Steps p.tables e below (T33.setTop (mkF m 46 #[.val (.ref a1), .val (.int (1 : Int32)), .val (.int (0 : Int32)), .unset] [(.ref a1)])) _
    refine XS.bipush X33.here hx rfl (hb hby d10_46) ?_
    show Steps p.tables e below (T33.setTop (mkF m 48 #[.val (.ref a1), .val (.int (1 : Int32)), .val (.int (0 : Int32)), .unset] [(.int (10 : Int32)), (.ref a1)])) _
    refine XS.iloadN X33.here hx rfl (hb hby d10_48) rfl ?_
    show Steps p.tables e below (T33.setTop (mkF m 49 #[.val (.ref a1), .val (.int (1 : Int32)), .val (.int (0 : Int32)), .unset] [(.int (1 : Int32)), (.int (10 : Int32)), (.ref a1)])) _
    exact k
  obtain ⟨_, _, ⟨T34, L34, k34, n34⟩, -, X34, ⟨Lc34, hQ34, l34, y34, z34⟩, st34⟩ := Jvm.LawKit.callS X33 hx (y := (⟨"java/lang/Math", "max", "(II)I"⟩ : MethodName)) hown (mvT hZ (hw _ (List.mem_of_getElem? (i := 73) rfl))) (mvT hZ (hw _ (List.mem_of_getElem? (i := 74) rfl))) (mvT hZ (hw _ (List.mem_of_getElem? (i := 75) rfl))) (mvT hZ (hw _ (List.mem_of_getElem? (i := 76) rfl))) (by decide) (backOf (W := 1) (rm11 l Z a0 hw [] (10 : Int32) (1 : Int32) h0 n0 Z0 ) hZ (hw _ (List.mem_of_getElem? (i := 76) rfl)) (hw _ (List.mem_of_getElem? (i := 75) rfl)) (by decide) (by decide)) (g := (mkF m 49 #[.val (.ref a1), .val (.int (1 : Int32)), .val (.int (0 : Int32)), .unset] [(.int (1 : Int32)), (.int (10 : Int32)), (.ref a1)])) rfl (by rw [hml]; rfl) (argsL := [(.int (10 : Int32)), (.int (1 : Int32))]) (rest := [(.ref a1)]) (lenOf pd_1 rfl) rfl (by show 2 * 0 + _ ≤ _; exact Nat.le_of_eq rfl) (hb hby d10_49) (fun _ _ => ⟨rfl, e33, (by decide : 0 + 0 ≤ _), (by decide : 0 + 0 ≤ _)⟩)
  dsimp only [Pt.U, Pt.locs, Pt.cells, Pt.slots] at X34 l34 y34 z34 st34 hQ34
  subst l34 y34 z34
  obtain ⟨rfl, M34, q34_0⟩ := hQ34
  have N34 := Fr.app N0 M34
  refine own_go st34 ?_
  rw [show (if (10 : Int32) < (1 : Int32) then (1 : Int32) else (10 : Int32)) = (10 : Int32) from if_neg (by decide)]
  obtain ⟨T35, h35, k35, X35, e35, E35, A35, O35, st35⟩ := newR X34 hx hZ hown (hw _ (List.mem_of_getElem? (i := 77) rfl)) (hw _ (List.mem_of_getElem? (i := 78) rfl)) q34_0 (g := (mkF m 52 #[.val (.ref a1), .val (.int (1 : Int32)), .val (.int (0 : Int32)), .unset] [(.int (10 : Int32)), (.ref a1)])) rfl (hb hby d10_52) rfl (by decide) (cap := 10) (by decide) (by decide) (by decide) (by decide)
  obtain ⟨b35, g35⟩ : ∃ z, z = h0.size := ⟨_, rfl⟩
  rw [← g35] at A35 st35
  refine own_go st35 ?_
  have K35 : Keep h0 h35 [a1] := Keep.ext (Keep.refl h0 [a1]) E35
  have V35 : Arv Z h35 b35 k35 (.object "java/lang/Object") (10 : Int32) [.null, .null, .null, .null, .null, .null, .null, .null, .null, .null] .null := (Arv.new A35 (by decide)).pad (pad_rep [] .null 10)
  refine own_go (B := T35.setTop (mkF m 56 #[.val (.ref a1), .val (.int (1 : Int32)), .val (.int (0 : Int32)), .unset] [(.ref b35), (.ref a1), (.ref b35)])) (fun t k => ?_) ?_
  · show Steps p.tables e below (T35.setTop (mkF m 55 #[.val (.ref a1), .val (.int (1 : Int32)), .val (.int (0 : Int32)), .unset] [(.ref b35), (.ref a1)])) _
    refine XS.dupX1 X35.here hx rfl (hb hby d10_55) rfl rfl rfl ?_
    show Steps p.tables e below (T35.setTop (mkF m 56 #[.val (.ref a1), .val (.int (1 : Int32)), .val (.int (0 : Int32)), .unset] [(.ref b35), (.ref a1), (.ref b35)])) _
    exact k
  have f37 : Exa Z h35 a1 "java/util/ArrayList" := (E_a1.ext E35)
  have f38 : Fld Z h35 a1 "java/util/ArrayList" "elementData" "[Ljava/lang/Object;" (.ref w_DEFAULTCAPACITY_EMPTY_ELEMENTDATA) := (F_ea.ext E35)
  obtain ⟨T36, h36, X36, e36, W36, st36⟩ := putF X35 hx hZ hown (host := "") (Or.inl (hw _ (List.mem_of_getElem? (i := 25) rfl))) Via.refl e35 f38 f37 (Or.inl (hw _ (List.mem_of_getElem? (i := 26) rfl))) (hw _ (List.mem_of_getElem? (i := 2) rfl)) (ty := (.array (.object "java/lang/Object"))) (by decide) rfl rfl (g := (mkF m 56 #[.val (.ref a1), .val (.int (1 : Int32)), .val (.int (0 : Int32)), .unset] [(.ref b35), (.ref a1), (.ref b35)])) rfl rfl (hb hby d10_56)
  refine own_go st36 ?_
  have F36 : Fld Z h36 a1 "java/util/ArrayList" "elementData" "[Ljava/lang/Object;" (.ref b35) := f38.same W36
  have K36 : Keep h0 h36 [a1] := Keep.wr K35 W36 (Or.inl (List.mem_of_getElem? (i := 0) rfl))
  have N36 := Fr.snoc X36 N34 g_a1
  obtain ⟨fs, hr, hrun, hended, hW, hsame⟩ := X36.leave (v := some (.ref b35)) (fun h => by rw [Bd.returns] at h; cases h)
  refine ⟨_, _, ?_, hrun, hended, _, _, rfl, ?_, ⟨_, rfl⟩, hW, hsame.mono (by decide) (by decide)⟩
  · exact own_retR X36 hx Bd.returns rfl rfl (hb hby d10_59) hr
  · show Q10 Z a1 w_DEFAULTCAPACITY_EMPTY_ELEMENTDATA k_DEFAULTCAPACITY_EMPTY_ELEMENTDATA h0 n0 _ T36.heap _
    rw [e36]
    have ne40 : a1 ≠ b35 := (Nat.ne_of_lt (Nat.lt_of_lt_of_le E_a1.lt (Nat.le_of_eq g35.symm)))
    have f41 : Arv Z h36 b35 k35 (.object "java/lang/Object") (10 : Int32) [.null, .null, .null, .null, .null, .null, .null, .null, .null, .null] .null := (V35.other W36 (Ne.symm ne40))
    have f42 : Exa Z h36 a1 "java/util/ArrayList" := (f37.wr W36)
    have f43 : Fld Z h36 a1 "java/util/AbstractList" "modCount" "I" (.int (1 : Int32)) := ((F_mc.ext E35).other W36 (Or.inr (slot_ne (Or.inl (hw _ (List.mem_of_getElem? (i := 23) rfl))) (Or.inl (hw _ (List.mem_of_getElem? (i := 26) rfl))) (by decide) (t := .int) (t' := (.array (.object "java/lang/Object"))) (by decide) (by decide))))
    have f44 : Fld Z h36 a1 "java/util/ArrayList" "size" "I" (.int (0 : Int32)) := ((F_sz.ext E35).other W36 (Or.inr (slot_ne (Or.inl (hw _ (List.mem_of_getElem? (i := 57) rfl))) (Or.inl (hw _ (List.mem_of_getElem? (i := 26) rfl))) (by decide) (t := .int) (t' := (.array (.object "java/lang/Object"))) (by decide) (by decide))))
    exact ⟨b35, k35, rfl, N36, K36, (Nat.le_of_eq g35.symm), f41, O35, f42, f43, F36, f44⟩
theorem pd_2 : parseMethodDescriptor "(I)[Ljava/lang/Object;" = some ⟨[.int], some (.array (.object "java/lang/Object"))⟩ := by decide +kernel
theorem d9_0 : decode jdk_38_method_7_code 0 = .ok (.aload_n 0, 1) := by decide +kernel
theorem d9_1 : decode jdk_38_method_7_code 1 = .ok (.aload_n 0, 1) := by decide +kernel
theorem d9_2 : decode jdk_38_method_7_code 2 = .ok (.getfield 48, 3) := by decide +kernel
theorem d9_5 : decode jdk_38_method_7_code 5 = .ok (.iconst 1, 1) := by decide +kernel
theorem d9_6 : decode jdk_38_method_7_code 6 = .ok (.iadd, 1) := by decide +kernel
theorem d9_7 : decode jdk_38_method_7_code 7 = .ok (.invokevirtual 69, 3) := by decide +kernel
theorem d9_10 : decode jdk_38_method_7_code 10 = .ok (.areturn, 1) := by decide +kernel
theorem ef_9 (m : MethodId) (a1 : Addr) : entryFrame m #[(.ref a1)] 1 = mkF m 0 #[.val (.ref a1)] [] := by first | (simp [entryFrame, mkF, argsToLocals, Value.category]; done) | rfl
def Q9 (Z : State) (a1 : Addr) (w_DEFAULTCAPACITY_EMPTY_ELEMENTDATA : Addr) (k_DEFAULTCAPACITY_EMPTY_ELEMENTDATA : ClassId) (h0 : Heap) (n0 : Nat) (v : Option Value) (h : Heap) (L : List Loc) : Prop := ∃ (bn : Addr) (kn : ClassId), v = some (.ref bn) ∧ Fr n0 L ∧ Keep h0 h [a1] ∧ h0.size ≤ bn ∧ Arv Z h bn kn (.object "java/lang/Object") (10 : Int32) [.null, .null, .null, .null, .null, .null, .null, .null, .null, .null] .null ∧ Ovr Z kn "java/lang/Object" ∧ Exa Z h a1 "java/util/ArrayList" ∧ Fld Z h a1 "java/util/AbstractList" "modCount" "I" (.int (1 : Int32)) ∧ Fld Z h a1 "java/util/ArrayList" "elementData" "[Ljava/lang/Object;" (.ref bn) ∧ Fld Z h a1 "java/util/ArrayList" "size" "I" (.int (0 : Int32))
set_option maxRecDepth 65536 in
set_option maxHeartbeats 40000000 in
theorem rm9 (l : Launch) (Z : State) (a0 : Array Value) (hw : ∀ d ∈ tables_1, d.before a0 Z = true) (ws : List Jvm.Cond) (a1 : Addr) (w_DEFAULTCAPACITY_EMPTY_ELEMENTDATA : Addr) (k_DEFAULTCAPACITY_EMPTY_ELEMENTDATA : ClassId) (h0 : Heap) (n0 : Nat) (Z0 : n0 ≤ h0.size) (E_a1 : Exa Z h0 a1 "java/util/ArrayList") (F_mc : Fld Z h0 a1 "java/util/AbstractList" "modCount" "I" (.int (1 : Int32))) (F_ea : Fld Z h0 a1 "java/util/ArrayList" "elementData" "[Ljava/lang/Object;" (.ref w_DEFAULTCAPACITY_EMPTY_ELEMENTDATA)) (F_sz : Fld Z h0 a1 "java/util/ArrayList" "size" "I" (.int (0 : Int32))) (S_DEFAULTCAPACITY_EMPTY_ELEMENTDATA : Sta Z h0 "java/util/ArrayList" "DEFAULTCAPACITY_EMPTY_ELEMENTDATA" "[Ljava/lang/Object;" (.ref w_DEFAULTCAPACITY_EMPTY_ELEMENTDATA)) (E_DEFAULTCAPACITY_EMPTY_ELEMENTDATA : Exa Z h0 w_DEFAULTCAPACITY_EMPTY_ELEMENTDATA "[Ljava/lang/Object;") (V_DEFAULTCAPACITY_EMPTY_ELEMENTDATA : Arv Z h0 w_DEFAULTCAPACITY_EMPTY_ELEMENTDATA k_DEFAULTCAPACITY_EMPTY_ELEMENTDATA (.object "java/lang/Object") (0 : Int32) [] .null) (g_a1 : n0 ≤ a1) :
    MetFree l (⟨"java/util/ArrayList", "grow", "()[Ljava/lang/Object;"⟩ : MethodName) (head1 (Jvm.Cond.code (⟨"java/util/ArrayList", "grow", "()[Ljava/lang/Object;"⟩ : MethodName) jdk_38_method_7_code 1 (some (.array (.object "java/lang/Object"))) :: ws) ({ frames := 2, cells := 1, slots := 10, locals := 29 } : Room)) (fun a U => a = #[(.ref a1)] ∧ Z.Warmed39 U.vm ∧ U.heap = h0) (fun _ _ _ _ _ => True) (fun _ U o U' => ∃ v L, o = .returned v ∧ Q9 Z a1 w_DEFAULTCAPACITY_EMPTY_ELEMENTDATA k_DEFAULTCAPACITY_EMPTY_ELEMENTDATA h0 n0 v U'.heap L ∧ FrameEnd U o U' L ({ frames := 2, cells := 1, slots := 10, locals := 29 } : Room).cells ({ frames := 2, cells := 1, slots := 10, locals := 29 } : Room).slots) := by
  refine MetFree.of_bodySF (plainFor_of_name pn_21) hisR ?_
  intro p e s m args below meth c s₁ Bd hml0 hP hK
  obtain ⟨rfl, hZ, hh⟩ := hP
  have hx := Bd.exec
  have hby := Bd.bytes
  have hml : c.maxLocals = 1 := hml0
  have hown : s.vm.findClass "java/util/ArrayList" = some m.cls := findClass_of_methodNamed Bd.named
  have hnm := (name_of_methodNamed Bd.named Bd.method).1
  have X0 : Stand p l e ({ frames := 2, cells := 1, slots := 10, locals := 29 } : Room) s m #[(.ref a1)] below meth c s₁ [] 0 0 := Stand.of_body Bd
  have e0 : s₁.heap = h0 := by rw [← hh, Bd.state]; rfl
  have N0 := Fr.nil n0
  refine own_go (B := s₁.setTop (mkF m 0 #[.val (.ref a1)] [])) (fun t k => castTop (ef_9 m a1) k) ?_
  refine own_go (B := s₁.setTop (mkF m 2 #[.val (.ref a1)] [(.ref a1), (.ref a1)])) (fun t k => ?_) ?_
  · show Steps p.tables e below (s₁.setTop (mkF m 0 #[.val (.ref a1)] [])) _
    refine XS.aloadN X0.here hx rfl (hb hby d9_0) rfl rfl ?_
    show Steps p.tables e below (s₁.setTop (mkF m 1 #[.val (.ref a1)] [(.ref a1)])) _
    refine XS.aloadN X0.here hx rfl (hb hby d9_1) rfl rfl ?_
    show Steps p.tables e below (s₁.setTop (mkF m 2 #[.val (.ref a1)] [(.ref a1), (.ref a1)])) _
    exact k
  obtain ⟨T45, X45, e45, st45⟩ := getF X0 hx hZ hown (host := "") (Or.inl (hw _ (List.mem_of_getElem? (i := 56) rfl))) Via.refl e0 F_sz (g := (mkF m 2 #[.val (.ref a1)] [(.ref a1), (.ref a1)])) rfl rfl (hb hby d9_2)
  refine own_go st45 ?_
  refine own_go (B := T45.setTop (mkF m 7 #[.val (.ref a1)] [(.int (1 : Int32)), (.ref a1)])) (fun t k => ?_) ?_
  · show Steps p.tables e below (T45.setTop (mkF m 5 #[.val (.ref a1)] [(.int (0 : Int32)), (.ref a1)])) _
    refine XS.iconst X45.here hx rfl (hb hby d9_5) ?_
    show Steps p.tables e below (T45.setTop (mkF m 6 #[.val (.ref a1)] [(.int (1 : Int32)), (.int (0 : Int32)), (.ref a1)])) _
    refine XS.iadd X45.here hx rfl (hb hby d9_6) rfl ?_
    show Steps p.tables e below (T45.setTop (mkF m 7 #[.val (.ref a1)] [(.int (1 : Int32)), (.ref a1)])) _
    exact k
  obtain ⟨cq46, q46, q46'⟩ := E_a1.cell
  obtain ⟨_, _, ⟨T46, L46, k46, n46⟩, -, X46, ⟨Lc46, hQ46, l46, y46, z46⟩, st46⟩ := X45.privateBack hx (y := (⟨"java/util/ArrayList", "grow", "(I)[Ljava/lang/Object;"⟩ : MethodName)) hown (mvT hZ (hw _ (List.mem_of_getElem? (i := 68) rfl))) (mvT hZ (hw _ (List.mem_of_getElem? (i := 69) rfl))) (mvT hZ (hw _ (List.mem_of_getElem? (i := 71) rfl))) (Cond.privateMethod_at (mvP hZ (hw _ (List.mem_of_getElem? (i := 70) rfl)) (args := #[]))) (mvT hZ (hw _ (List.mem_of_getElem? (i := 72) rfl))) (by decide) (backOf (W := 0) (rm10 l Z a0 hw [] a1 w_DEFAULTCAPACITY_EMPTY_ELEMENTDATA k_DEFAULTCAPACITY_EMPTY_ELEMENTDATA h0 n0 Z0 E_a1 F_mc F_ea F_sz S_DEFAULTCAPACITY_EMPTY_ELEMENTDATA E_DEFAULTCAPACITY_EMPTY_ELEMENTDATA V_DEFAULTCAPACITY_EMPTY_ELEMENTDATA g_a1) hZ (hw _ (List.mem_of_getElem? (i := 72) rfl)) (hw _ (List.mem_of_getElem? (i := 3) rfl)) (by decide) (by decide)) (g := (mkF m 7 #[.val (.ref a1)] [(.int (1 : Int32)), (.ref a1)])) rfl (by rw [hml]; rfl) (Steps.refl _) (a := a1) (by rw [e45]; exact q46) q46' (argsL := [(.int (1 : Int32))]) (rest := []) (lenOf pd_2 rfl) rfl (by show 2 * 0 + _ ≤ _; exact Nat.le_of_eq rfl) (hb hby d9_7) (fun _ _ => ⟨rfl, e45, (by decide : 0 + 1 ≤ _), (by decide : 0 + 10 ≤ _)⟩)
  dsimp only [Pt.U, Pt.locs, Pt.cells, Pt.slots] at X46 l46 y46 z46 st46 hQ46
  subst l46 y46 z46
  obtain ⟨bn_46, kn_46, rfl, M46, q46_0, q46_1, q46_2, q46_3, q46_4, q46_5, q46_6, q46_7⟩ := hQ46
  have N46 := Fr.app N0 M46
  have K46 : Keep h0 T46.heap [a1] := Keep.trans (Keep.refl h0 [a1]) q46_0 (allS (Or.inl (List.mem_of_getElem? (i := 0) rfl)) all0)
  refine own_go (fun t k => st46.trans k) ?_
  obtain ⟨fs, hr, hrun, hended, hW, hsame⟩ := X46.leave (v := some (.ref bn_46)) (fun h => by rw [Bd.returns] at h; cases h)
  refine ⟨_, _, ?_, hrun, hended, _, _, rfl, ?_, ⟨_, rfl⟩, hW, hsame.mono (by decide) (by decide)⟩
  · exact own_retR X46 hx Bd.returns rfl rfl (hb hby d9_10) hr
  · show Q9 Z a1 w_DEFAULTCAPACITY_EMPTY_ELEMENTDATA k_DEFAULTCAPACITY_EMPTY_ELEMENTDATA h0 n0 _ T46.heap _
    exact ⟨bn_46, kn_46, rfl, N46, K46, q46_1, q46_2, q46_3, q46_4, q46_5, q46_6, q46_7⟩
theorem pd_3 : parseMethodDescriptor "()[Ljava/lang/Object;" = some ⟨[], some (.array (.object "java/lang/Object"))⟩ := by decide +kernel
theorem d8_0 : decode jdk_38_method_24_code 0 = .ok (.iload_n 3, 1) := by decide +kernel
theorem d8_1 : decode jdk_38_method_24_code 1 = .ok (.aload_n 2, 1) := by decide +kernel
theorem d8_2 : decode jdk_38_method_24_code 2 = .ok (.arraylength, 1) := by decide +kernel
theorem d8_3 : decode jdk_38_method_24_code 3 = .ok (.if_icmp .ne 8, 3) := by decide +kernel
theorem d8_6 : decode jdk_38_method_24_code 6 = .ok (.aload_n 0, 1) := by decide +kernel
theorem d8_7 : decode jdk_38_method_24_code 7 = .ok (.invokevirtual 129, 3) := by decide +kernel
theorem d8_10 : decode jdk_38_method_24_code 10 = .ok (.astore_n 2, 1) := by decide +kernel
theorem d8_11 : decode jdk_38_method_24_code 11 = .ok (.aload_n 2, 1) := by decide +kernel
theorem d8_12 : decode jdk_38_method_24_code 12 = .ok (.iload_n 3, 1) := by decide +kernel
theorem d8_13 : decode jdk_38_method_24_code 13 = .ok (.aload_n 1, 1) := by decide +kernel
theorem d8_14 : decode jdk_38_method_24_code 14 = .ok (.aastore, 1) := by decide +kernel
theorem d8_15 : decode jdk_38_method_24_code 15 = .ok (.aload_n 0, 1) := by decide +kernel
theorem d8_16 : decode jdk_38_method_24_code 16 = .ok (.iload_n 3, 1) := by decide +kernel
theorem d8_17 : decode jdk_38_method_24_code 17 = .ok (.iconst 1, 1) := by decide +kernel
theorem d8_18 : decode jdk_38_method_24_code 18 = .ok (.iadd, 1) := by decide +kernel
theorem d8_19 : decode jdk_38_method_24_code 19 = .ok (.putfield 48, 3) := by decide +kernel
theorem d8_22 : decode jdk_38_method_24_code 22 = .ok (.return_, 1) := by decide +kernel
theorem ef_8_0 (m : MethodId) (a1 : Addr) (el0 : Addr) (w_DEFAULTCAPACITY_EMPTY_ELEMENTDATA : Addr) : entryFrame m #[(.ref a1), (.ref el0), (.ref w_DEFAULTCAPACITY_EMPTY_ELEMENTDATA), (.int (0 : Int32))] 4 = mkF m 0 #[.val (.ref a1), .val (.ref el0), .val (.ref w_DEFAULTCAPACITY_EMPTY_ELEMENTDATA), .val (.int (0 : Int32))] [] := by first | (simp [entryFrame, mkF, argsToLocals, Value.category]; done) | rfl
def Q8_0 (Z : State) (a1 : Addr) (el0 : Addr) (w_DEFAULTCAPACITY_EMPTY_ELEMENTDATA : Addr) (k_DEFAULTCAPACITY_EMPTY_ELEMENTDATA : ClassId) (h0 : Heap) (n0 : Nat) (v : Option Value) (h : Heap) (L : List Loc) : Prop := ∃ (bn : Addr) (kn : ClassId), v = none ∧ Fr n0 L ∧ Keep h0 h [a1] ∧ h0.size ≤ bn ∧ Arv Z h bn kn (.object "java/lang/Object") (10 : Int32) [(.ref el0), .null, .null, .null, .null, .null, .null, .null, .null, .null] .null ∧ Ovr Z kn "java/lang/Object" ∧ Exa Z h a1 "java/util/ArrayList" ∧ Fld Z h a1 "java/util/AbstractList" "modCount" "I" (.int (1 : Int32)) ∧ Fld Z h a1 "java/util/ArrayList" "elementData" "[Ljava/lang/Object;" (.ref bn) ∧ Fld Z h a1 "java/util/ArrayList" "size" "I" (.int (1 : Int32))
set_option maxRecDepth 65536 in
set_option maxHeartbeats 40000000 in
theorem rm8_0 (l : Launch) (Z : State) (a0 : Array Value) (hw : ∀ d ∈ tables_1, d.before a0 Z = true) (ws : List Jvm.Cond) (a1 : Addr) (el0 : Addr) (w_DEFAULTCAPACITY_EMPTY_ELEMENTDATA : Addr) (k_DEFAULTCAPACITY_EMPTY_ELEMENTDATA : ClassId) (h0 : Heap) (n0 : Nat) (Z0 : n0 ≤ h0.size) (E_a1 : Exa Z h0 a1 "java/util/ArrayList") (F_mc : Fld Z h0 a1 "java/util/AbstractList" "modCount" "I" (.int (1 : Int32))) (F_ea : Fld Z h0 a1 "java/util/ArrayList" "elementData" "[Ljava/lang/Object;" (.ref w_DEFAULTCAPACITY_EMPTY_ELEMENTDATA)) (F_sz : Fld Z h0 a1 "java/util/ArrayList" "size" "I" (.int (0 : Int32))) (S_DEFAULTCAPACITY_EMPTY_ELEMENTDATA : Sta Z h0 "java/util/ArrayList" "DEFAULTCAPACITY_EMPTY_ELEMENTDATA" "[Ljava/lang/Object;" (.ref w_DEFAULTCAPACITY_EMPTY_ELEMENTDATA)) (E_DEFAULTCAPACITY_EMPTY_ELEMENTDATA : Exa Z h0 w_DEFAULTCAPACITY_EMPTY_ELEMENTDATA "[Ljava/lang/Object;") (V_DEFAULTCAPACITY_EMPTY_ELEMENTDATA : Arv Z h0 w_DEFAULTCAPACITY_EMPTY_ELEMENTDATA k_DEFAULTCAPACITY_EMPTY_ELEMENTDATA (.object "java/lang/Object") (0 : Int32) [] .null) (E_o : Exa Z h0 el0 "com/example/tiphys/tiphys/Release") (g_a1 : n0 ≤ a1) :
    MetFree l (⟨"java/util/ArrayList", "add", "(Ljava/lang/Object;[Ljava/lang/Object;I)V"⟩ : MethodName) (head1 (Jvm.Cond.code (⟨"java/util/ArrayList", "add", "(Ljava/lang/Object;[Ljava/lang/Object;I)V"⟩ : MethodName) jdk_38_method_24_code 4 none :: ws) ({ frames := 3, cells := 1, slots := 10, locals := 41 } : Room)) (fun a U => a = #[(.ref a1), (.ref el0), (.ref w_DEFAULTCAPACITY_EMPTY_ELEMENTDATA), (.int (0 : Int32))] ∧ Z.Warmed39 U.vm ∧ U.heap = h0) (fun _ _ _ _ _ => True) (fun _ U o U' => ∃ v L, o = .returned v ∧ Q8_0 Z a1 el0 w_DEFAULTCAPACITY_EMPTY_ELEMENTDATA k_DEFAULTCAPACITY_EMPTY_ELEMENTDATA h0 n0 v U'.heap L ∧ FrameEnd U o U' L ({ frames := 3, cells := 1, slots := 10, locals := 41 } : Room).cells ({ frames := 3, cells := 1, slots := 10, locals := 41 } : Room).slots) := by
  refine MetFree.of_bodySF (plainFor_of_name pn_21) hisR ?_
  intro p e s m args below meth c s₁ Bd hml0 hP hK
  obtain ⟨rfl, hZ, hh⟩ := hP
  have hx := Bd.exec
  have hby := Bd.bytes
  have hml : c.maxLocals = 4 := hml0
  have hown : s.vm.findClass "java/util/ArrayList" = some m.cls := findClass_of_methodNamed Bd.named
  have hnm := (name_of_methodNamed Bd.named Bd.method).1
  have X0 : Stand p l e ({ frames := 3, cells := 1, slots := 10, locals := 41 } : Room) s m #[(.ref a1), (.ref el0), (.ref w_DEFAULTCAPACITY_EMPTY_ELEMENTDATA), (.int (0 : Int32))] below meth c s₁ [] 0 0 := Stand.of_body Bd
  have e0 : s₁.heap = h0 := by rw [← hh, Bd.state]; rfl
  have N0 := Fr.nil n0
  refine own_go (B := s₁.setTop (mkF m 0 #[.val (.ref a1), .val (.ref el0), .val (.ref w_DEFAULTCAPACITY_EMPTY_ELEMENTDATA), .val (.int (0 : Int32))] [])) (fun t k => castTop (ef_8_0 m a1 el0 w_DEFAULTCAPACITY_EMPTY_ELEMENTDATA) k) ?_
  refine own_go (B := s₁.setTop (mkF m 2 #[.val (.ref a1), .val (.ref el0), .val (.ref w_DEFAULTCAPACITY_EMPTY_ELEMENTDATA), .val (.int (0 : Int32))] [(.ref w_DEFAULTCAPACITY_EMPTY_ELEMENTDATA), (.int (0 : Int32))])) (fun t k => ?_) ?_
  · show Steps p.tables e below (s₁.setTop (mkF m 0 #[.val (.ref a1), .val (.ref el0), .val (.ref w_DEFAULTCAPACITY_EMPTY_ELEMENTDATA), .val (.int (0 : Int32))] [])) _
    refine XS.iloadN X0.here hx rfl (hb hby d8_0) rfl ?_
    show Steps p.tables e below (s₁.setTop (mkF m 1 #[.val (.ref a1), .val (.ref el0), .val (.ref w_DEFAULTCAPACITY_EMPTY_ELEMENTDATA), .val (.int (0 : Int32))] [(.int (0 : Int32))])) _
    refine XS.aloadN X0.here hx rfl (hb hby d8_1) rfl rfl ?_
    show Steps p.tables e below (s₁.setTop (mkF m 2 #[.val (.ref a1), .val (.ref el0), .val (.ref w_DEFAULTCAPACITY_EMPTY_ELEMENTDATA), .val (.int (0 : Int32))] [(.ref w_DEFAULTCAPACITY_EMPTY_ELEMENTDATA), (.int (0 : Int32))])) _
    exact k
  obtain ⟨cl48, Ar48, cq48, cS48, cN48, cH48, cG48⟩ := id V_DEFAULTCAPACITY_EMPTY_ELEMENTDATA
  refine own_go (B := s₁.setTop (mkF m 7 #[.val (.ref a1), .val (.ref el0), .val (.ref w_DEFAULTCAPACITY_EMPTY_ELEMENTDATA), .val (.int (0 : Int32))] [(.ref a1)])) (fun t k => ?_) ?_
  · show Steps p.tables e below (s₁.setTop (mkF m 2 #[.val (.ref a1), .val (.ref el0), .val (.ref w_DEFAULTCAPACITY_EMPTY_ELEMENTDATA), .val (.int (0 : Int32))] [(.ref w_DEFAULTCAPACITY_EMPTY_ELEMENTDATA), (.int (0 : Int32))])) _
    refine X0.arraylength hx (by rw [e0]; exact Ar48.1) (State.isArrayOf_alike hZ.alike Ar48.2.1) (g := (mkF m 2 #[.val (.ref a1), .val (.ref el0), .val (.ref w_DEFAULTCAPACITY_EMPTY_ELEMENTDATA), .val (.int (0 : Int32))] [(.ref w_DEFAULTCAPACITY_EMPTY_ELEMENTDATA), (.int (0 : Int32))])) rfl rfl (hb hby d8_2) _ ?_
    rw [len_of cS48 cN48]
    show Steps p.tables e below (s₁.setTop (mkF m 3 #[.val (.ref a1), .val (.ref el0), .val (.ref w_DEFAULTCAPACITY_EMPTY_ELEMENTDATA), .val (.int (0 : Int32))] [(.int (0 : Int32)), (.int (0 : Int32))])) _
    refine XS.icmpNo X0.here hx rfl (hb hby d8_3) rfl (teq (by decide : (0 : Int32) = (0 : Int32))).2 ?_
    show Steps p.tables e below (s₁.setTop (mkF m 6 #[.val (.ref a1), .val (.ref el0), .val (.ref w_DEFAULTCAPACITY_EMPTY_ELEMENTDATA), .val (.int (0 : Int32))] [])) _
    refine XS.aloadN X0.here hx rfl (hb hby d8_6) rfl rfl ?_
    show Steps p.tables e below (s₁.setTop (mkF m 7 #[.val (.ref a1), .val (.ref el0), .val (.ref w_DEFAULTCAPACITY_EMPTY_ELEMENTDATA), .val (.int (0 : Int32))] [(.ref a1)])) _
    exact k
  obtain ⟨cq49, q49, q49'⟩ := E_a1.cell
  obtain ⟨_, _, ⟨T49, L49, k49, n49⟩, -, X49, ⟨Lc49, hQ49, l49, y49, z49⟩, st49⟩ := X0.privateBack hx (y := (⟨"java/util/ArrayList", "grow", "()[Ljava/lang/Object;"⟩ : MethodName)) hown (mvT hZ (hw _ (List.mem_of_getElem? (i := 63) rfl))) (mvT hZ (hw _ (List.mem_of_getElem? (i := 64) rfl))) (mvT hZ (hw _ (List.mem_of_getElem? (i := 66) rfl))) (Cond.privateMethod_at (mvP hZ (hw _ (List.mem_of_getElem? (i := 65) rfl)) (args := #[]))) (mvT hZ (hw _ (List.mem_of_getElem? (i := 67) rfl))) (by decide) (backOf (W := 0) (rm9 l Z a0 hw [] a1 w_DEFAULTCAPACITY_EMPTY_ELEMENTDATA k_DEFAULTCAPACITY_EMPTY_ELEMENTDATA h0 n0 Z0 E_a1 F_mc F_ea F_sz S_DEFAULTCAPACITY_EMPTY_ELEMENTDATA E_DEFAULTCAPACITY_EMPTY_ELEMENTDATA V_DEFAULTCAPACITY_EMPTY_ELEMENTDATA g_a1) hZ (hw _ (List.mem_of_getElem? (i := 67) rfl)) (hw _ (List.mem_of_getElem? (i := 3) rfl)) (by decide) (by decide)) (g := (mkF m 7 #[.val (.ref a1), .val (.ref el0), .val (.ref w_DEFAULTCAPACITY_EMPTY_ELEMENTDATA), .val (.int (0 : Int32))] [(.ref a1)])) rfl (by rw [hml]; rfl) (Steps.refl _) (a := a1) (by rw [e0]; exact q49) q49' (argsL := []) (rest := []) (lenOf pd_3 rfl) rfl (by show 2 * 0 + _ ≤ _; exact Nat.le_of_eq rfl) (hb hby d8_7) (fun _ _ => ⟨rfl, e0, (by decide : 0 + 1 ≤ _), (by decide : 0 + 10 ≤ _)⟩)
  dsimp only [Pt.U, Pt.locs, Pt.cells, Pt.slots] at X49 l49 y49 z49 st49 hQ49
  subst l49 y49 z49
  obtain ⟨bn_49, kn_49, rfl, M49, q49_0, q49_1, q49_2, q49_3, q49_4, q49_5, q49_6, q49_7⟩ := hQ49
  have N49 := Fr.app N0 M49
  have K49 : Keep h0 T49.heap [a1] := Keep.trans (Keep.refl h0 [a1]) q49_0 (allS (Or.inl (List.mem_of_getElem? (i := 0) rfl)) all0)
  refine own_go (fun t k => st49.trans k) ?_
  refine own_go (B := T49.setTop (mkF m 14 #[.val (.ref a1), .val (.ref el0), .val (.ref bn_49), .val (.int (0 : Int32))] [(.ref el0), (.int (0 : Int32)), (.ref bn_49)])) (fun t k => ?_) ?_
  · show Steps p.tables e below (T49.setTop (mkF m 10 #[.val (.ref a1), .val (.ref el0), .val (.ref w_DEFAULTCAPACITY_EMPTY_ELEMENTDATA), .val (.int (0 : Int32))] [(.ref bn_49)])) _
    refine XS.astoreN X49.here hx rfl (hb hby d8_10) rfl rfl (l' := #[.val (.ref a1), .val (.ref el0), .val (.ref bn_49), .val (.int (0 : Int32))]) rfl ?_
    show Steps p.tables e below (T49.setTop (mkF m 11 #[.val (.ref a1), .val (.ref el0), .val (.ref bn_49), .val (.int (0 : Int32))] [])) _
    refine XS.aloadN X49.here hx rfl (hb hby d8_11) rfl rfl ?_
    show Steps p.tables e below (T49.setTop (mkF m 12 #[.val (.ref a1), .val (.ref el0), .val (.ref bn_49), .val (.int (0 : Int32))] [(.ref bn_49)])) _
    refine XS.iloadN X49.here hx rfl (hb hby d8_12) rfl ?_
    show Steps p.tables e below (T49.setTop (mkF m 13 #[.val (.ref a1), .val (.ref el0), .val (.ref bn_49), .val (.int (0 : Int32))] [(.int (0 : Int32)), (.ref bn_49)])) _
    refine XS.aloadN X49.here hx rfl (hb hby d8_13) rfl rfl ?_
    show Steps p.tables e below (T49.setTop (mkF m 14 #[.val (.ref a1), .val (.ref el0), .val (.ref bn_49), .val (.int (0 : Int32))] [(.ref el0), (.int (0 : Int32)), (.ref bn_49)])) _
    exact k
  obtain ⟨cl50, Ar50, cq50, cS50, cN50, cH50, cG50⟩ := id q49_2
  have hin50 : ¬ ((0 : Int32) < 0 ∨ cl50.slots.size ≤ ((0 : Int32)).toNatClampNeg) := inb_of cS50 ⟨by decide, by decide⟩
  have f51 : Exa Z T49.heap el0 "com/example/tiphys/tiphys/Release" := (E_o.keep q49_0)
  obtain ⟨T50, h50, X50, e50, W50, st50⟩ := stR X49 hx hZ rfl Ar50 (j := (0 : Int32)) hin50 rfl (Sto.ofV Ar50 cq50 q49_3 (Ins.of_exa f51 (hw _ (List.mem_of_getElem? (i := 79) rfl)))) (g := (mkF m 14 #[.val (.ref a1), .val (.ref el0), .val (.ref bn_49), .val (.int (0 : Int32))] [(.ref el0), (.int (0 : Int32)), (.ref bn_49)])) rfl rfl (hb hby d8_14)
  refine own_go st50 ?_
  have V50 : Arv Z h50 bn_49 kn_49 (.object "java/lang/Object") (10 : Int32) [(.ref el0), .null, .null, .null, .null, .null, .null, .null, .null, .null] .null := Arv.set Ar50 cq50 cS50 cN50 cH50 cG50 rfl W50 0 rfl (Nat.le_of_ble_eq_true rfl)
  have K50 : Keep h0 h50 [a1] := Keep.wr K49 W50 (Or.inr q49_1)
  have N50 := Fr.snoc X50 N49 (Nat.le_trans Z0 q49_1)
  refine own_go (B := T50.setTop (mkF m 19 #[.val (.ref a1), .val (.ref el0), .val (.ref bn_49), .val (.int (0 : Int32))] [(.int (1 : Int32)), (.ref a1)])) (fun t k => ?_) ?_
  · show Steps p.tables e below (T50.setTop (mkF m 15 #[.val (.ref a1), .val (.ref el0), .val (.ref bn_49), .val (.int (0 : Int32))] [])) _
    refine XS.aloadN X50.here hx rfl (hb hby d8_15) rfl rfl ?_
    show Steps p.tables e below (T50.setTop (mkF m 16 #[.val (.ref a1), .val (.ref el0), .val (.ref bn_49), .val (.int (0 : Int32))] [(.ref a1)])) _
    refine XS.iloadN X50.here hx rfl (hb hby d8_16) rfl ?_
    show Steps p.tables e below (T50.setTop (mkF m 17 #[.val (.ref a1), .val (.ref el0), .val (.ref bn_49), .val (.int (0 : Int32))] [(.int (0 : Int32)), (.ref a1)])) _
    refine XS.iconst X50.here hx rfl (hb hby d8_17) ?_
    show Steps p.tables e below (T50.setTop (mkF m 18 #[.val (.ref a1), .val (.ref el0), .val (.ref bn_49), .val (.int (0 : Int32))] [(.int (1 : Int32)), (.int (0 : Int32)), (.ref a1)])) _
    refine XS.iadd X50.here hx rfl (hb hby d8_18) rfl ?_
    show Steps p.tables e below (T50.setTop (mkF m 19 #[.val (.ref a1), .val (.ref el0), .val (.ref bn_49), .val (.int (0 : Int32))] [(.int (1 : Int32)), (.ref a1)])) _
    exact k
  have f53 : Exa Z h50 a1 "java/util/ArrayList" := (q49_4.wr W50)
  have ne54 : a1 ≠ bn_49 := (Nat.ne_of_lt (Nat.lt_of_lt_of_le E_a1.lt q49_1))
  have f55 : Fld Z h50 a1 "java/util/ArrayList" "size" "I" (.int (0 : Int32)) := (q49_7.other W50 (Or.inl ne54))
  obtain ⟨T52, h52, X52, e52, W52, st52⟩ := putF X50 hx hZ hown (host := "") (Or.inl (hw _ (List.mem_of_getElem? (i := 56) rfl))) Via.refl e50 f55 f53 (Or.inl (hw _ (List.mem_of_getElem? (i := 57) rfl))) (hw _ (List.mem_of_getElem? (i := 2) rfl)) (ty := .int) (by decide) rfl rfl (g := (mkF m 19 #[.val (.ref a1), .val (.ref el0), .val (.ref bn_49), .val (.int (0 : Int32))] [(.int (1 : Int32)), (.ref a1)])) rfl rfl (hb hby d8_19)
  refine own_go st52 ?_
  have F52 : Fld Z h52 a1 "java/util/ArrayList" "size" "I" (.int (1 : Int32)) := f55.same W52
  have K52 : Keep h0 h52 [a1] := Keep.wr K50 W52 (Or.inl (List.mem_of_getElem? (i := 0) rfl))
  have N52 := Fr.snoc X52 N50 g_a1
  obtain ⟨fs, hr, hrun, hended, hW, hsame⟩ := X52.leave (v := none) (fun _ => rfl)
  refine ⟨_, _, ?_, hrun, hended, _, _, rfl, ?_, ⟨_, rfl⟩, hW, hsame.mono (by decide) (by decide)⟩
  · exact X52.returnOut hx Bd.returns (hb hby d8_22) hr
  · show Q8_0 Z a1 el0 w_DEFAULTCAPACITY_EMPTY_ELEMENTDATA k_DEFAULTCAPACITY_EMPTY_ELEMENTDATA h0 n0 _ T52.heap _
    rw [e52]
    have f57 : Arv Z h52 bn_49 kn_49 (.object "java/lang/Object") (10 : Int32) [(.ref el0), .null, .null, .null, .null, .null, .null, .null, .null, .null] .null := (V50.other W52 (Ne.symm ne54))
    have f58 : Exa Z h52 a1 "java/util/ArrayList" := (f53.wr W52)
    have f59 : Fld Z h52 a1 "java/util/AbstractList" "modCount" "I" (.int (1 : Int32)) := ((q49_5.other W50 (Or.inl ne54)).other W52 (Or.inr (slot_ne (Or.inl (hw _ (List.mem_of_getElem? (i := 23) rfl))) (Or.inl (hw _ (List.mem_of_getElem? (i := 57) rfl))) (by decide) (t := .int) (t' := .int) (by decide) (by decide))))
    have f60 : Fld Z h52 a1 "java/util/ArrayList" "elementData" "[Ljava/lang/Object;" (.ref bn_49) := ((q49_6.other W50 (Or.inl ne54)).other W52 (Or.inr (slot_ne (Or.inl (hw _ (List.mem_of_getElem? (i := 26) rfl))) (Or.inl (hw _ (List.mem_of_getElem? (i := 57) rfl))) (by decide) (t := (.array (.object "java/lang/Object"))) (t' := .int) (by decide) (by decide))))
    exact ⟨bn_49, kn_49, rfl, N52, K52, q49_1, f57, q49_3, f58, f59, f60, F52⟩
theorem pd_4 : parseMethodDescriptor "(Ljava/lang/Object;[Ljava/lang/Object;I)V" = some ⟨[(.object "java/lang/Object"), (.array (.object "java/lang/Object")), .int], none⟩ := by decide +kernel
theorem d7_0 : decode jdk_38_method_25_code 0 = .ok (.aload_n 0, 1) := by decide +kernel
theorem d7_1 : decode jdk_38_method_25_code 1 = .ok (.dup, 1) := by decide +kernel
theorem d7_2 : decode jdk_38_method_25_code 2 = .ok (.getfield 63, 3) := by decide +kernel
theorem d7_5 : decode jdk_38_method_25_code 5 = .ok (.iconst 1, 1) := by decide +kernel
theorem d7_6 : decode jdk_38_method_25_code 6 = .ok (.iadd, 1) := by decide +kernel
theorem d7_7 : decode jdk_38_method_25_code 7 = .ok (.putfield 63, 3) := by decide +kernel
theorem d7_10 : decode jdk_38_method_25_code 10 = .ok (.aload_n 0, 1) := by decide +kernel
theorem d7_11 : decode jdk_38_method_25_code 11 = .ok (.aload_n 1, 1) := by decide +kernel
theorem d7_12 : decode jdk_38_method_25_code 12 = .ok (.aload_n 0, 1) := by decide +kernel
theorem d7_13 : decode jdk_38_method_25_code 13 = .ok (.getfield 9, 3) := by decide +kernel
theorem d7_16 : decode jdk_38_method_25_code 16 = .ok (.aload_n 0, 1) := by decide +kernel
theorem d7_17 : decode jdk_38_method_25_code 17 = .ok (.getfield 48, 3) := by decide +kernel
theorem d7_20 : decode jdk_38_method_25_code 20 = .ok (.invokevirtual 131, 3) := by decide +kernel
theorem d7_23 : decode jdk_38_method_25_code 23 = .ok (.iconst 1, 1) := by decide +kernel
theorem d7_24 : decode jdk_38_method_25_code 24 = .ok (.ireturn, 1) := by decide +kernel
theorem ef_7_0 (m : MethodId) (a1 : Addr) (el0 : Addr) : entryFrame m #[(.ref a1), (.ref el0)] 2 = mkF m 0 #[.val (.ref a1), .val (.ref el0)] [] := by first | (simp [entryFrame, mkF, argsToLocals, Value.category]; done) | rfl
def Q7_0 (Z : State) (a1 : Addr) (el0 : Addr) (w_DEFAULTCAPACITY_EMPTY_ELEMENTDATA : Addr) (k_DEFAULTCAPACITY_EMPTY_ELEMENTDATA : ClassId) (h0 : Heap) (n0 : Nat) (v : Option Value) (h : Heap) (L : List Loc) : Prop := ∃ (bn : Addr) (kn : ClassId), v = some (.int (1 : Int32)) ∧ Fr n0 L ∧ Keep h0 h [a1] ∧ h0.size ≤ bn ∧ Arv Z h bn kn (.object "java/lang/Object") (10 : Int32) [(.ref el0), .null, .null, .null, .null, .null, .null, .null, .null, .null] .null ∧ Ovr Z kn "java/lang/Object" ∧ Exa Z h a1 "java/util/ArrayList" ∧ Fld Z h a1 "java/util/AbstractList" "modCount" "I" (.int (1 : Int32)) ∧ Fld Z h a1 "java/util/ArrayList" "elementData" "[Ljava/lang/Object;" (.ref bn) ∧ Fld Z h a1 "java/util/ArrayList" "size" "I" (.int (1 : Int32))
set_option maxRecDepth 65536 in
set_option maxHeartbeats 40000000 in
theorem rm7_0 (l : Launch) (Z : State) (a0 : Array Value) (hw : ∀ d ∈ tables_1, d.before a0 Z = true) (ws : List Jvm.Cond) (a1 : Addr) (el0 : Addr) (w_DEFAULTCAPACITY_EMPTY_ELEMENTDATA : Addr) (k_DEFAULTCAPACITY_EMPTY_ELEMENTDATA : ClassId) (h0 : Heap) (n0 : Nat) (Z0 : n0 ≤ h0.size) (E_a1 : Exa Z h0 a1 "java/util/ArrayList") (F_mc : Fld Z h0 a1 "java/util/AbstractList" "modCount" "I" (.int (0 : Int32))) (F_ea : Fld Z h0 a1 "java/util/ArrayList" "elementData" "[Ljava/lang/Object;" (.ref w_DEFAULTCAPACITY_EMPTY_ELEMENTDATA)) (F_sz : Fld Z h0 a1 "java/util/ArrayList" "size" "I" (.int (0 : Int32))) (S_DEFAULTCAPACITY_EMPTY_ELEMENTDATA : Sta Z h0 "java/util/ArrayList" "DEFAULTCAPACITY_EMPTY_ELEMENTDATA" "[Ljava/lang/Object;" (.ref w_DEFAULTCAPACITY_EMPTY_ELEMENTDATA)) (E_DEFAULTCAPACITY_EMPTY_ELEMENTDATA : Exa Z h0 w_DEFAULTCAPACITY_EMPTY_ELEMENTDATA "[Ljava/lang/Object;") (V_DEFAULTCAPACITY_EMPTY_ELEMENTDATA : Arv Z h0 w_DEFAULTCAPACITY_EMPTY_ELEMENTDATA k_DEFAULTCAPACITY_EMPTY_ELEMENTDATA (.object "java/lang/Object") (0 : Int32) [] .null) (E_o : Exa Z h0 el0 "com/example/tiphys/tiphys/Release") (g_a1 : n0 ≤ a1) (ne_w : w_DEFAULTCAPACITY_EMPTY_ELEMENTDATA ≠ a1) (ne_o : el0 ≠ a1) :
    MetFree l (⟨"java/util/ArrayList", "add", "(Ljava/lang/Object;)Z"⟩ : MethodName) (head1 (Jvm.Cond.code (⟨"java/util/ArrayList", "add", "(Ljava/lang/Object;)Z"⟩ : MethodName) jdk_38_method_25_code 2 (some .boolean) :: ws) ({ frames := 4, cells := 1, slots := 10, locals := 56 } : Room)) (fun a U => a = #[(.ref a1), (.ref el0)] ∧ Z.Warmed39 U.vm ∧ U.heap = h0) (fun _ _ _ _ _ => True) (fun _ U o U' => ∃ v L, o = .returned v ∧ Q7_0 Z a1 el0 w_DEFAULTCAPACITY_EMPTY_ELEMENTDATA k_DEFAULTCAPACITY_EMPTY_ELEMENTDATA h0 n0 v U'.heap L ∧ FrameEnd U o U' L ({ frames := 4, cells := 1, slots := 10, locals := 56 } : Room).cells ({ frames := 4, cells := 1, slots := 10, locals := 56 } : Room).slots) := by
  refine MetFree.of_bodySF (plainFor_of_name pn_21) hisR ?_
  intro p e s m args below meth c s₁ Bd hml0 hP hK
  obtain ⟨rfl, hZ, hh⟩ := hP
  have hx := Bd.exec
  have hby := Bd.bytes
  have hml : c.maxLocals = 2 := hml0
  have hown : s.vm.findClass "java/util/ArrayList" = some m.cls := findClass_of_methodNamed Bd.named
  have hnm := (name_of_methodNamed Bd.named Bd.method).1
  have X0 : Stand p l e ({ frames := 4, cells := 1, slots := 10, locals := 56 } : Room) s m #[(.ref a1), (.ref el0)] below meth c s₁ [] 0 0 := Stand.of_body Bd
  have e0 : s₁.heap = h0 := by rw [← hh, Bd.state]; rfl
  have N0 := Fr.nil n0
  refine own_go (B := s₁.setTop (mkF m 0 #[.val (.ref a1), .val (.ref el0)] [])) (fun t k => castTop (ef_7_0 m a1 el0) k) ?_
  refine own_go (B := s₁.setTop (mkF m 2 #[.val (.ref a1), .val (.ref el0)] [(.ref a1), (.ref a1)])) (fun t k => ?_) ?_
  · show Steps p.tables e below (s₁.setTop (mkF m 0 #[.val (.ref a1), .val (.ref el0)] [])) _
    refine XS.aloadN X0.here hx rfl (hb hby d7_0) rfl rfl ?_
    show Steps p.tables e below (s₁.setTop (mkF m 1 #[.val (.ref a1), .val (.ref el0)] [(.ref a1)])) _
    refine XS.dup X0.here hx rfl (hb hby d7_1) rfl rfl ?_
    show Steps p.tables e below (s₁.setTop (mkF m 2 #[.val (.ref a1), .val (.ref el0)] [(.ref a1), (.ref a1)])) _
    exact k
  obtain ⟨T61, X61, e61, st61⟩ := getF X0 hx hZ hown (host := "") (Or.inl (hw _ (List.mem_of_getElem? (i := 54) rfl))) (Via.of (hw _ (List.mem_of_getElem? (i := 55) rfl))) e0 F_mc (g := (mkF m 2 #[.val (.ref a1), .val (.ref el0)] [(.ref a1), (.ref a1)])) rfl rfl (hb hby d7_2)
  refine own_go st61 ?_
  refine own_go (B := T61.setTop (mkF m 7 #[.val (.ref a1), .val (.ref el0)] [(.int (1 : Int32)), (.ref a1)])) (fun t k => ?_) ?_
  · show Steps p.tables e below (T61.setTop (mkF m 5 #[.val (.ref a1), .val (.ref el0)] [(.int (0 : Int32)), (.ref a1)])) _
    refine XS.iconst X61.here hx rfl (hb hby d7_5) ?_
    show Steps p.tables e below (T61.setTop (mkF m 6 #[.val (.ref a1), .val (.ref el0)] [(.int (1 : Int32)), (.int (0 : Int32)), (.ref a1)])) _
    refine XS.iadd X61.here hx rfl (hb hby d7_6) rfl ?_
    show Steps p.tables e below (T61.setTop (mkF m 7 #[.val (.ref a1), .val (.ref el0)] [(.int (1 : Int32)), (.ref a1)])) _
    exact k
  obtain ⟨T62, h62, X62, e62, W62, st62⟩ := putF X61 hx hZ hown (host := "") (Or.inl (hw _ (List.mem_of_getElem? (i := 54) rfl))) (Via.of (hw _ (List.mem_of_getElem? (i := 55) rfl))) e61 F_mc E_a1 (Or.inl (hw _ (List.mem_of_getElem? (i := 23) rfl))) (hw _ (List.mem_of_getElem? (i := 2) rfl)) (ty := .int) (by decide) rfl rfl (g := (mkF m 7 #[.val (.ref a1), .val (.ref el0)] [(.int (1 : Int32)), (.ref a1)])) rfl rfl (hb hby d7_7)
  refine own_go st62 ?_
  have F62 : Fld Z h62 a1 "java/util/AbstractList" "modCount" "I" (.int (1 : Int32)) := F_mc.same W62
  have K62 : Keep h0 h62 [a1] := Keep.wr (Keep.refl h0 [a1]) W62 (Or.inl (List.mem_of_getElem? (i := 0) rfl))
  have N62 := Fr.snoc X62 N0 g_a1
  refine own_go (B := T62.setTop (mkF m 13 #[.val (.ref a1), .val (.ref el0)] [(.ref a1), (.ref el0), (.ref a1)])) (fun t k => ?_) ?_
  · show Steps p.tables e below (T62.setTop (mkF m 10 #[.val (.ref a1), .val (.ref el0)] [])) _
    refine XS.aloadN X62.here hx rfl (hb hby d7_10) rfl rfl ?_
    show Steps p.tables e below (T62.setTop (mkF m 11 #[.val (.ref a1), .val (.ref el0)] [(.ref a1)])) _
    refine XS.aloadN X62.here hx rfl (hb hby d7_11) rfl rfl ?_
    show Steps p.tables e below (T62.setTop (mkF m 12 #[.val (.ref a1), .val (.ref el0)] [(.ref el0), (.ref a1)])) _
    refine XS.aloadN X62.here hx rfl (hb hby d7_12) rfl rfl ?_
    show Steps p.tables e below (T62.setTop (mkF m 13 #[.val (.ref a1), .val (.ref el0)] [(.ref a1), (.ref el0), (.ref a1)])) _
    exact k
  have f64 : Fld Z h62 a1 "java/util/ArrayList" "elementData" "[Ljava/lang/Object;" (.ref w_DEFAULTCAPACITY_EMPTY_ELEMENTDATA) := (F_ea.other W62 (Or.inr (slot_ne (Or.inl (hw _ (List.mem_of_getElem? (i := 26) rfl))) (Or.inl (hw _ (List.mem_of_getElem? (i := 23) rfl))) (by decide) (t := (.array (.object "java/lang/Object"))) (t' := .int) (by decide) (by decide))))
  obtain ⟨T63, X63, e63, st63⟩ := getF X62 hx hZ hown (host := "") (Or.inl (hw _ (List.mem_of_getElem? (i := 25) rfl))) Via.refl e62 f64 (g := (mkF m 13 #[.val (.ref a1), .val (.ref el0)] [(.ref a1), (.ref el0), (.ref a1)])) rfl rfl (hb hby d7_13)
  refine own_go st63 ?_
  refine own_go (B := T63.setTop (mkF m 17 #[.val (.ref a1), .val (.ref el0)] [(.ref a1), (.ref w_DEFAULTCAPACITY_EMPTY_ELEMENTDATA), (.ref el0), (.ref a1)])) (fun t k => ?_) ?_
  · show Steps p.tables e below (T63.setTop (mkF m 16 #[.val (.ref a1), .val (.ref el0)] [(.ref w_DEFAULTCAPACITY_EMPTY_ELEMENTDATA), (.ref el0), (.ref a1)])) _
    refine XS.aloadN X63.here hx rfl (hb hby d7_16) rfl rfl ?_
    show Steps p.tables e below (T63.setTop (mkF m 17 #[.val (.ref a1), .val (.ref el0)] [(.ref a1), (.ref w_DEFAULTCAPACITY_EMPTY_ELEMENTDATA), (.ref el0), (.ref a1)])) _
    exact k
  have f66 : Fld Z h62 a1 "java/util/ArrayList" "size" "I" (.int (0 : Int32)) := (F_sz.other W62 (Or.inr (slot_ne (Or.inl (hw _ (List.mem_of_getElem? (i := 57) rfl))) (Or.inl (hw _ (List.mem_of_getElem? (i := 23) rfl))) (by decide) (t := .int) (t' := .int) (by decide) (by decide))))
  obtain ⟨T65, X65, e65, st65⟩ := getF X63 hx hZ hown (host := "") (Or.inl (hw _ (List.mem_of_getElem? (i := 56) rfl))) Via.refl e63 f66 (g := (mkF m 17 #[.val (.ref a1), .val (.ref el0)] [(.ref a1), (.ref w_DEFAULTCAPACITY_EMPTY_ELEMENTDATA), (.ref el0), (.ref a1)])) rfl rfl (hb hby d7_17)
  refine own_go st65 ?_
  have f68 : Exa Z h62 a1 "java/util/ArrayList" := (E_a1.wr W62)
  have f69 : Sta Z h62 "java/util/ArrayList" "DEFAULTCAPACITY_EMPTY_ELEMENTDATA" "[Ljava/lang/Object;" (.ref w_DEFAULTCAPACITY_EMPTY_ELEMENTDATA) := (S_DEFAULTCAPACITY_EMPTY_ELEMENTDATA.wr W62)
  have f70 : Exa Z h62 w_DEFAULTCAPACITY_EMPTY_ELEMENTDATA "[Ljava/lang/Object;" := (E_DEFAULTCAPACITY_EMPTY_ELEMENTDATA.wr W62)
  have f71 : Arv Z h62 w_DEFAULTCAPACITY_EMPTY_ELEMENTDATA k_DEFAULTCAPACITY_EMPTY_ELEMENTDATA (.object "java/lang/Object") (0 : Int32) [] .null := (V_DEFAULTCAPACITY_EMPTY_ELEMENTDATA.other W62 ne_w)
  have f72 : Exa Z h62 el0 "com/example/tiphys/tiphys/Release" := (E_o.wr W62)
  obtain ⟨cq67, q67, q67'⟩ := f68.cell
  obtain ⟨_, _, ⟨T67, L67, k67, n67⟩, -, X67, ⟨Lc67, hQ67, l67, y67, z67⟩, st67⟩ := X65.privateBack hx (y := (⟨"java/util/ArrayList", "add", "(Ljava/lang/Object;[Ljava/lang/Object;I)V"⟩ : MethodName)) hown (mvT hZ (hw _ (List.mem_of_getElem? (i := 58) rfl))) (mvT hZ (hw _ (List.mem_of_getElem? (i := 59) rfl))) (mvT hZ (hw _ (List.mem_of_getElem? (i := 61) rfl))) (Cond.privateMethod_at (mvP hZ (hw _ (List.mem_of_getElem? (i := 60) rfl)) (args := #[]))) (mvT hZ (hw _ (List.mem_of_getElem? (i := 62) rfl))) (by decide) (backOf (W := 0) (rm8_0 l Z a0 hw [] a1 el0 w_DEFAULTCAPACITY_EMPTY_ELEMENTDATA k_DEFAULTCAPACITY_EMPTY_ELEMENTDATA h62 n0 (Nat.le_trans Z0 (Nat.le_of_eq (Wr.size W62).symm)) f68 F62 f64 f66 f69 f70 f71 f72 g_a1) hZ (hw _ (List.mem_of_getElem? (i := 62) rfl)) (hw _ (List.mem_of_getElem? (i := 3) rfl)) (by decide) (by decide)) (g := (mkF m 20 #[.val (.ref a1), .val (.ref el0)] [(.int (0 : Int32)), (.ref w_DEFAULTCAPACITY_EMPTY_ELEMENTDATA), (.ref el0), (.ref a1)])) rfl (by rw [hml]; rfl) (Steps.refl _) (a := a1) (by rw [e65]; exact q67) q67' (argsL := [(.ref el0), (.ref w_DEFAULTCAPACITY_EMPTY_ELEMENTDATA), (.int (0 : Int32))]) (rest := []) (lenOf pd_4 rfl) rfl (by show 2 * 0 + _ ≤ _; exact Nat.le_of_eq rfl) (hb hby d7_20) (fun _ _ => ⟨rfl, e65, (by decide : 0 + 1 ≤ _), (by decide : 0 + 10 ≤ _)⟩)
  dsimp only [Pt.U, Pt.locs, Pt.cells, Pt.slots] at X67 l67 y67 z67 st67 hQ67
  subst l67 y67 z67
  obtain ⟨bn_67, kn_67, rfl, M67, q67_0, q67_1, q67_2, q67_3, q67_4, q67_5, q67_6, q67_7⟩ := hQ67
  have N67 := Fr.app N62 M67
  have K67 : Keep h0 T67.heap [a1] := Keep.trans K62 q67_0 (allS (Or.inl (List.mem_of_getElem? (i := 0) rfl)) all0)
  refine own_go (fun t k => st67.trans k) ?_
  refine own_go (B := T67.setTop (mkF m 24 #[.val (.ref a1), .val (.ref el0)] [(.int (1 : Int32))])) (fun t k => ?_) ?_
  · show Steps p.tables e below (T67.setTop (mkF m 23 #[.val (.ref a1), .val (.ref el0)] [])) _
    refine XS.iconst X67.here hx rfl (hb hby d7_23) ?_
    show Steps p.tables e below (T67.setTop (mkF m 24 #[.val (.ref a1), .val (.ref el0)] [(.int (1 : Int32))])) _
    exact k
  obtain ⟨fs, hr, hrun, hended, hW, hsame⟩ := X67.leave (v := some (.int (1 : Int32))) (fun h => by rw [Bd.returns] at h; cases h)
  refine ⟨_, _, ?_, hrun, hended, _, _, rfl, ?_, ⟨_, rfl⟩, hW, hsame.mono (by decide) (by decide)⟩
  · exact retN X67 hx (t := .boolean) Bd.returns (by simp) (hb hby d7_24) hr
  · show Q7_0 Z a1 el0 w_DEFAULTCAPACITY_EMPTY_ELEMENTDATA k_DEFAULTCAPACITY_EMPTY_ELEMENTDATA h0 n0 _ T67.heap _
    exact ⟨bn_67, kn_67, rfl, N67, K67, (Nat.le_trans (Nat.le_of_eq (Wr.size W62).symm) q67_1), q67_2, q67_3, q67_4, q67_5, q67_6, q67_7⟩
theorem ef_8_1 (m : MethodId) (a1 : Addr) (el1 : Addr) (ar : Addr) : entryFrame m #[(.ref a1), (.ref el1), (.ref ar), (.int (1 : Int32))] 4 = mkF m 0 #[.val (.ref a1), .val (.ref el1), .val (.ref ar), .val (.int (1 : Int32))] [] := by first | (simp [entryFrame, mkF, argsToLocals, Value.category]; done) | rfl
def Q8_1 (Z : State) (a1 : Addr) (el1 : Addr) (ar : Addr) (kar : ClassId) (el0 : Addr) (h0 : Heap) (n0 : Nat) (v : Option Value) (h : Heap) (L : List Loc) : Prop := v = none ∧ Fr n0 L ∧ Keep h0 h [a1, ar] ∧ Arv Z h ar kar (.object "java/lang/Object") (10 : Int32) [(.ref el0), (.ref el1), .null, .null, .null, .null, .null, .null, .null, .null] .null ∧ Ovr Z kar "java/lang/Object" ∧ Exa Z h a1 "java/util/ArrayList" ∧ Fld Z h a1 "java/util/AbstractList" "modCount" "I" (.int (2 : Int32)) ∧ Fld Z h a1 "java/util/ArrayList" "elementData" "[Ljava/lang/Object;" (.ref ar) ∧ Fld Z h a1 "java/util/ArrayList" "size" "I" (.int (2 : Int32))
set_option maxRecDepth 65536 in
set_option maxHeartbeats 40000000 in
theorem rm8_1 (l : Launch) (Z : State) (a0 : Array Value) (hw : ∀ d ∈ tables_1, d.before a0 Z = true) (ws : List Jvm.Cond) (a1 : Addr) (el1 : Addr) (ar : Addr) (kar : ClassId) (el0 : Addr) (h0 : Heap) (n0 : Nat) (Z0 : n0 ≤ h0.size) (E_a1 : Exa Z h0 a1 "java/util/ArrayList") (F_mc : Fld Z h0 a1 "java/util/AbstractList" "modCount" "I" (.int (2 : Int32))) (F_ea : Fld Z h0 a1 "java/util/ArrayList" "elementData" "[Ljava/lang/Object;" (.ref ar)) (F_sz : Fld Z h0 a1 "java/util/ArrayList" "size" "I" (.int (1 : Int32))) (V_ar : Arv Z h0 ar kar (.object "java/lang/Object") (10 : Int32) [(.ref el0), .null, .null, .null, .null, .null, .null, .null, .null, .null] .null) (O_ar : Ovr Z kar "java/lang/Object") (g_ar : n0 ≤ ar) (ne_ar : a1 ≠ ar) (E_o : Exa Z h0 el1 "com/example/tiphys/tiphys/Release") (g_a1 : n0 ≤ a1) :
    MetFree l (⟨"java/util/ArrayList", "add", "(Ljava/lang/Object;[Ljava/lang/Object;I)V"⟩ : MethodName) (head1 (Jvm.Cond.code (⟨"java/util/ArrayList", "add", "(Ljava/lang/Object;[Ljava/lang/Object;I)V"⟩ : MethodName) jdk_38_method_24_code 4 none :: ws) ({ frames := 0, cells := 0, slots := 0, locals := 0 } : Room)) (fun a U => a = #[(.ref a1), (.ref el1), (.ref ar), (.int (1 : Int32))] ∧ Z.Warmed39 U.vm ∧ U.heap = h0) (fun _ _ _ _ _ => True) (fun _ U o U' => ∃ v L, o = .returned v ∧ Q8_1 Z a1 el1 ar kar el0 h0 n0 v U'.heap L ∧ FrameEnd U o U' L ({ frames := 0, cells := 0, slots := 0, locals := 0 } : Room).cells ({ frames := 0, cells := 0, slots := 0, locals := 0 } : Room).slots) := by
  refine MetFree.of_bodySF (plainFor_of_name pn_21) hisR ?_
  intro p e s m args below meth c s₁ Bd hml0 hP hK
  obtain ⟨rfl, hZ, hh⟩ := hP
  have hx := Bd.exec
  have hby := Bd.bytes
  have hml : c.maxLocals = 4 := hml0
  have hown : s.vm.findClass "java/util/ArrayList" = some m.cls := findClass_of_methodNamed Bd.named
  have hnm := (name_of_methodNamed Bd.named Bd.method).1
  have X0 : Stand p l e ({ frames := 0, cells := 0, slots := 0, locals := 0 } : Room) s m #[(.ref a1), (.ref el1), (.ref ar), (.int (1 : Int32))] below meth c s₁ [] 0 0 := Stand.of_body Bd
  have e0 : s₁.heap = h0 := by rw [← hh, Bd.state]; rfl
  have N0 := Fr.nil n0
  refine own_go (B := s₁.setTop (mkF m 0 #[.val (.ref a1), .val (.ref el1), .val (.ref ar), .val (.int (1 : Int32))] [])) (fun t k => castTop (ef_8_1 m a1 el1 ar) k) ?_
  refine own_go (B := s₁.setTop (mkF m 2 #[.val (.ref a1), .val (.ref el1), .val (.ref ar), .val (.int (1 : Int32))] [(.ref ar), (.int (1 : Int32))])) (fun t k => ?_) ?_
  · show Steps p.tables e below (s₁.setTop (mkF m 0 #[.val (.ref a1), .val (.ref el1), .val (.ref ar), .val (.int (1 : Int32))] [])) _
    refine XS.iloadN X0.here hx rfl (hb hby d8_0) rfl ?_
    show Steps p.tables e below (s₁.setTop (mkF m 1 #[.val (.ref a1), .val (.ref el1), .val (.ref ar), .val (.int (1 : Int32))] [(.int (1 : Int32))])) _
    refine XS.aloadN X0.here hx rfl (hb hby d8_1) rfl rfl ?_
    show Steps p.tables e below (s₁.setTop (mkF m 2 #[.val (.ref a1), .val (.ref el1), .val (.ref ar), .val (.int (1 : Int32))] [(.ref ar), (.int (1 : Int32))])) _
    exact k
  obtain ⟨cl74, Ar74, cq74, cS74, cN74, cH74, cG74⟩ := id V_ar
  refine own_go (B := s₁.setTop (mkF m 14 #[.val (.ref a1), .val (.ref el1), .val (.ref ar), .val (.int (1 : Int32))] [(.ref el1), (.int (1 : Int32)), (.ref ar)])) (fun t k => ?_) ?_
  · show Steps p.tables e below (s₁.setTop (mkF m 2 #[.val (.ref a1), .val (.ref el1), .val (.ref ar), .val (.int (1 : Int32))] [(.ref ar), (.int (1 : Int32))])) _
    refine X0.arraylength hx (by rw [e0]; exact Ar74.1) (State.isArrayOf_alike hZ.alike Ar74.2.1) (g := (mkF m 2 #[.val (.ref a1), .val (.ref el1), .val (.ref ar), .val (.int (1 : Int32))] [(.ref ar), (.int (1 : Int32))])) rfl rfl (hb hby d8_2) _ ?_
    rw [len_of cS74 cN74]
    show Steps p.tables e below (s₁.setTop (mkF m 3 #[.val (.ref a1), .val (.ref el1), .val (.ref ar), .val (.int (1 : Int32))] [(.int (10 : Int32)), (.int (1 : Int32))])) _
    refine XS.icmpYes X0.here hx rfl (pc0 := 3) (pc' := 11) rfl (hb hby d8_3) rfl (feq (by decide : ¬ ((1 : Int32) = (10 : Int32)))).2 (by decide) (by decide) ?_
    show Steps p.tables e below (s₁.setTop (mkF m 11 #[.val (.ref a1), .val (.ref el1), .val (.ref ar), .val (.int (1 : Int32))] [])) _
    refine XS.aloadN X0.here hx rfl (hb hby d8_11) rfl rfl ?_
    show Steps p.tables e below (s₁.setTop (mkF m 12 #[.val (.ref a1), .val (.ref el1), .val (.ref ar), .val (.int (1 : Int32))] [(.ref ar)])) _
    refine XS.iloadN X0.here hx rfl (hb hby d8_12) rfl ?_
    show Steps p.tables e below (s₁.setTop (mkF m 13 #[.val (.ref a1), .val (.ref el1), .val (.ref ar), .val (.int (1 : Int32))] [(.int (1 : Int32)), (.ref ar)])) _
    refine XS.aloadN X0.here hx rfl (hb hby d8_13) rfl rfl ?_
    show Steps p.tables e below (s₁.setTop (mkF m 14 #[.val (.ref a1), .val (.ref el1), .val (.ref ar), .val (.int (1 : Int32))] [(.ref el1), (.int (1 : Int32)), (.ref ar)])) _
    exact k
  obtain ⟨cl75, Ar75, cq75, cS75, cN75, cH75, cG75⟩ := id V_ar
  have hin75 : ¬ ((1 : Int32) < 0 ∨ cl75.slots.size ≤ ((1 : Int32)).toNatClampNeg) := inb_of cS75 ⟨by decide, by decide⟩
  obtain ⟨T75, h75, X75, e75, W75, st75⟩ := stR X0 hx hZ e0 Ar75 (j := (1 : Int32)) hin75 rfl (Sto.ofV Ar75 cq75 O_ar (Ins.of_exa E_o (hw _ (List.mem_of_getElem? (i := 79) rfl)))) (g := (mkF m 14 #[.val (.ref a1), .val (.ref el1), .val (.ref ar), .val (.int (1 : Int32))] [(.ref el1), (.int (1 : Int32)), (.ref ar)])) rfl rfl (hb hby d8_14)
  refine own_go st75 ?_
  have V75 : Arv Z h75 ar kar (.object "java/lang/Object") (10 : Int32) [(.ref el0), (.ref el1), .null, .null, .null, .null, .null, .null, .null, .null] .null := Arv.set Ar75 cq75 cS75 cN75 cH75 cG75 rfl W75 1 rfl (Nat.le_of_ble_eq_true rfl)
  have K75 : Keep h0 h75 [a1, ar] := Keep.wr (Keep.refl h0 [a1, ar]) W75 (Or.inl (List.mem_of_getElem? (i := 1) rfl))
  have N75 := Fr.snoc X75 N0 g_ar
  refine own_go (B := T75.setTop (mkF m 19 #[.val (.ref a1), .val (.ref el1), .val (.ref ar), .val (.int (1 : Int32))] [(.int (2 : Int32)), (.ref a1)])) (fun t k => ?_) ?_
  · show Steps p.tables e below (T75.setTop (mkF m 15 #[.val (.ref a1), .val (.ref el1), .val (.ref ar), .val (.int (1 : Int32))] [])) _
    refine XS.aloadN X75.here hx rfl (hb hby d8_15) rfl rfl ?_
    show Steps p.tables e below (T75.setTop (mkF m 16 #[.val (.ref a1), .val (.ref el1), .val (.ref ar), .val (.int (1 : Int32))] [(.ref a1)])) _
    refine XS.iloadN X75.here hx rfl (hb hby d8_16) rfl ?_
    show Steps p.tables e below (T75.setTop (mkF m 17 #[.val (.ref a1), .val (.ref el1), .val (.ref ar), .val (.int (1 : Int32))] [(.int (1 : Int32)), (.ref a1)])) _
    refine XS.iconst X75.here hx rfl (hb hby d8_17) ?_
    show Steps p.tables e below (T75.setTop (mkF m 18 #[.val (.ref a1), .val (.ref el1), .val (.ref ar), .val (.int (1 : Int32))] [(.int (1 : Int32)), (.int (1 : Int32)), (.ref a1)])) _
    refine XS.iadd X75.here hx rfl (hb hby d8_18) rfl ?_
    show Steps p.tables e below (T75.setTop (mkF m 19 #[.val (.ref a1), .val (.ref el1), .val (.ref ar), .val (.int (1 : Int32))] [(.int (2 : Int32)), (.ref a1)])) _
    exact k
  have f77 : Exa Z h75 a1 "java/util/ArrayList" := (E_a1.wr W75)
  have f78 : Fld Z h75 a1 "java/util/ArrayList" "size" "I" (.int (1 : Int32)) := (F_sz.other W75 (Or.inl ne_ar))
  obtain ⟨T76, h76, X76, e76, W76, st76⟩ := putF X75 hx hZ hown (host := "") (Or.inl (hw _ (List.mem_of_getElem? (i := 56) rfl))) Via.refl e75 f78 f77 (Or.inl (hw _ (List.mem_of_getElem? (i := 57) rfl))) (hw _ (List.mem_of_getElem? (i := 2) rfl)) (ty := .int) (by decide) rfl rfl (g := (mkF m 19 #[.val (.ref a1), .val (.ref el1), .val (.ref ar), .val (.int (1 : Int32))] [(.int (2 : Int32)), (.ref a1)])) rfl rfl (hb hby d8_19)
  refine own_go st76 ?_
  have F76 : Fld Z h76 a1 "java/util/ArrayList" "size" "I" (.int (2 : Int32)) := f78.same W76
  have K76 : Keep h0 h76 [a1, ar] := Keep.wr K75 W76 (Or.inl (List.mem_of_getElem? (i := 0) rfl))
  have N76 := Fr.snoc X76 N75 g_a1
  obtain ⟨fs, hr, hrun, hended, hW, hsame⟩ := X76.leave (v := none) (fun _ => rfl)
  refine ⟨_, _, ?_, hrun, hended, _, _, rfl, ?_, ⟨_, rfl⟩, hW, hsame.mono (by decide) (by decide)⟩
  · exact X76.returnOut hx Bd.returns (hb hby d8_22) hr
  · show Q8_1 Z a1 el1 ar kar el0 h0 n0 _ T76.heap _
    rw [e76]
    have f80 : Arv Z h76 ar kar (.object "java/lang/Object") (10 : Int32) [(.ref el0), (.ref el1), .null, .null, .null, .null, .null, .null, .null, .null] .null := (V75.other W76 (Ne.symm ne_ar))
    have f81 : Exa Z h76 a1 "java/util/ArrayList" := (f77.wr W76)
    have f82 : Fld Z h76 a1 "java/util/AbstractList" "modCount" "I" (.int (2 : Int32)) := ((F_mc.other W75 (Or.inl ne_ar)).other W76 (Or.inr (slot_ne (Or.inl (hw _ (List.mem_of_getElem? (i := 23) rfl))) (Or.inl (hw _ (List.mem_of_getElem? (i := 57) rfl))) (by decide) (t := .int) (t' := .int) (by decide) (by decide))))
    have f83 : Fld Z h76 a1 "java/util/ArrayList" "elementData" "[Ljava/lang/Object;" (.ref ar) := ((F_ea.other W75 (Or.inl ne_ar)).other W76 (Or.inr (slot_ne (Or.inl (hw _ (List.mem_of_getElem? (i := 26) rfl))) (Or.inl (hw _ (List.mem_of_getElem? (i := 57) rfl))) (by decide) (t := (.array (.object "java/lang/Object"))) (t' := .int) (by decide) (by decide))))
    exact ⟨rfl, N76, K76, f80, O_ar, f81, f82, f83, F76⟩
theorem ef_7_1 (m : MethodId) (a1 : Addr) (el1 : Addr) : entryFrame m #[(.ref a1), (.ref el1)] 2 = mkF m 0 #[.val (.ref a1), .val (.ref el1)] [] := by first | (simp [entryFrame, mkF, argsToLocals, Value.category]; done) | rfl
def Q7_1 (Z : State) (a1 : Addr) (el1 : Addr) (ar : Addr) (kar : ClassId) (el0 : Addr) (h0 : Heap) (n0 : Nat) (v : Option Value) (h : Heap) (L : List Loc) : Prop := v = some (.int (1 : Int32)) ∧ Fr n0 L ∧ Keep h0 h [a1, ar] ∧ Arv Z h ar kar (.object "java/lang/Object") (10 : Int32) [(.ref el0), (.ref el1), .null, .null, .null, .null, .null, .null, .null, .null] .null ∧ Ovr Z kar "java/lang/Object" ∧ Exa Z h a1 "java/util/ArrayList" ∧ Fld Z h a1 "java/util/AbstractList" "modCount" "I" (.int (2 : Int32)) ∧ Fld Z h a1 "java/util/ArrayList" "elementData" "[Ljava/lang/Object;" (.ref ar) ∧ Fld Z h a1 "java/util/ArrayList" "size" "I" (.int (2 : Int32))
set_option maxRecDepth 65536 in
set_option maxHeartbeats 40000000 in
theorem rm7_1 (l : Launch) (Z : State) (a0 : Array Value) (hw : ∀ d ∈ tables_1, d.before a0 Z = true) (ws : List Jvm.Cond) (a1 : Addr) (el1 : Addr) (ar : Addr) (kar : ClassId) (el0 : Addr) (h0 : Heap) (n0 : Nat) (Z0 : n0 ≤ h0.size) (E_a1 : Exa Z h0 a1 "java/util/ArrayList") (F_mc : Fld Z h0 a1 "java/util/AbstractList" "modCount" "I" (.int (1 : Int32))) (F_ea : Fld Z h0 a1 "java/util/ArrayList" "elementData" "[Ljava/lang/Object;" (.ref ar)) (F_sz : Fld Z h0 a1 "java/util/ArrayList" "size" "I" (.int (1 : Int32))) (V_ar : Arv Z h0 ar kar (.object "java/lang/Object") (10 : Int32) [(.ref el0), .null, .null, .null, .null, .null, .null, .null, .null, .null] .null) (O_ar : Ovr Z kar "java/lang/Object") (g_ar : n0 ≤ ar) (ne_ar : a1 ≠ ar) (E_o : Exa Z h0 el1 "com/example/tiphys/tiphys/Release") (g_a1 : n0 ≤ a1) (ne_o : el1 ≠ a1) :
    MetFree l (⟨"java/util/ArrayList", "add", "(Ljava/lang/Object;)Z"⟩ : MethodName) (head1 (Jvm.Cond.code (⟨"java/util/ArrayList", "add", "(Ljava/lang/Object;)Z"⟩ : MethodName) jdk_38_method_25_code 2 (some .boolean) :: ws) ({ frames := 1, cells := 0, slots := 0, locals := 15 } : Room)) (fun a U => a = #[(.ref a1), (.ref el1)] ∧ Z.Warmed39 U.vm ∧ U.heap = h0) (fun _ _ _ _ _ => True) (fun _ U o U' => ∃ v L, o = .returned v ∧ Q7_1 Z a1 el1 ar kar el0 h0 n0 v U'.heap L ∧ FrameEnd U o U' L ({ frames := 1, cells := 0, slots := 0, locals := 15 } : Room).cells ({ frames := 1, cells := 0, slots := 0, locals := 15 } : Room).slots) := by
  refine MetFree.of_bodySF (plainFor_of_name pn_21) hisR ?_
  intro p e s m args below meth c s₁ Bd hml0 hP hK
  obtain ⟨rfl, hZ, hh⟩ := hP
  have hx := Bd.exec
  have hby := Bd.bytes
  have hml : c.maxLocals = 2 := hml0
  have hown : s.vm.findClass "java/util/ArrayList" = some m.cls := findClass_of_methodNamed Bd.named
  have hnm := (name_of_methodNamed Bd.named Bd.method).1
  have X0 : Stand p l e ({ frames := 1, cells := 0, slots := 0, locals := 15 } : Room) s m #[(.ref a1), (.ref el1)] below meth c s₁ [] 0 0 := Stand.of_body Bd
  have e0 : s₁.heap = h0 := by rw [← hh, Bd.state]; rfl
  have N0 := Fr.nil n0
  refine own_go (B := s₁.setTop (mkF m 0 #[.val (.ref a1), .val (.ref el1)] [])) (fun t k => castTop (ef_7_1 m a1 el1) k) ?_
  refine own_go (B := s₁.setTop (mkF m 2 #[.val (.ref a1), .val (.ref el1)] [(.ref a1), (.ref a1)])) (fun t k => ?_) ?_
  · show Steps p.tables e below (s₁.setTop (mkF m 0 #[.val (.ref a1), .val (.ref el1)] [])) _
    refine XS.aloadN X0.here hx rfl (hb hby d7_0) rfl rfl ?_
    show Steps p.tables e below (s₁.setTop (mkF m 1 #[.val (.ref a1), .val (.ref el1)] [(.ref a1)])) _
    refine XS.dup X0.here hx rfl (hb hby d7_1) rfl rfl ?_
    show Steps p.tables e below (s₁.setTop (mkF m 2 #[.val (.ref a1), .val (.ref el1)] [(.ref a1), (.ref a1)])) _
    exact k
  obtain ⟨T84, X84, e84, st84⟩ := getF X0 hx hZ hown (host := "") (Or.inl (hw _ (List.mem_of_getElem? (i := 54) rfl))) (Via.of (hw _ (List.mem_of_getElem? (i := 55) rfl))) e0 F_mc (g := (mkF m 2 #[.val (.ref a1), .val (.ref el1)] [(.ref a1), (.ref a1)])) rfl rfl (hb hby d7_2)
  refine own_go st84 ?_
  refine own_go (B := T84.setTop (mkF m 7 #[.val (.ref a1), .val (.ref el1)] [(.int (2 : Int32)), (.ref a1)])) (fun t k => ?_) ?_
  · show Steps p.tables e below (T84.setTop (mkF m 5 #[.val (.ref a1), .val (.ref el1)] [(.int (1 : Int32)), (.ref a1)])) _
    refine XS.iconst X84.here hx rfl (hb hby d7_5) ?_
    show Steps p.tables e below (T84.setTop (mkF m 6 #[.val (.ref a1), .val (.ref el1)] [(.int (1 : Int32)), (.int (1 : Int32)), (.ref a1)])) _
    refine XS.iadd X84.here hx rfl (hb hby d7_6) rfl ?_
    show Steps p.tables e below (T84.setTop (mkF m 7 #[.val (.ref a1), .val (.ref el1)] [(.int (2 : Int32)), (.ref a1)])) _
    exact k
  obtain ⟨T85, h85, X85, e85, W85, st85⟩ := putF X84 hx hZ hown (host := "") (Or.inl (hw _ (List.mem_of_getElem? (i := 54) rfl))) (Via.of (hw _ (List.mem_of_getElem? (i := 55) rfl))) e84 F_mc E_a1 (Or.inl (hw _ (List.mem_of_getElem? (i := 23) rfl))) (hw _ (List.mem_of_getElem? (i := 2) rfl)) (ty := .int) (by decide) rfl rfl (g := (mkF m 7 #[.val (.ref a1), .val (.ref el1)] [(.int (2 : Int32)), (.ref a1)])) rfl rfl (hb hby d7_7)
  refine own_go st85 ?_
  have F85 : Fld Z h85 a1 "java/util/AbstractList" "modCount" "I" (.int (2 : Int32)) := F_mc.same W85
  have K85 : Keep h0 h85 [a1, ar] := Keep.wr (Keep.refl h0 [a1, ar]) W85 (Or.inl (List.mem_of_getElem? (i := 0) rfl))
  have N85 := Fr.snoc X85 N0 g_a1
  refine own_go (B := T85.setTop (mkF m 13 #[.val (.ref a1), .val (.ref el1)] [(.ref a1), (.ref el1), (.ref a1)])) (fun t k => ?_) ?_
  · show Steps p.tables e below (T85.setTop (mkF m 10 #[.val (.ref a1), .val (.ref el1)] [])) _
    refine XS.aloadN X85.here hx rfl (hb hby d7_10) rfl rfl ?_
    show Steps p.tables e below (T85.setTop (mkF m 11 #[.val (.ref a1), .val (.ref el1)] [(.ref a1)])) _
    refine XS.aloadN X85.here hx rfl (hb hby d7_11) rfl rfl ?_
    show Steps p.tables e below (T85.setTop (mkF m 12 #[.val (.ref a1), .val (.ref el1)] [(.ref el1), (.ref a1)])) _
    refine XS.aloadN X85.here hx rfl (hb hby d7_12) rfl rfl ?_
    show Steps p.tables e below (T85.setTop (mkF m 13 #[.val (.ref a1), .val (.ref el1)] [(.ref a1), (.ref el1), (.ref a1)])) _
    exact k
  have f87 : Fld Z h85 a1 "java/util/ArrayList" "elementData" "[Ljava/lang/Object;" (.ref ar) := (F_ea.other W85 (Or.inr (slot_ne (Or.inl (hw _ (List.mem_of_getElem? (i := 26) rfl))) (Or.inl (hw _ (List.mem_of_getElem? (i := 23) rfl))) (by decide) (t := (.array (.object "java/lang/Object"))) (t' := .int) (by decide) (by decide))))
  obtain ⟨T86, X86, e86, st86⟩ := getF X85 hx hZ hown (host := "") (Or.inl (hw _ (List.mem_of_getElem? (i := 25) rfl))) Via.refl e85 f87 (g := (mkF m 13 #[.val (.ref a1), .val (.ref el1)] [(.ref a1), (.ref el1), (.ref a1)])) rfl rfl (hb hby d7_13)
  refine own_go st86 ?_
  refine own_go (B := T86.setTop (mkF m 17 #[.val (.ref a1), .val (.ref el1)] [(.ref a1), (.ref ar), (.ref el1), (.ref a1)])) (fun t k => ?_) ?_
  · show Steps p.tables e below (T86.setTop (mkF m 16 #[.val (.ref a1), .val (.ref el1)] [(.ref ar), (.ref el1), (.ref a1)])) _
    refine XS.aloadN X86.here hx rfl (hb hby d7_16) rfl rfl ?_
    show Steps p.tables e below (T86.setTop (mkF m 17 #[.val (.ref a1), .val (.ref el1)] [(.ref a1), (.ref ar), (.ref el1), (.ref a1)])) _
    exact k
  have f89 : Fld Z h85 a1 "java/util/ArrayList" "size" "I" (.int (1 : Int32)) := (F_sz.other W85 (Or.inr (slot_ne (Or.inl (hw _ (List.mem_of_getElem? (i := 57) rfl))) (Or.inl (hw _ (List.mem_of_getElem? (i := 23) rfl))) (by decide) (t := .int) (t' := .int) (by decide) (by decide))))
  obtain ⟨T88, X88, e88, st88⟩ := getF X86 hx hZ hown (host := "") (Or.inl (hw _ (List.mem_of_getElem? (i := 56) rfl))) Via.refl e86 f89 (g := (mkF m 17 #[.val (.ref a1), .val (.ref el1)] [(.ref a1), (.ref ar), (.ref el1), (.ref a1)])) rfl rfl (hb hby d7_17)
  refine own_go st88 ?_
  have f91 : Exa Z h85 a1 "java/util/ArrayList" := (E_a1.wr W85)
  have f92 : Arv Z h85 ar kar (.object "java/lang/Object") (10 : Int32) [(.ref el0), .null, .null, .null, .null, .null, .null, .null, .null, .null] .null := (V_ar.other W85 (Ne.symm ne_ar))
  have f93 : Exa Z h85 el1 "com/example/tiphys/tiphys/Release" := (E_o.wr W85)
  obtain ⟨cq90, q90, q90'⟩ := f91.cell
  obtain ⟨_, _, ⟨T90, L90, k90, n90⟩, -, X90, ⟨Lc90, hQ90, l90, y90, z90⟩, st90⟩ := X88.privateBack hx (y := (⟨"java/util/ArrayList", "add", "(Ljava/lang/Object;[Ljava/lang/Object;I)V"⟩ : MethodName)) hown (mvT hZ (hw _ (List.mem_of_getElem? (i := 58) rfl))) (mvT hZ (hw _ (List.mem_of_getElem? (i := 59) rfl))) (mvT hZ (hw _ (List.mem_of_getElem? (i := 61) rfl))) (Cond.privateMethod_at (mvP hZ (hw _ (List.mem_of_getElem? (i := 60) rfl)) (args := #[]))) (mvT hZ (hw _ (List.mem_of_getElem? (i := 62) rfl))) (by decide) (backOf (W := 0) (rm8_1 l Z a0 hw [] a1 el1 ar kar el0 h85 n0 (Nat.le_trans Z0 (Nat.le_of_eq (Wr.size W85).symm)) f91 F85 f87 f89 f92 (O_ar) g_ar ne_ar f93 g_a1) hZ (hw _ (List.mem_of_getElem? (i := 62) rfl)) (hw _ (List.mem_of_getElem? (i := 3) rfl)) (by decide) (by decide)) (g := (mkF m 20 #[.val (.ref a1), .val (.ref el1)] [(.int (1 : Int32)), (.ref ar), (.ref el1), (.ref a1)])) rfl (by rw [hml]; rfl) (Steps.refl _) (a := a1) (by rw [e88]; exact q90) q90' (argsL := [(.ref el1), (.ref ar), (.int (1 : Int32))]) (rest := []) (lenOf pd_4 rfl) rfl (by show 2 * 0 + _ ≤ _; exact Nat.le_of_eq rfl) (hb hby d7_20) (fun _ _ => ⟨rfl, e88, (by decide : 0 + 0 ≤ _), (by decide : 0 + 0 ≤ _)⟩)
  dsimp only [Pt.U, Pt.locs, Pt.cells, Pt.slots] at X90 l90 y90 z90 st90 hQ90
  subst l90 y90 z90
  obtain ⟨rfl, M90, q90_0, q90_1, q90_2, q90_3, q90_4, q90_5, q90_6⟩ := hQ90
  have N90 := Fr.app N85 M90
  have K90 : Keep h0 T90.heap [a1, ar] := Keep.trans K85 q90_0 (allS (Or.inl (List.mem_of_getElem? (i := 0) rfl)) (allS (Or.inl (List.mem_of_getElem? (i := 1) rfl)) all0))
  refine own_go (fun t k => st90.trans k) ?_
  refine own_go (B := T90.setTop (mkF m 24 #[.val (.ref a1), .val (.ref el1)] [(.int (1 : Int32))])) (fun t k => ?_) ?_
  · show Steps p.tables e below (T90.setTop (mkF m 23 #[.val (.ref a1), .val (.ref el1)] [])) _
    refine XS.iconst X90.here hx rfl (hb hby d7_23) ?_
    show Steps p.tables e below (T90.setTop (mkF m 24 #[.val (.ref a1), .val (.ref el1)] [(.int (1 : Int32))])) _
    exact k
  obtain ⟨fs, hr, hrun, hended, hW, hsame⟩ := X90.leave (v := some (.int (1 : Int32))) (fun h => by rw [Bd.returns] at h; cases h)
  refine ⟨_, _, ?_, hrun, hended, _, _, rfl, ?_, ⟨_, rfl⟩, hW, hsame.mono (by decide) (by decide)⟩
  · exact retN X90 hx (t := .boolean) Bd.returns (by simp) (hb hby d7_24) hr
  · show Q7_1 Z a1 el1 ar kar el0 h0 n0 _ T90.heap _
    exact ⟨rfl, N90, K90, q90_1, O_ar, q90_3, q90_4, q90_5, q90_6⟩
theorem ef_8_2 (m : MethodId) (a1 : Addr) (el2 : Addr) (ar : Addr) : entryFrame m #[(.ref a1), (.ref el2), (.ref ar), (.int (2 : Int32))] 4 = mkF m 0 #[.val (.ref a1), .val (.ref el2), .val (.ref ar), .val (.int (2 : Int32))] [] := by first | (simp [entryFrame, mkF, argsToLocals, Value.category]; done) | rfl
def Q8_2 (Z : State) (a1 : Addr) (el2 : Addr) (ar : Addr) (kar : ClassId) (el0 : Addr) (el1 : Addr) (h0 : Heap) (n0 : Nat) (v : Option Value) (h : Heap) (L : List Loc) : Prop := v = none ∧ Fr n0 L ∧ Keep h0 h [a1, ar] ∧ Arv Z h ar kar (.object "java/lang/Object") (10 : Int32) [(.ref el0), (.ref el1), (.ref el2), .null, .null, .null, .null, .null, .null, .null] .null ∧ Ovr Z kar "java/lang/Object" ∧ Exa Z h a1 "java/util/ArrayList" ∧ Fld Z h a1 "java/util/AbstractList" "modCount" "I" (.int (3 : Int32)) ∧ Fld Z h a1 "java/util/ArrayList" "elementData" "[Ljava/lang/Object;" (.ref ar) ∧ Fld Z h a1 "java/util/ArrayList" "size" "I" (.int (3 : Int32))
set_option maxRecDepth 65536 in
set_option maxHeartbeats 40000000 in
theorem rm8_2 (l : Launch) (Z : State) (a0 : Array Value) (hw : ∀ d ∈ tables_1, d.before a0 Z = true) (ws : List Jvm.Cond) (a1 : Addr) (el2 : Addr) (ar : Addr) (kar : ClassId) (el0 : Addr) (el1 : Addr) (h0 : Heap) (n0 : Nat) (Z0 : n0 ≤ h0.size) (E_a1 : Exa Z h0 a1 "java/util/ArrayList") (F_mc : Fld Z h0 a1 "java/util/AbstractList" "modCount" "I" (.int (3 : Int32))) (F_ea : Fld Z h0 a1 "java/util/ArrayList" "elementData" "[Ljava/lang/Object;" (.ref ar)) (F_sz : Fld Z h0 a1 "java/util/ArrayList" "size" "I" (.int (2 : Int32))) (V_ar : Arv Z h0 ar kar (.object "java/lang/Object") (10 : Int32) [(.ref el0), (.ref el1), .null, .null, .null, .null, .null, .null, .null, .null] .null) (O_ar : Ovr Z kar "java/lang/Object") (g_ar : n0 ≤ ar) (ne_ar : a1 ≠ ar) (E_o : Exa Z h0 el2 "com/example/tiphys/tiphys/Release") (g_a1 : n0 ≤ a1) :
    MetFree l (⟨"java/util/ArrayList", "add", "(Ljava/lang/Object;[Ljava/lang/Object;I)V"⟩ : MethodName) (head1 (Jvm.Cond.code (⟨"java/util/ArrayList", "add", "(Ljava/lang/Object;[Ljava/lang/Object;I)V"⟩ : MethodName) jdk_38_method_24_code 4 none :: ws) ({ frames := 0, cells := 0, slots := 0, locals := 0 } : Room)) (fun a U => a = #[(.ref a1), (.ref el2), (.ref ar), (.int (2 : Int32))] ∧ Z.Warmed39 U.vm ∧ U.heap = h0) (fun _ _ _ _ _ => True) (fun _ U o U' => ∃ v L, o = .returned v ∧ Q8_2 Z a1 el2 ar kar el0 el1 h0 n0 v U'.heap L ∧ FrameEnd U o U' L ({ frames := 0, cells := 0, slots := 0, locals := 0 } : Room).cells ({ frames := 0, cells := 0, slots := 0, locals := 0 } : Room).slots) := by
  refine MetFree.of_bodySF (plainFor_of_name pn_21) hisR ?_
  intro p e s m args below meth c s₁ Bd hml0 hP hK
  obtain ⟨rfl, hZ, hh⟩ := hP
  have hx := Bd.exec
  have hby := Bd.bytes
  have hml : c.maxLocals = 4 := hml0
  have hown : s.vm.findClass "java/util/ArrayList" = some m.cls := findClass_of_methodNamed Bd.named
  have hnm := (name_of_methodNamed Bd.named Bd.method).1
  have X0 : Stand p l e ({ frames := 0, cells := 0, slots := 0, locals := 0 } : Room) s m #[(.ref a1), (.ref el2), (.ref ar), (.int (2 : Int32))] below meth c s₁ [] 0 0 := Stand.of_body Bd
  have e0 : s₁.heap = h0 := by rw [← hh, Bd.state]; rfl
  have N0 := Fr.nil n0
  refine own_go (B := s₁.setTop (mkF m 0 #[.val (.ref a1), .val (.ref el2), .val (.ref ar), .val (.int (2 : Int32))] [])) (fun t k => castTop (ef_8_2 m a1 el2 ar) k) ?_
  refine own_go (B := s₁.setTop (mkF m 2 #[.val (.ref a1), .val (.ref el2), .val (.ref ar), .val (.int (2 : Int32))] [(.ref ar), (.int (2 : Int32))])) (fun t k => ?_) ?_
  · show Steps p.tables e below (s₁.setTop (mkF m 0 #[.val (.ref a1), .val (.ref el2), .val (.ref ar), .val (.int (2 : Int32))] [])) _
    refine XS.iloadN X0.here hx rfl (hb hby d8_0) rfl ?_
    show Steps p.tables e below (s₁.setTop (mkF m 1 #[.val (.ref a1), .val (.ref el2), .val (.ref ar), .val (.int (2 : Int32))] [(.int (2 : Int32))])) _
    refine XS.aloadN X0.here hx rfl (hb hby d8_1) rfl rfl ?_
    show Steps p.tables e below (s₁.setTop (mkF m 2 #[.val (.ref a1), .val (.ref el2), .val (.ref ar), .val (.int (2 : Int32))] [(.ref ar), (.int (2 : Int32))])) _
    exact k
  obtain ⟨cl95, Ar95, cq95, cS95, cN95, cH95, cG95⟩ := id V_ar
  refine own_go (B := s₁.setTop (mkF m 14 #[.val (.ref a1), .val (.ref el2), .val (.ref ar), .val (.int (2 : Int32))] [(.ref el2), (.int (2 : Int32)), (.ref ar)])) (fun t k => ?_) ?_
  · show Steps p.tables e below (s₁.setTop (mkF m 2 #[.val (.ref a1), .val (.ref el2), .val (.ref ar), .val (.int (2 : Int32))] [(.ref ar), (.int (2 : Int32))])) _
    refine X0.arraylength hx (by rw [e0]; exact Ar95.1) (State.isArrayOf_alike hZ.alike Ar95.2.1) (g := (mkF m 2 #[.val (.ref a1), .val (.ref el2), .val (.ref ar), .val (.int (2 : Int32))] [(.ref ar), (.int (2 : Int32))])) rfl rfl (hb hby d8_2) _ ?_
    rw [len_of cS95 cN95]
    show Steps p.tables e below (s₁.setTop (mkF m 3 #[.val (.ref a1), .val (.ref el2), .val (.ref ar), .val (.int (2 : Int32))] [(.int (10 : Int32)), (.int (2 : Int32))])) _
    refine XS.icmpYes X0.here hx rfl (pc0 := 3) (pc' := 11) rfl (hb hby d8_3) rfl (feq (by decide : ¬ ((2 : Int32) = (10 : Int32)))).2 (by decide) (by decide) ?_
    show Steps p.tables e below (s₁.setTop (mkF m 11 #[.val (.ref a1), .val (.ref el2), .val (.ref ar), .val (.int (2 : Int32))] [])) _
    refine XS.aloadN X0.here hx rfl (hb hby d8_11) rfl rfl ?_
    show Steps p.tables e below (s₁.setTop (mkF m 12 #[.val (.ref a1), .val (.ref el2), .val (.ref ar), .val (.int (2 : Int32))] [(.ref ar)])) _
    refine XS.iloadN X0.here hx rfl (hb hby d8_12) rfl ?_
    show Steps p.tables e below (s₁.setTop (mkF m 13 #[.val (.ref a1), .val (.ref el2), .val (.ref ar), .val (.int (2 : Int32))] [(.int (2 : Int32)), (.ref ar)])) _
    refine XS.aloadN X0.here hx rfl (hb hby d8_13) rfl rfl ?_
    show Steps p.tables e below (s₁.setTop (mkF m 14 #[.val (.ref a1), .val (.ref el2), .val (.ref ar), .val (.int (2 : Int32))] [(.ref el2), (.int (2 : Int32)), (.ref ar)])) _
    exact k
  obtain ⟨cl96, Ar96, cq96, cS96, cN96, cH96, cG96⟩ := id V_ar
  have hin96 : ¬ ((2 : Int32) < 0 ∨ cl96.slots.size ≤ ((2 : Int32)).toNatClampNeg) := inb_of cS96 ⟨by decide, by decide⟩
  obtain ⟨T96, h96, X96, e96, W96, st96⟩ := stR X0 hx hZ e0 Ar96 (j := (2 : Int32)) hin96 rfl (Sto.ofV Ar96 cq96 O_ar (Ins.of_exa E_o (hw _ (List.mem_of_getElem? (i := 79) rfl)))) (g := (mkF m 14 #[.val (.ref a1), .val (.ref el2), .val (.ref ar), .val (.int (2 : Int32))] [(.ref el2), (.int (2 : Int32)), (.ref ar)])) rfl rfl (hb hby d8_14)
  refine own_go st96 ?_
  have V96 : Arv Z h96 ar kar (.object "java/lang/Object") (10 : Int32) [(.ref el0), (.ref el1), (.ref el2), .null, .null, .null, .null, .null, .null, .null] .null := Arv.set Ar96 cq96 cS96 cN96 cH96 cG96 rfl W96 2 rfl (Nat.le_of_ble_eq_true rfl)
  have K96 : Keep h0 h96 [a1, ar] := Keep.wr (Keep.refl h0 [a1, ar]) W96 (Or.inl (List.mem_of_getElem? (i := 1) rfl))
  have N96 := Fr.snoc X96 N0 g_ar
  refine own_go (B := T96.setTop (mkF m 19 #[.val (.ref a1), .val (.ref el2), .val (.ref ar), .val (.int (2 : Int32))] [(.int (3 : Int32)), (.ref a1)])) (fun t k => ?_) ?_
  · show Steps p.tables e below (T96.setTop (mkF m 15 #[.val (.ref a1), .val (.ref el2), .val (.ref ar), .val (.int (2 : Int32))] [])) _
    refine XS.aloadN X96.here hx rfl (hb hby d8_15) rfl rfl ?_
    show Steps p.tables e below (T96.setTop (mkF m 16 #[.val (.ref a1), .val (.ref el2), .val (.ref ar), .val (.int (2 : Int32))] [(.ref a1)])) _
    refine XS.iloadN X96.here hx rfl (hb hby d8_16) rfl ?_
    show Steps p.tables e below (T96.setTop (mkF m 17 #[.val (.ref a1), .val (.ref el2), .val (.ref ar), .val (.int (2 : Int32))] [(.int (2 : Int32)), (.ref a1)])) _
    refine XS.iconst X96.here hx rfl (hb hby d8_17) ?_
    show Steps p.tables e below (T96.setTop (mkF m 18 #[.val (.ref a1), .val (.ref el2), .val (.ref ar), .val (.int (2 : Int32))] [(.int (1 : Int32)), (.int (2 : Int32)), (.ref a1)])) _
    refine XS.iadd X96.here hx rfl (hb hby d8_18) rfl ?_
    show Steps p.tables e below (T96.setTop (mkF m 19 #[.val (.ref a1), .val (.ref el2), .val (.ref ar), .val (.int (2 : Int32))] [(.int (3 : Int32)), (.ref a1)])) _
    exact k
  have f98 : Exa Z h96 a1 "java/util/ArrayList" := (E_a1.wr W96)
  have f99 : Fld Z h96 a1 "java/util/ArrayList" "size" "I" (.int (2 : Int32)) := (F_sz.other W96 (Or.inl ne_ar))
  obtain ⟨T97, h97, X97, e97, W97, st97⟩ := putF X96 hx hZ hown (host := "") (Or.inl (hw _ (List.mem_of_getElem? (i := 56) rfl))) Via.refl e96 f99 f98 (Or.inl (hw _ (List.mem_of_getElem? (i := 57) rfl))) (hw _ (List.mem_of_getElem? (i := 2) rfl)) (ty := .int) (by decide) rfl rfl (g := (mkF m 19 #[.val (.ref a1), .val (.ref el2), .val (.ref ar), .val (.int (2 : Int32))] [(.int (3 : Int32)), (.ref a1)])) rfl rfl (hb hby d8_19)
  refine own_go st97 ?_
  have F97 : Fld Z h97 a1 "java/util/ArrayList" "size" "I" (.int (3 : Int32)) := f99.same W97
  have K97 : Keep h0 h97 [a1, ar] := Keep.wr K96 W97 (Or.inl (List.mem_of_getElem? (i := 0) rfl))
  have N97 := Fr.snoc X97 N96 g_a1
  obtain ⟨fs, hr, hrun, hended, hW, hsame⟩ := X97.leave (v := none) (fun _ => rfl)
  refine ⟨_, _, ?_, hrun, hended, _, _, rfl, ?_, ⟨_, rfl⟩, hW, hsame.mono (by decide) (by decide)⟩
  · exact X97.returnOut hx Bd.returns (hb hby d8_22) hr
  · show Q8_2 Z a1 el2 ar kar el0 el1 h0 n0 _ T97.heap _
    rw [e97]
    have f101 : Arv Z h97 ar kar (.object "java/lang/Object") (10 : Int32) [(.ref el0), (.ref el1), (.ref el2), .null, .null, .null, .null, .null, .null, .null] .null := (V96.other W97 (Ne.symm ne_ar))
    have f102 : Exa Z h97 a1 "java/util/ArrayList" := (f98.wr W97)
    have f103 : Fld Z h97 a1 "java/util/AbstractList" "modCount" "I" (.int (3 : Int32)) := ((F_mc.other W96 (Or.inl ne_ar)).other W97 (Or.inr (slot_ne (Or.inl (hw _ (List.mem_of_getElem? (i := 23) rfl))) (Or.inl (hw _ (List.mem_of_getElem? (i := 57) rfl))) (by decide) (t := .int) (t' := .int) (by decide) (by decide))))
    have f104 : Fld Z h97 a1 "java/util/ArrayList" "elementData" "[Ljava/lang/Object;" (.ref ar) := ((F_ea.other W96 (Or.inl ne_ar)).other W97 (Or.inr (slot_ne (Or.inl (hw _ (List.mem_of_getElem? (i := 26) rfl))) (Or.inl (hw _ (List.mem_of_getElem? (i := 57) rfl))) (by decide) (t := (.array (.object "java/lang/Object"))) (t' := .int) (by decide) (by decide))))
    exact ⟨rfl, N97, K97, f101, O_ar, f102, f103, f104, F97⟩
theorem ef_7_2 (m : MethodId) (a1 : Addr) (el2 : Addr) : entryFrame m #[(.ref a1), (.ref el2)] 2 = mkF m 0 #[.val (.ref a1), .val (.ref el2)] [] := by first | (simp [entryFrame, mkF, argsToLocals, Value.category]; done) | rfl
def Q7_2 (Z : State) (a1 : Addr) (el2 : Addr) (ar : Addr) (kar : ClassId) (el0 : Addr) (el1 : Addr) (h0 : Heap) (n0 : Nat) (v : Option Value) (h : Heap) (L : List Loc) : Prop := v = some (.int (1 : Int32)) ∧ Fr n0 L ∧ Keep h0 h [a1, ar] ∧ Arv Z h ar kar (.object "java/lang/Object") (10 : Int32) [(.ref el0), (.ref el1), (.ref el2), .null, .null, .null, .null, .null, .null, .null] .null ∧ Ovr Z kar "java/lang/Object" ∧ Exa Z h a1 "java/util/ArrayList" ∧ Fld Z h a1 "java/util/AbstractList" "modCount" "I" (.int (3 : Int32)) ∧ Fld Z h a1 "java/util/ArrayList" "elementData" "[Ljava/lang/Object;" (.ref ar) ∧ Fld Z h a1 "java/util/ArrayList" "size" "I" (.int (3 : Int32))
set_option maxRecDepth 65536 in
set_option maxHeartbeats 40000000 in
theorem rm7_2 (l : Launch) (Z : State) (a0 : Array Value) (hw : ∀ d ∈ tables_1, d.before a0 Z = true) (ws : List Jvm.Cond) (a1 : Addr) (el2 : Addr) (ar : Addr) (kar : ClassId) (el0 : Addr) (el1 : Addr) (h0 : Heap) (n0 : Nat) (Z0 : n0 ≤ h0.size) (E_a1 : Exa Z h0 a1 "java/util/ArrayList") (F_mc : Fld Z h0 a1 "java/util/AbstractList" "modCount" "I" (.int (2 : Int32))) (F_ea : Fld Z h0 a1 "java/util/ArrayList" "elementData" "[Ljava/lang/Object;" (.ref ar)) (F_sz : Fld Z h0 a1 "java/util/ArrayList" "size" "I" (.int (2 : Int32))) (V_ar : Arv Z h0 ar kar (.object "java/lang/Object") (10 : Int32) [(.ref el0), (.ref el1), .null, .null, .null, .null, .null, .null, .null, .null] .null) (O_ar : Ovr Z kar "java/lang/Object") (g_ar : n0 ≤ ar) (ne_ar : a1 ≠ ar) (E_o : Exa Z h0 el2 "com/example/tiphys/tiphys/Release") (g_a1 : n0 ≤ a1) (ne_o : el2 ≠ a1) :
    MetFree l (⟨"java/util/ArrayList", "add", "(Ljava/lang/Object;)Z"⟩ : MethodName) (head1 (Jvm.Cond.code (⟨"java/util/ArrayList", "add", "(Ljava/lang/Object;)Z"⟩ : MethodName) jdk_38_method_25_code 2 (some .boolean) :: ws) ({ frames := 1, cells := 0, slots := 0, locals := 15 } : Room)) (fun a U => a = #[(.ref a1), (.ref el2)] ∧ Z.Warmed39 U.vm ∧ U.heap = h0) (fun _ _ _ _ _ => True) (fun _ U o U' => ∃ v L, o = .returned v ∧ Q7_2 Z a1 el2 ar kar el0 el1 h0 n0 v U'.heap L ∧ FrameEnd U o U' L ({ frames := 1, cells := 0, slots := 0, locals := 15 } : Room).cells ({ frames := 1, cells := 0, slots := 0, locals := 15 } : Room).slots) := by
  refine MetFree.of_bodySF (plainFor_of_name pn_21) hisR ?_
  intro p e s m args below meth c s₁ Bd hml0 hP hK
  obtain ⟨rfl, hZ, hh⟩ := hP
  have hx := Bd.exec
  have hby := Bd.bytes
  have hml : c.maxLocals = 2 := hml0
  have hown : s.vm.findClass "java/util/ArrayList" = some m.cls := findClass_of_methodNamed Bd.named
  have hnm := (name_of_methodNamed Bd.named Bd.method).1
  have X0 : Stand p l e ({ frames := 1, cells := 0, slots := 0, locals := 15 } : Room) s m #[(.ref a1), (.ref el2)] below meth c s₁ [] 0 0 := Stand.of_body Bd
  have e0 : s₁.heap = h0 := by rw [← hh, Bd.state]; rfl
  have N0 := Fr.nil n0
  refine own_go (B := s₁.setTop (mkF m 0 #[.val (.ref a1), .val (.ref el2)] [])) (fun t k => castTop (ef_7_2 m a1 el2) k) ?_
  refine own_go (B := s₁.setTop (mkF m 2 #[.val (.ref a1), .val (.ref el2)] [(.ref a1), (.ref a1)])) (fun t k => ?_) ?_
  · show Steps p.tables e below (s₁.setTop (mkF m 0 #[.val (.ref a1), .val (.ref el2)] [])) _
    refine XS.aloadN X0.here hx rfl (hb hby d7_0) rfl rfl ?_
    show Steps p.tables e below (s₁.setTop (mkF m 1 #[.val (.ref a1), .val (.ref el2)] [(.ref a1)])) _
    refine XS.dup X0.here hx rfl (hb hby d7_1) rfl rfl ?_
    show Steps p.tables e below (s₁.setTop (mkF m 2 #[.val (.ref a1), .val (.ref el2)] [(.ref a1), (.ref a1)])) _
    exact k
  obtain ⟨T105, X105, e105, st105⟩ := getF X0 hx hZ hown (host := "") (Or.inl (hw _ (List.mem_of_getElem? (i := 54) rfl))) (Via.of (hw _ (List.mem_of_getElem? (i := 55) rfl))) e0 F_mc (g := (mkF m 2 #[.val (.ref a1), .val (.ref el2)] [(.ref a1), (.ref a1)])) rfl rfl (hb hby d7_2)
  refine own_go st105 ?_
  refine own_go (B := T105.setTop (mkF m 7 #[.val (.ref a1), .val (.ref el2)] [(.int (3 : Int32)), (.ref a1)])) (fun t k => ?_) ?_
  · show Steps p.tables e below (T105.setTop (mkF m 5 #[.val (.ref a1), .val (.ref el2)] [(.int (2 : Int32)), (.ref a1)])) _
    refine XS.iconst X105.here hx rfl (hb hby d7_5) ?_
    show Steps p.tables e below (T105.setTop (mkF m 6 #[.val (.ref a1), .val (.ref el2)] [(.int (1 : Int32)), (.int (2 : Int32)), (.ref a1)])) _
    refine XS.iadd X105.here hx rfl (hb hby d7_6) rfl ?_
    show Steps p.tables e below (T105.setTop (mkF m 7 #[.val (.ref a1), .val (.ref el2)] [(.int (3 : Int32)), (.ref a1)])) _
    exact k
  obtain ⟨T106, h106, X106, e106, W106, st106⟩ := putF X105 hx hZ hown (host := "") (Or.inl (hw _ (List.mem_of_getElem? (i := 54) rfl))) (Via.of (hw _ (List.mem_of_getElem? (i := 55) rfl))) e105 F_mc E_a1 (Or.inl (hw _ (List.mem_of_getElem? (i := 23) rfl))) (hw _ (List.mem_of_getElem? (i := 2) rfl)) (ty := .int) (by decide) rfl rfl (g := (mkF m 7 #[.val (.ref a1), .val (.ref el2)] [(.int (3 : Int32)), (.ref a1)])) rfl rfl (hb hby d7_7)
  refine own_go st106 ?_
  have F106 : Fld Z h106 a1 "java/util/AbstractList" "modCount" "I" (.int (3 : Int32)) := F_mc.same W106
  have K106 : Keep h0 h106 [a1, ar] := Keep.wr (Keep.refl h0 [a1, ar]) W106 (Or.inl (List.mem_of_getElem? (i := 0) rfl))
  have N106 := Fr.snoc X106 N0 g_a1
  refine own_go (B := T106.setTop (mkF m 13 #[.val (.ref a1), .val (.ref el2)] [(.ref a1), (.ref el2), (.ref a1)])) (fun t k => ?_) ?_
  · show Steps p.tables e below (T106.setTop (mkF m 10 #[.val (.ref a1), .val (.ref el2)] [])) _
    refine XS.aloadN X106.here hx rfl (hb hby d7_10) rfl rfl ?_
    show Steps p.tables e below (T106.setTop (mkF m 11 #[.val (.ref a1), .val (.ref el2)] [(.ref a1)])) _
    refine XS.aloadN X106.here hx rfl (hb hby d7_11) rfl rfl ?_
    show Steps p.tables e below (T106.setTop (mkF m 12 #[.val (.ref a1), .val (.ref el2)] [(.ref el2), (.ref a1)])) _
    refine XS.aloadN X106.here hx rfl (hb hby d7_12) rfl rfl ?_
    show Steps p.tables e below (T106.setTop (mkF m 13 #[.val (.ref a1), .val (.ref el2)] [(.ref a1), (.ref el2), (.ref a1)])) _
    exact k
  have f108 : Fld Z h106 a1 "java/util/ArrayList" "elementData" "[Ljava/lang/Object;" (.ref ar) := (F_ea.other W106 (Or.inr (slot_ne (Or.inl (hw _ (List.mem_of_getElem? (i := 26) rfl))) (Or.inl (hw _ (List.mem_of_getElem? (i := 23) rfl))) (by decide) (t := (.array (.object "java/lang/Object"))) (t' := .int) (by decide) (by decide))))
  obtain ⟨T107, X107, e107, st107⟩ := getF X106 hx hZ hown (host := "") (Or.inl (hw _ (List.mem_of_getElem? (i := 25) rfl))) Via.refl e106 f108 (g := (mkF m 13 #[.val (.ref a1), .val (.ref el2)] [(.ref a1), (.ref el2), (.ref a1)])) rfl rfl (hb hby d7_13)
  refine own_go st107 ?_
  refine own_go (B := T107.setTop (mkF m 17 #[.val (.ref a1), .val (.ref el2)] [(.ref a1), (.ref ar), (.ref el2), (.ref a1)])) (fun t k => ?_) ?_
  · show Steps p.tables e below (T107.setTop (mkF m 16 #[.val (.ref a1), .val (.ref el2)] [(.ref ar), (.ref el2), (.ref a1)])) _
    refine XS.aloadN X107.here hx rfl (hb hby d7_16) rfl rfl ?_
    show Steps p.tables e below (T107.setTop (mkF m 17 #[.val (.ref a1), .val (.ref el2)] [(.ref a1), (.ref ar), (.ref el2), (.ref a1)])) _
    exact k
  have f110 : Fld Z h106 a1 "java/util/ArrayList" "size" "I" (.int (2 : Int32)) := (F_sz.other W106 (Or.inr (slot_ne (Or.inl (hw _ (List.mem_of_getElem? (i := 57) rfl))) (Or.inl (hw _ (List.mem_of_getElem? (i := 23) rfl))) (by decide) (t := .int) (t' := .int) (by decide) (by decide))))
  obtain ⟨T109, X109, e109, st109⟩ := getF X107 hx hZ hown (host := "") (Or.inl (hw _ (List.mem_of_getElem? (i := 56) rfl))) Via.refl e107 f110 (g := (mkF m 17 #[.val (.ref a1), .val (.ref el2)] [(.ref a1), (.ref ar), (.ref el2), (.ref a1)])) rfl rfl (hb hby d7_17)
  refine own_go st109 ?_
  have f112 : Exa Z h106 a1 "java/util/ArrayList" := (E_a1.wr W106)
  have f113 : Arv Z h106 ar kar (.object "java/lang/Object") (10 : Int32) [(.ref el0), (.ref el1), .null, .null, .null, .null, .null, .null, .null, .null] .null := (V_ar.other W106 (Ne.symm ne_ar))
  have f114 : Exa Z h106 el2 "com/example/tiphys/tiphys/Release" := (E_o.wr W106)
  obtain ⟨cq111, q111, q111'⟩ := f112.cell
  obtain ⟨_, _, ⟨T111, L111, k111, n111⟩, -, X111, ⟨Lc111, hQ111, l111, y111, z111⟩, st111⟩ := X109.privateBack hx (y := (⟨"java/util/ArrayList", "add", "(Ljava/lang/Object;[Ljava/lang/Object;I)V"⟩ : MethodName)) hown (mvT hZ (hw _ (List.mem_of_getElem? (i := 58) rfl))) (mvT hZ (hw _ (List.mem_of_getElem? (i := 59) rfl))) (mvT hZ (hw _ (List.mem_of_getElem? (i := 61) rfl))) (Cond.privateMethod_at (mvP hZ (hw _ (List.mem_of_getElem? (i := 60) rfl)) (args := #[]))) (mvT hZ (hw _ (List.mem_of_getElem? (i := 62) rfl))) (by decide) (backOf (W := 0) (rm8_2 l Z a0 hw [] a1 el2 ar kar el0 el1 h106 n0 (Nat.le_trans Z0 (Nat.le_of_eq (Wr.size W106).symm)) f112 F106 f108 f110 f113 (O_ar) g_ar ne_ar f114 g_a1) hZ (hw _ (List.mem_of_getElem? (i := 62) rfl)) (hw _ (List.mem_of_getElem? (i := 3) rfl)) (by decide) (by decide)) (g := (mkF m 20 #[.val (.ref a1), .val (.ref el2)] [(.int (2 : Int32)), (.ref ar), (.ref el2), (.ref a1)])) rfl (by rw [hml]; rfl) (Steps.refl _) (a := a1) (by rw [e109]; exact q111) q111' (argsL := [(.ref el2), (.ref ar), (.int (2 : Int32))]) (rest := []) (lenOf pd_4 rfl) rfl (by show 2 * 0 + _ ≤ _; exact Nat.le_of_eq rfl) (hb hby d7_20) (fun _ _ => ⟨rfl, e109, (by decide : 0 + 0 ≤ _), (by decide : 0 + 0 ≤ _)⟩)
  dsimp only [Pt.U, Pt.locs, Pt.cells, Pt.slots] at X111 l111 y111 z111 st111 hQ111
  subst l111 y111 z111
  obtain ⟨rfl, M111, q111_0, q111_1, q111_2, q111_3, q111_4, q111_5, q111_6⟩ := hQ111
  have N111 := Fr.app N106 M111
  have K111 : Keep h0 T111.heap [a1, ar] := Keep.trans K106 q111_0 (allS (Or.inl (List.mem_of_getElem? (i := 0) rfl)) (allS (Or.inl (List.mem_of_getElem? (i := 1) rfl)) all0))
  refine own_go (fun t k => st111.trans k) ?_
  refine own_go (B := T111.setTop (mkF m 24 #[.val (.ref a1), .val (.ref el2)] [(.int (1 : Int32))])) (fun t k => ?_) ?_
  · show Steps p.tables e below (T111.setTop (mkF m 23 #[.val (.ref a1), .val (.ref el2)] [])) _
    refine XS.iconst X111.here hx rfl (hb hby d7_23) ?_
    show Steps p.tables e below (T111.setTop (mkF m 24 #[.val (.ref a1), .val (.ref el2)] [(.int (1 : Int32))])) _
    exact k
  obtain ⟨fs, hr, hrun, hended, hW, hsame⟩ := X111.leave (v := some (.int (1 : Int32))) (fun h => by rw [Bd.returns] at h; cases h)
  refine ⟨_, _, ?_, hrun, hended, _, _, rfl, ?_, ⟨_, rfl⟩, hW, hsame.mono (by decide) (by decide)⟩
  · exact retN X111 hx (t := .boolean) Bd.returns (by simp) (hb hby d7_24) hr
  · show Q7_2 Z a1 el2 ar kar el0 el1 h0 n0 _ T111.heap _
    exact ⟨rfl, N111, K111, q111_1, O_ar, q111_3, q111_4, q111_5, q111_6⟩
theorem d13_0 : decode jdk_38_method_8_code 0 = .ok (.aload_n 0, 1) := by decide +kernel
theorem d13_1 : decode jdk_38_method_8_code 1 = .ok (.getfield 48, 3) := by decide +kernel
theorem d13_4 : decode jdk_38_method_8_code 4 = .ok (.ireturn, 1) := by decide +kernel
theorem ef_13 (m : MethodId) (a1 : Addr) : entryFrame m #[(.ref a1)] 1 = mkF m 0 #[.val (.ref a1)] [] := by first | (simp [entryFrame, mkF, argsToLocals, Value.category]; done) | rfl
def Q13 (Z : State) (a1 : Addr) (sz : Int32) (h0 : Heap) (n0 : Nat) (v : Option Value) (h : Heap) (L : List Loc) : Prop := v = some (.int sz) ∧ Fr n0 L ∧ h = h0
set_option maxRecDepth 65536 in
set_option maxHeartbeats 40000000 in
theorem rm13 (l : Launch) (Z : State) (a0 : Array Value) (hw : ∀ d ∈ tables_1, d.before a0 Z = true) (ws : List Jvm.Cond) (a1 : Addr) (sz : Int32) (h0 : Heap) (n0 : Nat) (Z0 : n0 ≤ h0.size) (F_sz : Fld Z h0 a1 "java/util/ArrayList" "size" "I" (.int sz)) :
    MetFree l (⟨"java/util/ArrayList", "size", "()I"⟩ : MethodName) (head1 (Jvm.Cond.code (⟨"java/util/ArrayList", "size", "()I"⟩ : MethodName) jdk_38_method_8_code 1 (some .int) :: ws) ({ frames := 0, cells := 0, slots := 0, locals := 0 } : Room)) (fun a U => a = #[(.ref a1)] ∧ Z.Warmed39 U.vm ∧ U.heap = h0) (fun _ _ _ _ _ => True) (fun _ U o U' => ∃ v L, o = .returned v ∧ Q13 Z a1 sz h0 n0 v U'.heap L ∧ FrameEnd U o U' L ({ frames := 0, cells := 0, slots := 0, locals := 0 } : Room).cells ({ frames := 0, cells := 0, slots := 0, locals := 0 } : Room).slots) := by
  refine MetFree.of_bodySF (plainFor_of_name pn_21) hisR ?_
  intro p e s m args below meth c s₁ Bd hml0 hP hK
  obtain ⟨rfl, hZ, hh⟩ := hP
  have hx := Bd.exec
  have hby := Bd.bytes
  have hml : c.maxLocals = 1 := hml0
  have hown : s.vm.findClass "java/util/ArrayList" = some m.cls := findClass_of_methodNamed Bd.named
  have hnm := (name_of_methodNamed Bd.named Bd.method).1
  have X0 : Stand p l e ({ frames := 0, cells := 0, slots := 0, locals := 0 } : Room) s m #[(.ref a1)] below meth c s₁ [] 0 0 := Stand.of_body Bd
  have e0 : s₁.heap = h0 := by rw [← hh, Bd.state]; rfl
  have N0 := Fr.nil n0
  refine own_go (B := s₁.setTop (mkF m 0 #[.val (.ref a1)] [])) (fun t k => castTop (ef_13 m a1) k) ?_
  refine own_go (B := s₁.setTop (mkF m 1 #[.val (.ref a1)] [(.ref a1)])) (fun t k => ?_) ?_
  · show Steps p.tables e below (s₁.setTop (mkF m 0 #[.val (.ref a1)] [])) _
    refine XS.aloadN X0.here hx rfl (hb hby d13_0) rfl rfl ?_
    show Steps p.tables e below (s₁.setTop (mkF m 1 #[.val (.ref a1)] [(.ref a1)])) _
    exact k
  obtain ⟨T116, X116, e116, st116⟩ := getF X0 hx hZ hown (host := "") (Or.inl (hw _ (List.mem_of_getElem? (i := 56) rfl))) Via.refl e0 F_sz (g := (mkF m 1 #[.val (.ref a1)] [(.ref a1)])) rfl rfl (hb hby d13_1)
  refine own_go st116 ?_
  obtain ⟨fs, hr, hrun, hended, hW, hsame⟩ := X116.leave (v := some (.int sz)) (fun h => by rw [Bd.returns] at h; cases h)
  refine ⟨_, _, ?_, hrun, hended, _, _, rfl, ?_, ⟨_, rfl⟩, hW, hsame.mono (by decide) (by decide)⟩
  · exact retI X116 hx Bd.returns (hb hby d13_4) hr
  · show Q13 Z a1 sz h0 n0 _ T116.heap _
    rw [e116]
    exact ⟨rfl, N0, rfl⟩
theorem pn_107 : plainName "com/example/tiphys/tiphys/Release" = true := by first | (simp [plainName, overriddenIn]; done) | decide +kernel
theorem d5_0 : decode prog_44_method_1_code 0 = .ok (.aload_n 0, 1) := by decide +kernel
theorem d5_1 : decode prog_44_method_1_code 1 = .ok (.invokespecial 1, 3) := by decide +kernel
theorem d5_4 : decode prog_44_method_1_code 4 = .ok (.aload_n 0, 1) := by decide +kernel
theorem d5_5 : decode prog_44_method_1_code 5 = .ok (.iload_n 1, 1) := by decide +kernel
theorem d5_6 : decode prog_44_method_1_code 6 = .ok (.putfield 7, 3) := by decide +kernel
theorem d5_9 : decode prog_44_method_1_code 9 = .ok (.aload_n 0, 1) := by decide +kernel
theorem d5_10 : decode prog_44_method_1_code 10 = .ok (.lload_n 2, 1) := by decide +kernel
theorem d5_11 : decode prog_44_method_1_code 11 = .ok (.putfield 13, 3) := by decide +kernel
theorem d5_14 : decode prog_44_method_1_code 14 = .ok (.aload_n 0, 1) := by decide +kernel
theorem d5_15 : decode prog_44_method_1_code 15 = .ok (.lload 4, 2) := by decide +kernel
theorem d5_17 : decode prog_44_method_1_code 17 = .ok (.putfield 17, 3) := by decide +kernel
theorem d5_20 : decode prog_44_method_1_code 20 = .ok (.aload_n 0, 1) := by decide +kernel
theorem d5_21 : decode prog_44_method_1_code 21 = .ok (.lload 6, 2) := by decide +kernel
theorem d5_23 : decode prog_44_method_1_code 23 = .ok (.putfield 20, 3) := by decide +kernel
theorem d5_26 : decode prog_44_method_1_code 26 = .ok (.aload_n 0, 1) := by decide +kernel
theorem d5_27 : decode prog_44_method_1_code 27 = .ok (.lload 8, 2) := by decide +kernel
theorem d5_29 : decode prog_44_method_1_code 29 = .ok (.putfield 23, 3) := by decide +kernel
theorem d5_32 : decode prog_44_method_1_code 32 = .ok (.return_, 1) := by decide +kernel
theorem ef_5 (m : MethodId) (a1 : Addr) (p1 : Int32) (q1 : Int64) (q2 : Int64) (q3 : Int64) (q4 : Int64) : entryFrame m #[(.ref a1), (.int p1), (.long q1), (.long q2), (.long q3), (.long q4)] 10 = mkF m 0 #[.val (.ref a1), .val (.int p1), .val (.long q1), .second, .val (.long q2), .second, .val (.long q3), .second, .val (.long q4), .second] [] := by first | (simp [entryFrame, mkF, argsToLocals, Value.category]; done) | rfl
def Q5 (Z : State) (a1 : Addr) (p1 : Int32) (q1 : Int64) (q2 : Int64) (q3 : Int64) (q4 : Int64) (h0 : Heap) (n0 : Nat) (v : Option Value) (h : Heap) (L : List Loc) : Prop := v = none ∧ Fr n0 L ∧ Keep h0 h [a1] ∧ Exa Z h a1 "com/example/tiphys/tiphys/Release" ∧ Fld Z h a1 "com/example/tiphys/tiphys/Release" "index" "I" (.int p1)
set_option maxRecDepth 65536 in
set_option maxHeartbeats 40000000 in
theorem rm5 (l : Launch) (Z : State) (a0 : Array Value) (hw : ∀ d ∈ tables_1, d.before a0 Z = true) (ws : List Jvm.Cond) (a1 : Addr) (p1 : Int32) (q1 : Int64) (q2 : Int64) (q3 : Int64) (q4 : Int64) (h0 : Heap) (n0 : Nat) (Z0 : n0 ≤ h0.size) (E_a1 : Exa Z h0 a1 "com/example/tiphys/tiphys/Release") (F_index_a1 : Fld Z h0 a1 "com/example/tiphys/tiphys/Release" "index" "I" (.int (0 : Int32))) (F_idealNs_a1 : Fld Z h0 a1 "com/example/tiphys/tiphys/Release" "idealNs" "J" (.long (0 : Int64))) (F_startNs_a1 : Fld Z h0 a1 "com/example/tiphys/tiphys/Release" "startNs" "J" (.long (0 : Int64))) (F_endNs_a1 : Fld Z h0 a1 "com/example/tiphys/tiphys/Release" "endNs" "J" (.long (0 : Int64))) (F_allocatedBytes_a1 : Fld Z h0 a1 "com/example/tiphys/tiphys/Release" "allocatedBytes" "J" (.long (0 : Int64))) (g_a1 : n0 ≤ a1) :
    MetFree l (⟨"com/example/tiphys/tiphys/Release", "<init>", "(IJJJJ)V"⟩ : MethodName) (head1 (Jvm.Cond.code (⟨"com/example/tiphys/tiphys/Release", "<init>", "(IJJJJ)V"⟩ : MethodName) prog_44_method_1_code 10 none :: ws) ({ frames := 2, cells := 0, slots := 0, locals := 24 } : Room)) (fun a U => a = #[(.ref a1), (.int p1), (.long q1), (.long q2), (.long q3), (.long q4)] ∧ Z.Warmed39 U.vm ∧ U.heap = h0) (fun _ _ _ _ _ => True) (fun _ U o U' => ∃ v L, o = .returned v ∧ Q5 Z a1 p1 q1 q2 q3 q4 h0 n0 v U'.heap L ∧ FrameEnd U o U' L ({ frames := 2, cells := 0, slots := 0, locals := 24 } : Room).cells ({ frames := 2, cells := 0, slots := 0, locals := 24 } : Room).slots) := by
  refine MetFree.of_bodySF (plainFor_of_name pn_107) hisR ?_
  intro p e s m args below meth c s₁ Bd hml0 hP hK
  obtain ⟨rfl, hZ, hh⟩ := hP
  have hx := Bd.exec
  have hby := Bd.bytes
  have hml : c.maxLocals = 10 := hml0
  have hown : s.vm.findClass "com/example/tiphys/tiphys/Release" = some m.cls := findClass_of_methodNamed Bd.named
  have hnm := (name_of_methodNamed Bd.named Bd.method).1
  have X0 : Stand p l e ({ frames := 2, cells := 0, slots := 0, locals := 24 } : Room) s m #[(.ref a1), (.int p1), (.long q1), (.long q2), (.long q3), (.long q4)] below meth c s₁ [] 0 0 := Stand.of_body Bd
  have e0 : s₁.heap = h0 := by rw [← hh, Bd.state]; rfl
  have N0 := Fr.nil n0
  refine own_go (B := s₁.setTop (mkF m 0 #[.val (.ref a1), .val (.int p1), .val (.long q1), .second, .val (.long q2), .second, .val (.long q3), .second, .val (.long q4), .second] [])) (fun t k => castTop (ef_5 m a1 p1 q1 q2 q3 q4) k) ?_
  refine own_go (B := s₁.setTop (mkF m 1 #[.val (.ref a1), .val (.int p1), .val (.long q1), .second, .val (.long q2), .second, .val (.long q3), .second, .val (.long q4), .second] [(.ref a1)])) (fun t k => ?_) ?_
  · show Steps p.tables e below (s₁.setTop (mkF m 0 #[.val (.ref a1), .val (.int p1), .val (.long q1), .second, .val (.long q2), .second, .val (.long q3), .second, .val (.long q4), .second] [])) _
    refine XS.aloadN X0.here hx rfl (hb hby d5_0) rfl rfl ?_
    show Steps p.tables e below (s₁.setTop (mkF m 1 #[.val (.ref a1), .val (.int p1), .val (.long q1), .second, .val (.long q2), .second, .val (.long q3), .second, .val (.long q4), .second] [(.ref a1)])) _
    exact k
  obtain ⟨_, _, ⟨T118, L118, k118, n118⟩, -, X118, ⟨Lc118, hQ118, l118, y118, z118⟩, st118⟩ := X0.specialBack hx (y := (⟨"java/lang/Record", "<init>", "()V"⟩ : MethodName)) rfl hown (mvT hZ (hw _ (List.mem_of_getElem? (i := 33) rfl))) (mvT hZ (hw _ (List.mem_of_getElem? (i := 34) rfl))) (mvT hZ (hw _ (List.mem_of_getElem? (i := 37) rfl))) (by decide) (backOf (W := 0) (rm6 l Z a0 hw [] a1 h0 n0 Z0 ) hZ (hw _ (List.mem_of_getElem? (i := 37) rfl)) (hw _ (List.mem_of_getElem? (i := 36) rfl)) (by decide) (by decide)) (g := (mkF m 1 #[.val (.ref a1), .val (.int p1), .val (.long q1), .second, .val (.long q2), .second, .val (.long q3), .second, .val (.long q4), .second] [(.ref a1)])) rfl (by rw [hml]; rfl) (Steps.refl _) (a := a1) (argsL := []) (rest := []) (lenOf pd_0 rfl) rfl (by show 2 * 0 + _ ≤ _; exact Nat.le_of_eq rfl) (hb hby d5_1) (fun _ _ => ⟨rfl, e0, (by decide : 0 + 0 ≤ _), (by decide : 0 + 0 ≤ _)⟩)
  dsimp only [Pt.U, Pt.locs, Pt.cells, Pt.slots] at X118 l118 y118 z118 st118 hQ118
  subst l118 y118 z118
  obtain ⟨rfl, M118, q118_0⟩ := hQ118
  have N118 := Fr.app N0 M118
  refine own_go (fun t k => st118.trans k) ?_
  refine own_go (B := T118.setTop (mkF m 6 #[.val (.ref a1), .val (.int p1), .val (.long q1), .second, .val (.long q2), .second, .val (.long q3), .second, .val (.long q4), .second] [(.int p1), (.ref a1)])) (fun t k => ?_) ?_
  · show Steps p.tables e below (T118.setTop (mkF m 4 #[.val (.ref a1), .val (.int p1), .val (.long q1), .second, .val (.long q2), .second, .val (.long q3), .second, .val (.long q4), .second] [])) _
    refine XS.aloadN X118.here hx rfl (hb hby d5_4) rfl rfl ?_
    show Steps p.tables e below (T118.setTop (mkF m 5 #[.val (.ref a1), .val (.int p1), .val (.long q1), .second, .val (.long q2), .second, .val (.long q3), .second, .val (.long q4), .second] [(.ref a1)])) _
    refine XS.iloadN X118.here hx rfl (hb hby d5_5) rfl ?_
    show Steps p.tables e below (T118.setTop (mkF m 6 #[.val (.ref a1), .val (.int p1), .val (.long q1), .second, .val (.long q2), .second, .val (.long q3), .second, .val (.long q4), .second] [(.int p1), (.ref a1)])) _
    exact k
  obtain ⟨T119, h119, X119, e119, W119, st119⟩ := putF X118 hx hZ hown (host := "") (Or.inl (hw _ (List.mem_of_getElem? (i := 39) rfl))) Via.refl q118_0 F_index_a1 E_a1 (Or.inr ⟨(hw _ (List.mem_of_getElem? (i := 40) rfl)), rfl, hnm⟩) (hw _ (List.mem_of_getElem? (i := 28) rfl)) (ty := .int) (by decide) rfl rfl (g := (mkF m 6 #[.val (.ref a1), .val (.int p1), .val (.long q1), .second, .val (.long q2), .second, .val (.long q3), .second, .val (.long q4), .second] [(.int p1), (.ref a1)])) rfl rfl (hb hby d5_6)
  refine own_go st119 ?_
  have F119 : Fld Z h119 a1 "com/example/tiphys/tiphys/Release" "index" "I" (.int p1) := F_index_a1.same W119
  have K119 : Keep h0 h119 [a1] := Keep.wr (Keep.refl h0 [a1]) W119 (Or.inl (List.mem_of_getElem? (i := 0) rfl))
  have N119 := Fr.snoc X119 N118 g_a1
  refine own_go (B := T119.setTop (mkF m 11 #[.val (.ref a1), .val (.int p1), .val (.long q1), .second, .val (.long q2), .second, .val (.long q3), .second, .val (.long q4), .second] [(.long q1), (.ref a1)])) (fun t k => ?_) ?_
  · show Steps p.tables e below (T119.setTop (mkF m 9 #[.val (.ref a1), .val (.int p1), .val (.long q1), .second, .val (.long q2), .second, .val (.long q3), .second, .val (.long q4), .second] [])) _
    refine XS.aloadN X119.here hx rfl (hb hby d5_9) rfl rfl ?_
    show Steps p.tables e below (T119.setTop (mkF m 10 #[.val (.ref a1), .val (.int p1), .val (.long q1), .second, .val (.long q2), .second, .val (.long q3), .second, .val (.long q4), .second] [(.ref a1)])) _
    refine XS.lloadN X119.here hx rfl (hb hby d5_10) rfl ?_
    show Steps p.tables e below (T119.setTop (mkF m 11 #[.val (.ref a1), .val (.int p1), .val (.long q1), .second, .val (.long q2), .second, .val (.long q3), .second, .val (.long q4), .second] [(.long q1), (.ref a1)])) _
    exact k
  have f121 : Exa Z h119 a1 "com/example/tiphys/tiphys/Release" := (E_a1.wr W119)
  have f122 : Fld Z h119 a1 "com/example/tiphys/tiphys/Release" "idealNs" "J" (.long (0 : Int64)) := (F_idealNs_a1.other W119 (Or.inr (slot_ne (Or.inr (hw _ (List.mem_of_getElem? (i := 42) rfl))) (Or.inr (hw _ (List.mem_of_getElem? (i := 40) rfl))) (by decide) (t := .long) (t' := .int) (by decide) (by decide))))
  obtain ⟨T120, h120, X120, e120, W120, st120⟩ := putF X119 hx hZ hown (host := "") (Or.inl (hw _ (List.mem_of_getElem? (i := 41) rfl))) Via.refl e119 f122 f121 (Or.inr ⟨(hw _ (List.mem_of_getElem? (i := 42) rfl)), rfl, hnm⟩) (hw _ (List.mem_of_getElem? (i := 28) rfl)) (ty := .long) (by decide) rfl rfl (g := (mkF m 11 #[.val (.ref a1), .val (.int p1), .val (.long q1), .second, .val (.long q2), .second, .val (.long q3), .second, .val (.long q4), .second] [(.long q1), (.ref a1)])) rfl rfl (hb hby d5_11)
  refine own_go st120 ?_
  have F120 : Fld Z h120 a1 "com/example/tiphys/tiphys/Release" "idealNs" "J" (.long q1) := f122.same W120
  have K120 : Keep h0 h120 [a1] := Keep.wr K119 W120 (Or.inl (List.mem_of_getElem? (i := 0) rfl))
  have N120 := Fr.snoc X120 N119 g_a1
  refine own_go (B := T120.setTop (mkF m 17 #[.val (.ref a1), .val (.int p1), .val (.long q1), .second, .val (.long q2), .second, .val (.long q3), .second, .val (.long q4), .second] [(.long q2), (.ref a1)])) (fun t k => ?_) ?_
  · show Steps p.tables e below (T120.setTop (mkF m 14 #[.val (.ref a1), .val (.int p1), .val (.long q1), .second, .val (.long q2), .second, .val (.long q3), .second, .val (.long q4), .second] [])) _
    refine XS.aloadN X120.here hx rfl (hb hby d5_14) rfl rfl ?_
    show Steps p.tables e below (T120.setTop (mkF m 15 #[.val (.ref a1), .val (.int p1), .val (.long q1), .second, .val (.long q2), .second, .val (.long q3), .second, .val (.long q4), .second] [(.ref a1)])) _
    refine XS.lload X120.here hx rfl (hb hby d5_15) rfl ?_
    show Steps p.tables e below (T120.setTop (mkF m 17 #[.val (.ref a1), .val (.int p1), .val (.long q1), .second, .val (.long q2), .second, .val (.long q3), .second, .val (.long q4), .second] [(.long q2), (.ref a1)])) _
    exact k
  have f124 : Exa Z h120 a1 "com/example/tiphys/tiphys/Release" := (f121.wr W120)
  have f125 : Fld Z h120 a1 "com/example/tiphys/tiphys/Release" "startNs" "J" (.long (0 : Int64)) := ((F_startNs_a1.other W119 (Or.inr (slot_ne (Or.inr (hw _ (List.mem_of_getElem? (i := 44) rfl))) (Or.inr (hw _ (List.mem_of_getElem? (i := 40) rfl))) (by decide) (t := .long) (t' := .int) (by decide) (by decide)))).other W120 (Or.inr (slot_ne (Or.inr (hw _ (List.mem_of_getElem? (i := 44) rfl))) (Or.inr (hw _ (List.mem_of_getElem? (i := 42) rfl))) (by decide) (t := .long) (t' := .long) (by decide) (by decide))))
  obtain ⟨T123, h123, X123, e123, W123, st123⟩ := putF X120 hx hZ hown (host := "") (Or.inl (hw _ (List.mem_of_getElem? (i := 43) rfl))) Via.refl e120 f125 f124 (Or.inr ⟨(hw _ (List.mem_of_getElem? (i := 44) rfl)), rfl, hnm⟩) (hw _ (List.mem_of_getElem? (i := 28) rfl)) (ty := .long) (by decide) rfl rfl (g := (mkF m 17 #[.val (.ref a1), .val (.int p1), .val (.long q1), .second, .val (.long q2), .second, .val (.long q3), .second, .val (.long q4), .second] [(.long q2), (.ref a1)])) rfl rfl (hb hby d5_17)
  refine own_go st123 ?_
  have F123 : Fld Z h123 a1 "com/example/tiphys/tiphys/Release" "startNs" "J" (.long q2) := f125.same W123
  have K123 : Keep h0 h123 [a1] := Keep.wr K120 W123 (Or.inl (List.mem_of_getElem? (i := 0) rfl))
  have N123 := Fr.snoc X123 N120 g_a1
  refine own_go (B := T123.setTop (mkF m 23 #[.val (.ref a1), .val (.int p1), .val (.long q1), .second, .val (.long q2), .second, .val (.long q3), .second, .val (.long q4), .second] [(.long q3), (.ref a1)])) (fun t k => ?_) ?_
  · show Steps p.tables e below (T123.setTop (mkF m 20 #[.val (.ref a1), .val (.int p1), .val (.long q1), .second, .val (.long q2), .second, .val (.long q3), .second, .val (.long q4), .second] [])) _
    refine XS.aloadN X123.here hx rfl (hb hby d5_20) rfl rfl ?_
    show Steps p.tables e below (T123.setTop (mkF m 21 #[.val (.ref a1), .val (.int p1), .val (.long q1), .second, .val (.long q2), .second, .val (.long q3), .second, .val (.long q4), .second] [(.ref a1)])) _
    refine XS.lload X123.here hx rfl (hb hby d5_21) rfl ?_
    show Steps p.tables e below (T123.setTop (mkF m 23 #[.val (.ref a1), .val (.int p1), .val (.long q1), .second, .val (.long q2), .second, .val (.long q3), .second, .val (.long q4), .second] [(.long q3), (.ref a1)])) _
    exact k
  have f127 : Exa Z h123 a1 "com/example/tiphys/tiphys/Release" := (f124.wr W123)
  have f128 : Fld Z h123 a1 "com/example/tiphys/tiphys/Release" "endNs" "J" (.long (0 : Int64)) := (((F_endNs_a1.other W119 (Or.inr (slot_ne (Or.inr (hw _ (List.mem_of_getElem? (i := 46) rfl))) (Or.inr (hw _ (List.mem_of_getElem? (i := 40) rfl))) (by decide) (t := .long) (t' := .int) (by decide) (by decide)))).other W120 (Or.inr (slot_ne (Or.inr (hw _ (List.mem_of_getElem? (i := 46) rfl))) (Or.inr (hw _ (List.mem_of_getElem? (i := 42) rfl))) (by decide) (t := .long) (t' := .long) (by decide) (by decide)))).other W123 (Or.inr (slot_ne (Or.inr (hw _ (List.mem_of_getElem? (i := 46) rfl))) (Or.inr (hw _ (List.mem_of_getElem? (i := 44) rfl))) (by decide) (t := .long) (t' := .long) (by decide) (by decide))))
  obtain ⟨T126, h126, X126, e126, W126, st126⟩ := putF X123 hx hZ hown (host := "") (Or.inl (hw _ (List.mem_of_getElem? (i := 45) rfl))) Via.refl e123 f128 f127 (Or.inr ⟨(hw _ (List.mem_of_getElem? (i := 46) rfl)), rfl, hnm⟩) (hw _ (List.mem_of_getElem? (i := 28) rfl)) (ty := .long) (by decide) rfl rfl (g := (mkF m 23 #[.val (.ref a1), .val (.int p1), .val (.long q1), .second, .val (.long q2), .second, .val (.long q3), .second, .val (.long q4), .second] [(.long q3), (.ref a1)])) rfl rfl (hb hby d5_23)
  refine own_go st126 ?_
  have F126 : Fld Z h126 a1 "com/example/tiphys/tiphys/Release" "endNs" "J" (.long q3) := f128.same W126
  have K126 : Keep h0 h126 [a1] := Keep.wr K123 W126 (Or.inl (List.mem_of_getElem? (i := 0) rfl))
  have N126 := Fr.snoc X126 N123 g_a1
  refine own_go (B := T126.setTop (mkF m 29 #[.val (.ref a1), .val (.int p1), .val (.long q1), .second, .val (.long q2), .second, .val (.long q3), .second, .val (.long q4), .second] [(.long q4), (.ref a1)])) (fun t k => ?_) ?_
  · show Steps p.tables e below (T126.setTop (mkF m 26 #[.val (.ref a1), .val (.int p1), .val (.long q1), .second, .val (.long q2), .second, .val (.long q3), .second, .val (.long q4), .second] [])) _
    refine XS.aloadN X126.here hx rfl (hb hby d5_26) rfl rfl ?_
    show Steps p.tables e below (T126.setTop (mkF m 27 #[.val (.ref a1), .val (.int p1), .val (.long q1), .second, .val (.long q2), .second, .val (.long q3), .second, .val (.long q4), .second] [(.ref a1)])) _
    refine XS.lload X126.here hx rfl (hb hby d5_27) rfl ?_
    show Steps p.tables e below (T126.setTop (mkF m 29 #[.val (.ref a1), .val (.int p1), .val (.long q1), .second, .val (.long q2), .second, .val (.long q3), .second, .val (.long q4), .second] [(.long q4), (.ref a1)])) _
    exact k
  have f130 : Exa Z h126 a1 "com/example/tiphys/tiphys/Release" := (f127.wr W126)
  have f131 : Fld Z h126 a1 "com/example/tiphys/tiphys/Release" "allocatedBytes" "J" (.long (0 : Int64)) := ((((F_allocatedBytes_a1.other W119 (Or.inr (slot_ne (Or.inr (hw _ (List.mem_of_getElem? (i := 48) rfl))) (Or.inr (hw _ (List.mem_of_getElem? (i := 40) rfl))) (by decide) (t := .long) (t' := .int) (by decide) (by decide)))).other W120 (Or.inr (slot_ne (Or.inr (hw _ (List.mem_of_getElem? (i := 48) rfl))) (Or.inr (hw _ (List.mem_of_getElem? (i := 42) rfl))) (by decide) (t := .long) (t' := .long) (by decide) (by decide)))).other W123 (Or.inr (slot_ne (Or.inr (hw _ (List.mem_of_getElem? (i := 48) rfl))) (Or.inr (hw _ (List.mem_of_getElem? (i := 44) rfl))) (by decide) (t := .long) (t' := .long) (by decide) (by decide)))).other W126 (Or.inr (slot_ne (Or.inr (hw _ (List.mem_of_getElem? (i := 48) rfl))) (Or.inr (hw _ (List.mem_of_getElem? (i := 46) rfl))) (by decide) (t := .long) (t' := .long) (by decide) (by decide))))
  obtain ⟨T129, h129, X129, e129, W129, st129⟩ := putF X126 hx hZ hown (host := "") (Or.inl (hw _ (List.mem_of_getElem? (i := 47) rfl))) Via.refl e126 f131 f130 (Or.inr ⟨(hw _ (List.mem_of_getElem? (i := 48) rfl)), rfl, hnm⟩) (hw _ (List.mem_of_getElem? (i := 28) rfl)) (ty := .long) (by decide) rfl rfl (g := (mkF m 29 #[.val (.ref a1), .val (.int p1), .val (.long q1), .second, .val (.long q2), .second, .val (.long q3), .second, .val (.long q4), .second] [(.long q4), (.ref a1)])) rfl rfl (hb hby d5_29)
  refine own_go st129 ?_
  have F129 : Fld Z h129 a1 "com/example/tiphys/tiphys/Release" "allocatedBytes" "J" (.long q4) := f131.same W129
  have K129 : Keep h0 h129 [a1] := Keep.wr K126 W129 (Or.inl (List.mem_of_getElem? (i := 0) rfl))
  have N129 := Fr.snoc X129 N126 g_a1
  obtain ⟨fs, hr, hrun, hended, hW, hsame⟩ := X129.leave (v := none) (fun _ => rfl)
  refine ⟨_, _, ?_, hrun, hended, _, _, rfl, ?_, ⟨_, rfl⟩, hW, hsame.mono (by decide) (by decide)⟩
  · exact X129.returnOut hx Bd.returns (hb hby d5_32) hr
  · show Q5 Z a1 p1 q1 q2 q3 q4 h0 n0 _ T129.heap _
    rw [e129]
    have f133 : Exa Z h129 a1 "com/example/tiphys/tiphys/Release" := (f130.wr W129)
    have f134 : Fld Z h129 a1 "com/example/tiphys/tiphys/Release" "index" "I" (.int p1) := ((((F119.other W120 (Or.inr (slot_ne (Or.inr (hw _ (List.mem_of_getElem? (i := 40) rfl))) (Or.inr (hw _ (List.mem_of_getElem? (i := 42) rfl))) (by decide) (t := .int) (t' := .long) (by decide) (by decide)))).other W123 (Or.inr (slot_ne (Or.inr (hw _ (List.mem_of_getElem? (i := 40) rfl))) (Or.inr (hw _ (List.mem_of_getElem? (i := 44) rfl))) (by decide) (t := .int) (t' := .long) (by decide) (by decide)))).other W126 (Or.inr (slot_ne (Or.inr (hw _ (List.mem_of_getElem? (i := 40) rfl))) (Or.inr (hw _ (List.mem_of_getElem? (i := 46) rfl))) (by decide) (t := .int) (t' := .long) (by decide) (by decide)))).other W129 (Or.inr (slot_ne (Or.inr (hw _ (List.mem_of_getElem? (i := 40) rfl))) (Or.inr (hw _ (List.mem_of_getElem? (i := 48) rfl))) (by decide) (t := .int) (t' := .long) (by decide) (by decide))))
    exact ⟨rfl, N129, K129, f133, f134⟩
theorem pn_123 : plainName "com/example/tiphys/tiphys/Run" = true := by first | (simp [plainName, overriddenIn]; done) | decide +kernel
theorem d12_0 : decode prog_49_method_1_code 0 = .ok (.aload_n 0, 1) := by decide +kernel
theorem d12_1 : decode prog_49_method_1_code 1 = .ok (.invokespecial 1, 3) := by decide +kernel
theorem d12_4 : decode prog_49_method_1_code 4 = .ok (.aload_n 0, 1) := by decide +kernel
theorem d12_5 : decode prog_49_method_1_code 5 = .ok (.aload_n 1, 1) := by decide +kernel
theorem d12_6 : decode prog_49_method_1_code 6 = .ok (.putfield 7, 3) := by decide +kernel
theorem d12_9 : decode prog_49_method_1_code 9 = .ok (.aload_n 0, 1) := by decide +kernel
theorem d12_10 : decode prog_49_method_1_code 10 = .ok (.iload_n 2, 1) := by decide +kernel
theorem d12_11 : decode prog_49_method_1_code 11 = .ok (.putfield 13, 3) := by decide +kernel
theorem d12_14 : decode prog_49_method_1_code 14 = .ok (.aload_n 0, 1) := by decide +kernel
theorem d12_15 : decode prog_49_method_1_code 15 = .ok (.lload_n 3, 1) := by decide +kernel
theorem d12_16 : decode prog_49_method_1_code 16 = .ok (.putfield 17, 3) := by decide +kernel
theorem d12_19 : decode prog_49_method_1_code 19 = .ok (.aload_n 0, 1) := by decide +kernel
theorem d12_20 : decode prog_49_method_1_code 20 = .ok (.lload 5, 2) := by decide +kernel
theorem d12_22 : decode prog_49_method_1_code 22 = .ok (.putfield 21, 3) := by decide +kernel
theorem d12_25 : decode prog_49_method_1_code 25 = .ok (.return_, 1) := by decide +kernel
theorem ef_12 (m : MethodId) (a1 : Addr) (a2 : Addr) (p1 : Int32) (q1 : Int64) (q2 : Int64) : entryFrame m #[(.ref a1), (.ref a2), (.int p1), (.long q1), (.long q2)] 7 = mkF m 0 #[.val (.ref a1), .val (.ref a2), .val (.int p1), .val (.long q1), .second, .val (.long q2), .second] [] := by first | (simp [entryFrame, mkF, argsToLocals, Value.category]; done) | rfl
def Q12 (Z : State) (a1 : Addr) (a2 : Addr) (p1 : Int32) (q1 : Int64) (q2 : Int64) (h0 : Heap) (n0 : Nat) (v : Option Value) (h : Heap) (L : List Loc) : Prop := v = none ∧ Fr n0 L ∧ Keep h0 h [a1] ∧ Exa Z h a1 "com/example/tiphys/tiphys/Run" ∧ Fld Z h a1 "com/example/tiphys/tiphys/Run" "releases" "Ljava/util/List;" (.ref a2) ∧ Fld Z h a1 "com/example/tiphys/tiphys/Run" "warmups" "I" (.int p1)
set_option maxRecDepth 65536 in
set_option maxHeartbeats 40000000 in
theorem rm12 (l : Launch) (Z : State) (a0 : Array Value) (hw : ∀ d ∈ tables_1, d.before a0 Z = true) (ws : List Jvm.Cond) (a1 : Addr) (a2 : Addr) (p1 : Int32) (q1 : Int64) (q2 : Int64) (h0 : Heap) (n0 : Nat) (Z0 : n0 ≤ h0.size) (E_a1 : Exa Z h0 a1 "com/example/tiphys/tiphys/Run") (F_releases_a1 : Fld Z h0 a1 "com/example/tiphys/tiphys/Run" "releases" "Ljava/util/List;" .null) (F_warmups_a1 : Fld Z h0 a1 "com/example/tiphys/tiphys/Run" "warmups" "I" (.int (0 : Int32))) (F_deadlineNs_a1 : Fld Z h0 a1 "com/example/tiphys/tiphys/Run" "deadlineNs" "J" (.long (0 : Int64))) (F_garbageCollections_a1 : Fld Z h0 a1 "com/example/tiphys/tiphys/Run" "garbageCollections" "J" (.long (0 : Int64))) (g_a1 : n0 ≤ a1) :
    MetFree l (⟨"com/example/tiphys/tiphys/Run", "<init>", "(Ljava/util/List;IJJ)V"⟩ : MethodName) (head1 (Jvm.Cond.code (⟨"com/example/tiphys/tiphys/Run", "<init>", "(Ljava/util/List;IJJ)V"⟩ : MethodName) prog_49_method_1_code 7 none :: ws) ({ frames := 2, cells := 0, slots := 0, locals := 24 } : Room)) (fun a U => a = #[(.ref a1), (.ref a2), (.int p1), (.long q1), (.long q2)] ∧ Z.Warmed39 U.vm ∧ U.heap = h0) (fun _ _ _ _ _ => True) (fun _ U o U' => ∃ v L, o = .returned v ∧ Q12 Z a1 a2 p1 q1 q2 h0 n0 v U'.heap L ∧ FrameEnd U o U' L ({ frames := 2, cells := 0, slots := 0, locals := 24 } : Room).cells ({ frames := 2, cells := 0, slots := 0, locals := 24 } : Room).slots) := by
  refine MetFree.of_bodySF (plainFor_of_name pn_123) hisR ?_
  intro p e s m args below meth c s₁ Bd hml0 hP hK
  obtain ⟨rfl, hZ, hh⟩ := hP
  have hx := Bd.exec
  have hby := Bd.bytes
  have hml : c.maxLocals = 7 := hml0
  have hown : s.vm.findClass "com/example/tiphys/tiphys/Run" = some m.cls := findClass_of_methodNamed Bd.named
  have hnm := (name_of_methodNamed Bd.named Bd.method).1
  have X0 : Stand p l e ({ frames := 2, cells := 0, slots := 0, locals := 24 } : Room) s m #[(.ref a1), (.ref a2), (.int p1), (.long q1), (.long q2)] below meth c s₁ [] 0 0 := Stand.of_body Bd
  have e0 : s₁.heap = h0 := by rw [← hh, Bd.state]; rfl
  have N0 := Fr.nil n0
  refine own_go (B := s₁.setTop (mkF m 0 #[.val (.ref a1), .val (.ref a2), .val (.int p1), .val (.long q1), .second, .val (.long q2), .second] [])) (fun t k => castTop (ef_12 m a1 a2 p1 q1 q2) k) ?_
  refine own_go (B := s₁.setTop (mkF m 1 #[.val (.ref a1), .val (.ref a2), .val (.int p1), .val (.long q1), .second, .val (.long q2), .second] [(.ref a1)])) (fun t k => ?_) ?_
  · show Steps p.tables e below (s₁.setTop (mkF m 0 #[.val (.ref a1), .val (.ref a2), .val (.int p1), .val (.long q1), .second, .val (.long q2), .second] [])) _
    refine XS.aloadN X0.here hx rfl (hb hby d12_0) rfl rfl ?_
    show Steps p.tables e below (s₁.setTop (mkF m 1 #[.val (.ref a1), .val (.ref a2), .val (.int p1), .val (.long q1), .second, .val (.long q2), .second] [(.ref a1)])) _
    exact k
  obtain ⟨_, _, ⟨T135, L135, k135, n135⟩, -, X135, ⟨Lc135, hQ135, l135, y135, z135⟩, st135⟩ := X0.specialBack hx (y := (⟨"java/lang/Record", "<init>", "()V"⟩ : MethodName)) rfl hown (mvT hZ (hw _ (List.mem_of_getElem? (i := 86) rfl))) (mvT hZ (hw _ (List.mem_of_getElem? (i := 34) rfl))) (mvT hZ (hw _ (List.mem_of_getElem? (i := 37) rfl))) (by decide) (backOf (W := 0) (rm6 l Z a0 hw [] a1 h0 n0 Z0 ) hZ (hw _ (List.mem_of_getElem? (i := 37) rfl)) (hw _ (List.mem_of_getElem? (i := 36) rfl)) (by decide) (by decide)) (g := (mkF m 1 #[.val (.ref a1), .val (.ref a2), .val (.int p1), .val (.long q1), .second, .val (.long q2), .second] [(.ref a1)])) rfl (by rw [hml]; rfl) (Steps.refl _) (a := a1) (argsL := []) (rest := []) (lenOf pd_0 rfl) rfl (by show 2 * 0 + _ ≤ _; exact Nat.le_of_eq rfl) (hb hby d12_1) (fun _ _ => ⟨rfl, e0, (by decide : 0 + 0 ≤ _), (by decide : 0 + 0 ≤ _)⟩)
  dsimp only [Pt.U, Pt.locs, Pt.cells, Pt.slots] at X135 l135 y135 z135 st135 hQ135
  subst l135 y135 z135
  obtain ⟨rfl, M135, q135_0⟩ := hQ135
  have N135 := Fr.app N0 M135
  refine own_go (fun t k => st135.trans k) ?_
  refine own_go (B := T135.setTop (mkF m 6 #[.val (.ref a1), .val (.ref a2), .val (.int p1), .val (.long q1), .second, .val (.long q2), .second] [(.ref a2), (.ref a1)])) (fun t k => ?_) ?_
  · show Steps p.tables e below (T135.setTop (mkF m 4 #[.val (.ref a1), .val (.ref a2), .val (.int p1), .val (.long q1), .second, .val (.long q2), .second] [])) _
    refine XS.aloadN X135.here hx rfl (hb hby d12_4) rfl rfl ?_
    show Steps p.tables e below (T135.setTop (mkF m 5 #[.val (.ref a1), .val (.ref a2), .val (.int p1), .val (.long q1), .second, .val (.long q2), .second] [(.ref a1)])) _
    refine XS.aloadN X135.here hx rfl (hb hby d12_5) rfl rfl ?_
    show Steps p.tables e below (T135.setTop (mkF m 6 #[.val (.ref a1), .val (.ref a2), .val (.int p1), .val (.long q1), .second, .val (.long q2), .second] [(.ref a2), (.ref a1)])) _
    exact k
  obtain ⟨T136, h136, X136, e136, W136, st136⟩ := putF X135 hx hZ hown (host := "") (Or.inl (hw _ (List.mem_of_getElem? (i := 87) rfl))) Via.refl q135_0 F_releases_a1 E_a1 (Or.inr ⟨(hw _ (List.mem_of_getElem? (i := 88) rfl)), rfl, hnm⟩) (hw _ (List.mem_of_getElem? (i := 81) rfl)) (ty := (.object "java/util/List")) (by decide) rfl rfl (g := (mkF m 6 #[.val (.ref a1), .val (.ref a2), .val (.int p1), .val (.long q1), .second, .val (.long q2), .second] [(.ref a2), (.ref a1)])) rfl rfl (hb hby d12_6)
  refine own_go st136 ?_
  have F136 : Fld Z h136 a1 "com/example/tiphys/tiphys/Run" "releases" "Ljava/util/List;" (.ref a2) := F_releases_a1.same W136
  have K136 : Keep h0 h136 [a1] := Keep.wr (Keep.refl h0 [a1]) W136 (Or.inl (List.mem_of_getElem? (i := 0) rfl))
  have N136 := Fr.snoc X136 N135 g_a1
  refine own_go (B := T136.setTop (mkF m 11 #[.val (.ref a1), .val (.ref a2), .val (.int p1), .val (.long q1), .second, .val (.long q2), .second] [(.int p1), (.ref a1)])) (fun t k => ?_) ?_
  · show Steps p.tables e below (T136.setTop (mkF m 9 #[.val (.ref a1), .val (.ref a2), .val (.int p1), .val (.long q1), .second, .val (.long q2), .second] [])) _
    refine XS.aloadN X136.here hx rfl (hb hby d12_9) rfl rfl ?_
    show Steps p.tables e below (T136.setTop (mkF m 10 #[.val (.ref a1), .val (.ref a2), .val (.int p1), .val (.long q1), .second, .val (.long q2), .second] [(.ref a1)])) _
    refine XS.iloadN X136.here hx rfl (hb hby d12_10) rfl ?_
    show Steps p.tables e below (T136.setTop (mkF m 11 #[.val (.ref a1), .val (.ref a2), .val (.int p1), .val (.long q1), .second, .val (.long q2), .second] [(.int p1), (.ref a1)])) _
    exact k
  have f138 : Exa Z h136 a1 "com/example/tiphys/tiphys/Run" := (E_a1.wr W136)
  have f139 : Fld Z h136 a1 "com/example/tiphys/tiphys/Run" "warmups" "I" (.int (0 : Int32)) := (F_warmups_a1.other W136 (Or.inr (slot_ne (Or.inr (hw _ (List.mem_of_getElem? (i := 90) rfl))) (Or.inr (hw _ (List.mem_of_getElem? (i := 88) rfl))) (by decide) (t := .int) (t' := (.object "java/util/List")) (by decide) (by decide))))
  obtain ⟨T137, h137, X137, e137, W137, st137⟩ := putF X136 hx hZ hown (host := "") (Or.inl (hw _ (List.mem_of_getElem? (i := 89) rfl))) Via.refl e136 f139 f138 (Or.inr ⟨(hw _ (List.mem_of_getElem? (i := 90) rfl)), rfl, hnm⟩) (hw _ (List.mem_of_getElem? (i := 81) rfl)) (ty := .int) (by decide) rfl rfl (g := (mkF m 11 #[.val (.ref a1), .val (.ref a2), .val (.int p1), .val (.long q1), .second, .val (.long q2), .second] [(.int p1), (.ref a1)])) rfl rfl (hb hby d12_11)
  refine own_go st137 ?_
  have F137 : Fld Z h137 a1 "com/example/tiphys/tiphys/Run" "warmups" "I" (.int p1) := f139.same W137
  have K137 : Keep h0 h137 [a1] := Keep.wr K136 W137 (Or.inl (List.mem_of_getElem? (i := 0) rfl))
  have N137 := Fr.snoc X137 N136 g_a1
  refine own_go (B := T137.setTop (mkF m 16 #[.val (.ref a1), .val (.ref a2), .val (.int p1), .val (.long q1), .second, .val (.long q2), .second] [(.long q1), (.ref a1)])) (fun t k => ?_) ?_
  · show Steps p.tables e below (T137.setTop (mkF m 14 #[.val (.ref a1), .val (.ref a2), .val (.int p1), .val (.long q1), .second, .val (.long q2), .second] [])) _
    refine XS.aloadN X137.here hx rfl (hb hby d12_14) rfl rfl ?_
    show Steps p.tables e below (T137.setTop (mkF m 15 #[.val (.ref a1), .val (.ref a2), .val (.int p1), .val (.long q1), .second, .val (.long q2), .second] [(.ref a1)])) _
    refine XS.lloadN X137.here hx rfl (hb hby d12_15) rfl ?_
    show Steps p.tables e below (T137.setTop (mkF m 16 #[.val (.ref a1), .val (.ref a2), .val (.int p1), .val (.long q1), .second, .val (.long q2), .second] [(.long q1), (.ref a1)])) _
    exact k
  have f141 : Exa Z h137 a1 "com/example/tiphys/tiphys/Run" := (f138.wr W137)
  have f142 : Fld Z h137 a1 "com/example/tiphys/tiphys/Run" "deadlineNs" "J" (.long (0 : Int64)) := ((F_deadlineNs_a1.other W136 (Or.inr (slot_ne (Or.inr (hw _ (List.mem_of_getElem? (i := 92) rfl))) (Or.inr (hw _ (List.mem_of_getElem? (i := 88) rfl))) (by decide) (t := .long) (t' := (.object "java/util/List")) (by decide) (by decide)))).other W137 (Or.inr (slot_ne (Or.inr (hw _ (List.mem_of_getElem? (i := 92) rfl))) (Or.inr (hw _ (List.mem_of_getElem? (i := 90) rfl))) (by decide) (t := .long) (t' := .int) (by decide) (by decide))))
  obtain ⟨T140, h140, X140, e140, W140, st140⟩ := putF X137 hx hZ hown (host := "") (Or.inl (hw _ (List.mem_of_getElem? (i := 91) rfl))) Via.refl e137 f142 f141 (Or.inr ⟨(hw _ (List.mem_of_getElem? (i := 92) rfl)), rfl, hnm⟩) (hw _ (List.mem_of_getElem? (i := 81) rfl)) (ty := .long) (by decide) rfl rfl (g := (mkF m 16 #[.val (.ref a1), .val (.ref a2), .val (.int p1), .val (.long q1), .second, .val (.long q2), .second] [(.long q1), (.ref a1)])) rfl rfl (hb hby d12_16)
  refine own_go st140 ?_
  have F140 : Fld Z h140 a1 "com/example/tiphys/tiphys/Run" "deadlineNs" "J" (.long q1) := f142.same W140
  have K140 : Keep h0 h140 [a1] := Keep.wr K137 W140 (Or.inl (List.mem_of_getElem? (i := 0) rfl))
  have N140 := Fr.snoc X140 N137 g_a1
  refine own_go (B := T140.setTop (mkF m 22 #[.val (.ref a1), .val (.ref a2), .val (.int p1), .val (.long q1), .second, .val (.long q2), .second] [(.long q2), (.ref a1)])) (fun t k => ?_) ?_
  · show Steps p.tables e below (T140.setTop (mkF m 19 #[.val (.ref a1), .val (.ref a2), .val (.int p1), .val (.long q1), .second, .val (.long q2), .second] [])) _
    refine XS.aloadN X140.here hx rfl (hb hby d12_19) rfl rfl ?_
    show Steps p.tables e below (T140.setTop (mkF m 20 #[.val (.ref a1), .val (.ref a2), .val (.int p1), .val (.long q1), .second, .val (.long q2), .second] [(.ref a1)])) _
    refine XS.lload X140.here hx rfl (hb hby d12_20) rfl ?_
    show Steps p.tables e below (T140.setTop (mkF m 22 #[.val (.ref a1), .val (.ref a2), .val (.int p1), .val (.long q1), .second, .val (.long q2), .second] [(.long q2), (.ref a1)])) _
    exact k
  have f144 : Exa Z h140 a1 "com/example/tiphys/tiphys/Run" := (f141.wr W140)
  have f145 : Fld Z h140 a1 "com/example/tiphys/tiphys/Run" "garbageCollections" "J" (.long (0 : Int64)) := (((F_garbageCollections_a1.other W136 (Or.inr (slot_ne (Or.inr (hw _ (List.mem_of_getElem? (i := 94) rfl))) (Or.inr (hw _ (List.mem_of_getElem? (i := 88) rfl))) (by decide) (t := .long) (t' := (.object "java/util/List")) (by decide) (by decide)))).other W137 (Or.inr (slot_ne (Or.inr (hw _ (List.mem_of_getElem? (i := 94) rfl))) (Or.inr (hw _ (List.mem_of_getElem? (i := 90) rfl))) (by decide) (t := .long) (t' := .int) (by decide) (by decide)))).other W140 (Or.inr (slot_ne (Or.inr (hw _ (List.mem_of_getElem? (i := 94) rfl))) (Or.inr (hw _ (List.mem_of_getElem? (i := 92) rfl))) (by decide) (t := .long) (t' := .long) (by decide) (by decide))))
  obtain ⟨T143, h143, X143, e143, W143, st143⟩ := putF X140 hx hZ hown (host := "") (Or.inl (hw _ (List.mem_of_getElem? (i := 93) rfl))) Via.refl e140 f145 f144 (Or.inr ⟨(hw _ (List.mem_of_getElem? (i := 94) rfl)), rfl, hnm⟩) (hw _ (List.mem_of_getElem? (i := 81) rfl)) (ty := .long) (by decide) rfl rfl (g := (mkF m 22 #[.val (.ref a1), .val (.ref a2), .val (.int p1), .val (.long q1), .second, .val (.long q2), .second] [(.long q2), (.ref a1)])) rfl rfl (hb hby d12_22)
  refine own_go st143 ?_
  have F143 : Fld Z h143 a1 "com/example/tiphys/tiphys/Run" "garbageCollections" "J" (.long q2) := f145.same W143
  have K143 : Keep h0 h143 [a1] := Keep.wr K140 W143 (Or.inl (List.mem_of_getElem? (i := 0) rfl))
  have N143 := Fr.snoc X143 N140 g_a1
  obtain ⟨fs, hr, hrun, hended, hW, hsame⟩ := X143.leave (v := none) (fun _ => rfl)
  refine ⟨_, _, ?_, hrun, hended, _, _, rfl, ?_, ⟨_, rfl⟩, hW, hsame.mono (by decide) (by decide)⟩
  · exact X143.returnOut hx Bd.returns (hb hby d12_25) hr
  · show Q12 Z a1 a2 p1 q1 q2 h0 n0 _ T143.heap _
    rw [e143]
    have f147 : Exa Z h143 a1 "com/example/tiphys/tiphys/Run" := (f144.wr W143)
    have f148 : Fld Z h143 a1 "com/example/tiphys/tiphys/Run" "releases" "Ljava/util/List;" (.ref a2) := (((F136.other W137 (Or.inr (slot_ne (Or.inr (hw _ (List.mem_of_getElem? (i := 88) rfl))) (Or.inr (hw _ (List.mem_of_getElem? (i := 90) rfl))) (by decide) (t := (.object "java/util/List")) (t' := .int) (by decide) (by decide)))).other W140 (Or.inr (slot_ne (Or.inr (hw _ (List.mem_of_getElem? (i := 88) rfl))) (Or.inr (hw _ (List.mem_of_getElem? (i := 92) rfl))) (by decide) (t := (.object "java/util/List")) (t' := .long) (by decide) (by decide)))).other W143 (Or.inr (slot_ne (Or.inr (hw _ (List.mem_of_getElem? (i := 88) rfl))) (Or.inr (hw _ (List.mem_of_getElem? (i := 94) rfl))) (by decide) (t := (.object "java/util/List")) (t' := .long) (by decide) (by decide))))
    have f149 : Fld Z h143 a1 "com/example/tiphys/tiphys/Run" "warmups" "I" (.int p1) := ((F137.other W140 (Or.inr (slot_ne (Or.inr (hw _ (List.mem_of_getElem? (i := 90) rfl))) (Or.inr (hw _ (List.mem_of_getElem? (i := 92) rfl))) (by decide) (t := .int) (t' := .long) (by decide) (by decide)))).other W143 (Or.inr (slot_ne (Or.inr (hw _ (List.mem_of_getElem? (i := 90) rfl))) (Or.inr (hw _ (List.mem_of_getElem? (i := 94) rfl))) (by decide) (t := .int) (t' := .long) (by decide) (by decide))))
    exact ⟨rfl, N143, K143, f147, f148, f149⟩
theorem d25_0 : decode prog_44_method_10_code 0 = .ok (.aload_n 0, 1) := by decide +kernel
theorem d25_1 : decode prog_44_method_10_code 1 = .ok (.getfield 7, 3) := by decide +kernel
theorem d25_4 : decode prog_44_method_10_code 4 = .ok (.ireturn, 1) := by decide +kernel
theorem ef_25 (m : MethodId) (a1 : Addr) : entryFrame m #[(.ref a1)] 1 = mkF m 0 #[.val (.ref a1)] [] := by first | (simp [entryFrame, mkF, argsToLocals, Value.category]; done) | rfl
def Q25 (Z : State) (a1 : Addr) (ix : Int32) (h0 : Heap) (n0 : Nat) (v : Option Value) (h : Heap) (L : List Loc) : Prop := v = some (.int ix) ∧ Fr n0 L ∧ h = h0
set_option maxRecDepth 65536 in
set_option maxHeartbeats 40000000 in
theorem rm25 (l : Launch) (Z : State) (a0 : Array Value) (hw : ∀ d ∈ tables_1, d.before a0 Z = true) (ws : List Jvm.Cond) (a1 : Addr) (ix : Int32) (h0 : Heap) (n0 : Nat) (Z0 : n0 ≤ h0.size) (F_ix : Fld Z h0 a1 "com/example/tiphys/tiphys/Release" "index" "I" (.int ix)) :
    MetFree l (⟨"com/example/tiphys/tiphys/Release", "index", "()I"⟩ : MethodName) (head1 (Jvm.Cond.code (⟨"com/example/tiphys/tiphys/Release", "index", "()I"⟩ : MethodName) prog_44_method_10_code 1 (some .int) :: ws) ({ frames := 0, cells := 0, slots := 0, locals := 0 } : Room)) (fun a U => a = #[(.ref a1)] ∧ Z.Warmed39 U.vm ∧ U.heap = h0) (fun _ _ _ _ _ => True) (fun _ U o U' => ∃ v L, o = .returned v ∧ Q25 Z a1 ix h0 n0 v U'.heap L ∧ FrameEnd U o U' L ({ frames := 0, cells := 0, slots := 0, locals := 0 } : Room).cells ({ frames := 0, cells := 0, slots := 0, locals := 0 } : Room).slots) := by
  refine MetFree.of_bodySF (plainFor_of_name pn_107) hisR ?_
  intro p e s m args below meth c s₁ Bd hml0 hP hK
  obtain ⟨rfl, hZ, hh⟩ := hP
  have hx := Bd.exec
  have hby := Bd.bytes
  have hml : c.maxLocals = 1 := hml0
  have hown : s.vm.findClass "com/example/tiphys/tiphys/Release" = some m.cls := findClass_of_methodNamed Bd.named
  have hnm := (name_of_methodNamed Bd.named Bd.method).1
  have X0 : Stand p l e ({ frames := 0, cells := 0, slots := 0, locals := 0 } : Room) s m #[(.ref a1)] below meth c s₁ [] 0 0 := Stand.of_body Bd
  have e0 : s₁.heap = h0 := by rw [← hh, Bd.state]; rfl
  have N0 := Fr.nil n0
  refine own_go (B := s₁.setTop (mkF m 0 #[.val (.ref a1)] [])) (fun t k => castTop (ef_25 m a1) k) ?_
  refine own_go (B := s₁.setTop (mkF m 1 #[.val (.ref a1)] [(.ref a1)])) (fun t k => ?_) ?_
  · show Steps p.tables e below (s₁.setTop (mkF m 0 #[.val (.ref a1)] [])) _
    refine XS.aloadN X0.here hx rfl (hb hby d25_0) rfl rfl ?_
    show Steps p.tables e below (s₁.setTop (mkF m 1 #[.val (.ref a1)] [(.ref a1)])) _
    exact k
  obtain ⟨T150, X150, e150, st150⟩ := getF X0 hx hZ hown (host := "") (Or.inl (hw _ (List.mem_of_getElem? (i := 39) rfl))) Via.refl e0 F_ix (g := (mkF m 1 #[.val (.ref a1)] [(.ref a1)])) rfl rfl (hb hby d25_1)
  refine own_go st150 ?_
  obtain ⟨fs, hr, hrun, hended, hW, hsame⟩ := X150.leave (v := some (.int ix)) (fun h => by rw [Bd.returns] at h; cases h)
  refine ⟨_, _, ?_, hrun, hended, _, _, rfl, ?_, ⟨_, rfl⟩, hW, hsame.mono (by decide) (by decide)⟩
  · exact retI X150 hx Bd.returns (hb hby d25_4) hr
  · show Q25 Z a1 ix h0 n0 _ T150.heap _
    rw [e150]
    exact ⟨rfl, N0, rfl⟩
theorem pd_5 : parseMethodDescriptor "()I" = some ⟨[], some .int⟩ := by decide +kernel
theorem d24_0 : decode prog_49_method_3_code 0 = .ok (.aload_n 1, 1) := by decide +kernel
theorem d24_1 : decode prog_49_method_3_code 1 = .ok (.invokevirtual 34, 3) := by decide +kernel
theorem d24_4 : decode prog_49_method_3_code 4 = .ok (.aload_n 0, 1) := by decide +kernel
theorem d24_5 : decode prog_49_method_3_code 5 = .ok (.getfield 13, 3) := by decide +kernel
theorem d24_8 : decode prog_49_method_3_code 8 = .ok (.if_icmp .ge 7, 3) := by decide +kernel
theorem d24_11 : decode prog_49_method_3_code 11 = .ok (.iconst 1, 1) := by decide +kernel
theorem d24_12 : decode prog_49_method_3_code 12 = .ok (.goto 4, 3) := by decide +kernel
theorem d24_15 : decode prog_49_method_3_code 15 = .ok (.iconst 0, 1) := by decide +kernel
theorem d24_16 : decode prog_49_method_3_code 16 = .ok (.ireturn, 1) := by decide +kernel
theorem ef_24 (m : MethodId) (a1 : Addr) (a2 : Addr) : entryFrame m #[(.ref a1), (.ref a2)] 2 = mkF m 0 #[.val (.ref a1), .val (.ref a2)] [] := by first | (simp [entryFrame, mkF, argsToLocals, Value.category]; done) | rfl
def Q24 (Z : State) (a1 : Addr) (a2 : Addr) (ix : Int32) (wu : Int32) (h0 : Heap) (n0 : Nat) (v : Option Value) (h : Heap) (L : List Loc) : Prop := v = some (.int (if ix < wu then (1 : Int32) else 0)) ∧ Fr n0 L ∧ h = h0
set_option maxRecDepth 65536 in
set_option maxHeartbeats 40000000 in
theorem rm24 (l : Launch) (Z : State) (a0 : Array Value) (hw : ∀ d ∈ tables_1, d.before a0 Z = true) (ws : List Jvm.Cond) (a1 : Addr) (a2 : Addr) (ix : Int32) (wu : Int32) (h0 : Heap) (n0 : Nat) (Z0 : n0 ≤ h0.size) (E_a2 : Exa Z h0 a2 "com/example/tiphys/tiphys/Release") (F_ix : Fld Z h0 a2 "com/example/tiphys/tiphys/Release" "index" "I" (.int ix)) (F_wu : Fld Z h0 a1 "com/example/tiphys/tiphys/Run" "warmups" "I" (.int wu)) :
    MetFree l (⟨"com/example/tiphys/tiphys/Run", "isWarmup", "(Lcom/example/tiphys/tiphys/Release;)Z"⟩ : MethodName) (head1 (Jvm.Cond.code (⟨"com/example/tiphys/tiphys/Run", "isWarmup", "(Lcom/example/tiphys/tiphys/Release;)Z"⟩ : MethodName) prog_49_method_3_code 2 (some .boolean) :: ws) ({ frames := 1, cells := 0, slots := 0, locals := 12 } : Room)) (fun a U => a = #[(.ref a1), (.ref a2)] ∧ Z.Warmed39 U.vm ∧ U.heap = h0) (fun _ _ _ _ _ => True) (fun _ U o U' => ∃ v L, o = .returned v ∧ Q24 Z a1 a2 ix wu h0 n0 v U'.heap L ∧ FrameEnd U o U' L ({ frames := 1, cells := 0, slots := 0, locals := 12 } : Room).cells ({ frames := 1, cells := 0, slots := 0, locals := 12 } : Room).slots) := by
  refine MetFree.of_bodySF (plainFor_of_name pn_123) hisR ?_
  intro p e s m args below meth c s₁ Bd hml0 hP hK
  obtain ⟨rfl, hZ, hh⟩ := hP
  have hx := Bd.exec
  have hby := Bd.bytes
  have hml : c.maxLocals = 2 := hml0
  have hown : s.vm.findClass "com/example/tiphys/tiphys/Run" = some m.cls := findClass_of_methodNamed Bd.named
  have hnm := (name_of_methodNamed Bd.named Bd.method).1
  have X0 : Stand p l e ({ frames := 1, cells := 0, slots := 0, locals := 12 } : Room) s m #[(.ref a1), (.ref a2)] below meth c s₁ [] 0 0 := Stand.of_body Bd
  have e0 : s₁.heap = h0 := by rw [← hh, Bd.state]; rfl
  have N0 := Fr.nil n0
  refine own_go (B := s₁.setTop (mkF m 0 #[.val (.ref a1), .val (.ref a2)] [])) (fun t k => castTop (ef_24 m a1 a2) k) ?_
  refine own_go (B := s₁.setTop (mkF m 1 #[.val (.ref a1), .val (.ref a2)] [(.ref a2)])) (fun t k => ?_) ?_
  · show Steps p.tables e below (s₁.setTop (mkF m 0 #[.val (.ref a1), .val (.ref a2)] [])) _
    refine XS.aloadN X0.here hx rfl (hb hby d24_0) rfl rfl ?_
    show Steps p.tables e below (s₁.setTop (mkF m 1 #[.val (.ref a1), .val (.ref a2)] [(.ref a2)])) _
    exact k
  obtain ⟨cq152, kq152, q152a, q152b, q152c⟩ := isOf hZ e0 E_a2
  obtain ⟨_, _, ⟨T152, L152, k152, n152⟩, -, X152, ⟨Lc152, hQ152, l152, y152, z152⟩, st152⟩ := X0.virtualBack hx (y := (⟨"com/example/tiphys/tiphys/Release", "index", "()I"⟩ : MethodName)) (z := (⟨"com/example/tiphys/tiphys/Release", "index", "()I"⟩ : MethodName)) hown (mvT hZ (hw _ (List.mem_of_getElem? (i := 182) rfl))) (mvT hZ (hw _ (List.mem_of_getElem? (i := 183) rfl))) (notFace_of_selects (args := #[]) (mvT hZ (hw _ (List.mem_of_getElem? (i := 185) rfl)))) (mvT hZ (hw _ (List.mem_of_getElem? (i := 185) rfl))) (mvT hZ (hw _ (List.mem_of_getElem? (i := 184) rfl))) (by decide) (backOf (W := 0) (rm25 l Z a0 hw [] a2 ix h0 n0 Z0 F_ix) hZ (hw _ (List.mem_of_getElem? (i := 186) rfl)) (hw _ (List.mem_of_getElem? (i := 29) rfl)) (by decide) (by decide)) q152a q152c (g := (mkF m 1 #[.val (.ref a1), .val (.ref a2)] [(.ref a2)])) rfl (by rw [hml]; rfl) (Steps.refl _) (argsL := []) (rest := []) (lenOf pd_5 rfl) rfl (by show 2 * 0 + _ ≤ _; exact Nat.le_of_eq rfl) (hb hby d24_1) (fun _ _ => ⟨rfl, e0, (by decide : 0 + 0 ≤ _), (by decide : 0 + 0 ≤ _)⟩)
  dsimp only [Pt.U, Pt.locs, Pt.cells, Pt.slots] at X152 l152 y152 z152 st152 hQ152
  subst l152 y152 z152
  obtain ⟨rfl, M152, q152_0⟩ := hQ152
  have N152 := Fr.app N0 M152
  refine own_go (fun t k => st152.trans k) ?_
  refine own_go (B := T152.setTop (mkF m 5 #[.val (.ref a1), .val (.ref a2)] [(.ref a1), (.int ix)])) (fun t k => ?_) ?_
  · show Steps p.tables e below (T152.setTop (mkF m 4 #[.val (.ref a1), .val (.ref a2)] [(.int ix)])) _
    refine XS.aloadN X152.here hx rfl (hb hby d24_4) rfl rfl ?_
    show Steps p.tables e below (T152.setTop (mkF m 5 #[.val (.ref a1), .val (.ref a2)] [(.ref a1), (.int ix)])) _
    exact k
  obtain ⟨T153, X153, e153, st153⟩ := getF X152 hx hZ hown (host := "") (Or.inl (hw _ (List.mem_of_getElem? (i := 89) rfl))) Via.refl q152_0 F_wu (g := (mkF m 5 #[.val (.ref a1), .val (.ref a2)] [(.ref a1), (.int ix)])) rfl rfl (hb hby d24_5)
  refine own_go st153 ?_
  by_cases hc154 : ix < wu
  · refine own_go (B := T153.setTop (mkF m 16 #[.val (.ref a1), .val (.ref a2)] [(.int (1 : Int32))])) (fun t k => ?_) ?_
    · show Steps p.tables e below (T153.setTop (mkF m 8 #[.val (.ref a1), .val (.ref a2)] [(.int wu), (.int ix)])) _
      refine XS.icmpNo X153.here hx rfl (hb hby d24_8) rfl (tlt hc154).2.1 ?_
      show Steps p.tables e below (T153.setTop (mkF m 11 #[.val (.ref a1), .val (.ref a2)] [])) _
      refine XS.iconst X153.here hx rfl (hb hby d24_11) ?_
      show Steps p.tables e below (T153.setTop (mkF m 12 #[.val (.ref a1), .val (.ref a2)] [(.int (1 : Int32))])) _
      refine XS.goto X153.here hx rfl (pc0 := 12) (pc' := 16) rfl (hb hby d24_12) (by decide) (by decide) ?_
      show Steps p.tables e below (T153.setTop (mkF m 16 #[.val (.ref a1), .val (.ref a2)] [(.int (1 : Int32))])) _
      exact k
    obtain ⟨fs, hr, hrun, hended, hW, hsame⟩ := X153.leave (v := some (.int (1 : Int32))) (fun h => by rw [Bd.returns] at h; cases h)
    refine ⟨_, _, ?_, hrun, hended, _, _, rfl, ?_, ⟨_, rfl⟩, hW, hsame.mono (by decide) (by decide)⟩
    · exact retN X153 hx (t := .boolean) Bd.returns (by simp) (hb hby d24_16) hr
    · show Q24 Z a1 a2 ix wu h0 n0 _ T153.heap _
      rw [e153]
      exact ⟨(by rw [if_pos hc154]), N152, rfl⟩
  · refine own_go (B := T153.setTop (mkF m 16 #[.val (.ref a1), .val (.ref a2)] [(.int (0 : Int32))])) (fun t k => ?_) ?_
    · show Steps p.tables e below (T153.setTop (mkF m 8 #[.val (.ref a1), .val (.ref a2)] [(.int wu), (.int ix)])) _
      refine XS.icmpYes X153.here hx rfl (pc0 := 8) (pc' := 15) rfl (hb hby d24_8) rfl (flt hc154).2.1 (by decide) (by decide) ?_
      show Steps p.tables e below (T153.setTop (mkF m 15 #[.val (.ref a1), .val (.ref a2)] [])) _
      refine XS.iconst X153.here hx rfl (hb hby d24_15) ?_
      show Steps p.tables e below (T153.setTop (mkF m 16 #[.val (.ref a1), .val (.ref a2)] [(.int (0 : Int32))])) _
      exact k
    obtain ⟨fs, hr, hrun, hended, hW, hsame⟩ := X153.leave (v := some (.int (0 : Int32))) (fun h => by rw [Bd.returns] at h; cases h)
    refine ⟨_, _, ?_, hrun, hended, _, _, rfl, ?_, ⟨_, rfl⟩, hW, hsame.mono (by decide) (by decide)⟩
    · exact retN X153 hx (t := .boolean) Bd.returns (by simp) (hb hby d24_16) hr
    · show Q24 Z a1 a2 ix wu h0 n0 _ T153.heap _
      rw [e153]
      exact ⟨(by rw [if_neg hc154]), N152, rfl⟩
theorem pn_143 : plainName "jdk/internal/util/Preconditions" = true := by first | (simp [plainName, overriddenIn]; done) | decide +kernel
theorem d22_0 : decode jdk_41_method_11_code 0 = .ok (.iload_n 0, 1) := by decide +kernel
theorem d22_1 : decode jdk_41_method_11_code 1 = .ok (.ifCond .lt 8, 3) := by decide +kernel
theorem d22_4 : decode jdk_41_method_11_code 4 = .ok (.iload_n 0, 1) := by decide +kernel
theorem d22_5 : decode jdk_41_method_11_code 5 = .ok (.iload_n 1, 1) := by decide +kernel
theorem d22_6 : decode jdk_41_method_11_code 6 = .ok (.if_icmp .lt 10, 3) := by decide +kernel
theorem d22_16 : decode jdk_41_method_11_code 16 = .ok (.iload_n 0, 1) := by decide +kernel
theorem d22_17 : decode jdk_41_method_11_code 17 = .ok (.ireturn, 1) := by decide +kernel
theorem ef_22 (m : MethodId) (p1 : Int32) (p2 : Int32) : entryFrame m #[(.int p1), (.int p2), .null] 3 = mkF m 0 #[.val (.int p1), .val (.int p2), .val .null] [] := by first | (simp [entryFrame, mkF, argsToLocals, Value.category]; done) | rfl
def Q22 (Z : State) (p1 : Int32) (p2 : Int32) (h0 : Heap) (n0 : Nat) (v : Option Value) (h : Heap) (L : List Loc) : Prop := v = some (.int p1) ∧ Fr n0 L ∧ h = h0
set_option maxRecDepth 65536 in
set_option maxHeartbeats 40000000 in
theorem rm22 (l : Launch) (Z : State) (a0 : Array Value) (hw : ∀ d ∈ tables_1, d.before a0 Z = true) (ws : List Jvm.Cond) (p1 : Int32) (p2 : Int32) (h0 : Heap) (n0 : Nat) (Z0 : n0 ≤ h0.size) (k1 : ¬ p1 < (0 : Int32)) (k2 : p1 < p2) :
    MetFree l (⟨"jdk/internal/util/Preconditions", "checkIndex", "(IILjava/util/function/BiFunction;)I"⟩ : MethodName) (head1 (Jvm.Cond.code (⟨"jdk/internal/util/Preconditions", "checkIndex", "(IILjava/util/function/BiFunction;)I"⟩ : MethodName) jdk_41_method_11_code 3 (some .int) :: ws) ({ frames := 0, cells := 0, slots := 0, locals := 0 } : Room)) (fun a U => a = #[(.int p1), (.int p2), .null] ∧ Z.Warmed39 U.vm ∧ U.heap = h0) (fun _ _ _ _ _ => True) (fun _ U o U' => ∃ v L, o = .returned v ∧ Q22 Z p1 p2 h0 n0 v U'.heap L ∧ FrameEnd U o U' L ({ frames := 0, cells := 0, slots := 0, locals := 0 } : Room).cells ({ frames := 0, cells := 0, slots := 0, locals := 0 } : Room).slots) := by
  refine MetFree.of_bodySF (plainFor_of_name pn_143) hisR ?_
  intro p e s m args below meth c s₁ Bd hml0 hP hK
  obtain ⟨rfl, hZ, hh⟩ := hP
  have hx := Bd.exec
  have hby := Bd.bytes
  have hml : c.maxLocals = 3 := hml0
  have hown : s.vm.findClass "jdk/internal/util/Preconditions" = some m.cls := findClass_of_methodNamed Bd.named
  have hnm := (name_of_methodNamed Bd.named Bd.method).1
  have X0 : Stand p l e ({ frames := 0, cells := 0, slots := 0, locals := 0 } : Room) s m #[(.int p1), (.int p2), .null] below meth c s₁ [] 0 0 := Stand.of_body Bd
  have e0 : s₁.heap = h0 := by rw [← hh, Bd.state]; rfl
  have N0 := Fr.nil n0
  refine own_go (B := s₁.setTop (mkF m 0 #[.val (.int p1), .val (.int p2), .val .null] [])) (fun t k => castTop (ef_22 m p1 p2) k) ?_
  refine own_go (B := s₁.setTop (mkF m 17 #[.val (.int p1), .val (.int p2), .val .null] [(.int p1)])) (fun t k => ?_) ?_
  · show Steps p.tables e below (s₁.setTop (mkF m 0 #[.val (.int p1), .val (.int p2), .val .null] [])) _
    refine XS.iloadN X0.here hx rfl (hb hby d22_0) rfl ?_
    show Steps p.tables e below (s₁.setTop (mkF m 1 #[.val (.int p1), .val (.int p2), .val .null] [(.int p1)])) _
    refine XS.ifNo X0.here hx rfl (hb hby d22_1) rfl ((if0 _ _).trans (flt (show ¬ (p1 < (0 : Int32)) from k1)).1) ?_
    show Steps p.tables e below (s₁.setTop (mkF m 4 #[.val (.int p1), .val (.int p2), .val .null] [])) _
    refine XS.iloadN X0.here hx rfl (hb hby d22_4) rfl ?_
    show Steps p.tables e below (s₁.setTop (mkF m 5 #[.val (.int p1), .val (.int p2), .val .null] [(.int p1)])) _
    refine XS.iloadN X0.here hx rfl (hb hby d22_5) rfl ?_
    show Steps p.tables e below (s₁.setTop (mkF m 6 #[.val (.int p1), .val (.int p2), .val .null] [(.int p2), (.int p1)])) _
    refine XS.icmpYes X0.here hx rfl (pc0 := 6) (pc' := 16) rfl (hb hby d22_6) rfl (tlt (show p1 < p2 from k2)).1 (by decide) (by decide) ?_
    show Steps p.tables e below (s₁.setTop (mkF m 16 #[.val (.int p1), .val (.int p2), .val .null] [])) _
    refine XS.iloadN X0.here hx rfl (hb hby d22_16) rfl ?_
    show Steps p.tables e below (s₁.setTop (mkF m 17 #[.val (.int p1), .val (.int p2), .val .null] [(.int p1)])) _
    exact k
  obtain ⟨fs, hr, hrun, hended, hW, hsame⟩ := X0.leave (v := some (.int p1)) (fun h => by rw [Bd.returns] at h; cases h)
  refine ⟨_, _, ?_, hrun, hended, _, _, rfl, ?_, ⟨_, rfl⟩, hW, hsame.mono (by decide) (by decide)⟩
  · exact retI X0 hx Bd.returns (hb hby d22_17) hr
  · show Q22 Z p1 p2 h0 n0 _ s₁.heap _
    rw [e0]
    exact ⟨rfl, N0, rfl⟩
theorem pd_6 : parseMethodDescriptor "(IILjava/util/function/BiFunction;)I" = some ⟨[.int, .int, (.object "java/util/function/BiFunction")], some .int⟩ := by decide +kernel
theorem pn_149 : plainName "java/util/Objects" = true := by first | (simp [plainName, overriddenIn]; done) | decide +kernel
theorem d21_0 : decode jdk_31_method_17_code 0 = .ok (.iload_n 0, 1) := by decide +kernel
theorem d21_1 : decode jdk_31_method_17_code 1 = .ok (.iload_n 1, 1) := by decide +kernel
theorem d21_2 : decode jdk_31_method_17_code 2 = .ok (.aconst_null, 1) := by decide +kernel
theorem d21_3 : decode jdk_31_method_17_code 3 = .ok (.invokestatic 105, 3) := by decide +kernel
theorem d21_6 : decode jdk_31_method_17_code 6 = .ok (.ireturn, 1) := by decide +kernel
theorem ef_21 (m : MethodId) (p1 : Int32) (p2 : Int32) : entryFrame m #[(.int p1), (.int p2)] 2 = mkF m 0 #[.val (.int p1), .val (.int p2)] [] := by first | (simp [entryFrame, mkF, argsToLocals, Value.category]; done) | rfl
def Q21 (Z : State) (p1 : Int32) (p2 : Int32) (h0 : Heap) (n0 : Nat) (v : Option Value) (h : Heap) (L : List Loc) : Prop := v = some (.int p1) ∧ Fr n0 L ∧ h = h0
set_option maxRecDepth 65536 in
set_option maxHeartbeats 40000000 in
theorem rm21 (l : Launch) (Z : State) (a0 : Array Value) (hw : ∀ d ∈ tables_1, d.before a0 Z = true) (ws : List Jvm.Cond) (p1 : Int32) (p2 : Int32) (h0 : Heap) (n0 : Nat) (Z0 : n0 ≤ h0.size) (k1 : ¬ p1 < (0 : Int32)) (k2 : p1 < p2) :
    MetFree l (⟨"java/util/Objects", "checkIndex", "(II)I"⟩ : MethodName) (head1 (Jvm.Cond.code (⟨"java/util/Objects", "checkIndex", "(II)I"⟩ : MethodName) jdk_31_method_17_code 2 (some .int) :: ws) ({ frames := 1, cells := 0, slots := 0, locals := 14 } : Room)) (fun a U => a = #[(.int p1), (.int p2)] ∧ Z.Warmed39 U.vm ∧ U.heap = h0) (fun _ _ _ _ _ => True) (fun _ U o U' => ∃ v L, o = .returned v ∧ Q21 Z p1 p2 h0 n0 v U'.heap L ∧ FrameEnd U o U' L ({ frames := 1, cells := 0, slots := 0, locals := 14 } : Room).cells ({ frames := 1, cells := 0, slots := 0, locals := 14 } : Room).slots) := by
  refine MetFree.of_bodySF (plainFor_of_name pn_149) hisR ?_
  intro p e s m args below meth c s₁ Bd hml0 hP hK
  obtain ⟨rfl, hZ, hh⟩ := hP
  have hx := Bd.exec
  have hby := Bd.bytes
  have hml : c.maxLocals = 2 := hml0
  have hown : s.vm.findClass "java/util/Objects" = some m.cls := findClass_of_methodNamed Bd.named
  have hnm := (name_of_methodNamed Bd.named Bd.method).1
  have X0 : Stand p l e ({ frames := 1, cells := 0, slots := 0, locals := 14 } : Room) s m #[(.int p1), (.int p2)] below meth c s₁ [] 0 0 := Stand.of_body Bd
  have e0 : s₁.heap = h0 := by rw [← hh, Bd.state]; rfl
  have N0 := Fr.nil n0
  refine own_go (B := s₁.setTop (mkF m 0 #[.val (.int p1), .val (.int p2)] [])) (fun t k => castTop (ef_21 m p1 p2) k) ?_
  refine own_go (B := s₁.setTop (mkF m 3 #[.val (.int p1), .val (.int p2)] [.null, (.int p2), (.int p1)])) (fun t k => ?_) ?_
  · show Steps p.tables e below (s₁.setTop (mkF m 0 #[.val (.int p1), .val (.int p2)] [])) _
    refine XS.iloadN X0.here hx rfl (hb hby d21_0) rfl ?_
    show Steps p.tables e below (s₁.setTop (mkF m 1 #[.val (.int p1), .val (.int p2)] [(.int p1)])) _
    refine XS.iloadN X0.here hx rfl (hb hby d21_1) rfl ?_
    show Steps p.tables e below (s₁.setTop (mkF m 2 #[.val (.int p1), .val (.int p2)] [(.int p2), (.int p1)])) _
    refine XS.aconstNull X0.here hx rfl (hb hby d21_2) ?_
    show Steps p.tables e below (s₁.setTop (mkF m 3 #[.val (.int p1), .val (.int p2)] [.null, (.int p2), (.int p1)])) _
    exact k
  obtain ⟨_, _, ⟨T158, L158, k158, n158⟩, -, X158, ⟨Lc158, hQ158, l158, y158, z158⟩, st158⟩ := Jvm.LawKit.callS X0 hx (y := (⟨"jdk/internal/util/Preconditions", "checkIndex", "(IILjava/util/function/BiFunction;)I"⟩ : MethodName)) hown (mvT hZ (hw _ (List.mem_of_getElem? (i := 167) rfl))) (mvT hZ (hw _ (List.mem_of_getElem? (i := 168) rfl))) (mvT hZ (hw _ (List.mem_of_getElem? (i := 169) rfl))) (mvT hZ (hw _ (List.mem_of_getElem? (i := 170) rfl))) (by decide) (backOf (W := 0) (rm22 l Z a0 hw [] p1 p2 h0 n0 Z0 (by first | assumption | decide) (by first | assumption | decide)) hZ (hw _ (List.mem_of_getElem? (i := 170) rfl)) (hw _ (List.mem_of_getElem? (i := 169) rfl)) (by decide) (by decide)) (g := (mkF m 3 #[.val (.int p1), .val (.int p2)] [.null, (.int p2), (.int p1)])) rfl (by rw [hml]; rfl) (argsL := [(.int p1), (.int p2), .null]) (rest := []) (lenOf pd_6 rfl) rfl (by show 2 * 0 + _ ≤ _; exact Nat.le_of_eq rfl) (hb hby d21_3) (fun _ _ => ⟨rfl, e0, (by decide : 0 + 0 ≤ _), (by decide : 0 + 0 ≤ _)⟩)
  dsimp only [Pt.U, Pt.locs, Pt.cells, Pt.slots] at X158 l158 y158 z158 st158 hQ158
  subst l158 y158 z158
  obtain ⟨rfl, M158, q158_0⟩ := hQ158
  have N158 := Fr.app N0 M158
  refine own_go st158 ?_
  obtain ⟨fs, hr, hrun, hended, hW, hsame⟩ := X158.leave (v := some (.int p1)) (fun h => by rw [Bd.returns] at h; cases h)
  refine ⟨_, _, ?_, hrun, hended, _, _, rfl, ?_, ⟨_, rfl⟩, hW, hsame.mono (by decide) (by decide)⟩
  · exact retI X158 hx Bd.returns (hb hby d21_6) hr
  · show Q21 Z p1 p2 h0 n0 _ T158.heap _
    rw [q158_0]
    exact ⟨rfl, N158, rfl⟩
theorem d23_0 : decode jdk_38_method_18_code 0 = .ok (.aload_n 0, 1) := by decide +kernel
theorem d23_1 : decode jdk_38_method_18_code 1 = .ok (.getfield 9, 3) := by decide +kernel
theorem d23_4 : decode jdk_38_method_18_code 4 = .ok (.iload_n 1, 1) := by decide +kernel
theorem d23_5 : decode jdk_38_method_18_code 5 = .ok (.aaload, 1) := by decide +kernel
theorem d23_6 : decode jdk_38_method_18_code 6 = .ok (.areturn, 1) := by decide +kernel
theorem ef_23_0 (m : MethodId) (a1 : Addr) : entryFrame m #[(.ref a1), (.int (0 : Int32))] 2 = mkF m 0 #[.val (.ref a1), .val (.int (0 : Int32))] [] := by first | (simp [entryFrame, mkF, argsToLocals, Value.category]; done) | rfl
def Q23_0 (Z : State) (a1 : Addr) (el0 : Addr) (el1 : Addr) (el2 : Addr) (ar : Addr) (kar : ClassId) (h0 : Heap) (n0 : Nat) (v : Option Value) (h : Heap) (L : List Loc) : Prop := v = some (.ref el0) ∧ Fr n0 L ∧ h = h0
set_option maxRecDepth 65536 in
set_option maxHeartbeats 40000000 in
theorem rm23_0 (l : Launch) (Z : State) (a0 : Array Value) (hw : ∀ d ∈ tables_1, d.before a0 Z = true) (ws : List Jvm.Cond) (a1 : Addr) (el0 : Addr) (el1 : Addr) (el2 : Addr) (ar : Addr) (kar : ClassId) (h0 : Heap) (n0 : Nat) (Z0 : n0 ≤ h0.size) (F_ea : Fld Z h0 a1 "java/util/ArrayList" "elementData" "[Ljava/lang/Object;" (.ref ar)) (V_ar : Arv Z h0 ar kar (.object "java/lang/Object") (10 : Int32) [(.ref el0), (.ref el1), (.ref el2), .null, .null, .null, .null, .null, .null, .null] .null) :
    MetFree l (⟨"java/util/ArrayList", "elementData", "(I)Ljava/lang/Object;"⟩ : MethodName) (head1 (Jvm.Cond.code (⟨"java/util/ArrayList", "elementData", "(I)Ljava/lang/Object;"⟩ : MethodName) jdk_38_method_18_code 2 (some (.object "java/lang/Object")) :: ws) ({ frames := 0, cells := 0, slots := 0, locals := 0 } : Room)) (fun a U => a = #[(.ref a1), (.int (0 : Int32))] ∧ Z.Warmed39 U.vm ∧ U.heap = h0) (fun _ _ _ _ _ => True) (fun _ U o U' => ∃ v L, o = .returned v ∧ Q23_0 Z a1 el0 el1 el2 ar kar h0 n0 v U'.heap L ∧ FrameEnd U o U' L ({ frames := 0, cells := 0, slots := 0, locals := 0 } : Room).cells ({ frames := 0, cells := 0, slots := 0, locals := 0 } : Room).slots) := by
  refine MetFree.of_bodySF (plainFor_of_name pn_21) hisR ?_
  intro p e s m args below meth c s₁ Bd hml0 hP hK
  obtain ⟨rfl, hZ, hh⟩ := hP
  have hx := Bd.exec
  have hby := Bd.bytes
  have hml : c.maxLocals = 2 := hml0
  have hown : s.vm.findClass "java/util/ArrayList" = some m.cls := findClass_of_methodNamed Bd.named
  have hnm := (name_of_methodNamed Bd.named Bd.method).1
  have X0 : Stand p l e ({ frames := 0, cells := 0, slots := 0, locals := 0 } : Room) s m #[(.ref a1), (.int (0 : Int32))] below meth c s₁ [] 0 0 := Stand.of_body Bd
  have e0 : s₁.heap = h0 := by rw [← hh, Bd.state]; rfl
  have N0 := Fr.nil n0
  refine own_go (B := s₁.setTop (mkF m 0 #[.val (.ref a1), .val (.int (0 : Int32))] [])) (fun t k => castTop (ef_23_0 m a1) k) ?_
  refine own_go (B := s₁.setTop (mkF m 1 #[.val (.ref a1), .val (.int (0 : Int32))] [(.ref a1)])) (fun t k => ?_) ?_
  · show Steps p.tables e below (s₁.setTop (mkF m 0 #[.val (.ref a1), .val (.int (0 : Int32))] [])) _
    refine XS.aloadN X0.here hx rfl (hb hby d23_0) rfl rfl ?_
    show Steps p.tables e below (s₁.setTop (mkF m 1 #[.val (.ref a1), .val (.int (0 : Int32))] [(.ref a1)])) _
    exact k
  obtain ⟨T160, X160, e160, st160⟩ := getF X0 hx hZ hown (host := "") (Or.inl (hw _ (List.mem_of_getElem? (i := 25) rfl))) Via.refl e0 F_ea (g := (mkF m 1 #[.val (.ref a1), .val (.int (0 : Int32))] [(.ref a1)])) rfl rfl (hb hby d23_1)
  refine own_go st160 ?_
  refine own_go (B := T160.setTop (mkF m 5 #[.val (.ref a1), .val (.int (0 : Int32))] [(.int (0 : Int32)), (.ref ar)])) (fun t k => ?_) ?_
  · show Steps p.tables e below (T160.setTop (mkF m 4 #[.val (.ref a1), .val (.int (0 : Int32))] [(.ref ar)])) _
    refine XS.iloadN X160.here hx rfl (hb hby d23_4) rfl ?_
    show Steps p.tables e below (T160.setTop (mkF m 5 #[.val (.ref a1), .val (.int (0 : Int32))] [(.int (0 : Int32)), (.ref ar)])) _
    exact k
  obtain ⟨cl161, Ar161, cq161, cS161, cN161, cH161, cG161⟩ := id V_ar
  have hin161 : ¬ ((0 : Int32) < 0 ∨ cl161.slots.size ≤ ((0 : Int32)).toNatClampNeg) := inb_of cS161 ⟨by decide, by decide⟩
  have hat161 : cl161.slots[((0 : Int32)).toNatClampNeg]? = some (.ref el0) := Has.at cH161 hin161 rfl
  refine own_go (B := T160.setTop (mkF m 6 #[.val (.ref a1), .val (.int (0 : Int32))] [(.ref el0)])) (fun t k => ?_) ?_
  · show Steps p.tables e below (T160.setTop (mkF m 5 #[.val (.ref a1), .val (.int (0 : Int32))] [(.int (0 : Int32)), (.ref ar)])) _
    refine X160.aaload hx (j := (0 : Int32)) (v := (.ref el0)) (by rw [e160]; exact Ar161.1) (State.isArrayOf_alike hZ.alike Ar161.2.1) rfl Ar161.2.2 hin161 hat161 (g := (mkF m 5 #[.val (.ref a1), .val (.int (0 : Int32))] [(.int (0 : Int32)), (.ref ar)])) rfl rfl (hb hby d23_5) _ ?_
    show Steps p.tables e below (T160.setTop (mkF m 6 #[.val (.ref a1), .val (.int (0 : Int32))] [(.ref el0)])) _
    exact k
  obtain ⟨fs, hr, hrun, hended, hW, hsame⟩ := X160.leave (v := some (.ref el0)) (fun h => by rw [Bd.returns] at h; cases h)
  refine ⟨_, _, ?_, hrun, hended, _, _, rfl, ?_, ⟨_, rfl⟩, hW, hsame.mono (by decide) (by decide)⟩
  · exact own_retR X160 hx Bd.returns rfl rfl (hb hby d23_6) hr
  · show Q23_0 Z a1 el0 el1 el2 ar kar h0 n0 _ T160.heap _
    rw [e160]
    exact ⟨rfl, N0, rfl⟩
theorem pd_7 : parseMethodDescriptor "(I)Ljava/lang/Object;" = some ⟨[.int], some (.object "java/lang/Object")⟩ := by decide +kernel
theorem d20_0 : decode jdk_38_method_20_code 0 = .ok (.iload_n 1, 1) := by decide +kernel
theorem d20_1 : decode jdk_38_method_20_code 1 = .ok (.aload_n 0, 1) := by decide +kernel
theorem d20_2 : decode jdk_38_method_20_code 2 = .ok (.getfield 48, 3) := by decide +kernel
theorem d20_5 : decode jdk_38_method_20_code 5 = .ok (.invokestatic 118, 3) := by decide +kernel
theorem d20_8 : decode jdk_38_method_20_code 8 = .ok (.pop, 1) := by decide +kernel
theorem d20_9 : decode jdk_38_method_20_code 9 = .ok (.aload_n 0, 1) := by decide +kernel
theorem d20_10 : decode jdk_38_method_20_code 10 = .ok (.iload_n 1, 1) := by decide +kernel
theorem d20_11 : decode jdk_38_method_20_code 11 = .ok (.invokevirtual 123, 3) := by decide +kernel
theorem d20_14 : decode jdk_38_method_20_code 14 = .ok (.areturn, 1) := by decide +kernel
theorem ef_20_0 (m : MethodId) (a1 : Addr) : entryFrame m #[(.ref a1), (.int (0 : Int32))] 2 = mkF m 0 #[.val (.ref a1), .val (.int (0 : Int32))] [] := by first | (simp [entryFrame, mkF, argsToLocals, Value.category]; done) | rfl
def Q20_0 (Z : State) (a1 : Addr) (el0 : Addr) (el1 : Addr) (el2 : Addr) (ar : Addr) (kar : ClassId) (h0 : Heap) (n0 : Nat) (v : Option Value) (h : Heap) (L : List Loc) : Prop := v = some (.ref el0) ∧ Fr n0 L ∧ h = h0
set_option maxRecDepth 65536 in
set_option maxHeartbeats 40000000 in
theorem rm20_0 (l : Launch) (Z : State) (a0 : Array Value) (hw : ∀ d ∈ tables_1, d.before a0 Z = true) (ws : List Jvm.Cond) (a1 : Addr) (el0 : Addr) (el1 : Addr) (el2 : Addr) (ar : Addr) (kar : ClassId) (h0 : Heap) (n0 : Nat) (Z0 : n0 ≤ h0.size) (E_a1 : Exa Z h0 a1 "java/util/ArrayList") (F_sz : Fld Z h0 a1 "java/util/ArrayList" "size" "I" (.int (3 : Int32))) (F_ea : Fld Z h0 a1 "java/util/ArrayList" "elementData" "[Ljava/lang/Object;" (.ref ar)) (V_ar : Arv Z h0 ar kar (.object "java/lang/Object") (10 : Int32) [(.ref el0), (.ref el1), (.ref el2), .null, .null, .null, .null, .null, .null, .null] .null) :
    MetFree l (⟨"java/util/ArrayList", "get", "(I)Ljava/lang/Object;"⟩ : MethodName) (head1 (Jvm.Cond.code (⟨"java/util/ArrayList", "get", "(I)Ljava/lang/Object;"⟩ : MethodName) jdk_38_method_20_code 2 (some (.object "java/lang/Object")) :: ws) ({ frames := 2, cells := 0, slots := 0, locals := 27 } : Room)) (fun a U => a = #[(.ref a1), (.int (0 : Int32))] ∧ Z.Warmed39 U.vm ∧ U.heap = h0) (fun _ _ _ _ _ => True) (fun _ U o U' => ∃ v L, o = .returned v ∧ Q20_0 Z a1 el0 el1 el2 ar kar h0 n0 v U'.heap L ∧ FrameEnd U o U' L ({ frames := 2, cells := 0, slots := 0, locals := 27 } : Room).cells ({ frames := 2, cells := 0, slots := 0, locals := 27 } : Room).slots) := by
  refine MetFree.of_bodySF (plainFor_of_name pn_21) hisR ?_
  intro p e s m args below meth c s₁ Bd hml0 hP hK
  obtain ⟨rfl, hZ, hh⟩ := hP
  have hx := Bd.exec
  have hby := Bd.bytes
  have hml : c.maxLocals = 2 := hml0
  have hown : s.vm.findClass "java/util/ArrayList" = some m.cls := findClass_of_methodNamed Bd.named
  have hnm := (name_of_methodNamed Bd.named Bd.method).1
  have X0 : Stand p l e ({ frames := 2, cells := 0, slots := 0, locals := 27 } : Room) s m #[(.ref a1), (.int (0 : Int32))] below meth c s₁ [] 0 0 := Stand.of_body Bd
  have e0 : s₁.heap = h0 := by rw [← hh, Bd.state]; rfl
  have N0 := Fr.nil n0
  refine own_go (B := s₁.setTop (mkF m 0 #[.val (.ref a1), .val (.int (0 : Int32))] [])) (fun t k => castTop (ef_20_0 m a1) k) ?_
  refine own_go (B := s₁.setTop (mkF m 2 #[.val (.ref a1), .val (.int (0 : Int32))] [(.ref a1), (.int (0 : Int32))])) (fun t k => ?_) ?_
  · show Steps p.tables e below (s₁.setTop (mkF m 0 #[.val (.ref a1), .val (.int (0 : Int32))] [])) _
    refine XS.iloadN X0.here hx rfl (hb hby d20_0) rfl ?_
    show Steps p.tables e below (s₁.setTop (mkF m 1 #[.val (.ref a1), .val (.int (0 : Int32))] [(.int (0 : Int32))])) _
    refine XS.aloadN X0.here hx rfl (hb hby d20_1) rfl rfl ?_
    show Steps p.tables e below (s₁.setTop (mkF m 2 #[.val (.ref a1), .val (.int (0 : Int32))] [(.ref a1), (.int (0 : Int32))])) _
    exact k
  obtain ⟨T163, X163, e163, st163⟩ := getF X0 hx hZ hown (host := "") (Or.inl (hw _ (List.mem_of_getElem? (i := 56) rfl))) Via.refl e0 F_sz (g := (mkF m 2 #[.val (.ref a1), .val (.int (0 : Int32))] [(.ref a1), (.int (0 : Int32))])) rfl rfl (hb hby d20_2)
  refine own_go st163 ?_
  obtain ⟨_, _, ⟨T164, L164, k164, n164⟩, -, X164, ⟨Lc164, hQ164, l164, y164, z164⟩, st164⟩ := Jvm.LawKit.callS X163 hx (y := (⟨"java/util/Objects", "checkIndex", "(II)I"⟩ : MethodName)) hown (mvT hZ (hw _ (List.mem_of_getElem? (i := 163) rfl))) (mvT hZ (hw _ (List.mem_of_getElem? (i := 164) rfl))) (mvT hZ (hw _ (List.mem_of_getElem? (i := 165) rfl))) (mvT hZ (hw _ (List.mem_of_getElem? (i := 166) rfl))) (by decide) (backOf (W := 0) (rm21 l Z a0 hw [] (0 : Int32) (3 : Int32) h0 n0 Z0 (by decide) (by decide)) hZ (hw _ (List.mem_of_getElem? (i := 166) rfl)) (hw _ (List.mem_of_getElem? (i := 165) rfl)) (by decide) (by decide)) (g := (mkF m 5 #[.val (.ref a1), .val (.int (0 : Int32))] [(.int (3 : Int32)), (.int (0 : Int32))])) rfl (by rw [hml]; rfl) (argsL := [(.int (0 : Int32)), (.int (3 : Int32))]) (rest := []) (lenOf pd_1 rfl) rfl (by show 2 * 0 + _ ≤ _; exact Nat.le_of_eq rfl) (hb hby d20_5) (fun _ _ => ⟨rfl, e163, (by decide : 0 + 0 ≤ _), (by decide : 0 + 0 ≤ _)⟩)
  dsimp only [Pt.U, Pt.locs, Pt.cells, Pt.slots] at X164 l164 y164 z164 st164 hQ164
  subst l164 y164 z164
  obtain ⟨rfl, M164, q164_0⟩ := hQ164
  have N164 := Fr.app N0 M164
  refine own_go st164 ?_
  refine own_go (B := T164.setTop (mkF m 11 #[.val (.ref a1), .val (.int (0 : Int32))] [(.int (0 : Int32)), (.ref a1)])) (fun t k => ?_) ?_
  · show Steps p.tables e below (T164.setTop (mkF m 8 #[.val (.ref a1), .val (.int (0 : Int32))] [(.int (0 : Int32))])) _
    refine XS.pop X164.here hx rfl (hb hby d20_8) rfl rfl ?_
    show Steps p.tables e below (T164.setTop (mkF m 9 #[.val (.ref a1), .val (.int (0 : Int32))] [])) _
    refine XS.aloadN X164.here hx rfl (hb hby d20_9) rfl rfl ?_
    show Steps p.tables e below (T164.setTop (mkF m 10 #[.val (.ref a1), .val (.int (0 : Int32))] [(.ref a1)])) _
    refine XS.iloadN X164.here hx rfl (hb hby d20_10) rfl ?_
    show Steps p.tables e below (T164.setTop (mkF m 11 #[.val (.ref a1), .val (.int (0 : Int32))] [(.int (0 : Int32)), (.ref a1)])) _
    exact k
  obtain ⟨cq165, kq165, q165a, q165b, q165c⟩ := isOf hZ q164_0 E_a1
  obtain ⟨_, _, ⟨T165, L165, k165, n165⟩, -, X165, ⟨Lc165, hQ165, l165, y165, z165⟩, st165⟩ := X164.virtualBack hx (y := (⟨"java/util/ArrayList", "elementData", "(I)Ljava/lang/Object;"⟩ : MethodName)) (z := (⟨"java/util/ArrayList", "elementData", "(I)Ljava/lang/Object;"⟩ : MethodName)) hown (mvT hZ (hw _ (List.mem_of_getElem? (i := 171) rfl))) (mvT hZ (hw _ (List.mem_of_getElem? (i := 172) rfl))) (notFace_of_selects (args := #[]) (mvT hZ (hw _ (List.mem_of_getElem? (i := 174) rfl)))) (mvT hZ (hw _ (List.mem_of_getElem? (i := 174) rfl))) (mvT hZ (hw _ (List.mem_of_getElem? (i := 173) rfl))) (by decide) (backOf (W := 0) (rm23_0 l Z a0 hw [] a1 el0 el1 el2 ar kar h0 n0 Z0 F_ea V_ar) hZ (hw _ (List.mem_of_getElem? (i := 175) rfl)) (hw _ (List.mem_of_getElem? (i := 3) rfl)) (by decide) (by decide)) q165a q165c (g := (mkF m 11 #[.val (.ref a1), .val (.int (0 : Int32))] [(.int (0 : Int32)), (.ref a1)])) rfl (by rw [hml]; rfl) (Steps.refl _) (argsL := [(.int (0 : Int32))]) (rest := []) (lenOf pd_7 rfl) rfl (by show 2 * 0 + _ ≤ _; exact Nat.le_of_eq rfl) (hb hby d20_11) (fun _ _ => ⟨rfl, q164_0, (by decide : 0 + 0 ≤ _), (by decide : 0 + 0 ≤ _)⟩)
  dsimp only [Pt.U, Pt.locs, Pt.cells, Pt.slots] at X165 l165 y165 z165 st165 hQ165
  subst l165 y165 z165
  obtain ⟨rfl, M165, q165_0⟩ := hQ165
  have N165 := Fr.app N164 M165
  refine own_go (fun t k => st165.trans k) ?_
  obtain ⟨fs, hr, hrun, hended, hW, hsame⟩ := X165.leave (v := some (.ref el0)) (fun h => by rw [Bd.returns] at h; cases h)
  refine ⟨_, _, ?_, hrun, hended, _, _, rfl, ?_, ⟨_, rfl⟩, hW, hsame.mono (by decide) (by decide)⟩
  · exact own_retR X165 hx Bd.returns rfl rfl (hb hby d20_14) hr
  · show Q20_0 Z a1 el0 el1 el2 ar kar h0 n0 _ T165.heap _
    rw [q165_0]
    exact ⟨rfl, N165, rfl⟩
theorem ef_23_1 (m : MethodId) (a1 : Addr) : entryFrame m #[(.ref a1), (.int (1 : Int32))] 2 = mkF m 0 #[.val (.ref a1), .val (.int (1 : Int32))] [] := by first | (simp [entryFrame, mkF, argsToLocals, Value.category]; done) | rfl
def Q23_1 (Z : State) (a1 : Addr) (el0 : Addr) (el1 : Addr) (el2 : Addr) (ar : Addr) (kar : ClassId) (h0 : Heap) (n0 : Nat) (v : Option Value) (h : Heap) (L : List Loc) : Prop := v = some (.ref el1) ∧ Fr n0 L ∧ h = h0
set_option maxRecDepth 65536 in
set_option maxHeartbeats 40000000 in
theorem rm23_1 (l : Launch) (Z : State) (a0 : Array Value) (hw : ∀ d ∈ tables_1, d.before a0 Z = true) (ws : List Jvm.Cond) (a1 : Addr) (el0 : Addr) (el1 : Addr) (el2 : Addr) (ar : Addr) (kar : ClassId) (h0 : Heap) (n0 : Nat) (Z0 : n0 ≤ h0.size) (F_ea : Fld Z h0 a1 "java/util/ArrayList" "elementData" "[Ljava/lang/Object;" (.ref ar)) (V_ar : Arv Z h0 ar kar (.object "java/lang/Object") (10 : Int32) [(.ref el0), (.ref el1), (.ref el2), .null, .null, .null, .null, .null, .null, .null] .null) :
    MetFree l (⟨"java/util/ArrayList", "elementData", "(I)Ljava/lang/Object;"⟩ : MethodName) (head1 (Jvm.Cond.code (⟨"java/util/ArrayList", "elementData", "(I)Ljava/lang/Object;"⟩ : MethodName) jdk_38_method_18_code 2 (some (.object "java/lang/Object")) :: ws) ({ frames := 0, cells := 0, slots := 0, locals := 0 } : Room)) (fun a U => a = #[(.ref a1), (.int (1 : Int32))] ∧ Z.Warmed39 U.vm ∧ U.heap = h0) (fun _ _ _ _ _ => True) (fun _ U o U' => ∃ v L, o = .returned v ∧ Q23_1 Z a1 el0 el1 el2 ar kar h0 n0 v U'.heap L ∧ FrameEnd U o U' L ({ frames := 0, cells := 0, slots := 0, locals := 0 } : Room).cells ({ frames := 0, cells := 0, slots := 0, locals := 0 } : Room).slots) := by
  refine MetFree.of_bodySF (plainFor_of_name pn_21) hisR ?_
  intro p e s m args below meth c s₁ Bd hml0 hP hK
  obtain ⟨rfl, hZ, hh⟩ := hP
  have hx := Bd.exec
  have hby := Bd.bytes
  have hml : c.maxLocals = 2 := hml0
  have hown : s.vm.findClass "java/util/ArrayList" = some m.cls := findClass_of_methodNamed Bd.named
  have hnm := (name_of_methodNamed Bd.named Bd.method).1
  have X0 : Stand p l e ({ frames := 0, cells := 0, slots := 0, locals := 0 } : Room) s m #[(.ref a1), (.int (1 : Int32))] below meth c s₁ [] 0 0 := Stand.of_body Bd
  have e0 : s₁.heap = h0 := by rw [← hh, Bd.state]; rfl
  have N0 := Fr.nil n0
  refine own_go (B := s₁.setTop (mkF m 0 #[.val (.ref a1), .val (.int (1 : Int32))] [])) (fun t k => castTop (ef_23_1 m a1) k) ?_
  refine own_go (B := s₁.setTop (mkF m 1 #[.val (.ref a1), .val (.int (1 : Int32))] [(.ref a1)])) (fun t k => ?_) ?_
  · show Steps p.tables e below (s₁.setTop (mkF m 0 #[.val (.ref a1), .val (.int (1 : Int32))] [])) _
    refine XS.aloadN X0.here hx rfl (hb hby d23_0) rfl rfl ?_
    show Steps p.tables e below (s₁.setTop (mkF m 1 #[.val (.ref a1), .val (.int (1 : Int32))] [(.ref a1)])) _
    exact k
  obtain ⟨T167, X167, e167, st167⟩ := getF X0 hx hZ hown (host := "") (Or.inl (hw _ (List.mem_of_getElem? (i := 25) rfl))) Via.refl e0 F_ea (g := (mkF m 1 #[.val (.ref a1), .val (.int (1 : Int32))] [(.ref a1)])) rfl rfl (hb hby d23_1)
  refine own_go st167 ?_
  refine own_go (B := T167.setTop (mkF m 5 #[.val (.ref a1), .val (.int (1 : Int32))] [(.int (1 : Int32)), (.ref ar)])) (fun t k => ?_) ?_
  · show Steps p.tables e below (T167.setTop (mkF m 4 #[.val (.ref a1), .val (.int (1 : Int32))] [(.ref ar)])) _
    refine XS.iloadN X167.here hx rfl (hb hby d23_4) rfl ?_
    show Steps p.tables e below (T167.setTop (mkF m 5 #[.val (.ref a1), .val (.int (1 : Int32))] [(.int (1 : Int32)), (.ref ar)])) _
    exact k
  obtain ⟨cl168, Ar168, cq168, cS168, cN168, cH168, cG168⟩ := id V_ar
  have hin168 : ¬ ((1 : Int32) < 0 ∨ cl168.slots.size ≤ ((1 : Int32)).toNatClampNeg) := inb_of cS168 ⟨by decide, by decide⟩
  have hat168 : cl168.slots[((1 : Int32)).toNatClampNeg]? = some (.ref el1) := Has.at cH168 hin168 rfl
  refine own_go (B := T167.setTop (mkF m 6 #[.val (.ref a1), .val (.int (1 : Int32))] [(.ref el1)])) (fun t k => ?_) ?_
  · show Steps p.tables e below (T167.setTop (mkF m 5 #[.val (.ref a1), .val (.int (1 : Int32))] [(.int (1 : Int32)), (.ref ar)])) _
    refine X167.aaload hx (j := (1 : Int32)) (v := (.ref el1)) (by rw [e167]; exact Ar168.1) (State.isArrayOf_alike hZ.alike Ar168.2.1) rfl Ar168.2.2 hin168 hat168 (g := (mkF m 5 #[.val (.ref a1), .val (.int (1 : Int32))] [(.int (1 : Int32)), (.ref ar)])) rfl rfl (hb hby d23_5) _ ?_
    show Steps p.tables e below (T167.setTop (mkF m 6 #[.val (.ref a1), .val (.int (1 : Int32))] [(.ref el1)])) _
    exact k
  obtain ⟨fs, hr, hrun, hended, hW, hsame⟩ := X167.leave (v := some (.ref el1)) (fun h => by rw [Bd.returns] at h; cases h)
  refine ⟨_, _, ?_, hrun, hended, _, _, rfl, ?_, ⟨_, rfl⟩, hW, hsame.mono (by decide) (by decide)⟩
  · exact own_retR X167 hx Bd.returns rfl rfl (hb hby d23_6) hr
  · show Q23_1 Z a1 el0 el1 el2 ar kar h0 n0 _ T167.heap _
    rw [e167]
    exact ⟨rfl, N0, rfl⟩
theorem ef_20_1 (m : MethodId) (a1 : Addr) : entryFrame m #[(.ref a1), (.int (1 : Int32))] 2 = mkF m 0 #[.val (.ref a1), .val (.int (1 : Int32))] [] := by first | (simp [entryFrame, mkF, argsToLocals, Value.category]; done) | rfl
def Q20_1 (Z : State) (a1 : Addr) (el0 : Addr) (el1 : Addr) (el2 : Addr) (ar : Addr) (kar : ClassId) (h0 : Heap) (n0 : Nat) (v : Option Value) (h : Heap) (L : List Loc) : Prop := v = some (.ref el1) ∧ Fr n0 L ∧ h = h0
set_option maxRecDepth 65536 in
set_option maxHeartbeats 40000000 in
theorem rm20_1 (l : Launch) (Z : State) (a0 : Array Value) (hw : ∀ d ∈ tables_1, d.before a0 Z = true) (ws : List Jvm.Cond) (a1 : Addr) (el0 : Addr) (el1 : Addr) (el2 : Addr) (ar : Addr) (kar : ClassId) (h0 : Heap) (n0 : Nat) (Z0 : n0 ≤ h0.size) (E_a1 : Exa Z h0 a1 "java/util/ArrayList") (F_sz : Fld Z h0 a1 "java/util/ArrayList" "size" "I" (.int (3 : Int32))) (F_ea : Fld Z h0 a1 "java/util/ArrayList" "elementData" "[Ljava/lang/Object;" (.ref ar)) (V_ar : Arv Z h0 ar kar (.object "java/lang/Object") (10 : Int32) [(.ref el0), (.ref el1), (.ref el2), .null, .null, .null, .null, .null, .null, .null] .null) :
    MetFree l (⟨"java/util/ArrayList", "get", "(I)Ljava/lang/Object;"⟩ : MethodName) (head1 (Jvm.Cond.code (⟨"java/util/ArrayList", "get", "(I)Ljava/lang/Object;"⟩ : MethodName) jdk_38_method_20_code 2 (some (.object "java/lang/Object")) :: ws) ({ frames := 2, cells := 0, slots := 0, locals := 27 } : Room)) (fun a U => a = #[(.ref a1), (.int (1 : Int32))] ∧ Z.Warmed39 U.vm ∧ U.heap = h0) (fun _ _ _ _ _ => True) (fun _ U o U' => ∃ v L, o = .returned v ∧ Q20_1 Z a1 el0 el1 el2 ar kar h0 n0 v U'.heap L ∧ FrameEnd U o U' L ({ frames := 2, cells := 0, slots := 0, locals := 27 } : Room).cells ({ frames := 2, cells := 0, slots := 0, locals := 27 } : Room).slots) := by
  refine MetFree.of_bodySF (plainFor_of_name pn_21) hisR ?_
  intro p e s m args below meth c s₁ Bd hml0 hP hK
  obtain ⟨rfl, hZ, hh⟩ := hP
  have hx := Bd.exec
  have hby := Bd.bytes
  have hml : c.maxLocals = 2 := hml0
  have hown : s.vm.findClass "java/util/ArrayList" = some m.cls := findClass_of_methodNamed Bd.named
  have hnm := (name_of_methodNamed Bd.named Bd.method).1
  have X0 : Stand p l e ({ frames := 2, cells := 0, slots := 0, locals := 27 } : Room) s m #[(.ref a1), (.int (1 : Int32))] below meth c s₁ [] 0 0 := Stand.of_body Bd
  have e0 : s₁.heap = h0 := by rw [← hh, Bd.state]; rfl
  have N0 := Fr.nil n0
  refine own_go (B := s₁.setTop (mkF m 0 #[.val (.ref a1), .val (.int (1 : Int32))] [])) (fun t k => castTop (ef_20_1 m a1) k) ?_
  refine own_go (B := s₁.setTop (mkF m 2 #[.val (.ref a1), .val (.int (1 : Int32))] [(.ref a1), (.int (1 : Int32))])) (fun t k => ?_) ?_
  · show Steps p.tables e below (s₁.setTop (mkF m 0 #[.val (.ref a1), .val (.int (1 : Int32))] [])) _
    refine XS.iloadN X0.here hx rfl (hb hby d20_0) rfl ?_
    show Steps p.tables e below (s₁.setTop (mkF m 1 #[.val (.ref a1), .val (.int (1 : Int32))] [(.int (1 : Int32))])) _
    refine XS.aloadN X0.here hx rfl (hb hby d20_1) rfl rfl ?_
    show Steps p.tables e below (s₁.setTop (mkF m 2 #[.val (.ref a1), .val (.int (1 : Int32))] [(.ref a1), (.int (1 : Int32))])) _
    exact k
  obtain ⟨T170, X170, e170, st170⟩ := getF X0 hx hZ hown (host := "") (Or.inl (hw _ (List.mem_of_getElem? (i := 56) rfl))) Via.refl e0 F_sz (g := (mkF m 2 #[.val (.ref a1), .val (.int (1 : Int32))] [(.ref a1), (.int (1 : Int32))])) rfl rfl (hb hby d20_2)
  refine own_go st170 ?_
  obtain ⟨_, _, ⟨T171, L171, k171, n171⟩, -, X171, ⟨Lc171, hQ171, l171, y171, z171⟩, st171⟩ := Jvm.LawKit.callS X170 hx (y := (⟨"java/util/Objects", "checkIndex", "(II)I"⟩ : MethodName)) hown (mvT hZ (hw _ (List.mem_of_getElem? (i := 163) rfl))) (mvT hZ (hw _ (List.mem_of_getElem? (i := 164) rfl))) (mvT hZ (hw _ (List.mem_of_getElem? (i := 165) rfl))) (mvT hZ (hw _ (List.mem_of_getElem? (i := 166) rfl))) (by decide) (backOf (W := 0) (rm21 l Z a0 hw [] (1 : Int32) (3 : Int32) h0 n0 Z0 (by decide) (by decide)) hZ (hw _ (List.mem_of_getElem? (i := 166) rfl)) (hw _ (List.mem_of_getElem? (i := 165) rfl)) (by decide) (by decide)) (g := (mkF m 5 #[.val (.ref a1), .val (.int (1 : Int32))] [(.int (3 : Int32)), (.int (1 : Int32))])) rfl (by rw [hml]; rfl) (argsL := [(.int (1 : Int32)), (.int (3 : Int32))]) (rest := []) (lenOf pd_1 rfl) rfl (by show 2 * 0 + _ ≤ _; exact Nat.le_of_eq rfl) (hb hby d20_5) (fun _ _ => ⟨rfl, e170, (by decide : 0 + 0 ≤ _), (by decide : 0 + 0 ≤ _)⟩)
  dsimp only [Pt.U, Pt.locs, Pt.cells, Pt.slots] at X171 l171 y171 z171 st171 hQ171
  subst l171 y171 z171
  obtain ⟨rfl, M171, q171_0⟩ := hQ171
  have N171 := Fr.app N0 M171
  refine own_go st171 ?_
  refine own_go (B := T171.setTop (mkF m 11 #[.val (.ref a1), .val (.int (1 : Int32))] [(.int (1 : Int32)), (.ref a1)])) (fun t k => ?_) ?_
  · show Steps p.tables e below (T171.setTop (mkF m 8 #[.val (.ref a1), .val (.int (1 : Int32))] [(.int (1 : Int32))])) _
    refine XS.pop X171.here hx rfl (hb hby d20_8) rfl rfl ?_
    show Steps p.tables e below (T171.setTop (mkF m 9 #[.val (.ref a1), .val (.int (1 : Int32))] [])) _
    refine XS.aloadN X171.here hx rfl (hb hby d20_9) rfl rfl ?_
    show Steps p.tables e below (T171.setTop (mkF m 10 #[.val (.ref a1), .val (.int (1 : Int32))] [(.ref a1)])) _
    refine XS.iloadN X171.here hx rfl (hb hby d20_10) rfl ?_
    show Steps p.tables e below (T171.setTop (mkF m 11 #[.val (.ref a1), .val (.int (1 : Int32))] [(.int (1 : Int32)), (.ref a1)])) _
    exact k
  obtain ⟨cq172, kq172, q172a, q172b, q172c⟩ := isOf hZ q171_0 E_a1
  obtain ⟨_, _, ⟨T172, L172, k172, n172⟩, -, X172, ⟨Lc172, hQ172, l172, y172, z172⟩, st172⟩ := X171.virtualBack hx (y := (⟨"java/util/ArrayList", "elementData", "(I)Ljava/lang/Object;"⟩ : MethodName)) (z := (⟨"java/util/ArrayList", "elementData", "(I)Ljava/lang/Object;"⟩ : MethodName)) hown (mvT hZ (hw _ (List.mem_of_getElem? (i := 171) rfl))) (mvT hZ (hw _ (List.mem_of_getElem? (i := 172) rfl))) (notFace_of_selects (args := #[]) (mvT hZ (hw _ (List.mem_of_getElem? (i := 174) rfl)))) (mvT hZ (hw _ (List.mem_of_getElem? (i := 174) rfl))) (mvT hZ (hw _ (List.mem_of_getElem? (i := 173) rfl))) (by decide) (backOf (W := 0) (rm23_1 l Z a0 hw [] a1 el0 el1 el2 ar kar h0 n0 Z0 F_ea V_ar) hZ (hw _ (List.mem_of_getElem? (i := 175) rfl)) (hw _ (List.mem_of_getElem? (i := 3) rfl)) (by decide) (by decide)) q172a q172c (g := (mkF m 11 #[.val (.ref a1), .val (.int (1 : Int32))] [(.int (1 : Int32)), (.ref a1)])) rfl (by rw [hml]; rfl) (Steps.refl _) (argsL := [(.int (1 : Int32))]) (rest := []) (lenOf pd_7 rfl) rfl (by show 2 * 0 + _ ≤ _; exact Nat.le_of_eq rfl) (hb hby d20_11) (fun _ _ => ⟨rfl, q171_0, (by decide : 0 + 0 ≤ _), (by decide : 0 + 0 ≤ _)⟩)
  dsimp only [Pt.U, Pt.locs, Pt.cells, Pt.slots] at X172 l172 y172 z172 st172 hQ172
  subst l172 y172 z172
  obtain ⟨rfl, M172, q172_0⟩ := hQ172
  have N172 := Fr.app N171 M172
  refine own_go (fun t k => st172.trans k) ?_
  obtain ⟨fs, hr, hrun, hended, hW, hsame⟩ := X172.leave (v := some (.ref el1)) (fun h => by rw [Bd.returns] at h; cases h)
  refine ⟨_, _, ?_, hrun, hended, _, _, rfl, ?_, ⟨_, rfl⟩, hW, hsame.mono (by decide) (by decide)⟩
  · exact own_retR X172 hx Bd.returns rfl rfl (hb hby d20_14) hr
  · show Q20_1 Z a1 el0 el1 el2 ar kar h0 n0 _ T172.heap _
    rw [q172_0]
    exact ⟨rfl, N172, rfl⟩
theorem ef_23_2 (m : MethodId) (a1 : Addr) : entryFrame m #[(.ref a1), (.int (2 : Int32))] 2 = mkF m 0 #[.val (.ref a1), .val (.int (2 : Int32))] [] := by first | (simp [entryFrame, mkF, argsToLocals, Value.category]; done) | rfl
def Q23_2 (Z : State) (a1 : Addr) (el0 : Addr) (el1 : Addr) (el2 : Addr) (ar : Addr) (kar : ClassId) (h0 : Heap) (n0 : Nat) (v : Option Value) (h : Heap) (L : List Loc) : Prop := v = some (.ref el2) ∧ Fr n0 L ∧ h = h0
set_option maxRecDepth 65536 in
set_option maxHeartbeats 40000000 in
theorem rm23_2 (l : Launch) (Z : State) (a0 : Array Value) (hw : ∀ d ∈ tables_1, d.before a0 Z = true) (ws : List Jvm.Cond) (a1 : Addr) (el0 : Addr) (el1 : Addr) (el2 : Addr) (ar : Addr) (kar : ClassId) (h0 : Heap) (n0 : Nat) (Z0 : n0 ≤ h0.size) (F_ea : Fld Z h0 a1 "java/util/ArrayList" "elementData" "[Ljava/lang/Object;" (.ref ar)) (V_ar : Arv Z h0 ar kar (.object "java/lang/Object") (10 : Int32) [(.ref el0), (.ref el1), (.ref el2), .null, .null, .null, .null, .null, .null, .null] .null) :
    MetFree l (⟨"java/util/ArrayList", "elementData", "(I)Ljava/lang/Object;"⟩ : MethodName) (head1 (Jvm.Cond.code (⟨"java/util/ArrayList", "elementData", "(I)Ljava/lang/Object;"⟩ : MethodName) jdk_38_method_18_code 2 (some (.object "java/lang/Object")) :: ws) ({ frames := 0, cells := 0, slots := 0, locals := 0 } : Room)) (fun a U => a = #[(.ref a1), (.int (2 : Int32))] ∧ Z.Warmed39 U.vm ∧ U.heap = h0) (fun _ _ _ _ _ => True) (fun _ U o U' => ∃ v L, o = .returned v ∧ Q23_2 Z a1 el0 el1 el2 ar kar h0 n0 v U'.heap L ∧ FrameEnd U o U' L ({ frames := 0, cells := 0, slots := 0, locals := 0 } : Room).cells ({ frames := 0, cells := 0, slots := 0, locals := 0 } : Room).slots) := by
  refine MetFree.of_bodySF (plainFor_of_name pn_21) hisR ?_
  intro p e s m args below meth c s₁ Bd hml0 hP hK
  obtain ⟨rfl, hZ, hh⟩ := hP
  have hx := Bd.exec
  have hby := Bd.bytes
  have hml : c.maxLocals = 2 := hml0
  have hown : s.vm.findClass "java/util/ArrayList" = some m.cls := findClass_of_methodNamed Bd.named
  have hnm := (name_of_methodNamed Bd.named Bd.method).1
  have X0 : Stand p l e ({ frames := 0, cells := 0, slots := 0, locals := 0 } : Room) s m #[(.ref a1), (.int (2 : Int32))] below meth c s₁ [] 0 0 := Stand.of_body Bd
  have e0 : s₁.heap = h0 := by rw [← hh, Bd.state]; rfl
  have N0 := Fr.nil n0
  refine own_go (B := s₁.setTop (mkF m 0 #[.val (.ref a1), .val (.int (2 : Int32))] [])) (fun t k => castTop (ef_23_2 m a1) k) ?_
  refine own_go (B := s₁.setTop (mkF m 1 #[.val (.ref a1), .val (.int (2 : Int32))] [(.ref a1)])) (fun t k => ?_) ?_
  · show Steps p.tables e below (s₁.setTop (mkF m 0 #[.val (.ref a1), .val (.int (2 : Int32))] [])) _
    refine XS.aloadN X0.here hx rfl (hb hby d23_0) rfl rfl ?_
    show Steps p.tables e below (s₁.setTop (mkF m 1 #[.val (.ref a1), .val (.int (2 : Int32))] [(.ref a1)])) _
    exact k
  obtain ⟨T174, X174, e174, st174⟩ := getF X0 hx hZ hown (host := "") (Or.inl (hw _ (List.mem_of_getElem? (i := 25) rfl))) Via.refl e0 F_ea (g := (mkF m 1 #[.val (.ref a1), .val (.int (2 : Int32))] [(.ref a1)])) rfl rfl (hb hby d23_1)
  refine own_go st174 ?_
  refine own_go (B := T174.setTop (mkF m 5 #[.val (.ref a1), .val (.int (2 : Int32))] [(.int (2 : Int32)), (.ref ar)])) (fun t k => ?_) ?_
  · show Steps p.tables e below (T174.setTop (mkF m 4 #[.val (.ref a1), .val (.int (2 : Int32))] [(.ref ar)])) _
    refine XS.iloadN X174.here hx rfl (hb hby d23_4) rfl ?_
    show Steps p.tables e below (T174.setTop (mkF m 5 #[.val (.ref a1), .val (.int (2 : Int32))] [(.int (2 : Int32)), (.ref ar)])) _
    exact k
  obtain ⟨cl175, Ar175, cq175, cS175, cN175, cH175, cG175⟩ := id V_ar
  have hin175 : ¬ ((2 : Int32) < 0 ∨ cl175.slots.size ≤ ((2 : Int32)).toNatClampNeg) := inb_of cS175 ⟨by decide, by decide⟩
  have hat175 : cl175.slots[((2 : Int32)).toNatClampNeg]? = some (.ref el2) := Has.at cH175 hin175 rfl
  refine own_go (B := T174.setTop (mkF m 6 #[.val (.ref a1), .val (.int (2 : Int32))] [(.ref el2)])) (fun t k => ?_) ?_
  · show Steps p.tables e below (T174.setTop (mkF m 5 #[.val (.ref a1), .val (.int (2 : Int32))] [(.int (2 : Int32)), (.ref ar)])) _
    refine X174.aaload hx (j := (2 : Int32)) (v := (.ref el2)) (by rw [e174]; exact Ar175.1) (State.isArrayOf_alike hZ.alike Ar175.2.1) rfl Ar175.2.2 hin175 hat175 (g := (mkF m 5 #[.val (.ref a1), .val (.int (2 : Int32))] [(.int (2 : Int32)), (.ref ar)])) rfl rfl (hb hby d23_5) _ ?_
    show Steps p.tables e below (T174.setTop (mkF m 6 #[.val (.ref a1), .val (.int (2 : Int32))] [(.ref el2)])) _
    exact k
  obtain ⟨fs, hr, hrun, hended, hW, hsame⟩ := X174.leave (v := some (.ref el2)) (fun h => by rw [Bd.returns] at h; cases h)
  refine ⟨_, _, ?_, hrun, hended, _, _, rfl, ?_, ⟨_, rfl⟩, hW, hsame.mono (by decide) (by decide)⟩
  · exact own_retR X174 hx Bd.returns rfl rfl (hb hby d23_6) hr
  · show Q23_2 Z a1 el0 el1 el2 ar kar h0 n0 _ T174.heap _
    rw [e174]
    exact ⟨rfl, N0, rfl⟩
theorem ef_20_2 (m : MethodId) (a1 : Addr) : entryFrame m #[(.ref a1), (.int (2 : Int32))] 2 = mkF m 0 #[.val (.ref a1), .val (.int (2 : Int32))] [] := by first | (simp [entryFrame, mkF, argsToLocals, Value.category]; done) | rfl
def Q20_2 (Z : State) (a1 : Addr) (el0 : Addr) (el1 : Addr) (el2 : Addr) (ar : Addr) (kar : ClassId) (h0 : Heap) (n0 : Nat) (v : Option Value) (h : Heap) (L : List Loc) : Prop := v = some (.ref el2) ∧ Fr n0 L ∧ h = h0
set_option maxRecDepth 65536 in
set_option maxHeartbeats 40000000 in
theorem rm20_2 (l : Launch) (Z : State) (a0 : Array Value) (hw : ∀ d ∈ tables_1, d.before a0 Z = true) (ws : List Jvm.Cond) (a1 : Addr) (el0 : Addr) (el1 : Addr) (el2 : Addr) (ar : Addr) (kar : ClassId) (h0 : Heap) (n0 : Nat) (Z0 : n0 ≤ h0.size) (E_a1 : Exa Z h0 a1 "java/util/ArrayList") (F_sz : Fld Z h0 a1 "java/util/ArrayList" "size" "I" (.int (3 : Int32))) (F_ea : Fld Z h0 a1 "java/util/ArrayList" "elementData" "[Ljava/lang/Object;" (.ref ar)) (V_ar : Arv Z h0 ar kar (.object "java/lang/Object") (10 : Int32) [(.ref el0), (.ref el1), (.ref el2), .null, .null, .null, .null, .null, .null, .null] .null) :
    MetFree l (⟨"java/util/ArrayList", "get", "(I)Ljava/lang/Object;"⟩ : MethodName) (head1 (Jvm.Cond.code (⟨"java/util/ArrayList", "get", "(I)Ljava/lang/Object;"⟩ : MethodName) jdk_38_method_20_code 2 (some (.object "java/lang/Object")) :: ws) ({ frames := 2, cells := 0, slots := 0, locals := 27 } : Room)) (fun a U => a = #[(.ref a1), (.int (2 : Int32))] ∧ Z.Warmed39 U.vm ∧ U.heap = h0) (fun _ _ _ _ _ => True) (fun _ U o U' => ∃ v L, o = .returned v ∧ Q20_2 Z a1 el0 el1 el2 ar kar h0 n0 v U'.heap L ∧ FrameEnd U o U' L ({ frames := 2, cells := 0, slots := 0, locals := 27 } : Room).cells ({ frames := 2, cells := 0, slots := 0, locals := 27 } : Room).slots) := by
  refine MetFree.of_bodySF (plainFor_of_name pn_21) hisR ?_
  intro p e s m args below meth c s₁ Bd hml0 hP hK
  obtain ⟨rfl, hZ, hh⟩ := hP
  have hx := Bd.exec
  have hby := Bd.bytes
  have hml : c.maxLocals = 2 := hml0
  have hown : s.vm.findClass "java/util/ArrayList" = some m.cls := findClass_of_methodNamed Bd.named
  have hnm := (name_of_methodNamed Bd.named Bd.method).1
  have X0 : Stand p l e ({ frames := 2, cells := 0, slots := 0, locals := 27 } : Room) s m #[(.ref a1), (.int (2 : Int32))] below meth c s₁ [] 0 0 := Stand.of_body Bd
  have e0 : s₁.heap = h0 := by rw [← hh, Bd.state]; rfl
  have N0 := Fr.nil n0
  refine own_go (B := s₁.setTop (mkF m 0 #[.val (.ref a1), .val (.int (2 : Int32))] [])) (fun t k => castTop (ef_20_2 m a1) k) ?_
  refine own_go (B := s₁.setTop (mkF m 2 #[.val (.ref a1), .val (.int (2 : Int32))] [(.ref a1), (.int (2 : Int32))])) (fun t k => ?_) ?_
  · show Steps p.tables e below (s₁.setTop (mkF m 0 #[.val (.ref a1), .val (.int (2 : Int32))] [])) _
    refine XS.iloadN X0.here hx rfl (hb hby d20_0) rfl ?_
    show Steps p.tables e below (s₁.setTop (mkF m 1 #[.val (.ref a1), .val (.int (2 : Int32))] [(.int (2 : Int32))])) _
    refine XS.aloadN X0.here hx rfl (hb hby d20_1) rfl rfl ?_
    show Steps p.tables e below (s₁.setTop (mkF m 2 #[.val (.ref a1), .val (.int (2 : Int32))] [(.ref a1), (.int (2 : Int32))])) _
    exact k
  obtain ⟨T177, X177, e177, st177⟩ := getF X0 hx hZ hown (host := "") (Or.inl (hw _ (List.mem_of_getElem? (i := 56) rfl))) Via.refl e0 F_sz (g := (mkF m 2 #[.val (.ref a1), .val (.int (2 : Int32))] [(.ref a1), (.int (2 : Int32))])) rfl rfl (hb hby d20_2)
  refine own_go st177 ?_
  obtain ⟨_, _, ⟨T178, L178, k178, n178⟩, -, X178, ⟨Lc178, hQ178, l178, y178, z178⟩, st178⟩ := Jvm.LawKit.callS X177 hx (y := (⟨"java/util/Objects", "checkIndex", "(II)I"⟩ : MethodName)) hown (mvT hZ (hw _ (List.mem_of_getElem? (i := 163) rfl))) (mvT hZ (hw _ (List.mem_of_getElem? (i := 164) rfl))) (mvT hZ (hw _ (List.mem_of_getElem? (i := 165) rfl))) (mvT hZ (hw _ (List.mem_of_getElem? (i := 166) rfl))) (by decide) (backOf (W := 0) (rm21 l Z a0 hw [] (2 : Int32) (3 : Int32) h0 n0 Z0 (by decide) (by decide)) hZ (hw _ (List.mem_of_getElem? (i := 166) rfl)) (hw _ (List.mem_of_getElem? (i := 165) rfl)) (by decide) (by decide)) (g := (mkF m 5 #[.val (.ref a1), .val (.int (2 : Int32))] [(.int (3 : Int32)), (.int (2 : Int32))])) rfl (by rw [hml]; rfl) (argsL := [(.int (2 : Int32)), (.int (3 : Int32))]) (rest := []) (lenOf pd_1 rfl) rfl (by show 2 * 0 + _ ≤ _; exact Nat.le_of_eq rfl) (hb hby d20_5) (fun _ _ => ⟨rfl, e177, (by decide : 0 + 0 ≤ _), (by decide : 0 + 0 ≤ _)⟩)
  dsimp only [Pt.U, Pt.locs, Pt.cells, Pt.slots] at X178 l178 y178 z178 st178 hQ178
  subst l178 y178 z178
  obtain ⟨rfl, M178, q178_0⟩ := hQ178
  have N178 := Fr.app N0 M178
  refine own_go st178 ?_
  refine own_go (B := T178.setTop (mkF m 11 #[.val (.ref a1), .val (.int (2 : Int32))] [(.int (2 : Int32)), (.ref a1)])) (fun t k => ?_) ?_
  · show Steps p.tables e below (T178.setTop (mkF m 8 #[.val (.ref a1), .val (.int (2 : Int32))] [(.int (2 : Int32))])) _
    refine XS.pop X178.here hx rfl (hb hby d20_8) rfl rfl ?_
    show Steps p.tables e below (T178.setTop (mkF m 9 #[.val (.ref a1), .val (.int (2 : Int32))] [])) _
    refine XS.aloadN X178.here hx rfl (hb hby d20_9) rfl rfl ?_
    show Steps p.tables e below (T178.setTop (mkF m 10 #[.val (.ref a1), .val (.int (2 : Int32))] [(.ref a1)])) _
    refine XS.iloadN X178.here hx rfl (hb hby d20_10) rfl ?_
    show Steps p.tables e below (T178.setTop (mkF m 11 #[.val (.ref a1), .val (.int (2 : Int32))] [(.int (2 : Int32)), (.ref a1)])) _
    exact k
  obtain ⟨cq179, kq179, q179a, q179b, q179c⟩ := isOf hZ q178_0 E_a1
  obtain ⟨_, _, ⟨T179, L179, k179, n179⟩, -, X179, ⟨Lc179, hQ179, l179, y179, z179⟩, st179⟩ := X178.virtualBack hx (y := (⟨"java/util/ArrayList", "elementData", "(I)Ljava/lang/Object;"⟩ : MethodName)) (z := (⟨"java/util/ArrayList", "elementData", "(I)Ljava/lang/Object;"⟩ : MethodName)) hown (mvT hZ (hw _ (List.mem_of_getElem? (i := 171) rfl))) (mvT hZ (hw _ (List.mem_of_getElem? (i := 172) rfl))) (notFace_of_selects (args := #[]) (mvT hZ (hw _ (List.mem_of_getElem? (i := 174) rfl)))) (mvT hZ (hw _ (List.mem_of_getElem? (i := 174) rfl))) (mvT hZ (hw _ (List.mem_of_getElem? (i := 173) rfl))) (by decide) (backOf (W := 0) (rm23_2 l Z a0 hw [] a1 el0 el1 el2 ar kar h0 n0 Z0 F_ea V_ar) hZ (hw _ (List.mem_of_getElem? (i := 175) rfl)) (hw _ (List.mem_of_getElem? (i := 3) rfl)) (by decide) (by decide)) q179a q179c (g := (mkF m 11 #[.val (.ref a1), .val (.int (2 : Int32))] [(.int (2 : Int32)), (.ref a1)])) rfl (by rw [hml]; rfl) (Steps.refl _) (argsL := [(.int (2 : Int32))]) (rest := []) (lenOf pd_7 rfl) rfl (by show 2 * 0 + _ ≤ _; exact Nat.le_of_eq rfl) (hb hby d20_11) (fun _ _ => ⟨rfl, q178_0, (by decide : 0 + 0 ≤ _), (by decide : 0 + 0 ≤ _)⟩)
  dsimp only [Pt.U, Pt.locs, Pt.cells, Pt.slots] at X179 l179 y179 z179 st179 hQ179
  subst l179 y179 z179
  obtain ⟨rfl, M179, q179_0⟩ := hQ179
  have N179 := Fr.app N178 M179
  refine own_go (fun t k => st179.trans k) ?_
  obtain ⟨fs, hr, hrun, hended, hW, hsame⟩ := X179.leave (v := some (.ref el2)) (fun h => by rw [Bd.returns] at h; cases h)
  refine ⟨_, _, ?_, hrun, hended, _, _, rfl, ?_, ⟨_, rfl⟩, hW, hsame.mono (by decide) (by decide)⟩
  · exact own_retR X179 hx Bd.returns rfl rfl (hb hby d20_14) hr
  · show Q20_2 Z a1 el0 el1 el2 ar kar h0 n0 _ T179.heap _
    rw [q179_0]
    exact ⟨rfl, N179, rfl⟩
theorem d16_0 : decode jdk_39_method_15_code 0 = .ok (.iload_n 0, 1) := by decide +kernel
theorem d16_1 : decode jdk_39_method_15_code 1 = .ok (.ifCond .ge 30, 3) := by decide +kernel
theorem d16_31 : decode jdk_39_method_15_code 31 = .ok (.iload_n 1, 1) := by decide +kernel
theorem d16_32 : decode jdk_39_method_15_code 32 = .ok (.iload_n 2, 1) := by decide +kernel
theorem d16_33 : decode jdk_39_method_15_code 33 = .ok (.if_icmp .le 30, 3) := by decide +kernel
theorem d16_63 : decode jdk_39_method_15_code 63 = .ok (.iload_n 0, 1) := by decide +kernel
theorem d16_64 : decode jdk_39_method_15_code 64 = .ok (.iload_n 1, 1) := by decide +kernel
theorem d16_65 : decode jdk_39_method_15_code 65 = .ok (.if_icmp .le 44, 3) := by decide +kernel
theorem d16_109 : decode jdk_39_method_15_code 109 = .ok (.return_, 1) := by decide +kernel
theorem ef_16 (m : MethodId) (p1 : Int32) (p2 : Int32) (p3 : Int32) : entryFrame m #[(.int p1), (.int p2), (.int p3)] 3 = mkF m 0 #[.val (.int p1), .val (.int p2), .val (.int p3)] [] := by first | (simp [entryFrame, mkF, argsToLocals, Value.category]; done) | rfl
def Q16 (Z : State) (p1 : Int32) (p2 : Int32) (p3 : Int32) (h0 : Heap) (n0 : Nat) (v : Option Value) (h : Heap) (L : List Loc) : Prop := v = none ∧ Fr n0 L ∧ h = h0
set_option maxRecDepth 65536 in
set_option maxHeartbeats 40000000 in
theorem rm16 (l : Launch) (Z : State) (a0 : Array Value) (hw : ∀ d ∈ tables_1, d.before a0 Z = true) (ws : List Jvm.Cond) (p1 : Int32) (p2 : Int32) (p3 : Int32) (h0 : Heap) (n0 : Nat) (Z0 : n0 ≤ h0.size) (k1 : ¬ p1 < (0 : Int32)) (k2 : ¬ p3 < p2) (k3 : ¬ p2 < p1) :
    MetFree l (⟨"java/util/AbstractList", "subListRangeCheck", "(III)V"⟩ : MethodName) (head1 (Jvm.Cond.code (⟨"java/util/AbstractList", "subListRangeCheck", "(III)V"⟩ : MethodName) jdk_39_method_15_code 3 none :: ws) ({ frames := 0, cells := 0, slots := 0, locals := 0 } : Room)) (fun a U => a = #[(.int p1), (.int p2), (.int p3)] ∧ Z.Warmed39 U.vm ∧ U.heap = h0) (fun _ _ _ _ _ => True) (fun _ U o U' => ∃ v L, o = .returned v ∧ Q16 Z p1 p2 p3 h0 n0 v U'.heap L ∧ FrameEnd U o U' L ({ frames := 0, cells := 0, slots := 0, locals := 0 } : Room).cells ({ frames := 0, cells := 0, slots := 0, locals := 0 } : Room).slots) := by
  refine MetFree.of_bodySF (plainFor_of_name pn_14) hisR ?_
  intro p e s m args below meth c s₁ Bd hml0 hP hK
  obtain ⟨rfl, hZ, hh⟩ := hP
  have hx := Bd.exec
  have hby := Bd.bytes
  have hml : c.maxLocals = 3 := hml0
  have hown : s.vm.findClass "java/util/AbstractList" = some m.cls := findClass_of_methodNamed Bd.named
  have hnm := (name_of_methodNamed Bd.named Bd.method).1
  have X0 : Stand p l e ({ frames := 0, cells := 0, slots := 0, locals := 0 } : Room) s m #[(.int p1), (.int p2), (.int p3)] below meth c s₁ [] 0 0 := Stand.of_body Bd
  have e0 : s₁.heap = h0 := by rw [← hh, Bd.state]; rfl
  have N0 := Fr.nil n0
  refine own_go (B := s₁.setTop (mkF m 0 #[.val (.int p1), .val (.int p2), .val (.int p3)] [])) (fun t k => castTop (ef_16 m p1 p2 p3) k) ?_
  refine own_go (B := s₁.setTop (mkF m 109 #[.val (.int p1), .val (.int p2), .val (.int p3)] [])) (fun t k => ?_) ?_
  · show Steps p.tables e below (s₁.setTop (mkF m 0 #[.val (.int p1), .val (.int p2), .val (.int p3)] [])) _
    refine XS.iloadN X0.here hx rfl (hb hby d16_0) rfl ?_
    show Steps p.tables e below (s₁.setTop (mkF m 1 #[.val (.int p1), .val (.int p2), .val (.int p3)] [(.int p1)])) _
    refine XS.ifYes X0.here hx rfl (pc0 := 1) (pc' := 31) rfl (hb hby d16_1) rfl ((if0 _ _).trans (flt (show ¬ (p1 < (0 : Int32)) from k1)).2.1) (by decide) (by decide) ?_
    show Steps p.tables e below (s₁.setTop (mkF m 31 #[.val (.int p1), .val (.int p2), .val (.int p3)] [])) _
    refine XS.iloadN X0.here hx rfl (hb hby d16_31) rfl ?_
    show Steps p.tables e below (s₁.setTop (mkF m 32 #[.val (.int p1), .val (.int p2), .val (.int p3)] [(.int p2)])) _
    refine XS.iloadN X0.here hx rfl (hb hby d16_32) rfl ?_
    show Steps p.tables e below (s₁.setTop (mkF m 33 #[.val (.int p1), .val (.int p2), .val (.int p3)] [(.int p3), (.int p2)])) _
    refine XS.icmpYes X0.here hx rfl (pc0 := 33) (pc' := 63) rfl (hb hby d16_33) rfl (flt (show ¬ (p3 < p2) from k2)).2.2.2 (by decide) (by decide) ?_
    show Steps p.tables e below (s₁.setTop (mkF m 63 #[.val (.int p1), .val (.int p2), .val (.int p3)] [])) _
    refine XS.iloadN X0.here hx rfl (hb hby d16_63) rfl ?_
    show Steps p.tables e below (s₁.setTop (mkF m 64 #[.val (.int p1), .val (.int p2), .val (.int p3)] [(.int p1)])) _
    refine XS.iloadN X0.here hx rfl (hb hby d16_64) rfl ?_
    show Steps p.tables e below (s₁.setTop (mkF m 65 #[.val (.int p1), .val (.int p2), .val (.int p3)] [(.int p2), (.int p1)])) _
    refine XS.icmpYes X0.here hx rfl (pc0 := 65) (pc' := 109) rfl (hb hby d16_65) rfl (flt (show ¬ (p2 < p1) from k3)).2.2.2 (by decide) (by decide) ?_
    show Steps p.tables e below (s₁.setTop (mkF m 109 #[.val (.int p1), .val (.int p2), .val (.int p3)] [])) _
    exact k
  obtain ⟨fs, hr, hrun, hended, hW, hsame⟩ := X0.leave (v := none) (fun _ => rfl)
  refine ⟨_, _, ?_, hrun, hended, _, _, rfl, ?_, ⟨_, rfl⟩, hW, hsame.mono (by decide) (by decide)⟩
  · exact X0.returnOut hx Bd.returns (hb hby d16_109) hr
  · show Q16 Z p1 p2 p3 h0 n0 _ s₁.heap _
    rw [e0]
    exact ⟨rfl, N0, rfl⟩
theorem ef_2T (m : MethodId) (a1 : Addr) : entryFrame m #[(.ref a1)] 1 = mkF m 0 #[.val (.ref a1)] [] := by first | (simp [entryFrame, mkF, argsToLocals, Value.category]; done) | rfl
def Q2T (Z : State) (a1 : Addr) (h0 : Heap) (n0 : Nat) (v : Option Value) (h : Heap) (L : List Loc) : Prop := v = none ∧ Fr n0 L ∧ Keep h0 h [a1] ∧ Exa Z h a1 "java/util/ArrayList$SubList" ∧ Fld Z h a1 "java/util/AbstractList" "modCount" "I" (.int (0 : Int32)) ∧ Fld Z h a1 "java/util/ArrayList$SubList" "root" "Ljava/util/ArrayList;" .null ∧ Fld Z h a1 "java/util/ArrayList$SubList" "parent" "Ljava/util/ArrayList$SubList;" .null ∧ Fld Z h a1 "java/util/ArrayList$SubList" "offset" "I" (.int (0 : Int32)) ∧ Fld Z h a1 "java/util/ArrayList$SubList" "size" "I" (.int (0 : Int32))
set_option maxRecDepth 65536 in
set_option maxHeartbeats 40000000 in
theorem rm2T (l : Launch) (Z : State) (a0 : Array Value) (hw : ∀ d ∈ tables_1, d.before a0 Z = true) (ws : List Jvm.Cond) (a1 : Addr) (h0 : Heap) (n0 : Nat) (Z0 : n0 ≤ h0.size) (E_a1 : Exa Z h0 a1 "java/util/ArrayList$SubList") (F_modCount_a1 : Fld Z h0 a1 "java/util/AbstractList" "modCount" "I" (.int (0 : Int32))) (F_root_a1 : Fld Z h0 a1 "java/util/ArrayList$SubList" "root" "Ljava/util/ArrayList;" .null) (F_parent_a1 : Fld Z h0 a1 "java/util/ArrayList$SubList" "parent" "Ljava/util/ArrayList$SubList;" .null) (F_offset_a1 : Fld Z h0 a1 "java/util/ArrayList$SubList" "offset" "I" (.int (0 : Int32))) (F_size_a1 : Fld Z h0 a1 "java/util/ArrayList$SubList" "size" "I" (.int (0 : Int32))) (g_a1 : n0 ≤ a1) :
    MetFree l (⟨"java/util/AbstractList", "<init>", "()V"⟩ : MethodName) (head1 (Jvm.Cond.code (⟨"java/util/AbstractList", "<init>", "()V"⟩ : MethodName) jdk_39_method_1_code 1 none :: ws) ({ frames := 2, cells := 0, slots := 0, locals := 24 } : Room)) (fun a U => a = #[(.ref a1)] ∧ Z.Warmed39 U.vm ∧ U.heap = h0) (fun _ _ _ _ _ => True) (fun _ U o U' => ∃ v L, o = .returned v ∧ Q2T Z a1 h0 n0 v U'.heap L ∧ FrameEnd U o U' L ({ frames := 2, cells := 0, slots := 0, locals := 24 } : Room).cells ({ frames := 2, cells := 0, slots := 0, locals := 24 } : Room).slots) := by
  refine MetFree.of_bodySF (plainFor_of_name pn_14) hisR ?_
  intro p e s m args below meth c s₁ Bd hml0 hP hK
  obtain ⟨rfl, hZ, hh⟩ := hP
  have hx := Bd.exec
  have hby := Bd.bytes
  have hml : c.maxLocals = 1 := hml0
  have hown : s.vm.findClass "java/util/AbstractList" = some m.cls := findClass_of_methodNamed Bd.named
  have hnm := (name_of_methodNamed Bd.named Bd.method).1
  have X0 : Stand p l e ({ frames := 2, cells := 0, slots := 0, locals := 24 } : Room) s m #[(.ref a1)] below meth c s₁ [] 0 0 := Stand.of_body Bd
  have e0 : s₁.heap = h0 := by rw [← hh, Bd.state]; rfl
  have N0 := Fr.nil n0
  refine own_go (B := s₁.setTop (mkF m 0 #[.val (.ref a1)] [])) (fun t k => castTop (ef_2T m a1) k) ?_
  refine own_go (B := s₁.setTop (mkF m 1 #[.val (.ref a1)] [(.ref a1)])) (fun t k => ?_) ?_
  · show Steps p.tables e below (s₁.setTop (mkF m 0 #[.val (.ref a1)] [])) _
    refine XS.aloadN X0.here hx rfl (hb hby d2_0) rfl rfl ?_
    show Steps p.tables e below (s₁.setTop (mkF m 1 #[.val (.ref a1)] [(.ref a1)])) _
    exact k
  obtain ⟨_, _, ⟨T182, L182, k182, n182⟩, -, X182, ⟨Lc182, hQ182, l182, y182, z182⟩, st182⟩ := X0.specialBack hx (y := (⟨"java/util/AbstractCollection", "<init>", "()V"⟩ : MethodName)) rfl hown (mvT hZ (hw _ (List.mem_of_getElem? (i := 13) rfl))) (mvT hZ (hw _ (List.mem_of_getElem? (i := 14) rfl))) (mvT hZ (hw _ (List.mem_of_getElem? (i := 18) rfl))) (by decide) (backOf (W := 0) (rm3 l Z a0 hw [] a1 h0 n0 Z0 ) hZ (hw _ (List.mem_of_getElem? (i := 18) rfl)) (hw _ (List.mem_of_getElem? (i := 17) rfl)) (by decide) (by decide)) (g := (mkF m 1 #[.val (.ref a1)] [(.ref a1)])) rfl (by rw [hml]; rfl) (Steps.refl _) (a := a1) (argsL := []) (rest := []) (lenOf pd_0 rfl) rfl (by show 2 * 0 + _ ≤ _; exact Nat.le_of_eq rfl) (hb hby d2_1) (fun _ _ => ⟨rfl, e0, (by decide : 0 + 0 ≤ _), (by decide : 0 + 0 ≤ _)⟩)
  dsimp only [Pt.U, Pt.locs, Pt.cells, Pt.slots] at X182 l182 y182 z182 st182 hQ182
  subst l182 y182 z182
  obtain ⟨rfl, M182, q182_0⟩ := hQ182
  have N182 := Fr.app N0 M182
  refine own_go (fun t k => st182.trans k) ?_
  refine own_go (B := T182.setTop (mkF m 6 #[.val (.ref a1)] [(.int (0 : Int32)), (.ref a1)])) (fun t k => ?_) ?_
  · show Steps p.tables e below (T182.setTop (mkF m 4 #[.val (.ref a1)] [])) _
    refine XS.aloadN X182.here hx rfl (hb hby d2_4) rfl rfl ?_
    show Steps p.tables e below (T182.setTop (mkF m 5 #[.val (.ref a1)] [(.ref a1)])) _
    refine XS.iconst X182.here hx rfl (hb hby d2_5) ?_
    show Steps p.tables e below (T182.setTop (mkF m 6 #[.val (.ref a1)] [(.int (0 : Int32)), (.ref a1)])) _
    exact k
  obtain ⟨T183, h183, X183, e183, W183, st183⟩ := putF X182 hx hZ hown (host := "") (Or.inl (hw _ (List.mem_of_getElem? (i := 22) rfl))) Via.refl q182_0 F_modCount_a1 E_a1 (Or.inl (hw _ (List.mem_of_getElem? (i := 134) rfl))) (hw _ (List.mem_of_getElem? (i := 125) rfl)) (ty := .int) (by decide) rfl rfl (g := (mkF m 6 #[.val (.ref a1)] [(.int (0 : Int32)), (.ref a1)])) rfl rfl (hb hby d2_6)
  refine own_go st183 ?_
  have F183 : Fld Z h183 a1 "java/util/AbstractList" "modCount" "I" (.int (0 : Int32)) := F_modCount_a1.same W183
  have K183 : Keep h0 h183 [a1] := Keep.wr (Keep.refl h0 [a1]) W183 (Or.inl (List.mem_of_getElem? (i := 0) rfl))
  have N183 := Fr.snoc X183 N182 g_a1
  obtain ⟨fs, hr, hrun, hended, hW, hsame⟩ := X183.leave (v := none) (fun _ => rfl)
  refine ⟨_, _, ?_, hrun, hended, _, _, rfl, ?_, ⟨_, rfl⟩, hW, hsame.mono (by decide) (by decide)⟩
  · exact X183.returnOut hx Bd.returns (hb hby d2_9) hr
  · show Q2T Z a1 h0 n0 _ T183.heap _
    rw [e183]
    have f185 : Exa Z h183 a1 "java/util/ArrayList$SubList" := (E_a1.wr W183)
    have f186 : Fld Z h183 a1 "java/util/ArrayList$SubList" "root" "Ljava/util/ArrayList;" .null := (F_root_a1.other W183 (Or.inr (slot_ne (Or.inr (hw _ (List.mem_of_getElem? (i := 136) rfl))) (Or.inl (hw _ (List.mem_of_getElem? (i := 134) rfl))) (by decide) (t := (.object "java/util/ArrayList")) (t' := .int) (by decide) (by decide))))
    have f187 : Fld Z h183 a1 "java/util/ArrayList$SubList" "parent" "Ljava/util/ArrayList$SubList;" .null := (F_parent_a1.other W183 (Or.inr (slot_ne (Or.inr (hw _ (List.mem_of_getElem? (i := 138) rfl))) (Or.inl (hw _ (List.mem_of_getElem? (i := 134) rfl))) (by decide) (t := (.object "java/util/ArrayList$SubList")) (t' := .int) (by decide) (by decide))))
    have f188 : Fld Z h183 a1 "java/util/ArrayList$SubList" "offset" "I" (.int (0 : Int32)) := (F_offset_a1.other W183 (Or.inr (slot_ne (Or.inr (hw _ (List.mem_of_getElem? (i := 140) rfl))) (Or.inl (hw _ (List.mem_of_getElem? (i := 134) rfl))) (by decide) (t := .int) (t' := .int) (by decide) (by decide))))
    have f189 : Fld Z h183 a1 "java/util/ArrayList$SubList" "size" "I" (.int (0 : Int32)) := (F_size_a1.other W183 (Or.inr (slot_ne (Or.inl (hw _ (List.mem_of_getElem? (i := 142) rfl))) (Or.inl (hw _ (List.mem_of_getElem? (i := 134) rfl))) (by decide) (t := .int) (t' := .int) (by decide) (by decide))))
    exact ⟨rfl, N183, K183, f185, F183, f186, f187, f188, f189⟩
theorem pn_194 : plainName "java/util/ArrayList$SubList" = true := by first | (simp [plainName, overriddenIn]; done) | decide +kernel
theorem d17_0 : decode jdk_130_method_1_code 0 = .ok (.aload_n 0, 1) := by decide +kernel
theorem d17_1 : decode jdk_130_method_1_code 1 = .ok (.invokespecial 1, 3) := by decide +kernel
theorem d17_4 : decode jdk_130_method_1_code 4 = .ok (.aload_n 0, 1) := by decide +kernel
theorem d17_5 : decode jdk_130_method_1_code 5 = .ok (.aload_n 1, 1) := by decide +kernel
theorem d17_6 : decode jdk_130_method_1_code 6 = .ok (.putfield 7, 3) := by decide +kernel
theorem d17_9 : decode jdk_130_method_1_code 9 = .ok (.aload_n 0, 1) := by decide +kernel
theorem d17_10 : decode jdk_130_method_1_code 10 = .ok (.aconst_null, 1) := by decide +kernel
theorem d17_11 : decode jdk_130_method_1_code 11 = .ok (.putfield 13, 3) := by decide +kernel
theorem d17_14 : decode jdk_130_method_1_code 14 = .ok (.aload_n 0, 1) := by decide +kernel
theorem d17_15 : decode jdk_130_method_1_code 15 = .ok (.iload_n 2, 1) := by decide +kernel
theorem d17_16 : decode jdk_130_method_1_code 16 = .ok (.putfield 17, 3) := by decide +kernel
theorem d17_19 : decode jdk_130_method_1_code 19 = .ok (.aload_n 0, 1) := by decide +kernel
theorem d17_20 : decode jdk_130_method_1_code 20 = .ok (.iload_n 3, 1) := by decide +kernel
theorem d17_21 : decode jdk_130_method_1_code 21 = .ok (.iload_n 2, 1) := by decide +kernel
theorem d17_22 : decode jdk_130_method_1_code 22 = .ok (.isub, 1) := by decide +kernel
theorem d17_23 : decode jdk_130_method_1_code 23 = .ok (.putfield 21, 3) := by decide +kernel
theorem d17_26 : decode jdk_130_method_1_code 26 = .ok (.aload_n 0, 1) := by decide +kernel
theorem d17_27 : decode jdk_130_method_1_code 27 = .ok (.aload_n 1, 1) := by decide +kernel
theorem d17_28 : decode jdk_130_method_1_code 28 = .ok (.getfield 24, 3) := by decide +kernel
theorem d17_31 : decode jdk_130_method_1_code 31 = .ok (.putfield 29, 3) := by decide +kernel
theorem d17_34 : decode jdk_130_method_1_code 34 = .ok (.return_, 1) := by decide +kernel
theorem ef_17 (m : MethodId) (a1 : Addr) (a2 : Addr) (p1 : Int32) (p2 : Int32) : entryFrame m #[(.ref a1), (.ref a2), (.int p1), (.int p2)] 4 = mkF m 0 #[.val (.ref a1), .val (.ref a2), .val (.int p1), .val (.int p2)] [] := by first | (simp [entryFrame, mkF, argsToLocals, Value.category]; done) | rfl
def Q17 (Z : State) (a1 : Addr) (a2 : Addr) (p1 : Int32) (p2 : Int32) (mc : Int32) (h0 : Heap) (n0 : Nat) (v : Option Value) (h : Heap) (L : List Loc) : Prop := v = none ∧ Fr n0 L ∧ Keep h0 h [a1] ∧ Exa Z h a1 "java/util/ArrayList$SubList" ∧ Fld Z h a1 "java/util/ArrayList$SubList" "root" "Ljava/util/ArrayList;" (.ref a2) ∧ Fld Z h a1 "java/util/AbstractList" "modCount" "I" (.int mc) ∧ Fld Z h a1 "java/util/ArrayList$SubList" "size" "I" (.int (p2 - p1))
set_option maxRecDepth 65536 in
set_option maxHeartbeats 40000000 in
theorem rm17 (l : Launch) (Z : State) (a0 : Array Value) (hw : ∀ d ∈ tables_1, d.before a0 Z = true) (ws : List Jvm.Cond) (a1 : Addr) (a2 : Addr) (p1 : Int32) (p2 : Int32) (mc : Int32) (h0 : Heap) (n0 : Nat) (Z0 : n0 ≤ h0.size) (E_a1 : Exa Z h0 a1 "java/util/ArrayList$SubList") (F_modCount_a1 : Fld Z h0 a1 "java/util/AbstractList" "modCount" "I" (.int (0 : Int32))) (F_root_a1 : Fld Z h0 a1 "java/util/ArrayList$SubList" "root" "Ljava/util/ArrayList;" .null) (F_parent_a1 : Fld Z h0 a1 "java/util/ArrayList$SubList" "parent" "Ljava/util/ArrayList$SubList;" .null) (F_offset_a1 : Fld Z h0 a1 "java/util/ArrayList$SubList" "offset" "I" (.int (0 : Int32))) (F_size_a1 : Fld Z h0 a1 "java/util/ArrayList$SubList" "size" "I" (.int (0 : Int32))) (g_a1 : n0 ≤ a1) (F_mc2 : Fld Z h0 a2 "java/util/AbstractList" "modCount" "I" (.int mc)) (E_a2 : Exa Z h0 a2 "java/util/ArrayList") (ne21 : a2 ≠ a1) :
    MetFree l (⟨"java/util/ArrayList$SubList", "<init>", "(Ljava/util/ArrayList;II)V"⟩ : MethodName) (head1 (Jvm.Cond.code (⟨"java/util/ArrayList$SubList", "<init>", "(Ljava/util/ArrayList;II)V"⟩ : MethodName) jdk_130_method_1_code 4 none :: ws) ({ frames := 3, cells := 0, slots := 0, locals := 36 } : Room)) (fun a U => a = #[(.ref a1), (.ref a2), (.int p1), (.int p2)] ∧ Z.Warmed39 U.vm ∧ U.heap = h0) (fun _ _ _ _ _ => True) (fun _ U o U' => ∃ v L, o = .returned v ∧ Q17 Z a1 a2 p1 p2 mc h0 n0 v U'.heap L ∧ FrameEnd U o U' L ({ frames := 3, cells := 0, slots := 0, locals := 36 } : Room).cells ({ frames := 3, cells := 0, slots := 0, locals := 36 } : Room).slots) := by
  refine MetFree.of_bodySF (plainFor_of_name pn_194) hisR ?_
  intro p e s m args below meth c s₁ Bd hml0 hP hK
  obtain ⟨rfl, hZ, hh⟩ := hP
  have hx := Bd.exec
  have hby := Bd.bytes
  have hml : c.maxLocals = 4 := hml0
  have hown : s.vm.findClass "java/util/ArrayList$SubList" = some m.cls := findClass_of_methodNamed Bd.named
  have hnm := (name_of_methodNamed Bd.named Bd.method).1
  have X0 : Stand p l e ({ frames := 3, cells := 0, slots := 0, locals := 36 } : Room) s m #[(.ref a1), (.ref a2), (.int p1), (.int p2)] below meth c s₁ [] 0 0 := Stand.of_body Bd
  have e0 : s₁.heap = h0 := by rw [← hh, Bd.state]; rfl
  have N0 := Fr.nil n0
  refine own_go (B := s₁.setTop (mkF m 0 #[.val (.ref a1), .val (.ref a2), .val (.int p1), .val (.int p2)] [])) (fun t k => castTop (ef_17 m a1 a2 p1 p2) k) ?_
  refine own_go (B := s₁.setTop (mkF m 1 #[.val (.ref a1), .val (.ref a2), .val (.int p1), .val (.int p2)] [(.ref a1)])) (fun t k => ?_) ?_
  · show Steps p.tables e below (s₁.setTop (mkF m 0 #[.val (.ref a1), .val (.ref a2), .val (.int p1), .val (.int p2)] [])) _
    refine XS.aloadN X0.here hx rfl (hb hby d17_0) rfl rfl ?_
    show Steps p.tables e below (s₁.setTop (mkF m 1 #[.val (.ref a1), .val (.ref a2), .val (.int p1), .val (.int p2)] [(.ref a1)])) _
    exact k
  obtain ⟨_, _, ⟨T190, L190, k190, n190⟩, -, X190, ⟨Lc190, hQ190, l190, y190, z190⟩, st190⟩ := X0.specialBack hx (y := (⟨"java/util/AbstractList", "<init>", "()V"⟩ : MethodName)) rfl hown (mvT hZ (hw _ (List.mem_of_getElem? (i := 131) rfl))) (mvT hZ (hw _ (List.mem_of_getElem? (i := 8) rfl))) (mvT hZ (hw _ (List.mem_of_getElem? (i := 12) rfl))) (by decide) (backOf (W := 0) (rm2T l Z a0 hw [] a1 h0 n0 Z0 E_a1 F_modCount_a1 F_root_a1 F_parent_a1 F_offset_a1 F_size_a1 g_a1) hZ (hw _ (List.mem_of_getElem? (i := 12) rfl)) (hw _ (List.mem_of_getElem? (i := 11) rfl)) (by decide) (by decide)) (g := (mkF m 1 #[.val (.ref a1), .val (.ref a2), .val (.int p1), .val (.int p2)] [(.ref a1)])) rfl (by rw [hml]; rfl) (Steps.refl _) (a := a1) (argsL := []) (rest := []) (lenOf pd_0 rfl) rfl (by show 2 * 0 + _ ≤ _; exact Nat.le_of_eq rfl) (hb hby d17_1) (fun _ _ => ⟨rfl, e0, (by decide : 0 + 0 ≤ _), (by decide : 0 + 0 ≤ _)⟩)
  dsimp only [Pt.U, Pt.locs, Pt.cells, Pt.slots] at X190 l190 y190 z190 st190 hQ190
  subst l190 y190 z190
  obtain ⟨rfl, M190, q190_0, q190_1, q190_2, q190_3, q190_4, q190_5, q190_6⟩ := hQ190
  have N190 := Fr.app N0 M190
  have K190 : Keep h0 T190.heap [a1] := Keep.trans (Keep.refl h0 [a1]) q190_0 (allS (Or.inl (List.mem_of_getElem? (i := 0) rfl)) all0)
  refine own_go (fun t k => st190.trans k) ?_
  refine own_go (B := T190.setTop (mkF m 6 #[.val (.ref a1), .val (.ref a2), .val (.int p1), .val (.int p2)] [(.ref a2), (.ref a1)])) (fun t k => ?_) ?_
  · show Steps p.tables e below (T190.setTop (mkF m 4 #[.val (.ref a1), .val (.ref a2), .val (.int p1), .val (.int p2)] [])) _
    refine XS.aloadN X190.here hx rfl (hb hby d17_4) rfl rfl ?_
    show Steps p.tables e below (T190.setTop (mkF m 5 #[.val (.ref a1), .val (.ref a2), .val (.int p1), .val (.int p2)] [(.ref a1)])) _
    refine XS.aloadN X190.here hx rfl (hb hby d17_5) rfl rfl ?_
    show Steps p.tables e below (T190.setTop (mkF m 6 #[.val (.ref a1), .val (.ref a2), .val (.int p1), .val (.int p2)] [(.ref a2), (.ref a1)])) _
    exact k
  obtain ⟨T191, h191, X191, e191, W191, st191⟩ := putF X190 hx hZ hown (host := "") (Or.inl (hw _ (List.mem_of_getElem? (i := 135) rfl))) Via.refl rfl q190_3 q190_1 (Or.inr ⟨(hw _ (List.mem_of_getElem? (i := 136) rfl)), rfl, hnm⟩) (hw _ (List.mem_of_getElem? (i := 125) rfl)) (ty := (.object "java/util/ArrayList")) (by decide) rfl rfl (g := (mkF m 6 #[.val (.ref a1), .val (.ref a2), .val (.int p1), .val (.int p2)] [(.ref a2), (.ref a1)])) rfl rfl (hb hby d17_6)
  refine own_go st191 ?_
  have F191 : Fld Z h191 a1 "java/util/ArrayList$SubList" "root" "Ljava/util/ArrayList;" (.ref a2) := q190_3.same W191
  have K191 : Keep h0 h191 [a1] := Keep.wr K190 W191 (Or.inl (List.mem_of_getElem? (i := 0) rfl))
  have N191 := Fr.snoc X191 N190 g_a1
  refine own_go (B := T191.setTop (mkF m 11 #[.val (.ref a1), .val (.ref a2), .val (.int p1), .val (.int p2)] [.null, (.ref a1)])) (fun t k => ?_) ?_
  · show Steps p.tables e below (T191.setTop (mkF m 9 #[.val (.ref a1), .val (.ref a2), .val (.int p1), .val (.int p2)] [])) _
    refine XS.aloadN X191.here hx rfl (hb hby d17_9) rfl rfl ?_
    show Steps p.tables e below (T191.setTop (mkF m 10 #[.val (.ref a1), .val (.ref a2), .val (.int p1), .val (.int p2)] [(.ref a1)])) _
    refine XS.aconstNull X191.here hx rfl (hb hby d17_10) ?_
    show Steps p.tables e below (T191.setTop (mkF m 11 #[.val (.ref a1), .val (.ref a2), .val (.int p1), .val (.int p2)] [.null, (.ref a1)])) _
    exact k
  have f193 : Exa Z h191 a1 "java/util/ArrayList$SubList" := (q190_1.wr W191)
  have f194 : Fld Z h191 a1 "java/util/ArrayList$SubList" "parent" "Ljava/util/ArrayList$SubList;" .null := (q190_4.other W191 (Or.inr (slot_ne (Or.inr (hw _ (List.mem_of_getElem? (i := 138) rfl))) (Or.inr (hw _ (List.mem_of_getElem? (i := 136) rfl))) (by decide) (t := (.object "java/util/ArrayList$SubList")) (t' := (.object "java/util/ArrayList")) (by decide) (by decide))))
  obtain ⟨T192, h192, X192, e192, W192, st192⟩ := putF X191 hx hZ hown (host := "") (Or.inl (hw _ (List.mem_of_getElem? (i := 137) rfl))) Via.refl e191 f194 f193 (Or.inr ⟨(hw _ (List.mem_of_getElem? (i := 138) rfl)), rfl, hnm⟩) (hw _ (List.mem_of_getElem? (i := 125) rfl)) (ty := (.object "java/util/ArrayList$SubList")) (by decide) rfl rfl (g := (mkF m 11 #[.val (.ref a1), .val (.ref a2), .val (.int p1), .val (.int p2)] [.null, (.ref a1)])) rfl rfl (hb hby d17_11)
  refine own_go st192 ?_
  have F192 : Fld Z h192 a1 "java/util/ArrayList$SubList" "parent" "Ljava/util/ArrayList$SubList;" .null := f194.same W192
  have K192 : Keep h0 h192 [a1] := Keep.wr K191 W192 (Or.inl (List.mem_of_getElem? (i := 0) rfl))
  have N192 := Fr.snoc X192 N191 g_a1
  refine own_go (B := T192.setTop (mkF m 16 #[.val (.ref a1), .val (.ref a2), .val (.int p1), .val (.int p2)] [(.int p1), (.ref a1)])) (fun t k => ?_) ?_
  · show Steps p.tables e below (T192.setTop (mkF m 14 #[.val (.ref a1), .val (.ref a2), .val (.int p1), .val (.int p2)] [])) _
    refine XS.aloadN X192.here hx rfl (hb hby d17_14) rfl rfl ?_
    show Steps p.tables e below (T192.setTop (mkF m 15 #[.val (.ref a1), .val (.ref a2), .val (.int p1), .val (.int p2)] [(.ref a1)])) _
    refine XS.iloadN X192.here hx rfl (hb hby d17_15) rfl ?_
    show Steps p.tables e below (T192.setTop (mkF m 16 #[.val (.ref a1), .val (.ref a2), .val (.int p1), .val (.int p2)] [(.int p1), (.ref a1)])) _
    exact k
  have f196 : Exa Z h192 a1 "java/util/ArrayList$SubList" := (f193.wr W192)
  have f197 : Fld Z h192 a1 "java/util/ArrayList$SubList" "offset" "I" (.int (0 : Int32)) := ((q190_5.other W191 (Or.inr (slot_ne (Or.inr (hw _ (List.mem_of_getElem? (i := 140) rfl))) (Or.inr (hw _ (List.mem_of_getElem? (i := 136) rfl))) (by decide) (t := .int) (t' := (.object "java/util/ArrayList")) (by decide) (by decide)))).other W192 (Or.inr (slot_ne (Or.inr (hw _ (List.mem_of_getElem? (i := 140) rfl))) (Or.inr (hw _ (List.mem_of_getElem? (i := 138) rfl))) (by decide) (t := .int) (t' := (.object "java/util/ArrayList$SubList")) (by decide) (by decide))))
  obtain ⟨T195, h195, X195, e195, W195, st195⟩ := putF X192 hx hZ hown (host := "") (Or.inl (hw _ (List.mem_of_getElem? (i := 139) rfl))) Via.refl e192 f197 f196 (Or.inr ⟨(hw _ (List.mem_of_getElem? (i := 140) rfl)), rfl, hnm⟩) (hw _ (List.mem_of_getElem? (i := 125) rfl)) (ty := .int) (by decide) rfl rfl (g := (mkF m 16 #[.val (.ref a1), .val (.ref a2), .val (.int p1), .val (.int p2)] [(.int p1), (.ref a1)])) rfl rfl (hb hby d17_16)
  refine own_go st195 ?_
  have F195 : Fld Z h195 a1 "java/util/ArrayList$SubList" "offset" "I" (.int p1) := f197.same W195
  have K195 : Keep h0 h195 [a1] := Keep.wr K192 W195 (Or.inl (List.mem_of_getElem? (i := 0) rfl))
  have N195 := Fr.snoc X195 N192 g_a1
  refine own_go (B := T195.setTop (mkF m 23 #[.val (.ref a1), .val (.ref a2), .val (.int p1), .val (.int p2)] [(.int (p2 - p1)), (.ref a1)])) (fun t k => ?_) ?_
  · show Steps p.tables e below (T195.setTop (mkF m 19 #[.val (.ref a1), .val (.ref a2), .val (.int p1), .val (.int p2)] [])) _
    refine XS.aloadN X195.here hx rfl (hb hby d17_19) rfl rfl ?_
    show Steps p.tables e below (T195.setTop (mkF m 20 #[.val (.ref a1), .val (.ref a2), .val (.int p1), .val (.int p2)] [(.ref a1)])) _
    refine XS.iloadN X195.here hx rfl (hb hby d17_20) rfl ?_
    show Steps p.tables e below (T195.setTop (mkF m 21 #[.val (.ref a1), .val (.ref a2), .val (.int p1), .val (.int p2)] [(.int p2), (.ref a1)])) _
    refine XS.iloadN X195.here hx rfl (hb hby d17_21) rfl ?_
    show Steps p.tables e below (T195.setTop (mkF m 22 #[.val (.ref a1), .val (.ref a2), .val (.int p1), .val (.int p2)] [(.int p1), (.int p2), (.ref a1)])) _
    refine XS.isub X195.here hx rfl (hb hby d17_22) rfl ?_
    show Steps p.tables e below (T195.setTop (mkF m 23 #[.val (.ref a1), .val (.ref a2), .val (.int p1), .val (.int p2)] [(.int (p2 - p1)), (.ref a1)])) _
    exact k
  have f199 : Exa Z h195 a1 "java/util/ArrayList$SubList" := (f196.wr W195)
  have f200 : Fld Z h195 a1 "java/util/ArrayList$SubList" "size" "I" (.int (0 : Int32)) := (((q190_6.other W191 (Or.inr (slot_ne (Or.inl (hw _ (List.mem_of_getElem? (i := 142) rfl))) (Or.inr (hw _ (List.mem_of_getElem? (i := 136) rfl))) (by decide) (t := .int) (t' := (.object "java/util/ArrayList")) (by decide) (by decide)))).other W192 (Or.inr (slot_ne (Or.inl (hw _ (List.mem_of_getElem? (i := 142) rfl))) (Or.inr (hw _ (List.mem_of_getElem? (i := 138) rfl))) (by decide) (t := .int) (t' := (.object "java/util/ArrayList$SubList")) (by decide) (by decide)))).other W195 (Or.inr (slot_ne (Or.inl (hw _ (List.mem_of_getElem? (i := 142) rfl))) (Or.inr (hw _ (List.mem_of_getElem? (i := 140) rfl))) (by decide) (t := .int) (t' := .int) (by decide) (by decide))))
  obtain ⟨T198, h198, X198, e198, W198, st198⟩ := putF X195 hx hZ hown (host := "") (Or.inl (hw _ (List.mem_of_getElem? (i := 141) rfl))) Via.refl e195 f200 f199 (Or.inl (hw _ (List.mem_of_getElem? (i := 142) rfl))) (hw _ (List.mem_of_getElem? (i := 125) rfl)) (ty := .int) (by decide) rfl rfl (g := (mkF m 23 #[.val (.ref a1), .val (.ref a2), .val (.int p1), .val (.int p2)] [(.int (p2 - p1)), (.ref a1)])) rfl rfl (hb hby d17_23)
  refine own_go st198 ?_
  have F198 : Fld Z h198 a1 "java/util/ArrayList$SubList" "size" "I" (.int (p2 - p1)) := f200.same W198
  have K198 : Keep h0 h198 [a1] := Keep.wr K195 W198 (Or.inl (List.mem_of_getElem? (i := 0) rfl))
  have N198 := Fr.snoc X198 N195 g_a1
  refine own_go (B := T198.setTop (mkF m 28 #[.val (.ref a1), .val (.ref a2), .val (.int p1), .val (.int p2)] [(.ref a2), (.ref a1)])) (fun t k => ?_) ?_
  · show Steps p.tables e below (T198.setTop (mkF m 26 #[.val (.ref a1), .val (.ref a2), .val (.int p1), .val (.int p2)] [])) _
    refine XS.aloadN X198.here hx rfl (hb hby d17_26) rfl rfl ?_
    show Steps p.tables e below (T198.setTop (mkF m 27 #[.val (.ref a1), .val (.ref a2), .val (.int p1), .val (.int p2)] [(.ref a1)])) _
    refine XS.aloadN X198.here hx rfl (hb hby d17_27) rfl rfl ?_
    show Steps p.tables e below (T198.setTop (mkF m 28 #[.val (.ref a1), .val (.ref a2), .val (.int p1), .val (.int p2)] [(.ref a2), (.ref a1)])) _
    exact k
  have f202 : Fld Z h198 a2 "java/util/AbstractList" "modCount" "I" (.int mc) := (((((F_mc2.keep q190_0 (ninS ne21 nin0)).other W191 (Or.inl ne21)).other W192 (Or.inl ne21)).other W195 (Or.inl ne21)).other W198 (Or.inl ne21))
  obtain ⟨T201, X201, e201, st201⟩ := getF X198 hx hZ hown (host := "") (Or.inl (hw _ (List.mem_of_getElem? (i := 143) rfl))) (Via.of (hw _ (List.mem_of_getElem? (i := 55) rfl))) e198 f202 (g := (mkF m 28 #[.val (.ref a1), .val (.ref a2), .val (.int p1), .val (.int p2)] [(.ref a2), (.ref a1)])) rfl rfl (hb hby d17_28)
  refine own_go st201 ?_
  have f204 : Exa Z h198 a1 "java/util/ArrayList$SubList" := (f199.wr W198)
  have f205 : Fld Z h198 a1 "java/util/AbstractList" "modCount" "I" (.int (0 : Int32)) := ((((q190_2.other W191 (Or.inr (slot_ne (Or.inl (hw _ (List.mem_of_getElem? (i := 134) rfl))) (Or.inr (hw _ (List.mem_of_getElem? (i := 136) rfl))) (by decide) (t := .int) (t' := (.object "java/util/ArrayList")) (by decide) (by decide)))).other W192 (Or.inr (slot_ne (Or.inl (hw _ (List.mem_of_getElem? (i := 134) rfl))) (Or.inr (hw _ (List.mem_of_getElem? (i := 138) rfl))) (by decide) (t := .int) (t' := (.object "java/util/ArrayList$SubList")) (by decide) (by decide)))).other W195 (Or.inr (slot_ne (Or.inl (hw _ (List.mem_of_getElem? (i := 134) rfl))) (Or.inr (hw _ (List.mem_of_getElem? (i := 140) rfl))) (by decide) (t := .int) (t' := .int) (by decide) (by decide)))).other W198 (Or.inr (slot_ne (Or.inl (hw _ (List.mem_of_getElem? (i := 134) rfl))) (Or.inl (hw _ (List.mem_of_getElem? (i := 142) rfl))) (by decide) (t := .int) (t' := .int) (by decide) (by decide))))
  obtain ⟨T203, h203, X203, e203, W203, st203⟩ := putF X201 hx hZ hown (host := "") (Or.inl (hw _ (List.mem_of_getElem? (i := 144) rfl))) (Via.of (hw _ (List.mem_of_getElem? (i := 145) rfl))) e201 f205 f204 (Or.inl (hw _ (List.mem_of_getElem? (i := 134) rfl))) (hw _ (List.mem_of_getElem? (i := 125) rfl)) (ty := .int) (by decide) rfl rfl (g := (mkF m 31 #[.val (.ref a1), .val (.ref a2), .val (.int p1), .val (.int p2)] [(.int mc), (.ref a1)])) rfl rfl (hb hby d17_31)
  refine own_go st203 ?_
  have F203 : Fld Z h203 a1 "java/util/AbstractList" "modCount" "I" (.int mc) := f205.same W203
  have K203 : Keep h0 h203 [a1] := Keep.wr K198 W203 (Or.inl (List.mem_of_getElem? (i := 0) rfl))
  have N203 := Fr.snoc X203 N198 g_a1
  obtain ⟨fs, hr, hrun, hended, hW, hsame⟩ := X203.leave (v := none) (fun _ => rfl)
  refine ⟨_, _, ?_, hrun, hended, _, _, rfl, ?_, ⟨_, rfl⟩, hW, hsame.mono (by decide) (by decide)⟩
  · exact X203.returnOut hx Bd.returns (hb hby d17_34) hr
  · show Q17 Z a1 a2 p1 p2 mc h0 n0 _ T203.heap _
    rw [e203]
    have f207 : Exa Z h203 a1 "java/util/ArrayList$SubList" := (f204.wr W203)
    have f208 : Fld Z h203 a1 "java/util/ArrayList$SubList" "root" "Ljava/util/ArrayList;" (.ref a2) := ((((F191.other W192 (Or.inr (slot_ne (Or.inr (hw _ (List.mem_of_getElem? (i := 136) rfl))) (Or.inr (hw _ (List.mem_of_getElem? (i := 138) rfl))) (by decide) (t := (.object "java/util/ArrayList")) (t' := (.object "java/util/ArrayList$SubList")) (by decide) (by decide)))).other W195 (Or.inr (slot_ne (Or.inr (hw _ (List.mem_of_getElem? (i := 136) rfl))) (Or.inr (hw _ (List.mem_of_getElem? (i := 140) rfl))) (by decide) (t := (.object "java/util/ArrayList")) (t' := .int) (by decide) (by decide)))).other W198 (Or.inr (slot_ne (Or.inr (hw _ (List.mem_of_getElem? (i := 136) rfl))) (Or.inl (hw _ (List.mem_of_getElem? (i := 142) rfl))) (by decide) (t := (.object "java/util/ArrayList")) (t' := .int) (by decide) (by decide)))).other W203 (Or.inr (slot_ne (Or.inr (hw _ (List.mem_of_getElem? (i := 136) rfl))) (Or.inl (hw _ (List.mem_of_getElem? (i := 134) rfl))) (by decide) (t := (.object "java/util/ArrayList")) (t' := .int) (by decide) (by decide))))
    have f209 : Fld Z h203 a1 "java/util/ArrayList$SubList" "size" "I" (.int (p2 - p1)) := (F198.other W203 (Or.inr (slot_ne (Or.inl (hw _ (List.mem_of_getElem? (i := 142) rfl))) (Or.inl (hw _ (List.mem_of_getElem? (i := 134) rfl))) (by decide) (t := .int) (t' := .int) (by decide) (by decide))))
    exact ⟨rfl, N203, K203, f207, f208, F203, f209⟩
theorem pd_8 : parseMethodDescriptor "(III)V" = some ⟨[.int, .int, .int], none⟩ := by decide +kernel
theorem pd_9 : parseMethodDescriptor "(Ljava/util/ArrayList;II)V" = some ⟨[(.object "java/util/ArrayList"), .int, .int], none⟩ := by decide +kernel
theorem d15_0 : decode jdk_38_method_56_code 0 = .ok (.iload_n 1, 1) := by decide +kernel
theorem d15_1 : decode jdk_38_method_56_code 1 = .ok (.iload_n 2, 1) := by decide +kernel
theorem d15_2 : decode jdk_38_method_56_code 2 = .ok (.aload_n 0, 1) := by decide +kernel
theorem d15_3 : decode jdk_38_method_56_code 3 = .ok (.getfield 48, 3) := by decide +kernel
theorem d15_6 : decode jdk_38_method_56_code 6 = .ok (.invokestatic 272, 3) := by decide +kernel
theorem d15_9 : decode jdk_38_method_56_code 9 = .ok (.new 276, 3) := by decide +kernel
theorem d15_12 : decode jdk_38_method_56_code 12 = .ok (.dup, 1) := by decide +kernel
theorem d15_13 : decode jdk_38_method_56_code 13 = .ok (.aload_n 0, 1) := by decide +kernel
theorem d15_14 : decode jdk_38_method_56_code 14 = .ok (.iload_n 1, 1) := by decide +kernel
theorem d15_15 : decode jdk_38_method_56_code 15 = .ok (.iload_n 2, 1) := by decide +kernel
theorem d15_16 : decode jdk_38_method_56_code 16 = .ok (.invokespecial 278, 3) := by decide +kernel
theorem d15_19 : decode jdk_38_method_56_code 19 = .ok (.areturn, 1) := by decide +kernel
theorem ef_15 (m : MethodId) (a1 : Addr) (p1 : Int32) (p2 : Int32) : entryFrame m #[(.ref a1), (.int p1), (.int p2)] 3 = mkF m 0 #[.val (.ref a1), .val (.int p1), .val (.int p2)] [] := by first | (simp [entryFrame, mkF, argsToLocals, Value.category]; done) | rfl
def Q15 (Z : State) (a1 : Addr) (p1 : Int32) (p2 : Int32) (sz : Int32) (mc : Int32) (h0 : Heap) (n0 : Nat) (v : Option Value) (h : Heap) (L : List Loc) : Prop := ∃ (bn : Addr), v = some (.ref bn) ∧ Fr n0 L ∧ Keep h0 h [] ∧ h0.size ≤ bn ∧ Exa Z h bn "java/util/ArrayList$SubList" ∧ Fld Z h bn "java/util/ArrayList$SubList" "root" "Ljava/util/ArrayList;" (.ref a1) ∧ Fld Z h bn "java/util/AbstractList" "modCount" "I" (.int mc) ∧ Fld Z h bn "java/util/ArrayList$SubList" "size" "I" (.int (p2 - p1))
set_option maxRecDepth 65536 in
set_option maxHeartbeats 40000000 in
theorem rm15 (l : Launch) (Z : State) (a0 : Array Value) (hw : ∀ d ∈ tables_1, d.before a0 Z = true) (ws : List Jvm.Cond) (a1 : Addr) (p1 : Int32) (p2 : Int32) (sz : Int32) (mc : Int32) (h0 : Heap) (n0 : Nat) (Z0 : n0 ≤ h0.size) (E_a1 : Exa Z h0 a1 "java/util/ArrayList") (F_sz : Fld Z h0 a1 "java/util/ArrayList" "size" "I" (.int sz)) (F_mc : Fld Z h0 a1 "java/util/AbstractList" "modCount" "I" (.int mc)) (k1 : ¬ p1 < (0 : Int32)) (k2 : ¬ sz < p2) (k3 : ¬ p2 < p1) :
    MetFree l (⟨"java/util/ArrayList", "subList", "(II)Ljava/util/List;"⟩ : MethodName) (head1 (Jvm.Cond.code (⟨"java/util/ArrayList", "subList", "(II)Ljava/util/List;"⟩ : MethodName) jdk_38_method_56_code 3 (some (.object "java/util/List")) :: ws) ({ frames := 4, cells := 1, slots := 5, locals := 52 } : Room)) (fun a U => a = #[(.ref a1), (.int p1), (.int p2)] ∧ Z.Warmed39 U.vm ∧ U.heap = h0) (fun _ _ _ _ _ => True) (fun _ U o U' => ∃ v L, o = .returned v ∧ Q15 Z a1 p1 p2 sz mc h0 n0 v U'.heap L ∧ FrameEnd U o U' L ({ frames := 4, cells := 1, slots := 5, locals := 52 } : Room).cells ({ frames := 4, cells := 1, slots := 5, locals := 52 } : Room).slots) := by
  refine MetFree.of_bodySF (plainFor_of_name pn_21) hisR ?_
  intro p e s m args below meth c s₁ Bd hml0 hP hK
  obtain ⟨rfl, hZ, hh⟩ := hP
  have hx := Bd.exec
  have hby := Bd.bytes
  have hml : c.maxLocals = 3 := hml0
  have hown : s.vm.findClass "java/util/ArrayList" = some m.cls := findClass_of_methodNamed Bd.named
  have hnm := (name_of_methodNamed Bd.named Bd.method).1
  have X0 : Stand p l e ({ frames := 4, cells := 1, slots := 5, locals := 52 } : Room) s m #[(.ref a1), (.int p1), (.int p2)] below meth c s₁ [] 0 0 := Stand.of_body Bd
  have e0 : s₁.heap = h0 := by rw [← hh, Bd.state]; rfl
  have N0 := Fr.nil n0
  refine own_go (B := s₁.setTop (mkF m 0 #[.val (.ref a1), .val (.int p1), .val (.int p2)] [])) (fun t k => castTop (ef_15 m a1 p1 p2) k) ?_
  refine own_go (B := s₁.setTop (mkF m 3 #[.val (.ref a1), .val (.int p1), .val (.int p2)] [(.ref a1), (.int p2), (.int p1)])) (fun t k => ?_) ?_
  · show Steps p.tables e below (s₁.setTop (mkF m 0 #[.val (.ref a1), .val (.int p1), .val (.int p2)] [])) _
    refine XS.iloadN X0.here hx rfl (hb hby d15_0) rfl ?_
    show Steps p.tables e below (s₁.setTop (mkF m 1 #[.val (.ref a1), .val (.int p1), .val (.int p2)] [(.int p1)])) _
    refine XS.iloadN X0.here hx rfl (hb hby d15_1) rfl ?_
    show Steps p.tables e below (s₁.setTop (mkF m 2 #[.val (.ref a1), .val (.int p1), .val (.int p2)] [(.int p2), (.int p1)])) _
    refine XS.aloadN X0.here hx rfl (hb hby d15_2) rfl rfl ?_
    show Steps p.tables e below (s₁.setTop (mkF m 3 #[.val (.ref a1), .val (.int p1), .val (.int p2)] [(.ref a1), (.int p2), (.int p1)])) _
    exact k
  obtain ⟨T210, X210, e210, st210⟩ := getF X0 hx hZ hown (host := "") (Or.inl (hw _ (List.mem_of_getElem? (i := 56) rfl))) Via.refl e0 F_sz (g := (mkF m 3 #[.val (.ref a1), .val (.int p1), .val (.int p2)] [(.ref a1), (.int p2), (.int p1)])) rfl rfl (hb hby d15_3)
  refine own_go st210 ?_
  obtain ⟨mu211, nu211⟩ := Cond.code_named (mvT hZ (hw _ (List.mem_of_getElem? (i := 123) rfl)) : (Jvm.Cond.code (⟨"java/util/AbstractList", "subListRangeCheck", "(III)V"⟩ : MethodName) jdk_39_method_15_code 3 none).before #[] _ = true)
  obtain ⟨me211, ce211, mm211, -, -, -, -, -, -, ms211⟩ := Cond.code_spec nu211 (mvT hZ (hw _ (List.mem_of_getElem? (i := 123) rfl)) : (Jvm.Cond.code (⟨"java/util/AbstractList", "subListRangeCheck", "(III)V"⟩ : MethodName) jdk_39_method_15_code 3 none).before #[] _ = true)
  obtain ⟨_, _, ⟨T211, L211, k211, n211⟩, -, X211, ⟨Lc211, hQ211, l211, y211, z211⟩, st211⟩ := X210.staticBackUp hx (owner := "java/util/AbstractList") (x := (⟨"java/util/ArrayList", "subListRangeCheck", "(III)V"⟩ : MethodName)) hown (mvT hZ (hw _ (List.mem_of_getElem? (i := 120) rfl))) (mvT hZ (hw _ (List.mem_of_getElem? (i := 121) rfl))) (mvT hZ (hw _ (List.mem_of_getElem? (i := 122) rfl))) (mvT hZ (hw _ (List.mem_of_getElem? (i := 11) rfl))) nu211 mm211 ms211 (by decide) (backOf (W := 0) (rm16 l Z a0 hw [] p1 p2 sz h0 n0 Z0 (by first | assumption | decide) (by first | assumption | decide) (by first | assumption | decide)) hZ (hw _ (List.mem_of_getElem? (i := 123) rfl)) (hw _ (List.mem_of_getElem? (i := 11) rfl)) (by decide) (by decide)) (g := (mkF m 6 #[.val (.ref a1), .val (.int p1), .val (.int p2)] [(.int sz), (.int p2), (.int p1)])) rfl (by rw [hml]; rfl) (Steps.refl _) (argsL := [(.int p1), (.int p2), (.int sz)]) (rest := []) (lenOf pd_8 rfl) rfl (by show 2 * 0 + _ ≤ _; exact Nat.le_of_eq rfl) (hb hby d15_6) (fun _ _ => ⟨rfl, e210, (by decide : 0 + 0 ≤ _), (by decide : 0 + 0 ≤ _)⟩)
  dsimp only [Pt.U, Pt.locs, Pt.cells, Pt.slots] at X211 l211 y211 z211 st211 hQ211
  subst l211 y211 z211
  obtain ⟨rfl, M211, q211_0⟩ := hQ211
  have N211 := Fr.app N0 M211
  refine own_go (fun t k => st211.trans k) ?_
  obtain ⟨T212, h212, X212, e212, E212, A212, D212, -, st212⟩ := newO X211 hx hZ hown (hw _ (List.mem_of_getElem? (i := 124) rfl)) (hw _ (List.mem_of_getElem? (i := 125) rfl)) (hw _ (List.mem_of_getElem? (i := 126) rfl)) q211_0 (g := (mkF m 9 #[.val (.ref a1), .val (.int p1), .val (.int p2)] [])) rfl (hb hby d15_9) (by decide) (by decide)
  obtain ⟨b212, g212⟩ : ∃ z, z = h0.size := ⟨_, rfl⟩
  rw [← g212] at A212 D212 st212
  refine own_go st212 ?_
  have K212 : Keep h0 h212 [] := Keep.ext (Keep.refl h0 []) E212
  have F212_134 : Fld Z h212 b212 "java/util/AbstractList" "modCount" "I" (.int (0 : Int32)) := D212 (Or.inl (hw _ (List.mem_of_getElem? (i := 134) rfl))) (ty := .int) (by decide)
  have F212_136 : Fld Z h212 b212 "java/util/ArrayList$SubList" "root" "Ljava/util/ArrayList;" .null := D212 (Or.inr (hw _ (List.mem_of_getElem? (i := 136) rfl))) (ty := (.object "java/util/ArrayList")) (by decide)
  have F212_138 : Fld Z h212 b212 "java/util/ArrayList$SubList" "parent" "Ljava/util/ArrayList$SubList;" .null := D212 (Or.inr (hw _ (List.mem_of_getElem? (i := 138) rfl))) (ty := (.object "java/util/ArrayList$SubList")) (by decide)
  have F212_140 : Fld Z h212 b212 "java/util/ArrayList$SubList" "offset" "I" (.int (0 : Int32)) := D212 (Or.inr (hw _ (List.mem_of_getElem? (i := 140) rfl))) (ty := .int) (by decide)
  have F212_142 : Fld Z h212 b212 "java/util/ArrayList$SubList" "size" "I" (.int (0 : Int32)) := D212 (Or.inl (hw _ (List.mem_of_getElem? (i := 142) rfl))) (ty := .int) (by decide)
  refine own_go (B := T212.setTop (mkF m 16 #[.val (.ref a1), .val (.int p1), .val (.int p2)] [(.int p2), (.int p1), (.ref a1), (.ref b212), (.ref b212)])) (fun t k => ?_) ?_
  · show Steps p.tables e below (T212.setTop (mkF m 12 #[.val (.ref a1), .val (.int p1), .val (.int p2)] [(.ref b212)])) _
    refine XS.dup X212.here hx rfl (hb hby d15_12) rfl rfl ?_
    show Steps p.tables e below (T212.setTop (mkF m 13 #[.val (.ref a1), .val (.int p1), .val (.int p2)] [(.ref b212), (.ref b212)])) _
    refine XS.aloadN X212.here hx rfl (hb hby d15_13) rfl rfl ?_
    show Steps p.tables e below (T212.setTop (mkF m 14 #[.val (.ref a1), .val (.int p1), .val (.int p2)] [(.ref a1), (.ref b212), (.ref b212)])) _
    refine XS.iloadN X212.here hx rfl (hb hby d15_14) rfl ?_
    show Steps p.tables e below (T212.setTop (mkF m 15 #[.val (.ref a1), .val (.int p1), .val (.int p2)] [(.int p1), (.ref a1), (.ref b212), (.ref b212)])) _
    refine XS.iloadN X212.here hx rfl (hb hby d15_15) rfl ?_
    show Steps p.tables e below (T212.setTop (mkF m 16 #[.val (.ref a1), .val (.int p1), .val (.int p2)] [(.int p2), (.int p1), (.ref a1), (.ref b212), (.ref b212)])) _
    exact k
  have f214 : Fld Z h212 a1 "java/util/AbstractList" "modCount" "I" (.int mc) := (F_mc.ext E212)
  have f215 : Exa Z h212 a1 "java/util/ArrayList" := (E_a1.ext E212)
  have ne216 : a1 ≠ b212 := (Nat.ne_of_lt (Nat.lt_of_lt_of_le E_a1.lt (Nat.le_of_eq g212.symm)))
  obtain ⟨_, _, ⟨T213, L213, k213, n213⟩, -, X213, ⟨Lc213, hQ213, l213, y213, z213⟩, st213⟩ := X212.specialBack hx (y := (⟨"java/util/ArrayList$SubList", "<init>", "(Ljava/util/ArrayList;II)V"⟩ : MethodName)) rfl hown (mvT hZ (hw _ (List.mem_of_getElem? (i := 127) rfl))) (mvT hZ (hw _ (List.mem_of_getElem? (i := 128) rfl))) (mvT hZ (hw _ (List.mem_of_getElem? (i := 130) rfl))) (by decide) (backOf (W := 1) (rm17 l Z a0 hw [] b212 a1 p1 p2 mc h212 n0 (Nat.le_trans Z0 E212.1) A212 F212_134 F212_136 F212_138 F212_140 F212_142 (Nat.le_trans Z0 (Nat.le_of_eq g212.symm)) f214 f215 ne216) hZ (hw _ (List.mem_of_getElem? (i := 130) rfl)) (hw _ (List.mem_of_getElem? (i := 126) rfl)) (by decide) (by decide)) (g := (mkF m 16 #[.val (.ref a1), .val (.int p1), .val (.int p2)] [(.int p2), (.int p1), (.ref a1), (.ref b212), (.ref b212)])) rfl (by rw [hml]; rfl) (Steps.refl _) (a := b212) (argsL := [(.ref a1), (.int p1), (.int p2)]) (rest := [(.ref b212)]) (lenOf pd_9 rfl) rfl (by show 2 * 0 + _ ≤ _; exact Nat.le_of_eq rfl) (hb hby d15_16) (fun _ _ => ⟨rfl, e212, (by decide : 1 + 0 ≤ _), (by decide : 5 + 0 ≤ _)⟩)
  dsimp only [Pt.U, Pt.locs, Pt.cells, Pt.slots] at X213 l213 y213 z213 st213 hQ213
  subst l213 y213 z213
  obtain ⟨rfl, M213, q213_0, q213_1, q213_2, q213_3, q213_4⟩ := hQ213
  have N213 := Fr.app N211 M213
  have K213 : Keep h0 T213.heap [] := Keep.trans K212 q213_0 (allS (Or.inr (Nat.le_of_eq g212.symm)) all0)
  refine own_go (fun t k => st213.trans k) ?_
  obtain ⟨fs, hr, hrun, hended, hW, hsame⟩ := X213.leave (v := some (.ref b212)) (fun h => by rw [Bd.returns] at h; cases h)
  refine ⟨_, _, ?_, hrun, hended, _, _, rfl, ?_, ⟨_, rfl⟩, hW, hsame.mono (by decide) (by decide)⟩
  · exact own_retR X213 hx Bd.returns rfl rfl (hb hby d15_19) hr
  · show Q15 Z a1 p1 p2 sz mc h0 n0 _ T213.heap _
    exact ⟨b212, rfl, N213, K213, (Nat.le_of_eq g212.symm), q213_1, q213_2, q213_3, q213_4⟩
theorem d19_0 : decode jdk_130_method_28_code 0 = .ok (.aload_n 0, 1) := by decide +kernel
theorem d19_1 : decode jdk_130_method_28_code 1 = .ok (.getfield 7, 3) := by decide +kernel
theorem d19_4 : decode jdk_130_method_28_code 4 = .ok (.getfield 24, 3) := by decide +kernel
theorem d19_7 : decode jdk_130_method_28_code 7 = .ok (.aload_n 0, 1) := by decide +kernel
theorem d19_8 : decode jdk_130_method_28_code 8 = .ok (.getfield 29, 3) := by decide +kernel
theorem d19_11 : decode jdk_130_method_28_code 11 = .ok (.if_icmp .eq 11, 3) := by decide +kernel
theorem d19_22 : decode jdk_130_method_28_code 22 = .ok (.return_, 1) := by decide +kernel
theorem ef_19 (m : MethodId) (a1 : Addr) : entryFrame m #[(.ref a1)] 1 = mkF m 0 #[.val (.ref a1)] [] := by first | (simp [entryFrame, mkF, argsToLocals, Value.category]; done) | rfl
def Q19 (Z : State) (a1 : Addr) (a2 : Addr) (mc : Int32) (h0 : Heap) (n0 : Nat) (v : Option Value) (h : Heap) (L : List Loc) : Prop := v = none ∧ Fr n0 L ∧ h = h0
set_option maxRecDepth 65536 in
set_option maxHeartbeats 40000000 in
theorem rm19 (l : Launch) (Z : State) (a0 : Array Value) (hw : ∀ d ∈ tables_1, d.before a0 Z = true) (ws : List Jvm.Cond) (a1 : Addr) (a2 : Addr) (mc : Int32) (h0 : Heap) (n0 : Nat) (Z0 : n0 ≤ h0.size) (E_a1 : Exa Z h0 a1 "java/util/ArrayList$SubList") (F_rt : Fld Z h0 a1 "java/util/ArrayList$SubList" "root" "Ljava/util/ArrayList;" (.ref a2)) (F_m1 : Fld Z h0 a1 "java/util/AbstractList" "modCount" "I" (.int mc)) (F_m2 : Fld Z h0 a2 "java/util/AbstractList" "modCount" "I" (.int mc)) :
    MetFree l (⟨"java/util/ArrayList$SubList", "checkForComodification", "()V"⟩ : MethodName) (head1 (Jvm.Cond.code (⟨"java/util/ArrayList$SubList", "checkForComodification", "()V"⟩ : MethodName) jdk_130_method_28_code 1 none :: ws) ({ frames := 0, cells := 0, slots := 0, locals := 0 } : Room)) (fun a U => a = #[(.ref a1)] ∧ Z.Warmed39 U.vm ∧ U.heap = h0) (fun _ _ _ _ _ => True) (fun _ U o U' => ∃ v L, o = .returned v ∧ Q19 Z a1 a2 mc h0 n0 v U'.heap L ∧ FrameEnd U o U' L ({ frames := 0, cells := 0, slots := 0, locals := 0 } : Room).cells ({ frames := 0, cells := 0, slots := 0, locals := 0 } : Room).slots) := by
  refine MetFree.of_bodySF (plainFor_of_name pn_194) hisR ?_
  intro p e s m args below meth c s₁ Bd hml0 hP hK
  obtain ⟨rfl, hZ, hh⟩ := hP
  have hx := Bd.exec
  have hby := Bd.bytes
  have hml : c.maxLocals = 1 := hml0
  have hown : s.vm.findClass "java/util/ArrayList$SubList" = some m.cls := findClass_of_methodNamed Bd.named
  have hnm := (name_of_methodNamed Bd.named Bd.method).1
  have X0 : Stand p l e ({ frames := 0, cells := 0, slots := 0, locals := 0 } : Room) s m #[(.ref a1)] below meth c s₁ [] 0 0 := Stand.of_body Bd
  have e0 : s₁.heap = h0 := by rw [← hh, Bd.state]; rfl
  have N0 := Fr.nil n0
  refine own_go (B := s₁.setTop (mkF m 0 #[.val (.ref a1)] [])) (fun t k => castTop (ef_19 m a1) k) ?_
  refine own_go (B := s₁.setTop (mkF m 1 #[.val (.ref a1)] [(.ref a1)])) (fun t k => ?_) ?_
  · show Steps p.tables e below (s₁.setTop (mkF m 0 #[.val (.ref a1)] [])) _
    refine XS.aloadN X0.here hx rfl (hb hby d19_0) rfl rfl ?_
    show Steps p.tables e below (s₁.setTop (mkF m 1 #[.val (.ref a1)] [(.ref a1)])) _
    exact k
  obtain ⟨T218, X218, e218, st218⟩ := getF X0 hx hZ hown (host := "") (Or.inl (hw _ (List.mem_of_getElem? (i := 135) rfl))) Via.refl e0 F_rt (g := (mkF m 1 #[.val (.ref a1)] [(.ref a1)])) rfl rfl (hb hby d19_1)
  refine own_go st218 ?_
  obtain ⟨T219, X219, e219, st219⟩ := getF X218 hx hZ hown (host := "") (Or.inl (hw _ (List.mem_of_getElem? (i := 143) rfl))) (Via.of (hw _ (List.mem_of_getElem? (i := 55) rfl))) e218 F_m2 (g := (mkF m 4 #[.val (.ref a1)] [(.ref a2)])) rfl rfl (hb hby d19_4)
  refine own_go st219 ?_
  refine own_go (B := T219.setTop (mkF m 8 #[.val (.ref a1)] [(.ref a1), (.int mc)])) (fun t k => ?_) ?_
  · show Steps p.tables e below (T219.setTop (mkF m 7 #[.val (.ref a1)] [(.int mc)])) _
    refine XS.aloadN X219.here hx rfl (hb hby d19_7) rfl rfl ?_
    show Steps p.tables e below (T219.setTop (mkF m 8 #[.val (.ref a1)] [(.ref a1), (.int mc)])) _
    exact k
  obtain ⟨T220, X220, e220, st220⟩ := getF X219 hx hZ hown (host := "") (Or.inl (hw _ (List.mem_of_getElem? (i := 144) rfl))) (Via.of (hw _ (List.mem_of_getElem? (i := 145) rfl))) e219 F_m1 (g := (mkF m 8 #[.val (.ref a1)] [(.ref a1), (.int mc)])) rfl rfl (hb hby d19_8)
  refine own_go st220 ?_
  refine own_go (B := T220.setTop (mkF m 22 #[.val (.ref a1)] [])) (fun t k => ?_) ?_
  · show Steps p.tables e below (T220.setTop (mkF m 11 #[.val (.ref a1)] [(.int mc), (.int mc)])) _
    refine XS.icmpYes X220.here hx rfl (pc0 := 11) (pc' := 22) rfl (hb hby d19_11) rfl (teq (rfl : mc = mc)).1 (by decide) (by decide) ?_
    show Steps p.tables e below (T220.setTop (mkF m 22 #[.val (.ref a1)] [])) _
    exact k
  obtain ⟨fs, hr, hrun, hended, hW, hsame⟩ := X220.leave (v := none) (fun _ => rfl)
  refine ⟨_, _, ?_, hrun, hended, _, _, rfl, ?_, ⟨_, rfl⟩, hW, hsame.mono (by decide) (by decide)⟩
  · exact X220.returnOut hx Bd.returns (hb hby d19_22) hr
  · show Q19 Z a1 a2 mc h0 n0 _ T220.heap _
    rw [e220]
    exact ⟨rfl, N0, rfl⟩
theorem d18_0 : decode jdk_130_method_5_code 0 = .ok (.aload_n 0, 1) := by decide +kernel
theorem d18_1 : decode jdk_130_method_5_code 1 = .ok (.invokevirtual 36, 3) := by decide +kernel
theorem d18_4 : decode jdk_130_method_5_code 4 = .ok (.aload_n 0, 1) := by decide +kernel
theorem d18_5 : decode jdk_130_method_5_code 5 = .ok (.getfield 21, 3) := by decide +kernel
theorem d18_8 : decode jdk_130_method_5_code 8 = .ok (.ireturn, 1) := by decide +kernel
theorem ef_18 (m : MethodId) (a1 : Addr) : entryFrame m #[(.ref a1)] 1 = mkF m 0 #[.val (.ref a1)] [] := by first | (simp [entryFrame, mkF, argsToLocals, Value.category]; done) | rfl
def Q18 (Z : State) (a1 : Addr) (a2 : Addr) (mc : Int32) (sz : Int32) (h0 : Heap) (n0 : Nat) (v : Option Value) (h : Heap) (L : List Loc) : Prop := v = some (.int sz) ∧ Fr n0 L ∧ h = h0
set_option maxRecDepth 65536 in
set_option maxHeartbeats 40000000 in
theorem rm18 (l : Launch) (Z : State) (a0 : Array Value) (hw : ∀ d ∈ tables_1, d.before a0 Z = true) (ws : List Jvm.Cond) (a1 : Addr) (a2 : Addr) (mc : Int32) (sz : Int32) (h0 : Heap) (n0 : Nat) (Z0 : n0 ≤ h0.size) (E_a1 : Exa Z h0 a1 "java/util/ArrayList$SubList") (F_rt : Fld Z h0 a1 "java/util/ArrayList$SubList" "root" "Ljava/util/ArrayList;" (.ref a2)) (F_m1 : Fld Z h0 a1 "java/util/AbstractList" "modCount" "I" (.int mc)) (F_m2 : Fld Z h0 a2 "java/util/AbstractList" "modCount" "I" (.int mc)) (F_ss : Fld Z h0 a1 "java/util/ArrayList$SubList" "size" "I" (.int sz)) :
    MetFree l (⟨"java/util/ArrayList$SubList", "size", "()I"⟩ : MethodName) (head1 (Jvm.Cond.code (⟨"java/util/ArrayList$SubList", "size", "()I"⟩ : MethodName) jdk_130_method_5_code 1 (some .int) :: ws) ({ frames := 1, cells := 0, slots := 0, locals := 12 } : Room)) (fun a U => a = #[(.ref a1)] ∧ Z.Warmed39 U.vm ∧ U.heap = h0) (fun _ _ _ _ _ => True) (fun _ U o U' => ∃ v L, o = .returned v ∧ Q18 Z a1 a2 mc sz h0 n0 v U'.heap L ∧ FrameEnd U o U' L ({ frames := 1, cells := 0, slots := 0, locals := 12 } : Room).cells ({ frames := 1, cells := 0, slots := 0, locals := 12 } : Room).slots) := by
  refine MetFree.of_bodySF (plainFor_of_name pn_194) hisR ?_
  intro p e s m args below meth c s₁ Bd hml0 hP hK
  obtain ⟨rfl, hZ, hh⟩ := hP
  have hx := Bd.exec
  have hby := Bd.bytes
  have hml : c.maxLocals = 1 := hml0
  have hown : s.vm.findClass "java/util/ArrayList$SubList" = some m.cls := findClass_of_methodNamed Bd.named
  have hnm := (name_of_methodNamed Bd.named Bd.method).1
  have X0 : Stand p l e ({ frames := 1, cells := 0, slots := 0, locals := 12 } : Room) s m #[(.ref a1)] below meth c s₁ [] 0 0 := Stand.of_body Bd
  have e0 : s₁.heap = h0 := by rw [← hh, Bd.state]; rfl
  have N0 := Fr.nil n0
  refine own_go (B := s₁.setTop (mkF m 0 #[.val (.ref a1)] [])) (fun t k => castTop (ef_18 m a1) k) ?_
  refine own_go (B := s₁.setTop (mkF m 1 #[.val (.ref a1)] [(.ref a1)])) (fun t k => ?_) ?_
  · show Steps p.tables e below (s₁.setTop (mkF m 0 #[.val (.ref a1)] [])) _
    refine XS.aloadN X0.here hx rfl (hb hby d18_0) rfl rfl ?_
    show Steps p.tables e below (s₁.setTop (mkF m 1 #[.val (.ref a1)] [(.ref a1)])) _
    exact k
  obtain ⟨cq222, q222, q222'⟩ := E_a1.cell
  obtain ⟨_, _, ⟨T222, L222, k222, n222⟩, -, X222, ⟨Lc222, hQ222, l222, y222, z222⟩, st222⟩ := X0.privateBack hx (y := (⟨"java/util/ArrayList$SubList", "checkForComodification", "()V"⟩ : MethodName)) hown (mvT hZ (hw _ (List.mem_of_getElem? (i := 153) rfl))) (mvT hZ (hw _ (List.mem_of_getElem? (i := 154) rfl))) (mvT hZ (hw _ (List.mem_of_getElem? (i := 156) rfl))) (Cond.privateMethod_at (mvP hZ (hw _ (List.mem_of_getElem? (i := 155) rfl)) (args := #[]))) (mvT hZ (hw _ (List.mem_of_getElem? (i := 157) rfl))) (by decide) (backOf (W := 0) (rm19 l Z a0 hw [] a1 a2 mc h0 n0 Z0 E_a1 F_rt F_m1 F_m2) hZ (hw _ (List.mem_of_getElem? (i := 157) rfl)) (hw _ (List.mem_of_getElem? (i := 126) rfl)) (by decide) (by decide)) (g := (mkF m 1 #[.val (.ref a1)] [(.ref a1)])) rfl (by rw [hml]; rfl) (Steps.refl _) (a := a1) (by rw [e0]; exact q222) q222' (argsL := []) (rest := []) (lenOf pd_0 rfl) rfl (by show 2 * 0 + _ ≤ _; exact Nat.le_of_eq rfl) (hb hby d18_1) (fun _ _ => ⟨rfl, e0, (by decide : 0 + 0 ≤ _), (by decide : 0 + 0 ≤ _)⟩)
  dsimp only [Pt.U, Pt.locs, Pt.cells, Pt.slots] at X222 l222 y222 z222 st222 hQ222
  subst l222 y222 z222
  obtain ⟨rfl, M222, q222_0⟩ := hQ222
  have N222 := Fr.app N0 M222
  refine own_go (fun t k => st222.trans k) ?_
  refine own_go (B := T222.setTop (mkF m 5 #[.val (.ref a1)] [(.ref a1)])) (fun t k => ?_) ?_
  · show Steps p.tables e below (T222.setTop (mkF m 4 #[.val (.ref a1)] [])) _
    refine XS.aloadN X222.here hx rfl (hb hby d18_4) rfl rfl ?_
    show Steps p.tables e below (T222.setTop (mkF m 5 #[.val (.ref a1)] [(.ref a1)])) _
    exact k
  obtain ⟨T223, X223, e223, st223⟩ := getF X222 hx hZ hown (host := "") (Or.inl (hw _ (List.mem_of_getElem? (i := 141) rfl))) Via.refl q222_0 F_ss (g := (mkF m 5 #[.val (.ref a1)] [(.ref a1)])) rfl rfl (hb hby d18_5)
  refine own_go st223 ?_
  obtain ⟨fs, hr, hrun, hended, hW, hsame⟩ := X223.leave (v := some (.int sz)) (fun h => by rw [Bd.returns] at h; cases h)
  refine ⟨_, _, ?_, hrun, hended, _, _, rfl, ?_, ⟨_, rfl⟩, hW, hsame.mono (by decide) (by decide)⟩
  · exact retI X223 hx Bd.returns (hb hby d18_8) hr
  · show Q18 Z a1 a2 mc sz h0 n0 _ T223.heap _
    rw [e223]
    exact ⟨rfl, N222, rfl⟩
theorem pd_10 : parseMethodDescriptor "(II)Ljava/util/List;" = some ⟨[.int, .int], some (.object "java/util/List")⟩ := by decide +kernel
theorem d14_0 : decode prog_49_method_2_code 0 = .ok (.aload_n 0, 1) := by decide +kernel
theorem d14_1 : decode prog_49_method_2_code 1 = .ok (.getfield 7, 3) := by decide +kernel
theorem d14_4 : decode prog_49_method_2_code 4 = .ok (.aload_n 0, 1) := by decide +kernel
theorem d14_5 : decode prog_49_method_2_code 5 = .ok (.getfield 13, 3) := by decide +kernel
theorem d14_8 : decode prog_49_method_2_code 8 = .ok (.aload_n 0, 1) := by decide +kernel
theorem d14_9 : decode prog_49_method_2_code 9 = .ok (.getfield 7, 3) := by decide +kernel
theorem d14_12 : decode prog_49_method_2_code 12 = .ok (.invokeinterface 24 1, 5) := by decide +kernel
theorem d14_17 : decode prog_49_method_2_code 17 = .ok (.invokeinterface 30 3, 5) := by decide +kernel
theorem d14_22 : decode prog_49_method_2_code 22 = .ok (.areturn, 1) := by decide +kernel
theorem ef_14 (m : MethodId) (a1 : Addr) : entryFrame m #[(.ref a1)] 1 = mkF m 0 #[.val (.ref a1)] [] := by first | (simp [entryFrame, mkF, argsToLocals, Value.category]; done) | rfl
def Q14 (Z : State) (a1 : Addr) (a2 : Addr) (wu : Int32) (sz : Int32) (mc : Int32) (h0 : Heap) (n0 : Nat) (v : Option Value) (h : Heap) (L : List Loc) : Prop := ∃ (bn : Addr), v = some (.ref bn) ∧ Fr n0 L ∧ Keep h0 h [] ∧ h0.size ≤ bn ∧ Exa Z h bn "java/util/ArrayList$SubList" ∧ Fld Z h bn "java/util/ArrayList$SubList" "root" "Ljava/util/ArrayList;" (.ref a2) ∧ Fld Z h bn "java/util/AbstractList" "modCount" "I" (.int mc) ∧ Fld Z h bn "java/util/ArrayList$SubList" "size" "I" (.int (sz - wu))
set_option maxRecDepth 65536 in
set_option maxHeartbeats 40000000 in
theorem rm14 (l : Launch) (Z : State) (a0 : Array Value) (hw : ∀ d ∈ tables_1, d.before a0 Z = true) (ws : List Jvm.Cond) (a1 : Addr) (a2 : Addr) (wu : Int32) (sz : Int32) (mc : Int32) (h0 : Heap) (n0 : Nat) (Z0 : n0 ≤ h0.size) (F_re : Fld Z h0 a1 "com/example/tiphys/tiphys/Run" "releases" "Ljava/util/List;" (.ref a2)) (F_wu : Fld Z h0 a1 "com/example/tiphys/tiphys/Run" "warmups" "I" (.int wu)) (E_a2 : Exa Z h0 a2 "java/util/ArrayList") (F_sz : Fld Z h0 a2 "java/util/ArrayList" "size" "I" (.int sz)) (F_mc : Fld Z h0 a2 "java/util/AbstractList" "modCount" "I" (.int mc)) (k1 : ¬ wu < (0 : Int32)) (k3 : ¬ sz < wu) :
    MetFree l (⟨"com/example/tiphys/tiphys/Run", "measured", "()Ljava/util/List;"⟩ : MethodName) (head1 (Jvm.Cond.code (⟨"com/example/tiphys/tiphys/Run", "measured", "()Ljava/util/List;"⟩ : MethodName) prog_49_method_2_code 1 (some (.object "java/util/List")) :: ws) ({ frames := 5, cells := 1, slots := 5, locals := 66 } : Room)) (fun a U => a = #[(.ref a1)] ∧ Z.Warmed39 U.vm ∧ U.heap = h0) (fun _ _ _ _ _ => True) (fun _ U o U' => ∃ v L, o = .returned v ∧ Q14 Z a1 a2 wu sz mc h0 n0 v U'.heap L ∧ FrameEnd U o U' L ({ frames := 5, cells := 1, slots := 5, locals := 66 } : Room).cells ({ frames := 5, cells := 1, slots := 5, locals := 66 } : Room).slots) := by
  refine MetFree.of_bodySF (plainFor_of_name pn_123) hisR ?_
  intro p e s m args below meth c s₁ Bd hml0 hP hK
  obtain ⟨rfl, hZ, hh⟩ := hP
  have hx := Bd.exec
  have hby := Bd.bytes
  have hml : c.maxLocals = 1 := hml0
  have hown : s.vm.findClass "com/example/tiphys/tiphys/Run" = some m.cls := findClass_of_methodNamed Bd.named
  have hnm := (name_of_methodNamed Bd.named Bd.method).1
  have X0 : Stand p l e ({ frames := 5, cells := 1, slots := 5, locals := 66 } : Room) s m #[(.ref a1)] below meth c s₁ [] 0 0 := Stand.of_body Bd
  have e0 : s₁.heap = h0 := by rw [← hh, Bd.state]; rfl
  have N0 := Fr.nil n0
  refine own_go (B := s₁.setTop (mkF m 0 #[.val (.ref a1)] [])) (fun t k => castTop (ef_14 m a1) k) ?_
  refine own_go (B := s₁.setTop (mkF m 1 #[.val (.ref a1)] [(.ref a1)])) (fun t k => ?_) ?_
  · show Steps p.tables e below (s₁.setTop (mkF m 0 #[.val (.ref a1)] [])) _
    refine XS.aloadN X0.here hx rfl (hb hby d14_0) rfl rfl ?_
    show Steps p.tables e below (s₁.setTop (mkF m 1 #[.val (.ref a1)] [(.ref a1)])) _
    exact k
  obtain ⟨T225, X225, e225, st225⟩ := getF X0 hx hZ hown (host := "") (Or.inl (hw _ (List.mem_of_getElem? (i := 87) rfl))) Via.refl e0 F_re (g := (mkF m 1 #[.val (.ref a1)] [(.ref a1)])) rfl rfl (hb hby d14_1)
  refine own_go st225 ?_
  refine own_go (B := T225.setTop (mkF m 5 #[.val (.ref a1)] [(.ref a1), (.ref a2)])) (fun t k => ?_) ?_
  · show Steps p.tables e below (T225.setTop (mkF m 4 #[.val (.ref a1)] [(.ref a2)])) _
    refine XS.aloadN X225.here hx rfl (hb hby d14_4) rfl rfl ?_
    show Steps p.tables e below (T225.setTop (mkF m 5 #[.val (.ref a1)] [(.ref a1), (.ref a2)])) _
    exact k
  obtain ⟨T226, X226, e226, st226⟩ := getF X225 hx hZ hown (host := "") (Or.inl (hw _ (List.mem_of_getElem? (i := 89) rfl))) Via.refl e225 F_wu (g := (mkF m 5 #[.val (.ref a1)] [(.ref a1), (.ref a2)])) rfl rfl (hb hby d14_5)
  refine own_go st226 ?_
  refine own_go (B := T226.setTop (mkF m 9 #[.val (.ref a1)] [(.ref a1), (.int wu), (.ref a2)])) (fun t k => ?_) ?_
  · show Steps p.tables e below (T226.setTop (mkF m 8 #[.val (.ref a1)] [(.int wu), (.ref a2)])) _
    refine XS.aloadN X226.here hx rfl (hb hby d14_8) rfl rfl ?_
    show Steps p.tables e below (T226.setTop (mkF m 9 #[.val (.ref a1)] [(.ref a1), (.int wu), (.ref a2)])) _
    exact k
  obtain ⟨T227, X227, e227, st227⟩ := getF X226 hx hZ hown (host := "") (Or.inl (hw _ (List.mem_of_getElem? (i := 87) rfl))) Via.refl e226 F_re (g := (mkF m 9 #[.val (.ref a1)] [(.ref a1), (.int wu), (.ref a2)])) rfl rfl (hb hby d14_9)
  refine own_go st227 ?_
  obtain ⟨cq228, kq228, q228a, q228b, q228c⟩ := isOf hZ e227 E_a2
  obtain ⟨_, _, ⟨T228, L228, k228, n228⟩, -, X228, ⟨Lc228, hQ228, l228, y228, z228⟩, st228⟩ := X227.interfaceBack hx (xi := (⟨"java/util/List", "size", "()I"⟩ : MethodName)) (y := (⟨"java/util/ArrayList", "size", "()I"⟩ : MethodName)) hown (mvT hZ (hw _ (List.mem_of_getElem? (i := 105) rfl))) (mvT hZ (hw _ (List.mem_of_getElem? (i := 106) rfl))) (mvT hZ (hw _ (List.mem_of_getElem? (i := 107) rfl))) (mvT hZ (hw _ (List.mem_of_getElem? (i := 108) rfl))) (mvT hZ (hw _ (List.mem_of_getElem? (i := 97) rfl))) (mvT hZ (hw _ (List.mem_of_getElem? (i := 109) rfl))) (mvT hZ (hw _ (List.mem_of_getElem? (i := 110) rfl))) (mvT hZ (hw _ (List.mem_of_getElem? (i := 111) rfl))) (by decide) (backOf (W := 2) (rm13 l Z a0 hw [] a2 sz h0 n0 Z0 F_sz) hZ (hw _ (List.mem_of_getElem? (i := 99) rfl)) (hw _ (List.mem_of_getElem? (i := 3) rfl)) (by decide) (by decide)) q228a q228b q228c (g := (mkF m 12 #[.val (.ref a1)] [(.ref a2), (.int wu), (.ref a2)])) rfl (by rw [hml]; rfl) (Steps.refl _) (argsL := []) (rest := [(.int wu), (.ref a2)]) (lenOf pd_5 rfl) rfl (by show 2 * 0 + _ ≤ _; exact Nat.le_of_eq rfl) (hb hby d14_12) (fun _ _ => ⟨rfl, e227, (by decide : 0 + 0 ≤ _), (by decide : 0 + 0 ≤ _)⟩)
  dsimp only [Pt.U, Pt.locs, Pt.cells, Pt.slots] at X228 l228 y228 z228 st228 hQ228
  subst l228 y228 z228
  obtain ⟨rfl, M228, q228_0⟩ := hQ228
  have N228 := Fr.app N0 M228
  refine own_go (fun t k => st228.trans k) ?_
  obtain ⟨cq229, kq229, q229a, q229b, q229c⟩ := isOf hZ q228_0 E_a2
  obtain ⟨_, _, ⟨T229, L229, k229, n229⟩, -, X229, ⟨Lc229, hQ229, l229, y229, z229⟩, st229⟩ := X228.interfaceBack hx (xi := (⟨"java/util/List", "subList", "(II)Ljava/util/List;"⟩ : MethodName)) (y := (⟨"java/util/ArrayList", "subList", "(II)Ljava/util/List;"⟩ : MethodName)) hown (mvT hZ (hw _ (List.mem_of_getElem? (i := 112) rfl))) (mvT hZ (hw _ (List.mem_of_getElem? (i := 113) rfl))) (mvT hZ (hw _ (List.mem_of_getElem? (i := 114) rfl))) (mvT hZ (hw _ (List.mem_of_getElem? (i := 115) rfl))) (mvT hZ (hw _ (List.mem_of_getElem? (i := 116) rfl))) (mvT hZ (hw _ (List.mem_of_getElem? (i := 117) rfl))) (mvT hZ (hw _ (List.mem_of_getElem? (i := 118) rfl))) (mvT hZ (hw _ (List.mem_of_getElem? (i := 111) rfl))) (by decide) (backOf (W := 0) (rm15 l Z a0 hw [] a2 wu sz sz mc h0 n0 Z0 E_a2 F_sz F_mc (k1) (Int32.lt_irrefl) (k3)) hZ (hw _ (List.mem_of_getElem? (i := 119) rfl)) (hw _ (List.mem_of_getElem? (i := 3) rfl)) (by decide) (by decide)) q229a q229b q229c (g := (mkF m 17 #[.val (.ref a1)] [(.int sz), (.int wu), (.ref a2)])) rfl (by rw [hml]; rfl) (Steps.refl _) (argsL := [(.int wu), (.int sz)]) (rest := []) (lenOf pd_10 rfl) rfl (by show 2 * 0 + _ ≤ _; exact Nat.le_of_eq rfl) (hb hby d14_17) (fun _ _ => ⟨rfl, q228_0, (by decide : 0 + 1 ≤ _), (by decide : 0 + 5 ≤ _)⟩)
  dsimp only [Pt.U, Pt.locs, Pt.cells, Pt.slots] at X229 l229 y229 z229 st229 hQ229
  subst l229 y229 z229
  obtain ⟨bn_229, rfl, M229, q229_0, q229_1, q229_2, q229_3, q229_4, q229_5⟩ := hQ229
  have N229 := Fr.app N228 M229
  have K229 : Keep h0 T229.heap [] := Keep.trans (Keep.refl h0 []) q229_0 all0
  refine own_go (fun t k => st229.trans k) ?_
  obtain ⟨fs, hr, hrun, hended, hW, hsame⟩ := X229.leave (v := some (.ref bn_229)) (fun h => by rw [Bd.returns] at h; cases h)
  refine ⟨_, _, ?_, hrun, hended, _, _, rfl, ?_, ⟨_, rfl⟩, hW, hsame.mono (by decide) (by decide)⟩
  · exact own_retR X229 hx Bd.returns rfl rfl (hb hby d14_22) hr
  · show Q14 Z a1 a2 wu sz mc h0 n0 _ T229.heap _
    exact ⟨bn_229, rfl, N229, K229, q229_1, q229_2, q229_3, q229_4, q229_5⟩
theorem pd_11 : parseMethodDescriptor "(IJJJJ)V" = some ⟨[.int, .long, .long, .long, .long], none⟩ := by decide +kernel
theorem pd_12 : parseMethodDescriptor "(Ljava/lang/Object;)Z" = some ⟨[(.object "java/lang/Object")], some .boolean⟩ := by decide +kernel
theorem pd_13 : parseMethodDescriptor "(Ljava/util/List;IJJ)V" = some ⟨[(.object "java/util/List"), .int, .long, .long], none⟩ := by decide +kernel
theorem pd_14 : parseMethodDescriptor "()Ljava/util/List;" = some ⟨[], some (.object "java/util/List")⟩ := by decide +kernel
theorem pd_15 : parseMethodDescriptor "(Lcom/example/tiphys/tiphys/Release;)Z" = some ⟨[(.object "com/example/tiphys/tiphys/Release")], some .boolean⟩ := by decide +kernel
theorem pn_228 : plainName "com/example/tiphys/tiphys/RunIsWarmupPinLaw" = true := by first | (simp [plainName, overriddenIn]; done) | decide +kernel
theorem ef_0 (m : MethodId) (p1 : Int32) (p2 : Int32) (p3 : Int32) (q4 : Int64) (q5 : Int64) : entryFrame m #[(.int p1), (.int p2), (.int p3), (.long q4), (.long q5)] maxLocals = mkF m 0 #[.val (.int p1), .val (.int p2), .val (.int p3), .val (.long q4), .second, .val (.long q5), .second, .unset, .unset, .unset, .unset, .unset, .unset, .unset, .unset, .unset] [] := by first | (simp [entryFrame, mkF, argsToLocals, Value.category, maxLocals]; done) | rfl
def Q0 (Z : State) (p1 : Int32) (p2 : Int32) (p3 : Int32) (q4 : Int64) (q5 : Int64) (w_DEFAULTCAPACITY_EMPTY_ELEMENTDATA : Addr) (k_DEFAULTCAPACITY_EMPTY_ELEMENTDATA : ClassId) (h0 : Heap) (n0 : Nat) (v : Option Value) (h : Heap) (L : List Loc) : Prop := v = some (.int (1 : Int32)) ∧ Fr n0 L
set_option maxRecDepth 65536 in
set_option maxHeartbeats 40000000 in
theorem rm0 (l : Launch) (Z : State) (a0 : Array Value) (hw : ∀ d ∈ tables_1, d.before a0 Z = true) (ws : List Jvm.Cond) (p1 : Int32) (p2 : Int32) (p3 : Int32) (q4 : Int64) (q5 : Int64) (w_DEFAULTCAPACITY_EMPTY_ELEMENTDATA : Addr) (k_DEFAULTCAPACITY_EMPTY_ELEMENTDATA : ClassId) (h0 : Heap) (n0 : Nat) (Z0 : n0 ≤ h0.size) (S_DEFAULTCAPACITY_EMPTY_ELEMENTDATA : Sta Z h0 "java/util/ArrayList" "DEFAULTCAPACITY_EMPTY_ELEMENTDATA" "[Ljava/lang/Object;" (.ref w_DEFAULTCAPACITY_EMPTY_ELEMENTDATA)) (E_DEFAULTCAPACITY_EMPTY_ELEMENTDATA : Exa Z h0 w_DEFAULTCAPACITY_EMPTY_ELEMENTDATA "[Ljava/lang/Object;") (V_DEFAULTCAPACITY_EMPTY_ELEMENTDATA : Arv Z h0 w_DEFAULTCAPACITY_EMPTY_ELEMENTDATA k_DEFAULTCAPACITY_EMPTY_ELEMENTDATA (.object "java/lang/Object") (0 : Int32) [] .null) :
    MetFree l x (head1 (Jvm.Cond.code x code maxLocals ret :: ws) room_1) (fun a U => a = #[(.int p1), (.int p2), (.int p3), (.long q4), (.long q5)] ∧ Z.Warmed39 U.vm ∧ U.heap = h0) (fun _ _ _ _ _ => True) (fun _ U o U' => ∃ v L, o = .returned v ∧ Q0 Z p1 p2 p3 q4 q5 w_DEFAULTCAPACITY_EMPTY_ELEMENTDATA k_DEFAULTCAPACITY_EMPTY_ELEMENTDATA h0 n0 v U'.heap L ∧ FrameEnd U o U' L room_1.cells room_1.slots) := by
  refine MetFree.of_bodySF (plainFor_of_name pn_228) hisR ?_
  intro p e s m args below meth c s₁ Bd hml0 hP hK
  obtain ⟨rfl, hZ, hh⟩ := hP
  have hx := Bd.exec
  have hby := Bd.bytes
  have hml : c.maxLocals = 16 := hml0
  have hown : s.vm.findClass "com/example/tiphys/tiphys/RunIsWarmupPinLaw" = some m.cls := findClass_of_methodNamed Bd.named
  have hnm := (name_of_methodNamed Bd.named Bd.method).1
  have X0 : Stand p l e room_1 s m #[(.int p1), (.int p2), (.int p3), (.long q4), (.long q5)] below meth c s₁ [] 0 0 := Stand.of_body Bd
  have e0 : s₁.heap = h0 := by rw [← hh, Bd.state]; rfl
  have N0 := Fr.nil n0
  refine own_go (B := s₁.setTop (mkF m 0 #[.val (.int p1), .val (.int p2), .val (.int p3), .val (.long q4), .second, .val (.long q5), .second, .unset, .unset, .unset, .unset, .unset, .unset, .unset, .unset, .unset] [])) (fun t k => castTop (ef_0 m p1 p2 p3 q4 q5) k) ?_
  refine own_go (B := s₁.setTop (mkF m 8 #[.val (.int p1), .val (.int p2), .val (.int p3), .val (.long q4), .second, .val (.long q5), .second, .val (.int ((p1 &&& (2147483647 : Int32)) % (3 : Int32))), .unset, .unset, .unset, .unset, .unset, .unset, .unset, .unset] [])) (fun t k => ?_) ?_
  · show Steps p.tables e below (s₁.setTop (mkF m 0 #[.val (.int p1), .val (.int p2), .val (.int p3), .val (.long q4), .second, .val (.long q5), .second, .unset, .unset, .unset, .unset, .unset, .unset, .unset, .unset, .unset] [])) _
    refine XS.iloadN X0.here hx rfl (hb hby at_0) rfl ?_
    show Steps p.tables e below (s₁.setTop (mkF m 1 #[.val (.int p1), .val (.int p2), .val (.int p3), .val (.long q4), .second, .val (.long q5), .second, .unset, .unset, .unset, .unset, .unset, .unset, .unset, .unset, .unset] [(.int p1)])) _
    refine X0.ldcInt hx hown (mvT hZ (hw _ (List.mem_of_getElem? (i := 0) rfl))) (g := (mkF m 1 #[.val (.int p1), .val (.int p2), .val (.int p3), .val (.long q4), .second, .val (.long q5), .second, .unset, .unset, .unset, .unset, .unset, .unset, .unset, .unset, .unset] [(.int p1)])) rfl (hb hby at_1) _ ?_
    show Steps p.tables e below (s₁.setTop (mkF m 3 #[.val (.int p1), .val (.int p2), .val (.int p3), .val (.long q4), .second, .val (.long q5), .second, .unset, .unset, .unset, .unset, .unset, .unset, .unset, .unset, .unset] [(.int (2147483647 : Int32)), (.int p1)])) _
    refine XS.iand X0.here hx rfl (hb hby at_3) rfl ?_
    show Steps p.tables e below (s₁.setTop (mkF m 4 #[.val (.int p1), .val (.int p2), .val (.int p3), .val (.long q4), .second, .val (.long q5), .second, .unset, .unset, .unset, .unset, .unset, .unset, .unset, .unset, .unset] [(.int (p1 &&& (2147483647 : Int32)))])) _
    refine XS.iconst X0.here hx rfl (hb hby at_4) ?_
    show Steps p.tables e below (s₁.setTop (mkF m 5 #[.val (.int p1), .val (.int p2), .val (.int p3), .val (.long q4), .second, .val (.long q5), .second, .unset, .unset, .unset, .unset, .unset, .unset, .unset, .unset, .unset] [(.int (3 : Int32)), (.int (p1 &&& (2147483647 : Int32)))])) _
    refine iremM X0 hx rfl (hb hby at_5) rfl (by decide) ?_
    show Steps p.tables e below (s₁.setTop (mkF m 6 #[.val (.int p1), .val (.int p2), .val (.int p3), .val (.long q4), .second, .val (.long q5), .second, .unset, .unset, .unset, .unset, .unset, .unset, .unset, .unset, .unset] [(.int ((p1 &&& (2147483647 : Int32)) % (3 : Int32)))])) _
    refine XS.istore X0.here hx rfl (hb hby at_6) rfl (l' := #[.val (.int p1), .val (.int p2), .val (.int p3), .val (.long q4), .second, .val (.long q5), .second, .val (.int ((p1 &&& (2147483647 : Int32)) % (3 : Int32))), .unset, .unset, .unset, .unset, .unset, .unset, .unset, .unset]) rfl ?_
    show Steps p.tables e below (s₁.setTop (mkF m 8 #[.val (.int p1), .val (.int p2), .val (.int p3), .val (.long q4), .second, .val (.long q5), .second, .val (.int ((p1 &&& (2147483647 : Int32)) % (3 : Int32))), .unset, .unset, .unset, .unset, .unset, .unset, .unset, .unset] [])) _
    exact k
  obtain ⟨wm, e_wm⟩ : ∃ z, z = ((p1 &&& (2147483647 : Int32)) % (3 : Int32)) := ⟨_, rfl⟩
  rw [← e_wm]
  have hwm : 0 ≤ wm.toInt ∧ wm.toInt ≤ 2 := by rw [e_wm]; exact own_m3 p1
  refine own_go (B := s₁.setTop (mkF m 14 #[.val (.int p1), .val (.int p2), .val (.int p3), .val (.long q4), .second, .val (.long q5), .second, .val (.int wm), .val (.int (p2 &&& (2147483647 : Int32))), .unset, .unset, .unset, .unset, .unset, .unset, .unset] [])) (fun t k => ?_) ?_
  · show Steps p.tables e below (s₁.setTop (mkF m 8 #[.val (.int p1), .val (.int p2), .val (.int p3), .val (.long q4), .second, .val (.long q5), .second, .val (.int wm), .unset, .unset, .unset, .unset, .unset, .unset, .unset, .unset] [])) _
    refine XS.iloadN X0.here hx rfl (hb hby at_8) rfl ?_
    show Steps p.tables e below (s₁.setTop (mkF m 9 #[.val (.int p1), .val (.int p2), .val (.int p3), .val (.long q4), .second, .val (.long q5), .second, .val (.int wm), .unset, .unset, .unset, .unset, .unset, .unset, .unset, .unset] [(.int p2)])) _
    refine X0.ldcInt hx hown (mvT hZ (hw _ (List.mem_of_getElem? (i := 0) rfl))) (g := (mkF m 9 #[.val (.int p1), .val (.int p2), .val (.int p3), .val (.long q4), .second, .val (.long q5), .second, .val (.int wm), .unset, .unset, .unset, .unset, .unset, .unset, .unset, .unset] [(.int p2)])) rfl (hb hby at_9) _ ?_
    show Steps p.tables e below (s₁.setTop (mkF m 11 #[.val (.int p1), .val (.int p2), .val (.int p3), .val (.long q4), .second, .val (.long q5), .second, .val (.int wm), .unset, .unset, .unset, .unset, .unset, .unset, .unset, .unset] [(.int (2147483647 : Int32)), (.int p2)])) _
    refine XS.iand X0.here hx rfl (hb hby at_11) rfl ?_
    show Steps p.tables e below (s₁.setTop (mkF m 12 #[.val (.int p1), .val (.int p2), .val (.int p3), .val (.long q4), .second, .val (.long q5), .second, .val (.int wm), .unset, .unset, .unset, .unset, .unset, .unset, .unset, .unset] [(.int (p2 &&& (2147483647 : Int32)))])) _
    refine XS.istore X0.here hx rfl (hb hby at_12) rfl (l' := #[.val (.int p1), .val (.int p2), .val (.int p3), .val (.long q4), .second, .val (.long q5), .second, .val (.int wm), .val (.int (p2 &&& (2147483647 : Int32))), .unset, .unset, .unset, .unset, .unset, .unset, .unset]) rfl ?_
    show Steps p.tables e below (s₁.setTop (mkF m 14 #[.val (.int p1), .val (.int p2), .val (.int p3), .val (.long q4), .second, .val (.long q5), .second, .val (.int wm), .val (.int (p2 &&& (2147483647 : Int32))), .unset, .unset, .unset, .unset, .unset, .unset, .unset] [])) _
    exact k
  obtain ⟨ii, e_ii⟩ : ∃ z, z = (p2 &&& (2147483647 : Int32)) := ⟨_, rfl⟩
  rw [← e_ii]
  refine own_go (B := s₁.setTop (mkF m 22 #[.val (.int p1), .val (.int p2), .val (.int p3), .val (.long q4), .second, .val (.long q5), .second, .val (.int wm), .val (.int ii), .val (.int ((p3 &&& (2147483647 : Int32)) % (3 : Int32))), .unset, .unset, .unset, .unset, .unset, .unset] [])) (fun t k => ?_) ?_
  · show Steps p.tables e below (s₁.setTop (mkF m 14 #[.val (.int p1), .val (.int p2), .val (.int p3), .val (.long q4), .second, .val (.long q5), .second, .val (.int wm), .val (.int ii), .unset, .unset, .unset, .unset, .unset, .unset, .unset] [])) _
    refine XS.iloadN X0.here hx rfl (hb hby at_14) rfl ?_
    show Steps p.tables e below (s₁.setTop (mkF m 15 #[.val (.int p1), .val (.int p2), .val (.int p3), .val (.long q4), .second, .val (.long q5), .second, .val (.int wm), .val (.int ii), .unset, .unset, .unset, .unset, .unset, .unset, .unset] [(.int p3)])) _
    refine X0.ldcInt hx hown (mvT hZ (hw _ (List.mem_of_getElem? (i := 0) rfl))) (g := (mkF m 15 #[.val (.int p1), .val (.int p2), .val (.int p3), .val (.long q4), .second, .val (.long q5), .second, .val (.int wm), .val (.int ii), .unset, .unset, .unset, .unset, .unset, .unset, .unset] [(.int p3)])) rfl (hb hby at_15) _ ?_
    show Steps p.tables e below (s₁.setTop (mkF m 17 #[.val (.int p1), .val (.int p2), .val (.int p3), .val (.long q4), .second, .val (.long q5), .second, .val (.int wm), .val (.int ii), .unset, .unset, .unset, .unset, .unset, .unset, .unset] [(.int (2147483647 : Int32)), (.int p3)])) _
    refine XS.iand X0.here hx rfl (hb hby at_17) rfl ?_
    show Steps p.tables e below (s₁.setTop (mkF m 18 #[.val (.int p1), .val (.int p2), .val (.int p3), .val (.long q4), .second, .val (.long q5), .second, .val (.int wm), .val (.int ii), .unset, .unset, .unset, .unset, .unset, .unset, .unset] [(.int (p3 &&& (2147483647 : Int32)))])) _
    refine XS.iconst X0.here hx rfl (hb hby at_18) ?_
    show Steps p.tables e below (s₁.setTop (mkF m 19 #[.val (.int p1), .val (.int p2), .val (.int p3), .val (.long q4), .second, .val (.long q5), .second, .val (.int wm), .val (.int ii), .unset, .unset, .unset, .unset, .unset, .unset, .unset] [(.int (3 : Int32)), (.int (p3 &&& (2147483647 : Int32)))])) _
    refine iremM X0 hx rfl (hb hby at_19) rfl (by decide) ?_
    show Steps p.tables e below (s₁.setTop (mkF m 20 #[.val (.int p1), .val (.int p2), .val (.int p3), .val (.long q4), .second, .val (.long q5), .second, .val (.int wm), .val (.int ii), .unset, .unset, .unset, .unset, .unset, .unset, .unset] [(.int ((p3 &&& (2147483647 : Int32)) % (3 : Int32)))])) _
    refine XS.istore X0.here hx rfl (hb hby at_20) rfl (l' := #[.val (.int p1), .val (.int p2), .val (.int p3), .val (.long q4), .second, .val (.long q5), .second, .val (.int wm), .val (.int ii), .val (.int ((p3 &&& (2147483647 : Int32)) % (3 : Int32))), .unset, .unset, .unset, .unset, .unset, .unset]) rfl ?_
    show Steps p.tables e below (s₁.setTop (mkF m 22 #[.val (.int p1), .val (.int p2), .val (.int p3), .val (.long q4), .second, .val (.long q5), .second, .val (.int wm), .val (.int ii), .val (.int ((p3 &&& (2147483647 : Int32)) % (3 : Int32))), .unset, .unset, .unset, .unset, .unset, .unset] [])) _
    exact k
  obtain ⟨kk, e_kk⟩ : ∃ z, z = ((p3 &&& (2147483647 : Int32)) % (3 : Int32)) := ⟨_, rfl⟩
  rw [← e_kk]
  have hkk : 0 ≤ kk.toInt ∧ kk.toInt ≤ 2 := by rw [e_kk]; exact own_m3 p3
  obtain ⟨T231, h231, X231, e231, E231, A231, D231, -, st231⟩ := newO X0 hx hZ hown (hw _ (List.mem_of_getElem? (i := 1) rfl)) (hw _ (List.mem_of_getElem? (i := 2) rfl)) (hw _ (List.mem_of_getElem? (i := 3) rfl)) e0 (g := (mkF m 22 #[.val (.int p1), .val (.int p2), .val (.int p3), .val (.long q4), .second, .val (.long q5), .second, .val (.int wm), .val (.int ii), .val (.int kk), .unset, .unset, .unset, .unset, .unset, .unset] [])) rfl (hb hby at_22) (by decide) (by decide)
  obtain ⟨b231, g231⟩ : ∃ z, z = h0.size := ⟨_, rfl⟩
  rw [← g231] at A231 D231 st231
  refine own_go st231 ?_
  have K231 : Keep h0 h231 [] := Keep.ext (Keep.refl h0 []) E231
  have F231_23 : Fld Z h231 b231 "java/util/AbstractList" "modCount" "I" (.int (0 : Int32)) := D231 (Or.inl (hw _ (List.mem_of_getElem? (i := 23) rfl))) (ty := .int) (by decide)
  have F231_26 : Fld Z h231 b231 "java/util/ArrayList" "elementData" "[Ljava/lang/Object;" .null := D231 (Or.inl (hw _ (List.mem_of_getElem? (i := 26) rfl))) (ty := (.array (.object "java/lang/Object"))) (by decide)
  have F231_57 : Fld Z h231 b231 "java/util/ArrayList" "size" "I" (.int (0 : Int32)) := D231 (Or.inl (hw _ (List.mem_of_getElem? (i := 57) rfl))) (ty := .int) (by decide)
  refine own_go (B := T231.setTop (mkF m 26 #[.val (.int p1), .val (.int p2), .val (.int p3), .val (.long q4), .second, .val (.long q5), .second, .val (.int wm), .val (.int ii), .val (.int kk), .unset, .unset, .unset, .unset, .unset, .unset] [(.ref b231), (.ref b231)])) (fun t k => ?_) ?_
  · show Steps p.tables e below (T231.setTop (mkF m 25 #[.val (.int p1), .val (.int p2), .val (.int p3), .val (.long q4), .second, .val (.long q5), .second, .val (.int wm), .val (.int ii), .val (.int kk), .unset, .unset, .unset, .unset, .unset, .unset] [(.ref b231)])) _
    refine XS.dup X231.here hx rfl (hb hby at_25) rfl rfl ?_
    show Steps p.tables e below (T231.setTop (mkF m 26 #[.val (.int p1), .val (.int p2), .val (.int p3), .val (.long q4), .second, .val (.long q5), .second, .val (.int wm), .val (.int ii), .val (.int kk), .unset, .unset, .unset, .unset, .unset, .unset] [(.ref b231), (.ref b231)])) _
    exact k
  have f233 : Sta Z h231 "java/util/ArrayList" "DEFAULTCAPACITY_EMPTY_ELEMENTDATA" "[Ljava/lang/Object;" (.ref w_DEFAULTCAPACITY_EMPTY_ELEMENTDATA) := (S_DEFAULTCAPACITY_EMPTY_ELEMENTDATA.ext E231)
  obtain ⟨_, _, ⟨T232, L232, k232, n232⟩, -, X232, ⟨Lc232, hQ232, l232, y232, z232⟩, st232⟩ := X231.specialBack hx (y := (⟨"java/util/ArrayList", "<init>", "()V"⟩ : MethodName)) rfl hown (mvT hZ (hw _ (List.mem_of_getElem? (i := 4) rfl))) (mvT hZ (hw _ (List.mem_of_getElem? (i := 5) rfl))) (mvT hZ (hw _ (List.mem_of_getElem? (i := 6) rfl))) (by decide) (backOf (W := 1) (rm1 l Z a0 hw [] b231 w_DEFAULTCAPACITY_EMPTY_ELEMENTDATA h231 n0 (Nat.le_trans Z0 E231.1) A231 F231_23 F231_26 F231_57 (Nat.le_trans Z0 (Nat.le_of_eq g231.symm)) f233) hZ (hw _ (List.mem_of_getElem? (i := 6) rfl)) (hw _ (List.mem_of_getElem? (i := 3) rfl)) (by decide) (by decide)) (g := (mkF m 26 #[.val (.int p1), .val (.int p2), .val (.int p3), .val (.long q4), .second, .val (.long q5), .second, .val (.int wm), .val (.int ii), .val (.int kk), .unset, .unset, .unset, .unset, .unset, .unset] [(.ref b231), (.ref b231)])) rfl (by rw [hml]; rfl) (Steps.refl _) (a := b231) (argsL := []) (rest := [(.ref b231)]) (lenOf pd_0 rfl) rfl (by show 2 * 0 + _ ≤ _; exact Nat.le_of_eq rfl) (hb hby at_26) (fun _ _ => ⟨rfl, e231, (by decide : 1 + 0 ≤ _), (by decide : 3 + 0 ≤ _)⟩)
  dsimp only [Pt.U, Pt.locs, Pt.cells, Pt.slots] at X232 l232 y232 z232 st232 hQ232
  subst l232 y232 z232
  obtain ⟨rfl, M232, q232_0, q232_1, q232_2, q232_3, q232_4⟩ := hQ232
  have N232 := Fr.app N0 M232
  have K232 : Keep h0 T232.heap [] := Keep.trans K231 q232_0 (allS (Or.inr (Nat.le_of_eq g231.symm)) all0)
  refine own_go (fun t k => st232.trans k) ?_
  refine own_go (B := T232.setTop (mkF m 33 #[.val (.int p1), .val (.int p2), .val (.int p3), .val (.long q4), .second, .val (.long q5), .second, .val (.int wm), .val (.int ii), .val (.int kk), .val (.ref b231), .unset, .unset, .unset, .unset, .unset] [(.ref b231)])) (fun t k => ?_) ?_
  · show Steps p.tables e below (T232.setTop (mkF m 29 #[.val (.int p1), .val (.int p2), .val (.int p3), .val (.long q4), .second, .val (.long q5), .second, .val (.int wm), .val (.int ii), .val (.int kk), .unset, .unset, .unset, .unset, .unset, .unset] [(.ref b231)])) _
    refine XS.astore X232.here hx rfl (hb hby at_29) rfl rfl (l' := #[.val (.int p1), .val (.int p2), .val (.int p3), .val (.long q4), .second, .val (.long q5), .second, .val (.int wm), .val (.int ii), .val (.int kk), .val (.ref b231), .unset, .unset, .unset, .unset, .unset]) rfl ?_
    show Steps p.tables e below (T232.setTop (mkF m 31 #[.val (.int p1), .val (.int p2), .val (.int p3), .val (.long q4), .second, .val (.long q5), .second, .val (.int wm), .val (.int ii), .val (.int kk), .val (.ref b231), .unset, .unset, .unset, .unset, .unset] [])) _
    refine XS.aload X232.here hx rfl (hb hby at_31) rfl rfl ?_
    show Steps p.tables e below (T232.setTop (mkF m 33 #[.val (.int p1), .val (.int p2), .val (.int p3), .val (.long q4), .second, .val (.long q5), .second, .val (.int wm), .val (.int ii), .val (.int kk), .val (.ref b231), .unset, .unset, .unset, .unset, .unset] [(.ref b231)])) _
    exact k
  obtain ⟨T234, h234, X234, e234, E234, A234, D234, -, st234⟩ := newO X232 hx hZ hown (hw _ (List.mem_of_getElem? (i := 27) rfl)) (hw _ (List.mem_of_getElem? (i := 28) rfl)) (hw _ (List.mem_of_getElem? (i := 29) rfl)) rfl (g := (mkF m 33 #[.val (.int p1), .val (.int p2), .val (.int p3), .val (.long q4), .second, .val (.long q5), .second, .val (.int wm), .val (.int ii), .val (.int kk), .val (.ref b231), .unset, .unset, .unset, .unset, .unset] [(.ref b231)])) rfl (hb hby at_33) (by decide) (by decide)
  obtain ⟨b234, g234⟩ : ∃ z, z = T232.heap.size := ⟨_, rfl⟩
  rw [← g234] at A234 D234 st234
  refine own_go st234 ?_
  have K234 : Keep h0 h234 [] := Keep.ext K232 E234
  have F234_40 : Fld Z h234 b234 "com/example/tiphys/tiphys/Release" "index" "I" (.int (0 : Int32)) := D234 (Or.inr (hw _ (List.mem_of_getElem? (i := 40) rfl))) (ty := .int) (by decide)
  have F234_42 : Fld Z h234 b234 "com/example/tiphys/tiphys/Release" "idealNs" "J" (.long (0 : Int64)) := D234 (Or.inr (hw _ (List.mem_of_getElem? (i := 42) rfl))) (ty := .long) (by decide)
  have F234_44 : Fld Z h234 b234 "com/example/tiphys/tiphys/Release" "startNs" "J" (.long (0 : Int64)) := D234 (Or.inr (hw _ (List.mem_of_getElem? (i := 44) rfl))) (ty := .long) (by decide)
  have F234_46 : Fld Z h234 b234 "com/example/tiphys/tiphys/Release" "endNs" "J" (.long (0 : Int64)) := D234 (Or.inr (hw _ (List.mem_of_getElem? (i := 46) rfl))) (ty := .long) (by decide)
  have F234_48 : Fld Z h234 b234 "com/example/tiphys/tiphys/Release" "allocatedBytes" "J" (.long (0 : Int64)) := D234 (Or.inr (hw _ (List.mem_of_getElem? (i := 48) rfl))) (ty := .long) (by decide)
  refine own_go (B := T234.setTop (mkF m 43 #[.val (.int p1), .val (.int p2), .val (.int p3), .val (.long q4), .second, .val (.long q5), .second, .val (.int wm), .val (.int ii), .val (.int kk), .val (.ref b231), .unset, .unset, .unset, .unset, .unset] [(.long q5), (.long q4), (.long q4), (.long q4), (.int (0 : Int32)), (.ref b234), (.ref b234), (.ref b231)])) (fun t k => ?_) ?_
  · show Steps p.tables e below (T234.setTop (mkF m 36 #[.val (.int p1), .val (.int p2), .val (.int p3), .val (.long q4), .second, .val (.long q5), .second, .val (.int wm), .val (.int ii), .val (.int kk), .val (.ref b231), .unset, .unset, .unset, .unset, .unset] [(.ref b234), (.ref b231)])) _
    refine XS.dup X234.here hx rfl (hb hby at_36) rfl rfl ?_
    show Steps p.tables e below (T234.setTop (mkF m 37 #[.val (.int p1), .val (.int p2), .val (.int p3), .val (.long q4), .second, .val (.long q5), .second, .val (.int wm), .val (.int ii), .val (.int kk), .val (.ref b231), .unset, .unset, .unset, .unset, .unset] [(.ref b234), (.ref b234), (.ref b231)])) _
    refine XS.iconst X234.here hx rfl (hb hby at_37) ?_
    show Steps p.tables e below (T234.setTop (mkF m 38 #[.val (.int p1), .val (.int p2), .val (.int p3), .val (.long q4), .second, .val (.long q5), .second, .val (.int wm), .val (.int ii), .val (.int kk), .val (.ref b231), .unset, .unset, .unset, .unset, .unset] [(.int (0 : Int32)), (.ref b234), (.ref b234), (.ref b231)])) _
    refine XS.lloadN X234.here hx rfl (hb hby at_38) rfl ?_
    show Steps p.tables e below (T234.setTop (mkF m 39 #[.val (.int p1), .val (.int p2), .val (.int p3), .val (.long q4), .second, .val (.long q5), .second, .val (.int wm), .val (.int ii), .val (.int kk), .val (.ref b231), .unset, .unset, .unset, .unset, .unset] [(.long q4), (.int (0 : Int32)), (.ref b234), (.ref b234), (.ref b231)])) _
    refine XS.lloadN X234.here hx rfl (hb hby at_39) rfl ?_
    show Steps p.tables e below (T234.setTop (mkF m 40 #[.val (.int p1), .val (.int p2), .val (.int p3), .val (.long q4), .second, .val (.long q5), .second, .val (.int wm), .val (.int ii), .val (.int kk), .val (.ref b231), .unset, .unset, .unset, .unset, .unset] [(.long q4), (.long q4), (.int (0 : Int32)), (.ref b234), (.ref b234), (.ref b231)])) _
    refine XS.lloadN X234.here hx rfl (hb hby at_40) rfl ?_
    show Steps p.tables e below (T234.setTop (mkF m 41 #[.val (.int p1), .val (.int p2), .val (.int p3), .val (.long q4), .second, .val (.long q5), .second, .val (.int wm), .val (.int ii), .val (.int kk), .val (.ref b231), .unset, .unset, .unset, .unset, .unset] [(.long q4), (.long q4), (.long q4), (.int (0 : Int32)), (.ref b234), (.ref b234), (.ref b231)])) _
    refine XS.lload X234.here hx rfl (hb hby at_41) rfl ?_
    show Steps p.tables e below (T234.setTop (mkF m 43 #[.val (.int p1), .val (.int p2), .val (.int p3), .val (.long q4), .second, .val (.long q5), .second, .val (.int wm), .val (.int ii), .val (.int kk), .val (.ref b231), .unset, .unset, .unset, .unset, .unset] [(.long q5), (.long q4), (.long q4), (.long q4), (.int (0 : Int32)), (.ref b234), (.ref b234), (.ref b231)])) _
    exact k
  have le236 : h0.size ≤ T232.heap.size := (Nat.le_trans E231.1 q232_0.1)
  have le237 : h0.size ≤ h234.size := (Nat.le_trans (Nat.le_trans E231.1 q232_0.1) E234.1)
  obtain ⟨_, _, ⟨T235, L235, k235, n235⟩, -, X235, ⟨Lc235, hQ235, l235, y235, z235⟩, st235⟩ := X234.specialBack hx (y := (⟨"com/example/tiphys/tiphys/Release", "<init>", "(IJJJJ)V"⟩ : MethodName)) rfl hown (mvT hZ (hw _ (List.mem_of_getElem? (i := 30) rfl))) (mvT hZ (hw _ (List.mem_of_getElem? (i := 31) rfl))) (mvT hZ (hw _ (List.mem_of_getElem? (i := 32) rfl))) (by decide) (backOf (W := 2) (rm5 l Z a0 hw [] b234 (0 : Int32) q4 q4 q4 q5 h234 n0 (Nat.le_trans Z0 le237) A234 F234_40 F234_42 F234_44 F234_46 F234_48 (Nat.le_trans (Nat.le_trans Z0 le236) (Nat.le_of_eq g234.symm))) hZ (hw _ (List.mem_of_getElem? (i := 32) rfl)) (hw _ (List.mem_of_getElem? (i := 29) rfl)) (by decide) (by decide)) (g := (mkF m 43 #[.val (.int p1), .val (.int p2), .val (.int p3), .val (.long q4), .second, .val (.long q5), .second, .val (.int wm), .val (.int ii), .val (.int kk), .val (.ref b231), .unset, .unset, .unset, .unset, .unset] [(.long q5), (.long q4), (.long q4), (.long q4), (.int (0 : Int32)), (.ref b234), (.ref b234), (.ref b231)])) rfl (by rw [hml]; rfl) (Steps.refl _) (a := b234) (argsL := [(.int (0 : Int32)), (.long q4), (.long q4), (.long q4), (.long q5)]) (rest := [(.ref b234), (.ref b231)]) (lenOf pd_11 rfl) rfl (by show 2 * 0 + _ ≤ _; exact Nat.le_of_eq rfl) (hb hby at_43) (fun _ _ => ⟨rfl, e234, (by decide : 2 + 0 ≤ _), (by decide : 8 + 0 ≤ _)⟩)
  dsimp only [Pt.U, Pt.locs, Pt.cells, Pt.slots] at X235 l235 y235 z235 st235 hQ235
  subst l235 y235 z235
  obtain ⟨rfl, M235, q235_0, q235_1, q235_2⟩ := hQ235
  have N235 := Fr.app N232 M235
  have K235 : Keep h0 T235.heap [] := Keep.trans K234 q235_0 (allS (Or.inr (Nat.le_trans le236 (Nat.le_of_eq g234.symm))) all0)
  refine own_go (fun t k => st235.trans k) ?_
  have f239 : Exa Z T235.heap b231 "java/util/ArrayList" := ((q232_1.ext E234).keep q235_0)
  have ne240 : b231 ≠ b234 := (Nat.ne_of_lt (Nat.lt_of_lt_of_le (Nat.lt_of_lt_of_le A231.lt q232_0.1) (Nat.le_of_eq g234.symm)))
  have f241 : Fld Z T235.heap b231 "java/util/AbstractList" "modCount" "I" (.int (0 : Int32)) := ((q232_2.ext E234).keep q235_0 (ninS ne240 nin0))
  have f242 : Fld Z T235.heap b231 "java/util/ArrayList" "elementData" "[Ljava/lang/Object;" (.ref w_DEFAULTCAPACITY_EMPTY_ELEMENTDATA) := ((q232_3.ext E234).keep q235_0 (ninS ne240 nin0))
  have f243 : Fld Z T235.heap b231 "java/util/ArrayList" "size" "I" (.int (0 : Int32)) := ((q232_4.ext E234).keep q235_0 (ninS ne240 nin0))
  have f244 : Sta Z T235.heap "java/util/ArrayList" "DEFAULTCAPACITY_EMPTY_ELEMENTDATA" "[Ljava/lang/Object;" (.ref w_DEFAULTCAPACITY_EMPTY_ELEMENTDATA) := (own_staKeep ((own_staKeep f233 q232_0 (own_nsS (own_nsE A231) own_ns0)).ext E234) q235_0 (own_nsS (own_nsE A234) own_ns0))
  have f245 : Exa Z T235.heap w_DEFAULTCAPACITY_EMPTY_ELEMENTDATA "[Ljava/lang/Object;" := ((((E_DEFAULTCAPACITY_EMPTY_ELEMENTDATA.ext E231).keep q232_0).ext E234).keep q235_0)
  have ne246 : w_DEFAULTCAPACITY_EMPTY_ELEMENTDATA ≠ b231 := (Nat.ne_of_lt (Nat.lt_of_lt_of_le E_DEFAULTCAPACITY_EMPTY_ELEMENTDATA.lt (Nat.le_of_eq g231.symm)))
  have ne247 : w_DEFAULTCAPACITY_EMPTY_ELEMENTDATA ≠ b234 := (Nat.ne_of_lt (Nat.lt_of_lt_of_le (Nat.lt_of_lt_of_le E_DEFAULTCAPACITY_EMPTY_ELEMENTDATA.lt le236) (Nat.le_of_eq g234.symm)))
  have f248 : Arv Z T235.heap w_DEFAULTCAPACITY_EMPTY_ELEMENTDATA k_DEFAULTCAPACITY_EMPTY_ELEMENTDATA (.object "java/lang/Object") (0 : Int32) [] .null := ((((V_DEFAULTCAPACITY_EMPTY_ELEMENTDATA.ext E231).keep q232_0 (ninS ne246 nin0)).ext E234).keep q235_0 (ninS ne247 nin0))
  have le249 : h0.size ≤ T235.heap.size := (Nat.le_trans (Nat.le_trans (Nat.le_trans E231.1 q232_0.1) E234.1) q235_0.1)
  obtain ⟨cq238, kq238, q238a, q238b, q238c⟩ := isOf hZ rfl f239
  obtain ⟨_, _, ⟨T238, L238, k238, n238⟩, -, X238, ⟨Lc238, hQ238, l238, y238, z238⟩, st238⟩ := X235.virtualBack hx (y := (⟨"java/util/ArrayList", "add", "(Ljava/lang/Object;)Z"⟩ : MethodName)) (z := (⟨"java/util/ArrayList", "add", "(Ljava/lang/Object;)Z"⟩ : MethodName)) hown (mvT hZ (hw _ (List.mem_of_getElem? (i := 49) rfl))) (mvT hZ (hw _ (List.mem_of_getElem? (i := 50) rfl))) (notFace_of_selects (args := #[]) (mvT hZ (hw _ (List.mem_of_getElem? (i := 52) rfl)))) (mvT hZ (hw _ (List.mem_of_getElem? (i := 52) rfl))) (mvT hZ (hw _ (List.mem_of_getElem? (i := 51) rfl))) (by decide) (backOf (W := 0) (rm7_0 l Z a0 hw [] b231 b234 w_DEFAULTCAPACITY_EMPTY_ELEMENTDATA k_DEFAULTCAPACITY_EMPTY_ELEMENTDATA T235.heap n0 (Nat.le_trans Z0 le249) f239 f241 f242 f243 f244 f245 f248 q235_1 (Nat.le_trans Z0 (Nat.le_of_eq g231.symm)) ne246 (Ne.symm ne240)) hZ (hw _ (List.mem_of_getElem? (i := 53) rfl)) (hw _ (List.mem_of_getElem? (i := 3) rfl)) (by decide) (by decide)) q238a q238c (g := (mkF m 46 #[.val (.int p1), .val (.int p2), .val (.int p3), .val (.long q4), .second, .val (.long q5), .second, .val (.int wm), .val (.int ii), .val (.int kk), .val (.ref b231), .unset, .unset, .unset, .unset, .unset] [(.ref b234), (.ref b231)])) rfl (by rw [hml]; rfl) (Steps.refl _) (argsL := [(.ref b234)]) (rest := []) (lenOf pd_12 rfl) rfl (by show 2 * 0 + _ ≤ _; exact Nat.le_of_eq rfl) (hb hby at_46) (fun _ _ => ⟨rfl, rfl, (by decide : 2 + 1 ≤ _), (by decide : 8 + 10 ≤ _)⟩)
  dsimp only [Pt.U, Pt.locs, Pt.cells, Pt.slots] at X238 l238 y238 z238 st238 hQ238
  subst l238 y238 z238
  obtain ⟨bn_238, kn_238, rfl, M238, q238_0, q238_1, q238_2, q238_3, q238_4, q238_5, q238_6, q238_7⟩ := hQ238
  have N238 := Fr.app N235 M238
  have K238 : Keep h0 T238.heap [] := Keep.trans K235 q238_0 (allS (Or.inr (Nat.le_of_eq g231.symm)) all0)
  refine own_go (fun t k => st238.trans k) ?_
  refine own_go (B := T238.setTop (mkF m 52 #[.val (.int p1), .val (.int p2), .val (.int p3), .val (.long q4), .second, .val (.long q5), .second, .val (.int wm), .val (.int ii), .val (.int kk), .val (.ref b231), .unset, .unset, .unset, .unset, .unset] [(.ref b231)])) (fun t k => ?_) ?_
  · show Steps p.tables e below (T238.setTop (mkF m 49 #[.val (.int p1), .val (.int p2), .val (.int p3), .val (.long q4), .second, .val (.long q5), .second, .val (.int wm), .val (.int ii), .val (.int kk), .val (.ref b231), .unset, .unset, .unset, .unset, .unset] [(.int (1 : Int32))])) _
    refine XS.pop X238.here hx rfl (hb hby at_49) rfl rfl ?_
    show Steps p.tables e below (T238.setTop (mkF m 50 #[.val (.int p1), .val (.int p2), .val (.int p3), .val (.long q4), .second, .val (.long q5), .second, .val (.int wm), .val (.int ii), .val (.int kk), .val (.ref b231), .unset, .unset, .unset, .unset, .unset] [])) _
    refine XS.aload X238.here hx rfl (hb hby at_50) rfl rfl ?_
    show Steps p.tables e below (T238.setTop (mkF m 52 #[.val (.int p1), .val (.int p2), .val (.int p3), .val (.long q4), .second, .val (.long q5), .second, .val (.int wm), .val (.int ii), .val (.int kk), .val (.ref b231), .unset, .unset, .unset, .unset, .unset] [(.ref b231)])) _
    exact k
  obtain ⟨T250, h250, X250, e250, E250, A250, D250, -, st250⟩ := newO X238 hx hZ hown (hw _ (List.mem_of_getElem? (i := 27) rfl)) (hw _ (List.mem_of_getElem? (i := 28) rfl)) (hw _ (List.mem_of_getElem? (i := 29) rfl)) rfl (g := (mkF m 52 #[.val (.int p1), .val (.int p2), .val (.int p3), .val (.long q4), .second, .val (.long q5), .second, .val (.int wm), .val (.int ii), .val (.int kk), .val (.ref b231), .unset, .unset, .unset, .unset, .unset] [(.ref b231)])) rfl (hb hby at_52) (by decide) (by decide)
  obtain ⟨b250, g250⟩ : ∃ z, z = T238.heap.size := ⟨_, rfl⟩
  rw [← g250] at A250 D250 st250
  refine own_go st250 ?_
  have K250 : Keep h0 h250 [] := Keep.ext K238 E250
  have F250_40 : Fld Z h250 b250 "com/example/tiphys/tiphys/Release" "index" "I" (.int (0 : Int32)) := D250 (Or.inr (hw _ (List.mem_of_getElem? (i := 40) rfl))) (ty := .int) (by decide)
  have F250_42 : Fld Z h250 b250 "com/example/tiphys/tiphys/Release" "idealNs" "J" (.long (0 : Int64)) := D250 (Or.inr (hw _ (List.mem_of_getElem? (i := 42) rfl))) (ty := .long) (by decide)
  have F250_44 : Fld Z h250 b250 "com/example/tiphys/tiphys/Release" "startNs" "J" (.long (0 : Int64)) := D250 (Or.inr (hw _ (List.mem_of_getElem? (i := 44) rfl))) (ty := .long) (by decide)
  have F250_46 : Fld Z h250 b250 "com/example/tiphys/tiphys/Release" "endNs" "J" (.long (0 : Int64)) := D250 (Or.inr (hw _ (List.mem_of_getElem? (i := 46) rfl))) (ty := .long) (by decide)
  have F250_48 : Fld Z h250 b250 "com/example/tiphys/tiphys/Release" "allocatedBytes" "J" (.long (0 : Int64)) := D250 (Or.inr (hw _ (List.mem_of_getElem? (i := 48) rfl))) (ty := .long) (by decide)
  refine own_go (B := T250.setTop (mkF m 62 #[.val (.int p1), .val (.int p2), .val (.int p3), .val (.long q4), .second, .val (.long q5), .second, .val (.int wm), .val (.int ii), .val (.int kk), .val (.ref b231), .unset, .unset, .unset, .unset, .unset] [(.long q5), (.long q4), (.long q4), (.long q4), (.int (1 : Int32)), (.ref b250), (.ref b250), (.ref b231)])) (fun t k => ?_) ?_
  · show Steps p.tables e below (T250.setTop (mkF m 55 #[.val (.int p1), .val (.int p2), .val (.int p3), .val (.long q4), .second, .val (.long q5), .second, .val (.int wm), .val (.int ii), .val (.int kk), .val (.ref b231), .unset, .unset, .unset, .unset, .unset] [(.ref b250), (.ref b231)])) _
    refine XS.dup X250.here hx rfl (hb hby at_55) rfl rfl ?_
    show Steps p.tables e below (T250.setTop (mkF m 56 #[.val (.int p1), .val (.int p2), .val (.int p3), .val (.long q4), .second, .val (.long q5), .second, .val (.int wm), .val (.int ii), .val (.int kk), .val (.ref b231), .unset, .unset, .unset, .unset, .unset] [(.ref b250), (.ref b250), (.ref b231)])) _
    refine XS.iconst X250.here hx rfl (hb hby at_56) ?_
    show Steps p.tables e below (T250.setTop (mkF m 57 #[.val (.int p1), .val (.int p2), .val (.int p3), .val (.long q4), .second, .val (.long q5), .second, .val (.int wm), .val (.int ii), .val (.int kk), .val (.ref b231), .unset, .unset, .unset, .unset, .unset] [(.int (1 : Int32)), (.ref b250), (.ref b250), (.ref b231)])) _
    refine XS.lloadN X250.here hx rfl (hb hby at_57) rfl ?_
    show Steps p.tables e below (T250.setTop (mkF m 58 #[.val (.int p1), .val (.int p2), .val (.int p3), .val (.long q4), .second, .val (.long q5), .second, .val (.int wm), .val (.int ii), .val (.int kk), .val (.ref b231), .unset, .unset, .unset, .unset, .unset] [(.long q4), (.int (1 : Int32)), (.ref b250), (.ref b250), (.ref b231)])) _
    refine XS.lloadN X250.here hx rfl (hb hby at_58) rfl ?_
    show Steps p.tables e below (T250.setTop (mkF m 59 #[.val (.int p1), .val (.int p2), .val (.int p3), .val (.long q4), .second, .val (.long q5), .second, .val (.int wm), .val (.int ii), .val (.int kk), .val (.ref b231), .unset, .unset, .unset, .unset, .unset] [(.long q4), (.long q4), (.int (1 : Int32)), (.ref b250), (.ref b250), (.ref b231)])) _
    refine XS.lloadN X250.here hx rfl (hb hby at_59) rfl ?_
    show Steps p.tables e below (T250.setTop (mkF m 60 #[.val (.int p1), .val (.int p2), .val (.int p3), .val (.long q4), .second, .val (.long q5), .second, .val (.int wm), .val (.int ii), .val (.int kk), .val (.ref b231), .unset, .unset, .unset, .unset, .unset] [(.long q4), (.long q4), (.long q4), (.int (1 : Int32)), (.ref b250), (.ref b250), (.ref b231)])) _
    refine XS.lload X250.here hx rfl (hb hby at_60) rfl ?_
    show Steps p.tables e below (T250.setTop (mkF m 62 #[.val (.int p1), .val (.int p2), .val (.int p3), .val (.long q4), .second, .val (.long q5), .second, .val (.int wm), .val (.int ii), .val (.int kk), .val (.ref b231), .unset, .unset, .unset, .unset, .unset] [(.long q5), (.long q4), (.long q4), (.long q4), (.int (1 : Int32)), (.ref b250), (.ref b250), (.ref b231)])) _
    exact k
  have le252 : h0.size ≤ T238.heap.size := (Nat.le_trans (Nat.le_trans (Nat.le_trans (Nat.le_trans E231.1 q232_0.1) E234.1) q235_0.1) q238_0.1)
  have le253 : h0.size ≤ h250.size := (Nat.le_trans (Nat.le_trans (Nat.le_trans (Nat.le_trans (Nat.le_trans E231.1 q232_0.1) E234.1) q235_0.1) q238_0.1) E250.1)
  obtain ⟨_, _, ⟨T251, L251, k251, n251⟩, -, X251, ⟨Lc251, hQ251, l251, y251, z251⟩, st251⟩ := X250.specialBack hx (y := (⟨"com/example/tiphys/tiphys/Release", "<init>", "(IJJJJ)V"⟩ : MethodName)) rfl hown (mvT hZ (hw _ (List.mem_of_getElem? (i := 30) rfl))) (mvT hZ (hw _ (List.mem_of_getElem? (i := 31) rfl))) (mvT hZ (hw _ (List.mem_of_getElem? (i := 32) rfl))) (by decide) (backOf (W := 2) (rm5 l Z a0 hw [] b250 (1 : Int32) q4 q4 q4 q5 h250 n0 (Nat.le_trans Z0 le253) A250 F250_40 F250_42 F250_44 F250_46 F250_48 (Nat.le_trans (Nat.le_trans Z0 le252) (Nat.le_of_eq g250.symm))) hZ (hw _ (List.mem_of_getElem? (i := 32) rfl)) (hw _ (List.mem_of_getElem? (i := 29) rfl)) (by decide) (by decide)) (g := (mkF m 62 #[.val (.int p1), .val (.int p2), .val (.int p3), .val (.long q4), .second, .val (.long q5), .second, .val (.int wm), .val (.int ii), .val (.int kk), .val (.ref b231), .unset, .unset, .unset, .unset, .unset] [(.long q5), (.long q4), (.long q4), (.long q4), (.int (1 : Int32)), (.ref b250), (.ref b250), (.ref b231)])) rfl (by rw [hml]; rfl) (Steps.refl _) (a := b250) (argsL := [(.int (1 : Int32)), (.long q4), (.long q4), (.long q4), (.long q5)]) (rest := [(.ref b250), (.ref b231)]) (lenOf pd_11 rfl) rfl (by show 2 * 0 + _ ≤ _; exact Nat.le_of_eq rfl) (hb hby at_62) (fun _ _ => ⟨rfl, e250, (by decide : 4 + 0 ≤ _), (by decide : 23 + 0 ≤ _)⟩)
  dsimp only [Pt.U, Pt.locs, Pt.cells, Pt.slots] at X251 l251 y251 z251 st251 hQ251
  subst l251 y251 z251
  obtain ⟨rfl, M251, q251_0, q251_1, q251_2⟩ := hQ251
  have N251 := Fr.app N238 M251
  have K251 : Keep h0 T251.heap [] := Keep.trans K250 q251_0 (allS (Or.inr (Nat.le_trans le252 (Nat.le_of_eq g250.symm))) all0)
  refine own_go (fun t k => st251.trans k) ?_
  have f255 : Exa Z T251.heap b231 "java/util/ArrayList" := ((q238_4.ext E250).keep q251_0)
  have le256 : h231.size ≤ T238.heap.size := (Nat.le_trans (Nat.le_trans (Nat.le_trans q232_0.1 E234.1) q235_0.1) q238_0.1)
  have ne257 : b231 ≠ b250 := (Nat.ne_of_lt (Nat.lt_of_lt_of_le (Nat.lt_of_lt_of_le A231.lt le256) (Nat.le_of_eq g250.symm)))
  have f258 : Fld Z T251.heap b231 "java/util/AbstractList" "modCount" "I" (.int (1 : Int32)) := ((q238_5.ext E250).keep q251_0 (ninS ne257 nin0))
  have f259 : Fld Z T251.heap b231 "java/util/ArrayList" "elementData" "[Ljava/lang/Object;" (.ref bn_238) := ((q238_6.ext E250).keep q251_0 (ninS ne257 nin0))
  have f260 : Fld Z T251.heap b231 "java/util/ArrayList" "size" "I" (.int (1 : Int32)) := ((q238_7.ext E250).keep q251_0 (ninS ne257 nin0))
  have ne261 : bn_238 ≠ b250 := (Nat.ne_of_lt (Nat.lt_of_lt_of_le q238_2.lt (Nat.le_of_eq g250.symm)))
  have f262 : Arv Z T251.heap bn_238 kn_238 (.object "java/lang/Object") (10 : Int32) [(.ref b234), .null, .null, .null, .null, .null, .null, .null, .null, .null] .null := ((q238_2.ext E250).keep q251_0 (ninS ne261 nin0))
  have le263 : h231.size ≤ T235.heap.size := (Nat.le_trans (Nat.le_trans q232_0.1 E234.1) q235_0.1)
  have ne264 : b231 ≠ bn_238 := (Nat.ne_of_lt (Nat.lt_of_lt_of_le (Nat.lt_of_lt_of_le A231.lt le263) q238_1))
  have le265 : h0.size ≤ T251.heap.size := (Nat.le_trans (Nat.le_trans (Nat.le_trans (Nat.le_trans (Nat.le_trans (Nat.le_trans E231.1 q232_0.1) E234.1) q235_0.1) q238_0.1) E250.1) q251_0.1)
  obtain ⟨cq254, kq254, q254a, q254b, q254c⟩ := isOf hZ rfl f255
  obtain ⟨_, _, ⟨T254, L254, k254, n254⟩, -, X254, ⟨Lc254, hQ254, l254, y254, z254⟩, st254⟩ := X251.virtualBack hx (y := (⟨"java/util/ArrayList", "add", "(Ljava/lang/Object;)Z"⟩ : MethodName)) (z := (⟨"java/util/ArrayList", "add", "(Ljava/lang/Object;)Z"⟩ : MethodName)) hown (mvT hZ (hw _ (List.mem_of_getElem? (i := 49) rfl))) (mvT hZ (hw _ (List.mem_of_getElem? (i := 50) rfl))) (notFace_of_selects (args := #[]) (mvT hZ (hw _ (List.mem_of_getElem? (i := 52) rfl)))) (mvT hZ (hw _ (List.mem_of_getElem? (i := 52) rfl))) (mvT hZ (hw _ (List.mem_of_getElem? (i := 51) rfl))) (by decide) (backOf (W := 0) (rm7_1 l Z a0 hw [] b231 b250 bn_238 kn_238 b234 T251.heap n0 (Nat.le_trans Z0 le265) f255 f258 f259 f260 f262 (q238_3) (Nat.le_trans (Nat.le_trans Z0 le249) q238_1) ne264 q251_1 (Nat.le_trans Z0 (Nat.le_of_eq g231.symm)) (Ne.symm ne257)) hZ (hw _ (List.mem_of_getElem? (i := 53) rfl)) (hw _ (List.mem_of_getElem? (i := 3) rfl)) (by decide) (by decide)) q254a q254c (g := (mkF m 65 #[.val (.int p1), .val (.int p2), .val (.int p3), .val (.long q4), .second, .val (.long q5), .second, .val (.int wm), .val (.int ii), .val (.int kk), .val (.ref b231), .unset, .unset, .unset, .unset, .unset] [(.ref b250), (.ref b231)])) rfl (by rw [hml]; rfl) (Steps.refl _) (argsL := [(.ref b250)]) (rest := []) (lenOf pd_12 rfl) rfl (by show 2 * 0 + _ ≤ _; exact Nat.le_of_eq rfl) (hb hby at_65) (fun _ _ => ⟨rfl, rfl, (by decide : 4 + 0 ≤ _), (by decide : 23 + 0 ≤ _)⟩)
  dsimp only [Pt.U, Pt.locs, Pt.cells, Pt.slots] at X254 l254 y254 z254 st254 hQ254
  subst l254 y254 z254
  obtain ⟨rfl, M254, q254_0, q254_1, q254_2, q254_3, q254_4, q254_5, q254_6⟩ := hQ254
  have N254 := Fr.app N251 M254
  have K254 : Keep h0 T254.heap [] := Keep.trans K251 q254_0 (allS (Or.inr (Nat.le_of_eq g231.symm)) (allS (Or.inr (Nat.le_trans le249 q238_1)) all0))
  refine own_go (fun t k => st254.trans k) ?_
  refine own_go (B := T254.setTop (mkF m 71 #[.val (.int p1), .val (.int p2), .val (.int p3), .val (.long q4), .second, .val (.long q5), .second, .val (.int wm), .val (.int ii), .val (.int kk), .val (.ref b231), .unset, .unset, .unset, .unset, .unset] [(.ref b231)])) (fun t k => ?_) ?_
  · show Steps p.tables e below (T254.setTop (mkF m 68 #[.val (.int p1), .val (.int p2), .val (.int p3), .val (.long q4), .second, .val (.long q5), .second, .val (.int wm), .val (.int ii), .val (.int kk), .val (.ref b231), .unset, .unset, .unset, .unset, .unset] [(.int (1 : Int32))])) _
    refine XS.pop X254.here hx rfl (hb hby at_68) rfl rfl ?_
    show Steps p.tables e below (T254.setTop (mkF m 69 #[.val (.int p1), .val (.int p2), .val (.int p3), .val (.long q4), .second, .val (.long q5), .second, .val (.int wm), .val (.int ii), .val (.int kk), .val (.ref b231), .unset, .unset, .unset, .unset, .unset] [])) _
    refine XS.aload X254.here hx rfl (hb hby at_69) rfl rfl ?_
    show Steps p.tables e below (T254.setTop (mkF m 71 #[.val (.int p1), .val (.int p2), .val (.int p3), .val (.long q4), .second, .val (.long q5), .second, .val (.int wm), .val (.int ii), .val (.int kk), .val (.ref b231), .unset, .unset, .unset, .unset, .unset] [(.ref b231)])) _
    exact k
  obtain ⟨T266, h266, X266, e266, E266, A266, D266, -, st266⟩ := newO X254 hx hZ hown (hw _ (List.mem_of_getElem? (i := 27) rfl)) (hw _ (List.mem_of_getElem? (i := 28) rfl)) (hw _ (List.mem_of_getElem? (i := 29) rfl)) rfl (g := (mkF m 71 #[.val (.int p1), .val (.int p2), .val (.int p3), .val (.long q4), .second, .val (.long q5), .second, .val (.int wm), .val (.int ii), .val (.int kk), .val (.ref b231), .unset, .unset, .unset, .unset, .unset] [(.ref b231)])) rfl (hb hby at_71) (by decide) (by decide)
  obtain ⟨b266, g266⟩ : ∃ z, z = T254.heap.size := ⟨_, rfl⟩
  rw [← g266] at A266 D266 st266
  refine own_go st266 ?_
  have K266 : Keep h0 h266 [] := Keep.ext K254 E266
  have F266_40 : Fld Z h266 b266 "com/example/tiphys/tiphys/Release" "index" "I" (.int (0 : Int32)) := D266 (Or.inr (hw _ (List.mem_of_getElem? (i := 40) rfl))) (ty := .int) (by decide)
  have F266_42 : Fld Z h266 b266 "com/example/tiphys/tiphys/Release" "idealNs" "J" (.long (0 : Int64)) := D266 (Or.inr (hw _ (List.mem_of_getElem? (i := 42) rfl))) (ty := .long) (by decide)
  have F266_44 : Fld Z h266 b266 "com/example/tiphys/tiphys/Release" "startNs" "J" (.long (0 : Int64)) := D266 (Or.inr (hw _ (List.mem_of_getElem? (i := 44) rfl))) (ty := .long) (by decide)
  have F266_46 : Fld Z h266 b266 "com/example/tiphys/tiphys/Release" "endNs" "J" (.long (0 : Int64)) := D266 (Or.inr (hw _ (List.mem_of_getElem? (i := 46) rfl))) (ty := .long) (by decide)
  have F266_48 : Fld Z h266 b266 "com/example/tiphys/tiphys/Release" "allocatedBytes" "J" (.long (0 : Int64)) := D266 (Or.inr (hw _ (List.mem_of_getElem? (i := 48) rfl))) (ty := .long) (by decide)
  refine own_go (B := T266.setTop (mkF m 81 #[.val (.int p1), .val (.int p2), .val (.int p3), .val (.long q4), .second, .val (.long q5), .second, .val (.int wm), .val (.int ii), .val (.int kk), .val (.ref b231), .unset, .unset, .unset, .unset, .unset] [(.long q5), (.long q4), (.long q4), (.long q4), (.int (2 : Int32)), (.ref b266), (.ref b266), (.ref b231)])) (fun t k => ?_) ?_
  · show Steps p.tables e below (T266.setTop (mkF m 74 #[.val (.int p1), .val (.int p2), .val (.int p3), .val (.long q4), .second, .val (.long q5), .second, .val (.int wm), .val (.int ii), .val (.int kk), .val (.ref b231), .unset, .unset, .unset, .unset, .unset] [(.ref b266), (.ref b231)])) _
    refine XS.dup X266.here hx rfl (hb hby at_74) rfl rfl ?_
    show Steps p.tables e below (T266.setTop (mkF m 75 #[.val (.int p1), .val (.int p2), .val (.int p3), .val (.long q4), .second, .val (.long q5), .second, .val (.int wm), .val (.int ii), .val (.int kk), .val (.ref b231), .unset, .unset, .unset, .unset, .unset] [(.ref b266), (.ref b266), (.ref b231)])) _
    refine XS.iconst X266.here hx rfl (hb hby at_75) ?_
    show Steps p.tables e below (T266.setTop (mkF m 76 #[.val (.int p1), .val (.int p2), .val (.int p3), .val (.long q4), .second, .val (.long q5), .second, .val (.int wm), .val (.int ii), .val (.int kk), .val (.ref b231), .unset, .unset, .unset, .unset, .unset] [(.int (2 : Int32)), (.ref b266), (.ref b266), (.ref b231)])) _
    refine XS.lloadN X266.here hx rfl (hb hby at_76) rfl ?_
    show Steps p.tables e below (T266.setTop (mkF m 77 #[.val (.int p1), .val (.int p2), .val (.int p3), .val (.long q4), .second, .val (.long q5), .second, .val (.int wm), .val (.int ii), .val (.int kk), .val (.ref b231), .unset, .unset, .unset, .unset, .unset] [(.long q4), (.int (2 : Int32)), (.ref b266), (.ref b266), (.ref b231)])) _
    refine XS.lloadN X266.here hx rfl (hb hby at_77) rfl ?_
    show Steps p.tables e below (T266.setTop (mkF m 78 #[.val (.int p1), .val (.int p2), .val (.int p3), .val (.long q4), .second, .val (.long q5), .second, .val (.int wm), .val (.int ii), .val (.int kk), .val (.ref b231), .unset, .unset, .unset, .unset, .unset] [(.long q4), (.long q4), (.int (2 : Int32)), (.ref b266), (.ref b266), (.ref b231)])) _
    refine XS.lloadN X266.here hx rfl (hb hby at_78) rfl ?_
    show Steps p.tables e below (T266.setTop (mkF m 79 #[.val (.int p1), .val (.int p2), .val (.int p3), .val (.long q4), .second, .val (.long q5), .second, .val (.int wm), .val (.int ii), .val (.int kk), .val (.ref b231), .unset, .unset, .unset, .unset, .unset] [(.long q4), (.long q4), (.long q4), (.int (2 : Int32)), (.ref b266), (.ref b266), (.ref b231)])) _
    refine XS.lload X266.here hx rfl (hb hby at_79) rfl ?_
    show Steps p.tables e below (T266.setTop (mkF m 81 #[.val (.int p1), .val (.int p2), .val (.int p3), .val (.long q4), .second, .val (.long q5), .second, .val (.int wm), .val (.int ii), .val (.int kk), .val (.ref b231), .unset, .unset, .unset, .unset, .unset] [(.long q5), (.long q4), (.long q4), (.long q4), (.int (2 : Int32)), (.ref b266), (.ref b266), (.ref b231)])) _
    exact k
  have le268 : h0.size ≤ T254.heap.size := (Nat.le_trans (Nat.le_trans (Nat.le_trans (Nat.le_trans (Nat.le_trans (Nat.le_trans (Nat.le_trans E231.1 q232_0.1) E234.1) q235_0.1) q238_0.1) E250.1) q251_0.1) q254_0.1)
  have le269 : h0.size ≤ h266.size := (Nat.le_trans (Nat.le_trans (Nat.le_trans (Nat.le_trans (Nat.le_trans (Nat.le_trans (Nat.le_trans (Nat.le_trans E231.1 q232_0.1) E234.1) q235_0.1) q238_0.1) E250.1) q251_0.1) q254_0.1) E266.1)
  obtain ⟨_, _, ⟨T267, L267, k267, n267⟩, -, X267, ⟨Lc267, hQ267, l267, y267, z267⟩, st267⟩ := X266.specialBack hx (y := (⟨"com/example/tiphys/tiphys/Release", "<init>", "(IJJJJ)V"⟩ : MethodName)) rfl hown (mvT hZ (hw _ (List.mem_of_getElem? (i := 30) rfl))) (mvT hZ (hw _ (List.mem_of_getElem? (i := 31) rfl))) (mvT hZ (hw _ (List.mem_of_getElem? (i := 32) rfl))) (by decide) (backOf (W := 2) (rm5 l Z a0 hw [] b266 (2 : Int32) q4 q4 q4 q5 h266 n0 (Nat.le_trans Z0 le269) A266 F266_40 F266_42 F266_44 F266_46 F266_48 (Nat.le_trans (Nat.le_trans Z0 le268) (Nat.le_of_eq g266.symm))) hZ (hw _ (List.mem_of_getElem? (i := 32) rfl)) (hw _ (List.mem_of_getElem? (i := 29) rfl)) (by decide) (by decide)) (g := (mkF m 81 #[.val (.int p1), .val (.int p2), .val (.int p3), .val (.long q4), .second, .val (.long q5), .second, .val (.int wm), .val (.int ii), .val (.int kk), .val (.ref b231), .unset, .unset, .unset, .unset, .unset] [(.long q5), (.long q4), (.long q4), (.long q4), (.int (2 : Int32)), (.ref b266), (.ref b266), (.ref b231)])) rfl (by rw [hml]; rfl) (Steps.refl _) (a := b266) (argsL := [(.int (2 : Int32)), (.long q4), (.long q4), (.long q4), (.long q5)]) (rest := [(.ref b266), (.ref b231)]) (lenOf pd_11 rfl) rfl (by show 2 * 0 + _ ≤ _; exact Nat.le_of_eq rfl) (hb hby at_81) (fun _ _ => ⟨rfl, e266, (by decide : 5 + 0 ≤ _), (by decide : 28 + 0 ≤ _)⟩)
  dsimp only [Pt.U, Pt.locs, Pt.cells, Pt.slots] at X267 l267 y267 z267 st267 hQ267
  subst l267 y267 z267
  obtain ⟨rfl, M267, q267_0, q267_1, q267_2⟩ := hQ267
  have N267 := Fr.app N254 M267
  have K267 : Keep h0 T267.heap [] := Keep.trans K266 q267_0 (allS (Or.inr (Nat.le_trans le268 (Nat.le_of_eq g266.symm))) all0)
  refine own_go (fun t k => st267.trans k) ?_
  have f271 : Exa Z T267.heap b231 "java/util/ArrayList" := ((q254_3.ext E266).keep q267_0)
  have le272 : h231.size ≤ T254.heap.size := (Nat.le_trans (Nat.le_trans (Nat.le_trans (Nat.le_trans (Nat.le_trans (Nat.le_trans q232_0.1 E234.1) q235_0.1) q238_0.1) E250.1) q251_0.1) q254_0.1)
  have ne273 : b231 ≠ b266 := (Nat.ne_of_lt (Nat.lt_of_lt_of_le (Nat.lt_of_lt_of_le A231.lt le272) (Nat.le_of_eq g266.symm)))
  have f274 : Fld Z T267.heap b231 "java/util/AbstractList" "modCount" "I" (.int (2 : Int32)) := ((q254_4.ext E266).keep q267_0 (ninS ne273 nin0))
  have f275 : Fld Z T267.heap b231 "java/util/ArrayList" "elementData" "[Ljava/lang/Object;" (.ref bn_238) := ((q254_5.ext E266).keep q267_0 (ninS ne273 nin0))
  have f276 : Fld Z T267.heap b231 "java/util/ArrayList" "size" "I" (.int (2 : Int32)) := ((q254_6.ext E266).keep q267_0 (ninS ne273 nin0))
  have ne277 : bn_238 ≠ b266 := (Nat.ne_of_lt (Nat.lt_of_lt_of_le q254_1.lt (Nat.le_of_eq g266.symm)))
  have f278 : Arv Z T267.heap bn_238 kn_238 (.object "java/lang/Object") (10 : Int32) [(.ref b234), (.ref b250), .null, .null, .null, .null, .null, .null, .null, .null] .null := ((q254_1.ext E266).keep q267_0 (ninS ne277 nin0))
  have le279 : h0.size ≤ T267.heap.size := (Nat.le_trans (Nat.le_trans (Nat.le_trans (Nat.le_trans (Nat.le_trans (Nat.le_trans (Nat.le_trans (Nat.le_trans (Nat.le_trans E231.1 q232_0.1) E234.1) q235_0.1) q238_0.1) E250.1) q251_0.1) q254_0.1) E266.1) q267_0.1)
  obtain ⟨cq270, kq270, q270a, q270b, q270c⟩ := isOf hZ rfl f271
  obtain ⟨_, _, ⟨T270, L270, k270, n270⟩, -, X270, ⟨Lc270, hQ270, l270, y270, z270⟩, st270⟩ := X267.virtualBack hx (y := (⟨"java/util/ArrayList", "add", "(Ljava/lang/Object;)Z"⟩ : MethodName)) (z := (⟨"java/util/ArrayList", "add", "(Ljava/lang/Object;)Z"⟩ : MethodName)) hown (mvT hZ (hw _ (List.mem_of_getElem? (i := 49) rfl))) (mvT hZ (hw _ (List.mem_of_getElem? (i := 50) rfl))) (notFace_of_selects (args := #[]) (mvT hZ (hw _ (List.mem_of_getElem? (i := 52) rfl)))) (mvT hZ (hw _ (List.mem_of_getElem? (i := 52) rfl))) (mvT hZ (hw _ (List.mem_of_getElem? (i := 51) rfl))) (by decide) (backOf (W := 0) (rm7_2 l Z a0 hw [] b231 b266 bn_238 kn_238 b234 b250 T267.heap n0 (Nat.le_trans Z0 le279) f271 f274 f275 f276 f278 (q254_2) (Nat.le_trans (Nat.le_trans Z0 le249) q238_1) ne264 q267_1 (Nat.le_trans Z0 (Nat.le_of_eq g231.symm)) (Ne.symm ne273)) hZ (hw _ (List.mem_of_getElem? (i := 53) rfl)) (hw _ (List.mem_of_getElem? (i := 3) rfl)) (by decide) (by decide)) q270a q270c (g := (mkF m 84 #[.val (.int p1), .val (.int p2), .val (.int p3), .val (.long q4), .second, .val (.long q5), .second, .val (.int wm), .val (.int ii), .val (.int kk), .val (.ref b231), .unset, .unset, .unset, .unset, .unset] [(.ref b266), (.ref b231)])) rfl (by rw [hml]; rfl) (Steps.refl _) (argsL := [(.ref b266)]) (rest := []) (lenOf pd_12 rfl) rfl (by show 2 * 0 + _ ≤ _; exact Nat.le_of_eq rfl) (hb hby at_84) (fun _ _ => ⟨rfl, rfl, (by decide : 5 + 0 ≤ _), (by decide : 28 + 0 ≤ _)⟩)
  dsimp only [Pt.U, Pt.locs, Pt.cells, Pt.slots] at X270 l270 y270 z270 st270 hQ270
  subst l270 y270 z270
  obtain ⟨rfl, M270, q270_0, q270_1, q270_2, q270_3, q270_4, q270_5, q270_6⟩ := hQ270
  have N270 := Fr.app N267 M270
  have K270 : Keep h0 T270.heap [] := Keep.trans K267 q270_0 (allS (Or.inr (Nat.le_of_eq g231.symm)) (allS (Or.inr (Nat.le_trans le249 q238_1)) all0))
  refine own_go (fun t k => st270.trans k) ?_
  refine own_go (B := T270.setTop (mkF m 88 #[.val (.int p1), .val (.int p2), .val (.int p3), .val (.long q4), .second, .val (.long q5), .second, .val (.int wm), .val (.int ii), .val (.int kk), .val (.ref b231), .unset, .unset, .unset, .unset, .unset] [])) (fun t k => ?_) ?_
  · show Steps p.tables e below (T270.setTop (mkF m 87 #[.val (.int p1), .val (.int p2), .val (.int p3), .val (.long q4), .second, .val (.long q5), .second, .val (.int wm), .val (.int ii), .val (.int kk), .val (.ref b231), .unset, .unset, .unset, .unset, .unset] [(.int (1 : Int32))])) _
    refine XS.pop X270.here hx rfl (hb hby at_87) rfl rfl ?_
    show Steps p.tables e below (T270.setTop (mkF m 88 #[.val (.int p1), .val (.int p2), .val (.int p3), .val (.long q4), .second, .val (.long q5), .second, .val (.int wm), .val (.int ii), .val (.int kk), .val (.ref b231), .unset, .unset, .unset, .unset, .unset] [])) _
    exact k
  obtain ⟨T280, h280, X280, e280, E280, A280, D280, -, st280⟩ := newO X270 hx hZ hown (hw _ (List.mem_of_getElem? (i := 27) rfl)) (hw _ (List.mem_of_getElem? (i := 28) rfl)) (hw _ (List.mem_of_getElem? (i := 29) rfl)) rfl (g := (mkF m 88 #[.val (.int p1), .val (.int p2), .val (.int p3), .val (.long q4), .second, .val (.long q5), .second, .val (.int wm), .val (.int ii), .val (.int kk), .val (.ref b231), .unset, .unset, .unset, .unset, .unset] [])) rfl (hb hby at_88) (by decide) (by decide)
  obtain ⟨b280, g280⟩ : ∃ z, z = T270.heap.size := ⟨_, rfl⟩
  rw [← g280] at A280 D280 st280
  refine own_go st280 ?_
  have K280 : Keep h0 h280 [] := Keep.ext K270 E280
  have F280_40 : Fld Z h280 b280 "com/example/tiphys/tiphys/Release" "index" "I" (.int (0 : Int32)) := D280 (Or.inr (hw _ (List.mem_of_getElem? (i := 40) rfl))) (ty := .int) (by decide)
  have F280_42 : Fld Z h280 b280 "com/example/tiphys/tiphys/Release" "idealNs" "J" (.long (0 : Int64)) := D280 (Or.inr (hw _ (List.mem_of_getElem? (i := 42) rfl))) (ty := .long) (by decide)
  have F280_44 : Fld Z h280 b280 "com/example/tiphys/tiphys/Release" "startNs" "J" (.long (0 : Int64)) := D280 (Or.inr (hw _ (List.mem_of_getElem? (i := 44) rfl))) (ty := .long) (by decide)
  have F280_46 : Fld Z h280 b280 "com/example/tiphys/tiphys/Release" "endNs" "J" (.long (0 : Int64)) := D280 (Or.inr (hw _ (List.mem_of_getElem? (i := 46) rfl))) (ty := .long) (by decide)
  have F280_48 : Fld Z h280 b280 "com/example/tiphys/tiphys/Release" "allocatedBytes" "J" (.long (0 : Int64)) := D280 (Or.inr (hw _ (List.mem_of_getElem? (i := 48) rfl))) (ty := .long) (by decide)
  refine own_go (B := T280.setTop (mkF m 99 #[.val (.int p1), .val (.int p2), .val (.int p3), .val (.long q4), .second, .val (.long q5), .second, .val (.int wm), .val (.int ii), .val (.int kk), .val (.ref b231), .unset, .unset, .unset, .unset, .unset] [(.long q5), (.long q4), (.long q4), (.long q4), (.int ii), (.ref b280), (.ref b280)])) (fun t k => ?_) ?_
  · show Steps p.tables e below (T280.setTop (mkF m 91 #[.val (.int p1), .val (.int p2), .val (.int p3), .val (.long q4), .second, .val (.long q5), .second, .val (.int wm), .val (.int ii), .val (.int kk), .val (.ref b231), .unset, .unset, .unset, .unset, .unset] [(.ref b280)])) _
    refine XS.dup X280.here hx rfl (hb hby at_91) rfl rfl ?_
    show Steps p.tables e below (T280.setTop (mkF m 92 #[.val (.int p1), .val (.int p2), .val (.int p3), .val (.long q4), .second, .val (.long q5), .second, .val (.int wm), .val (.int ii), .val (.int kk), .val (.ref b231), .unset, .unset, .unset, .unset, .unset] [(.ref b280), (.ref b280)])) _
    refine XS.iload X280.here hx rfl (hb hby at_92) rfl ?_
    show Steps p.tables e below (T280.setTop (mkF m 94 #[.val (.int p1), .val (.int p2), .val (.int p3), .val (.long q4), .second, .val (.long q5), .second, .val (.int wm), .val (.int ii), .val (.int kk), .val (.ref b231), .unset, .unset, .unset, .unset, .unset] [(.int ii), (.ref b280), (.ref b280)])) _
    refine XS.lloadN X280.here hx rfl (hb hby at_94) rfl ?_
    show Steps p.tables e below (T280.setTop (mkF m 95 #[.val (.int p1), .val (.int p2), .val (.int p3), .val (.long q4), .second, .val (.long q5), .second, .val (.int wm), .val (.int ii), .val (.int kk), .val (.ref b231), .unset, .unset, .unset, .unset, .unset] [(.long q4), (.int ii), (.ref b280), (.ref b280)])) _
    refine XS.lloadN X280.here hx rfl (hb hby at_95) rfl ?_
    show Steps p.tables e below (T280.setTop (mkF m 96 #[.val (.int p1), .val (.int p2), .val (.int p3), .val (.long q4), .second, .val (.long q5), .second, .val (.int wm), .val (.int ii), .val (.int kk), .val (.ref b231), .unset, .unset, .unset, .unset, .unset] [(.long q4), (.long q4), (.int ii), (.ref b280), (.ref b280)])) _
    refine XS.lloadN X280.here hx rfl (hb hby at_96) rfl ?_
    show Steps p.tables e below (T280.setTop (mkF m 97 #[.val (.int p1), .val (.int p2), .val (.int p3), .val (.long q4), .second, .val (.long q5), .second, .val (.int wm), .val (.int ii), .val (.int kk), .val (.ref b231), .unset, .unset, .unset, .unset, .unset] [(.long q4), (.long q4), (.long q4), (.int ii), (.ref b280), (.ref b280)])) _
    refine XS.lload X280.here hx rfl (hb hby at_97) rfl ?_
    show Steps p.tables e below (T280.setTop (mkF m 99 #[.val (.int p1), .val (.int p2), .val (.int p3), .val (.long q4), .second, .val (.long q5), .second, .val (.int wm), .val (.int ii), .val (.int kk), .val (.ref b231), .unset, .unset, .unset, .unset, .unset] [(.long q5), (.long q4), (.long q4), (.long q4), (.int ii), (.ref b280), (.ref b280)])) _
    exact k
  have le282 : h0.size ≤ T270.heap.size := (Nat.le_trans (Nat.le_trans (Nat.le_trans (Nat.le_trans (Nat.le_trans (Nat.le_trans (Nat.le_trans (Nat.le_trans (Nat.le_trans (Nat.le_trans E231.1 q232_0.1) E234.1) q235_0.1) q238_0.1) E250.1) q251_0.1) q254_0.1) E266.1) q267_0.1) q270_0.1)
  have le283 : h0.size ≤ h280.size := (Nat.le_trans (Nat.le_trans (Nat.le_trans (Nat.le_trans (Nat.le_trans (Nat.le_trans (Nat.le_trans (Nat.le_trans (Nat.le_trans (Nat.le_trans (Nat.le_trans E231.1 q232_0.1) E234.1) q235_0.1) q238_0.1) E250.1) q251_0.1) q254_0.1) E266.1) q267_0.1) q270_0.1) E280.1)
  obtain ⟨_, _, ⟨T281, L281, k281, n281⟩, -, X281, ⟨Lc281, hQ281, l281, y281, z281⟩, st281⟩ := X280.specialBack hx (y := (⟨"com/example/tiphys/tiphys/Release", "<init>", "(IJJJJ)V"⟩ : MethodName)) rfl hown (mvT hZ (hw _ (List.mem_of_getElem? (i := 30) rfl))) (mvT hZ (hw _ (List.mem_of_getElem? (i := 31) rfl))) (mvT hZ (hw _ (List.mem_of_getElem? (i := 32) rfl))) (by decide) (backOf (W := 1) (rm5 l Z a0 hw [] b280 ii q4 q4 q4 q5 h280 n0 (Nat.le_trans Z0 le283) A280 F280_40 F280_42 F280_44 F280_46 F280_48 (Nat.le_trans (Nat.le_trans Z0 le282) (Nat.le_of_eq g280.symm))) hZ (hw _ (List.mem_of_getElem? (i := 32) rfl)) (hw _ (List.mem_of_getElem? (i := 29) rfl)) (by decide) (by decide)) (g := (mkF m 99 #[.val (.int p1), .val (.int p2), .val (.int p3), .val (.long q4), .second, .val (.long q5), .second, .val (.int wm), .val (.int ii), .val (.int kk), .val (.ref b231), .unset, .unset, .unset, .unset, .unset] [(.long q5), (.long q4), (.long q4), (.long q4), (.int ii), (.ref b280), (.ref b280)])) rfl (by rw [hml]; rfl) (Steps.refl _) (a := b280) (argsL := [(.int ii), (.long q4), (.long q4), (.long q4), (.long q5)]) (rest := [(.ref b280)]) (lenOf pd_11 rfl) rfl (by show 2 * 0 + _ ≤ _; exact Nat.le_of_eq rfl) (hb hby at_99) (fun _ _ => ⟨rfl, e280, (by decide : 6 + 0 ≤ _), (by decide : 33 + 0 ≤ _)⟩)
  dsimp only [Pt.U, Pt.locs, Pt.cells, Pt.slots] at X281 l281 y281 z281 st281 hQ281
  subst l281 y281 z281
  obtain ⟨rfl, M281, q281_0, q281_1, q281_2⟩ := hQ281
  have N281 := Fr.app N270 M281
  have K281 : Keep h0 T281.heap [] := Keep.trans K280 q281_0 (allS (Or.inr (Nat.le_trans le282 (Nat.le_of_eq g280.symm))) all0)
  refine own_go (fun t k => st281.trans k) ?_
  refine own_go (B := T281.setTop (mkF m 104 #[.val (.int p1), .val (.int p2), .val (.int p3), .val (.long q4), .second, .val (.long q5), .second, .val (.int wm), .val (.int ii), .val (.int kk), .val (.ref b231), .val (.ref b280), .unset, .unset, .unset, .unset] [])) (fun t k => ?_) ?_
  · show Steps p.tables e below (T281.setTop (mkF m 102 #[.val (.int p1), .val (.int p2), .val (.int p3), .val (.long q4), .second, .val (.long q5), .second, .val (.int wm), .val (.int ii), .val (.int kk), .val (.ref b231), .unset, .unset, .unset, .unset, .unset] [(.ref b280)])) _
    refine XS.astore X281.here hx rfl (hb hby at_102) rfl rfl (l' := #[.val (.int p1), .val (.int p2), .val (.int p3), .val (.long q4), .second, .val (.long q5), .second, .val (.int wm), .val (.int ii), .val (.int kk), .val (.ref b231), .val (.ref b280), .unset, .unset, .unset, .unset]) rfl ?_
    show Steps p.tables e below (T281.setTop (mkF m 104 #[.val (.int p1), .val (.int p2), .val (.int p3), .val (.long q4), .second, .val (.long q5), .second, .val (.int wm), .val (.int ii), .val (.int kk), .val (.ref b231), .val (.ref b280), .unset, .unset, .unset, .unset] [])) _
    exact k
  obtain ⟨T284, h284, X284, e284, E284, A284, D284, -, st284⟩ := newO X281 hx hZ hown (hw _ (List.mem_of_getElem? (i := 80) rfl)) (hw _ (List.mem_of_getElem? (i := 81) rfl)) (hw _ (List.mem_of_getElem? (i := 82) rfl)) rfl (g := (mkF m 104 #[.val (.int p1), .val (.int p2), .val (.int p3), .val (.long q4), .second, .val (.long q5), .second, .val (.int wm), .val (.int ii), .val (.int kk), .val (.ref b231), .val (.ref b280), .unset, .unset, .unset, .unset] [])) rfl (hb hby at_104) (by decide) (by decide)
  obtain ⟨b284, g284⟩ : ∃ z, z = T281.heap.size := ⟨_, rfl⟩
  rw [← g284] at A284 D284 st284
  refine own_go st284 ?_
  have K284 : Keep h0 h284 [] := Keep.ext K281 E284
  have F284_88 : Fld Z h284 b284 "com/example/tiphys/tiphys/Run" "releases" "Ljava/util/List;" .null := D284 (Or.inr (hw _ (List.mem_of_getElem? (i := 88) rfl))) (ty := (.object "java/util/List")) (by decide)
  have F284_90 : Fld Z h284 b284 "com/example/tiphys/tiphys/Run" "warmups" "I" (.int (0 : Int32)) := D284 (Or.inr (hw _ (List.mem_of_getElem? (i := 90) rfl))) (ty := .int) (by decide)
  have F284_92 : Fld Z h284 b284 "com/example/tiphys/tiphys/Run" "deadlineNs" "J" (.long (0 : Int64)) := D284 (Or.inr (hw _ (List.mem_of_getElem? (i := 92) rfl))) (ty := .long) (by decide)
  have F284_94 : Fld Z h284 b284 "com/example/tiphys/tiphys/Run" "garbageCollections" "J" (.long (0 : Int64)) := D284 (Or.inr (hw _ (List.mem_of_getElem? (i := 94) rfl))) (ty := .long) (by decide)
  refine own_go (B := T284.setTop (mkF m 115 #[.val (.int p1), .val (.int p2), .val (.int p3), .val (.long q4), .second, .val (.long q5), .second, .val (.int wm), .val (.int ii), .val (.int kk), .val (.ref b231), .val (.ref b280), .unset, .unset, .unset, .unset] [(.long q5), (.long q4), (.int wm), (.ref b231), (.ref b284), (.ref b284)])) (fun t k => ?_) ?_
  · show Steps p.tables e below (T284.setTop (mkF m 107 #[.val (.int p1), .val (.int p2), .val (.int p3), .val (.long q4), .second, .val (.long q5), .second, .val (.int wm), .val (.int ii), .val (.int kk), .val (.ref b231), .val (.ref b280), .unset, .unset, .unset, .unset] [(.ref b284)])) _
    refine XS.dup X284.here hx rfl (hb hby at_107) rfl rfl ?_
    show Steps p.tables e below (T284.setTop (mkF m 108 #[.val (.int p1), .val (.int p2), .val (.int p3), .val (.long q4), .second, .val (.long q5), .second, .val (.int wm), .val (.int ii), .val (.int kk), .val (.ref b231), .val (.ref b280), .unset, .unset, .unset, .unset] [(.ref b284), (.ref b284)])) _
    refine XS.aload X284.here hx rfl (hb hby at_108) rfl rfl ?_
    show Steps p.tables e below (T284.setTop (mkF m 110 #[.val (.int p1), .val (.int p2), .val (.int p3), .val (.long q4), .second, .val (.long q5), .second, .val (.int wm), .val (.int ii), .val (.int kk), .val (.ref b231), .val (.ref b280), .unset, .unset, .unset, .unset] [(.ref b231), (.ref b284), (.ref b284)])) _
    refine XS.iload X284.here hx rfl (hb hby at_110) rfl ?_
    show Steps p.tables e below (T284.setTop (mkF m 112 #[.val (.int p1), .val (.int p2), .val (.int p3), .val (.long q4), .second, .val (.long q5), .second, .val (.int wm), .val (.int ii), .val (.int kk), .val (.ref b231), .val (.ref b280), .unset, .unset, .unset, .unset] [(.int wm), (.ref b231), (.ref b284), (.ref b284)])) _
    refine XS.lloadN X284.here hx rfl (hb hby at_112) rfl ?_
    show Steps p.tables e below (T284.setTop (mkF m 113 #[.val (.int p1), .val (.int p2), .val (.int p3), .val (.long q4), .second, .val (.long q5), .second, .val (.int wm), .val (.int ii), .val (.int kk), .val (.ref b231), .val (.ref b280), .unset, .unset, .unset, .unset] [(.long q4), (.int wm), (.ref b231), (.ref b284), (.ref b284)])) _
    refine XS.lload X284.here hx rfl (hb hby at_113) rfl ?_
    show Steps p.tables e below (T284.setTop (mkF m 115 #[.val (.int p1), .val (.int p2), .val (.int p3), .val (.long q4), .second, .val (.long q5), .second, .val (.int wm), .val (.int ii), .val (.int kk), .val (.ref b231), .val (.ref b280), .unset, .unset, .unset, .unset] [(.long q5), (.long q4), (.int wm), (.ref b231), (.ref b284), (.ref b284)])) _
    exact k
  have le286 : h0.size ≤ T281.heap.size := (Nat.le_trans (Nat.le_trans (Nat.le_trans (Nat.le_trans (Nat.le_trans (Nat.le_trans (Nat.le_trans (Nat.le_trans (Nat.le_trans (Nat.le_trans (Nat.le_trans (Nat.le_trans E231.1 q232_0.1) E234.1) q235_0.1) q238_0.1) E250.1) q251_0.1) q254_0.1) E266.1) q267_0.1) q270_0.1) E280.1) q281_0.1)
  have le287 : h0.size ≤ h284.size := (Nat.le_trans (Nat.le_trans (Nat.le_trans (Nat.le_trans (Nat.le_trans (Nat.le_trans (Nat.le_trans (Nat.le_trans (Nat.le_trans (Nat.le_trans (Nat.le_trans (Nat.le_trans (Nat.le_trans E231.1 q232_0.1) E234.1) q235_0.1) q238_0.1) E250.1) q251_0.1) q254_0.1) E266.1) q267_0.1) q270_0.1) E280.1) q281_0.1) E284.1)
  obtain ⟨_, _, ⟨T285, L285, k285, n285⟩, -, X285, ⟨Lc285, hQ285, l285, y285, z285⟩, st285⟩ := X284.specialBack hx (y := (⟨"com/example/tiphys/tiphys/Run", "<init>", "(Ljava/util/List;IJJ)V"⟩ : MethodName)) rfl hown (mvT hZ (hw _ (List.mem_of_getElem? (i := 83) rfl))) (mvT hZ (hw _ (List.mem_of_getElem? (i := 84) rfl))) (mvT hZ (hw _ (List.mem_of_getElem? (i := 85) rfl))) (by decide) (backOf (W := 1) (rm12 l Z a0 hw [] b284 b231 wm q4 q5 h284 n0 (Nat.le_trans Z0 le287) A284 F284_88 F284_90 F284_92 F284_94 (Nat.le_trans (Nat.le_trans Z0 le286) (Nat.le_of_eq g284.symm))) hZ (hw _ (List.mem_of_getElem? (i := 85) rfl)) (hw _ (List.mem_of_getElem? (i := 82) rfl)) (by decide) (by decide)) (g := (mkF m 115 #[.val (.int p1), .val (.int p2), .val (.int p3), .val (.long q4), .second, .val (.long q5), .second, .val (.int wm), .val (.int ii), .val (.int kk), .val (.ref b231), .val (.ref b280), .unset, .unset, .unset, .unset] [(.long q5), (.long q4), (.int wm), (.ref b231), (.ref b284), (.ref b284)])) rfl (by rw [hml]; rfl) (Steps.refl _) (a := b284) (argsL := [(.ref b231), (.int wm), (.long q4), (.long q5)]) (rest := [(.ref b284)]) (lenOf pd_13 rfl) rfl (by show 2 * 0 + _ ≤ _; exact Nat.le_of_eq rfl) (hb hby at_115) (fun _ _ => ⟨rfl, e284, (by decide : 7 + 0 ≤ _), (by decide : 37 + 0 ≤ _)⟩)
  dsimp only [Pt.U, Pt.locs, Pt.cells, Pt.slots] at X285 l285 y285 z285 st285 hQ285
  subst l285 y285 z285
  obtain ⟨rfl, M285, q285_0, q285_1, q285_2, q285_3⟩ := hQ285
  have N285 := Fr.app N281 M285
  have K285 : Keep h0 T285.heap [] := Keep.trans K284 q285_0 (allS (Or.inr (Nat.le_trans le286 (Nat.le_of_eq g284.symm))) all0)
  refine own_go (fun t k => st285.trans k) ?_
  refine own_go (B := T285.setTop (mkF m 122 #[.val (.int p1), .val (.int p2), .val (.int p3), .val (.long q4), .second, .val (.long q5), .second, .val (.int wm), .val (.int ii), .val (.int kk), .val (.ref b231), .val (.ref b280), .val (.ref b284), .unset, .unset, .unset] [(.ref b231)])) (fun t k => ?_) ?_
  · show Steps p.tables e below (T285.setTop (mkF m 118 #[.val (.int p1), .val (.int p2), .val (.int p3), .val (.long q4), .second, .val (.long q5), .second, .val (.int wm), .val (.int ii), .val (.int kk), .val (.ref b231), .val (.ref b280), .unset, .unset, .unset, .unset] [(.ref b284)])) _
    refine XS.astore X285.here hx rfl (hb hby at_118) rfl rfl (l' := #[.val (.int p1), .val (.int p2), .val (.int p3), .val (.long q4), .second, .val (.long q5), .second, .val (.int wm), .val (.int ii), .val (.int kk), .val (.ref b231), .val (.ref b280), .val (.ref b284), .unset, .unset, .unset]) rfl ?_
    show Steps p.tables e below (T285.setTop (mkF m 120 #[.val (.int p1), .val (.int p2), .val (.int p3), .val (.long q4), .second, .val (.long q5), .second, .val (.int wm), .val (.int ii), .val (.int kk), .val (.ref b231), .val (.ref b280), .val (.ref b284), .unset, .unset, .unset] [])) _
    refine XS.aload X285.here hx rfl (hb hby at_120) rfl rfl ?_
    show Steps p.tables e below (T285.setTop (mkF m 122 #[.val (.int p1), .val (.int p2), .val (.int p3), .val (.long q4), .second, .val (.long q5), .second, .val (.int wm), .val (.int ii), .val (.int kk), .val (.ref b231), .val (.ref b280), .val (.ref b284), .unset, .unset, .unset] [(.ref b231)])) _
    exact k
  have le289 : h231.size ≤ T270.heap.size := (Nat.le_trans (Nat.le_trans (Nat.le_trans (Nat.le_trans (Nat.le_trans (Nat.le_trans (Nat.le_trans (Nat.le_trans (Nat.le_trans q232_0.1 E234.1) q235_0.1) q238_0.1) E250.1) q251_0.1) q254_0.1) E266.1) q267_0.1) q270_0.1)
  have ne290 : b231 ≠ b280 := (Nat.ne_of_lt (Nat.lt_of_lt_of_le (Nat.lt_of_lt_of_le A231.lt le289) (Nat.le_of_eq g280.symm)))
  have le291 : h231.size ≤ T281.heap.size := (Nat.le_trans (Nat.le_trans (Nat.le_trans (Nat.le_trans (Nat.le_trans (Nat.le_trans (Nat.le_trans (Nat.le_trans (Nat.le_trans (Nat.le_trans (Nat.le_trans q232_0.1 E234.1) q235_0.1) q238_0.1) E250.1) q251_0.1) q254_0.1) E266.1) q267_0.1) q270_0.1) E280.1) q281_0.1)
  have ne292 : b231 ≠ b284 := (Nat.ne_of_lt (Nat.lt_of_lt_of_le (Nat.lt_of_lt_of_le A231.lt le291) (Nat.le_of_eq g284.symm)))
  have f293 : Fld Z T285.heap b231 "java/util/ArrayList" "size" "I" (.int (3 : Int32)) := ((((q270_6.ext E280).keep q281_0 (ninS ne290 nin0)).ext E284).keep q285_0 (ninS ne292 nin0))
  have le294 : h0.size ≤ T285.heap.size := (Nat.le_trans (Nat.le_trans (Nat.le_trans (Nat.le_trans (Nat.le_trans (Nat.le_trans (Nat.le_trans (Nat.le_trans (Nat.le_trans (Nat.le_trans (Nat.le_trans (Nat.le_trans (Nat.le_trans (Nat.le_trans E231.1 q232_0.1) E234.1) q235_0.1) q238_0.1) E250.1) q251_0.1) q254_0.1) E266.1) q267_0.1) q270_0.1) E280.1) q281_0.1) E284.1) q285_0.1)
  have f295 : Exa Z T285.heap b231 "java/util/ArrayList" := ((((q270_3.ext E280).keep q281_0).ext E284).keep q285_0)
  obtain ⟨cq288, kq288, q288a, q288b, q288c⟩ := isOf hZ rfl f295
  obtain ⟨_, _, ⟨T288, L288, k288, n288⟩, -, X288, ⟨Lc288, hQ288, l288, y288, z288⟩, st288⟩ := X285.virtualBack hx (y := (⟨"java/util/ArrayList", "size", "()I"⟩ : MethodName)) (z := (⟨"java/util/ArrayList", "size", "()I"⟩ : MethodName)) hown (mvT hZ (hw _ (List.mem_of_getElem? (i := 95) rfl))) (mvT hZ (hw _ (List.mem_of_getElem? (i := 96) rfl))) (notFace_of_selects (args := #[]) (mvT hZ (hw _ (List.mem_of_getElem? (i := 98) rfl)))) (mvT hZ (hw _ (List.mem_of_getElem? (i := 98) rfl))) (mvT hZ (hw _ (List.mem_of_getElem? (i := 97) rfl))) (by decide) (backOf (W := 0) (rm13 l Z a0 hw [] b231 (3 : Int32) T285.heap n0 (Nat.le_trans Z0 le294) f293) hZ (hw _ (List.mem_of_getElem? (i := 99) rfl)) (hw _ (List.mem_of_getElem? (i := 3) rfl)) (by decide) (by decide)) q288a q288c (g := (mkF m 122 #[.val (.int p1), .val (.int p2), .val (.int p3), .val (.long q4), .second, .val (.long q5), .second, .val (.int wm), .val (.int ii), .val (.int kk), .val (.ref b231), .val (.ref b280), .val (.ref b284), .unset, .unset, .unset] [(.ref b231)])) rfl (by rw [hml]; rfl) (Steps.refl _) (argsL := []) (rest := []) (lenOf pd_5 rfl) rfl (by show 2 * 0 + _ ≤ _; exact Nat.le_of_eq rfl) (hb hby at_122) (fun _ _ => ⟨rfl, rfl, (by decide : 7 + 0 ≤ _), (by decide : 37 + 0 ≤ _)⟩)
  dsimp only [Pt.U, Pt.locs, Pt.cells, Pt.slots] at X288 l288 y288 z288 st288 hQ288
  subst l288 y288 z288
  obtain ⟨rfl, M288, q288_0⟩ := hQ288
  have N288 := Fr.app N285 M288
  refine own_go (fun t k => st288.trans k) ?_
  refine own_go (B := T288.setTop (mkF m 127 #[.val (.int p1), .val (.int p2), .val (.int p3), .val (.long q4), .second, .val (.long q5), .second, .val (.int wm), .val (.int ii), .val (.int kk), .val (.ref b231), .val (.ref b280), .val (.ref b284), .unset, .unset, .unset] [(.ref b284), (.int (3 : Int32))])) (fun t k => ?_) ?_
  · show Steps p.tables e below (T288.setTop (mkF m 125 #[.val (.int p1), .val (.int p2), .val (.int p3), .val (.long q4), .second, .val (.long q5), .second, .val (.int wm), .val (.int ii), .val (.int kk), .val (.ref b231), .val (.ref b280), .val (.ref b284), .unset, .unset, .unset] [(.int (3 : Int32))])) _
    refine XS.aload X288.here hx rfl (hb hby at_125) rfl rfl ?_
    show Steps p.tables e below (T288.setTop (mkF m 127 #[.val (.int p1), .val (.int p2), .val (.int p3), .val (.long q4), .second, .val (.long q5), .second, .val (.int wm), .val (.int ii), .val (.int kk), .val (.ref b231), .val (.ref b280), .val (.ref b284), .unset, .unset, .unset] [(.ref b284), (.int (3 : Int32))])) _
    exact k
  have f297 : Fld Z T285.heap b231 "java/util/AbstractList" "modCount" "I" (.int (3 : Int32)) := ((((q270_4.ext E280).keep q281_0 (ninS ne290 nin0)).ext E284).keep q285_0 (ninS ne292 nin0))
  obtain ⟨cq296, kq296, q296a, q296b, q296c⟩ := isOf hZ q288_0 q285_1
  obtain ⟨_, _, ⟨T296, L296, k296, n296⟩, -, X296, ⟨Lc296, hQ296, l296, y296, z296⟩, st296⟩ := X288.virtualBack hx (y := (⟨"com/example/tiphys/tiphys/Run", "measured", "()Ljava/util/List;"⟩ : MethodName)) (z := (⟨"com/example/tiphys/tiphys/Run", "measured", "()Ljava/util/List;"⟩ : MethodName)) hown (mvT hZ (hw _ (List.mem_of_getElem? (i := 100) rfl))) (mvT hZ (hw _ (List.mem_of_getElem? (i := 101) rfl))) (notFace_of_selects (args := #[]) (mvT hZ (hw _ (List.mem_of_getElem? (i := 103) rfl)))) (mvT hZ (hw _ (List.mem_of_getElem? (i := 103) rfl))) (mvT hZ (hw _ (List.mem_of_getElem? (i := 102) rfl))) (by decide) (backOf (W := 1) (rm14 l Z a0 hw [] b284 b231 wm (3 : Int32) (3 : Int32) T285.heap n0 (Nat.le_trans Z0 le294) q285_2 q285_3 f295 f293 f297 ((own_w wm hwm).1) ((own_w wm hwm).2)) hZ (hw _ (List.mem_of_getElem? (i := 104) rfl)) (hw _ (List.mem_of_getElem? (i := 82) rfl)) (by decide) (by decide)) q296a q296c (g := (mkF m 127 #[.val (.int p1), .val (.int p2), .val (.int p3), .val (.long q4), .second, .val (.long q5), .second, .val (.int wm), .val (.int ii), .val (.int kk), .val (.ref b231), .val (.ref b280), .val (.ref b284), .unset, .unset, .unset] [(.ref b284), (.int (3 : Int32))])) rfl (by rw [hml]; rfl) (Steps.refl _) (argsL := []) (rest := [(.int (3 : Int32))]) (lenOf pd_14 rfl) rfl (by show 2 * 0 + _ ≤ _; exact Nat.le_of_eq rfl) (hb hby at_127) (fun _ _ => ⟨rfl, q288_0, (by decide : 7 + 1 ≤ _), (by decide : 37 + 5 ≤ _)⟩)
  dsimp only [Pt.U, Pt.locs, Pt.cells, Pt.slots] at X296 l296 y296 z296 st296 hQ296
  subst l296 y296 z296
  obtain ⟨bn_296, rfl, M296, q296_0, q296_1, q296_2, q296_3, q296_4, q296_5⟩ := hQ296
  have N296 := Fr.app N288 M296
  have K296 : Keep h0 T296.heap [] := Keep.trans K285 q296_0 all0
  refine own_go (fun t k => st296.trans k) ?_
  have f299 : Fld Z T296.heap b231 "java/util/AbstractList" "modCount" "I" (.int (3 : Int32)) := (f297.keep q296_0 nin0)
  have le300 : h0.size ≤ T296.heap.size := (Nat.le_trans (Nat.le_trans (Nat.le_trans (Nat.le_trans (Nat.le_trans (Nat.le_trans (Nat.le_trans (Nat.le_trans (Nat.le_trans (Nat.le_trans (Nat.le_trans (Nat.le_trans (Nat.le_trans (Nat.le_trans (Nat.le_trans E231.1 q232_0.1) E234.1) q235_0.1) q238_0.1) E250.1) q251_0.1) q254_0.1) E266.1) q267_0.1) q270_0.1) E280.1) q281_0.1) E284.1) q285_0.1) q296_0.1)
  obtain ⟨cq298, kq298, q298a, q298b, q298c⟩ := isOf hZ rfl q296_2
  obtain ⟨_, _, ⟨T298, L298, k298, n298⟩, -, X298, ⟨Lc298, hQ298, l298, y298, z298⟩, st298⟩ := X296.interfaceBack hx (xi := (⟨"java/util/List", "size", "()I"⟩ : MethodName)) (y := (⟨"java/util/ArrayList$SubList", "size", "()I"⟩ : MethodName)) hown (mvT hZ (hw _ (List.mem_of_getElem? (i := 146) rfl))) (mvT hZ (hw _ (List.mem_of_getElem? (i := 106) rfl))) (mvT hZ (hw _ (List.mem_of_getElem? (i := 107) rfl))) (mvT hZ (hw _ (List.mem_of_getElem? (i := 147) rfl))) (mvT hZ (hw _ (List.mem_of_getElem? (i := 148) rfl))) (mvT hZ (hw _ (List.mem_of_getElem? (i := 149) rfl))) (mvT hZ (hw _ (List.mem_of_getElem? (i := 150) rfl))) (mvT hZ (hw _ (List.mem_of_getElem? (i := 151) rfl))) (by decide) (backOf (W := 1) (rm18 l Z a0 hw [] bn_296 b231 (3 : Int32) ((3 : Int32) - wm) T296.heap n0 (Nat.le_trans Z0 le300) q296_2 q296_3 q296_4 f299 q296_5) hZ (hw _ (List.mem_of_getElem? (i := 152) rfl)) (hw _ (List.mem_of_getElem? (i := 126) rfl)) (by decide) (by decide)) q298a q298b q298c (g := (mkF m 130 #[.val (.int p1), .val (.int p2), .val (.int p3), .val (.long q4), .second, .val (.long q5), .second, .val (.int wm), .val (.int ii), .val (.int kk), .val (.ref b231), .val (.ref b280), .val (.ref b284), .unset, .unset, .unset] [(.ref bn_296), (.int (3 : Int32))])) rfl (by rw [hml]; rfl) (Steps.refl _) (argsL := []) (rest := [(.int (3 : Int32))]) (lenOf pd_5 rfl) rfl (by show 2 * 0 + _ ≤ _; exact Nat.le_of_eq rfl) (hb hby at_130) (fun _ _ => ⟨rfl, rfl, (by decide : 8 + 0 ≤ _), (by decide : 42 + 0 ≤ _)⟩)
  dsimp only [Pt.U, Pt.locs, Pt.cells, Pt.slots] at X298 l298 y298 z298 st298 hQ298
  subst l298 y298 z298
  obtain ⟨rfl, M298, q298_0⟩ := hQ298
  have N298 := Fr.app N296 M298
  refine own_go (fun t k => st298.trans k) ?_
  refine own_go (B := T298.setTop (mkF m 138 #[.val (.int p1), .val (.int p2), .val (.int p3), .val (.long q4), .second, .val (.long q5), .second, .val (.int wm), .val (.int ii), .val (.int kk), .val (.ref b231), .val (.ref b280), .val (.ref b284), .val (.int ((3 : Int32) - ((3 : Int32) - wm))), .unset, .unset] [])) (fun t k => ?_) ?_
  · show Steps p.tables e below (T298.setTop (mkF m 135 #[.val (.int p1), .val (.int p2), .val (.int p3), .val (.long q4), .second, .val (.long q5), .second, .val (.int wm), .val (.int ii), .val (.int kk), .val (.ref b231), .val (.ref b280), .val (.ref b284), .unset, .unset, .unset] [(.int ((3 : Int32) - wm)), (.int (3 : Int32))])) _
    refine XS.isub X298.here hx rfl (hb hby at_135) rfl ?_
    show Steps p.tables e below (T298.setTop (mkF m 136 #[.val (.int p1), .val (.int p2), .val (.int p3), .val (.long q4), .second, .val (.long q5), .second, .val (.int wm), .val (.int ii), .val (.int kk), .val (.ref b231), .val (.ref b280), .val (.ref b284), .unset, .unset, .unset] [(.int ((3 : Int32) - ((3 : Int32) - wm)))])) _
    refine XS.istore X298.here hx rfl (hb hby at_136) rfl (l' := #[.val (.int p1), .val (.int p2), .val (.int p3), .val (.long q4), .second, .val (.long q5), .second, .val (.int wm), .val (.int ii), .val (.int kk), .val (.ref b231), .val (.ref b280), .val (.ref b284), .val (.int ((3 : Int32) - ((3 : Int32) - wm))), .unset, .unset]) rfl ?_
    show Steps p.tables e below (T298.setTop (mkF m 138 #[.val (.int p1), .val (.int p2), .val (.int p3), .val (.long q4), .second, .val (.long q5), .second, .val (.int wm), .val (.int ii), .val (.int kk), .val (.ref b231), .val (.ref b280), .val (.ref b284), .val (.int ((3 : Int32) - ((3 : Int32) - wm))), .unset, .unset] [])) _
    exact k
  rw [show ((3 : Int32) - ((3 : Int32) - wm)) = wm from own_warm wm]
  by_cases hk0 : kk = (0 : Int32)
  · rw [show kk = (0 : Int32) from hk0]
    refine own_go (B := T298.setTop (mkF m 144 #[.val (.int p1), .val (.int p2), .val (.int p3), .val (.long q4), .second, .val (.long q5), .second, .val (.int wm), .val (.int ii), .val (.int (0 : Int32)), .val (.ref b231), .val (.ref b280), .val (.ref b284), .val (.int wm), .unset, .unset] [(.int (0 : Int32)), (.ref b231), (.ref b284)])) (fun t k => ?_) ?_
    · show Steps p.tables e below (T298.setTop (mkF m 138 #[.val (.int p1), .val (.int p2), .val (.int p3), .val (.long q4), .second, .val (.long q5), .second, .val (.int wm), .val (.int ii), .val (.int (0 : Int32)), .val (.ref b231), .val (.ref b280), .val (.ref b284), .val (.int wm), .unset, .unset] [])) _
      refine XS.aload X298.here hx rfl (hb hby at_138) rfl rfl ?_
      show Steps p.tables e below (T298.setTop (mkF m 140 #[.val (.int p1), .val (.int p2), .val (.int p3), .val (.long q4), .second, .val (.long q5), .second, .val (.int wm), .val (.int ii), .val (.int (0 : Int32)), .val (.ref b231), .val (.ref b280), .val (.ref b284), .val (.int wm), .unset, .unset] [(.ref b284)])) _
      refine XS.aload X298.here hx rfl (hb hby at_140) rfl rfl ?_
      show Steps p.tables e below (T298.setTop (mkF m 142 #[.val (.int p1), .val (.int p2), .val (.int p3), .val (.long q4), .second, .val (.long q5), .second, .val (.int wm), .val (.int ii), .val (.int (0 : Int32)), .val (.ref b231), .val (.ref b280), .val (.ref b284), .val (.int wm), .unset, .unset] [(.ref b231), (.ref b284)])) _
      refine XS.iload X298.here hx rfl (hb hby at_142) rfl ?_
      show Steps p.tables e below (T298.setTop (mkF m 144 #[.val (.int p1), .val (.int p2), .val (.int p3), .val (.long q4), .second, .val (.long q5), .second, .val (.int wm), .val (.int ii), .val (.int (0 : Int32)), .val (.ref b231), .val (.ref b280), .val (.ref b284), .val (.int wm), .unset, .unset] [(.int (0 : Int32)), (.ref b231), (.ref b284)])) _
      exact k
    have f302 : Exa Z T296.heap b231 "java/util/ArrayList" := (f295.keep q296_0)
    have f303 : Fld Z T296.heap b231 "java/util/ArrayList" "size" "I" (.int (3 : Int32)) := (f293.keep q296_0 nin0)
    have f304 : Fld Z T296.heap b231 "java/util/ArrayList" "elementData" "[Ljava/lang/Object;" (.ref bn_238) := (((((q270_5.ext E280).keep q281_0 (ninS ne290 nin0)).ext E284).keep q285_0 (ninS ne292 nin0)).keep q296_0 nin0)
    have ne305 : bn_238 ≠ b280 := (Nat.ne_of_lt (Nat.lt_of_lt_of_le q270_1.lt (Nat.le_of_eq g280.symm)))
    have le306 : T270.heap.size ≤ T281.heap.size := (Nat.le_trans E280.1 q281_0.1)
    have ne307 : bn_238 ≠ b284 := (Nat.ne_of_lt (Nat.lt_of_lt_of_le (Nat.lt_of_lt_of_le q270_1.lt le306) (Nat.le_of_eq g284.symm)))
    have f308 : Arv Z T296.heap bn_238 kn_238 (.object "java/lang/Object") (10 : Int32) [(.ref b234), (.ref b250), (.ref b266), .null, .null, .null, .null, .null, .null, .null] .null := (((((q270_1.ext E280).keep q281_0 (ninS ne305 nin0)).ext E284).keep q285_0 (ninS ne307 nin0)).keep q296_0 nin0)
    obtain ⟨cq301, kq301, q301a, q301b, q301c⟩ := isOf hZ q298_0 f302
    obtain ⟨_, _, ⟨T301, L301, k301, n301⟩, -, X301, ⟨Lc301, hQ301, l301, y301, z301⟩, st301⟩ := X298.virtualBack hx (y := (⟨"java/util/ArrayList", "get", "(I)Ljava/lang/Object;"⟩ : MethodName)) (z := (⟨"java/util/ArrayList", "get", "(I)Ljava/lang/Object;"⟩ : MethodName)) hown (mvT hZ (hw _ (List.mem_of_getElem? (i := 158) rfl))) (mvT hZ (hw _ (List.mem_of_getElem? (i := 159) rfl))) (notFace_of_selects (args := #[]) (mvT hZ (hw _ (List.mem_of_getElem? (i := 161) rfl)))) (mvT hZ (hw _ (List.mem_of_getElem? (i := 161) rfl))) (mvT hZ (hw _ (List.mem_of_getElem? (i := 160) rfl))) (by decide) (backOf (W := 1) (rm20_0 l Z a0 hw [] b231 b234 b250 b266 bn_238 kn_238 T296.heap n0 (Nat.le_trans Z0 le300) f302 f303 f304 f308) hZ (hw _ (List.mem_of_getElem? (i := 162) rfl)) (hw _ (List.mem_of_getElem? (i := 3) rfl)) (by decide) (by decide)) q301a q301c (g := (mkF m 144 #[.val (.int p1), .val (.int p2), .val (.int p3), .val (.long q4), .second, .val (.long q5), .second, .val (.int wm), .val (.int ii), .val (.int (0 : Int32)), .val (.ref b231), .val (.ref b280), .val (.ref b284), .val (.int wm), .unset, .unset] [(.int (0 : Int32)), (.ref b231), (.ref b284)])) rfl (by rw [hml]; rfl) (Steps.refl _) (argsL := [(.int (0 : Int32))]) (rest := [(.ref b284)]) (lenOf pd_7 rfl) rfl (by show 2 * 0 + _ ≤ _; exact Nat.le_of_eq rfl) (hb hby at_144) (fun _ _ => ⟨rfl, q298_0, (by decide : 8 + 0 ≤ _), (by decide : 42 + 0 ≤ _)⟩)
    dsimp only [Pt.U, Pt.locs, Pt.cells, Pt.slots] at X301 l301 y301 z301 st301 hQ301
    subst l301 y301 z301
    obtain ⟨rfl, M301, q301_0⟩ := hQ301
    have N301 := Fr.app N298 M301
    refine own_go (fun t k => st301.trans k) ?_
    have f310 : Exa Z T296.heap b234 "com/example/tiphys/tiphys/Release" := ((((((((((((q235_1.keep q238_0).ext E250).keep q251_0).keep q254_0).ext E266).keep q267_0).keep q270_0).ext E280).keep q281_0).ext E284).keep q285_0).keep q296_0)
    obtain ⟨T309, X309, e309, st309⟩ := castY X301 hx hZ hown (hw _ (List.mem_of_getElem? (i := 27) rfl)) q301_0 (Ins.self f310) (g := (mkF m 147 #[.val (.int p1), .val (.int p2), .val (.int p3), .val (.long q4), .second, .val (.long q5), .second, .val (.int wm), .val (.int ii), .val (.int (0 : Int32)), .val (.ref b231), .val (.ref b280), .val (.ref b284), .val (.int wm), .unset, .unset] [(.ref b234), (.ref b284)])) rfl rfl (hb hby at_147)
    refine own_go st309 ?_
    have le312 : h234.size ≤ T238.heap.size := (Nat.le_trans q235_0.1 q238_0.1)
    have ne313 : b234 ≠ b250 := (Nat.ne_of_lt (Nat.lt_of_lt_of_le (Nat.lt_of_lt_of_le A234.lt le312) (Nat.le_of_eq g250.symm)))
    have ne314 : b234 ≠ bn_238 := (Nat.ne_of_lt (Nat.lt_of_lt_of_le (Nat.lt_of_lt_of_le A234.lt q235_0.1) q238_1))
    have le315 : h234.size ≤ T254.heap.size := (Nat.le_trans (Nat.le_trans (Nat.le_trans (Nat.le_trans q235_0.1 q238_0.1) E250.1) q251_0.1) q254_0.1)
    have ne316 : b234 ≠ b266 := (Nat.ne_of_lt (Nat.lt_of_lt_of_le (Nat.lt_of_lt_of_le A234.lt le315) (Nat.le_of_eq g266.symm)))
    have le317 : h234.size ≤ T270.heap.size := (Nat.le_trans (Nat.le_trans (Nat.le_trans (Nat.le_trans (Nat.le_trans (Nat.le_trans (Nat.le_trans q235_0.1 q238_0.1) E250.1) q251_0.1) q254_0.1) E266.1) q267_0.1) q270_0.1)
    have ne318 : b234 ≠ b280 := (Nat.ne_of_lt (Nat.lt_of_lt_of_le (Nat.lt_of_lt_of_le A234.lt le317) (Nat.le_of_eq g280.symm)))
    have le319 : h234.size ≤ T281.heap.size := (Nat.le_trans (Nat.le_trans (Nat.le_trans (Nat.le_trans (Nat.le_trans (Nat.le_trans (Nat.le_trans (Nat.le_trans (Nat.le_trans q235_0.1 q238_0.1) E250.1) q251_0.1) q254_0.1) E266.1) q267_0.1) q270_0.1) E280.1) q281_0.1)
    have ne320 : b234 ≠ b284 := (Nat.ne_of_lt (Nat.lt_of_lt_of_le (Nat.lt_of_lt_of_le A234.lt le319) (Nat.le_of_eq g284.symm)))
    have f321 : Fld Z T296.heap b234 "com/example/tiphys/tiphys/Release" "index" "I" (.int (0 : Int32)) := ((((((((((((q235_2.keep q238_0 (ninS (Ne.symm ne240) nin0)).ext E250).keep q251_0 (ninS ne313 nin0)).keep q254_0 (ninS (Ne.symm ne240) (ninS ne314 nin0))).ext E266).keep q267_0 (ninS ne316 nin0)).keep q270_0 (ninS (Ne.symm ne240) (ninS ne314 nin0))).ext E280).keep q281_0 (ninS ne318 nin0)).ext E284).keep q285_0 (ninS ne320 nin0)).keep q296_0 nin0)
    have f322 : Fld Z T296.heap b284 "com/example/tiphys/tiphys/Run" "warmups" "I" (.int wm) := (q285_3.keep q296_0 nin0)
    have f323 : Exa Z T296.heap b284 "com/example/tiphys/tiphys/Run" := (q285_1.keep q296_0)
    obtain ⟨cq311, kq311, q311a, q311b, q311c⟩ := isOf hZ e309 f323
    obtain ⟨_, _, ⟨T311, L311, k311, n311⟩, -, X311, ⟨Lc311, hQ311, l311, y311, z311⟩, st311⟩ := X309.virtualBack hx (y := (⟨"com/example/tiphys/tiphys/Run", "isWarmup", "(Lcom/example/tiphys/tiphys/Release;)Z"⟩ : MethodName)) (z := (⟨"com/example/tiphys/tiphys/Run", "isWarmup", "(Lcom/example/tiphys/tiphys/Release;)Z"⟩ : MethodName)) hown (mvT hZ (hw _ (List.mem_of_getElem? (i := 177) rfl))) (mvT hZ (hw _ (List.mem_of_getElem? (i := 178) rfl))) (notFace_of_selects (args := #[]) (mvT hZ (hw _ (List.mem_of_getElem? (i := 180) rfl)))) (mvT hZ (hw _ (List.mem_of_getElem? (i := 180) rfl))) (mvT hZ (hw _ (List.mem_of_getElem? (i := 179) rfl))) (by decide) (backOf (W := 0) (rm24 l Z a0 hw [] b284 b234 (0 : Int32) wm T296.heap n0 (Nat.le_trans Z0 le300) f310 f321 f322) hZ (hw _ (List.mem_of_getElem? (i := 181) rfl)) (hw _ (List.mem_of_getElem? (i := 82) rfl)) (by decide) (by decide)) q311a q311c (g := (mkF m 150 #[.val (.int p1), .val (.int p2), .val (.int p3), .val (.long q4), .second, .val (.long q5), .second, .val (.int wm), .val (.int ii), .val (.int (0 : Int32)), .val (.ref b231), .val (.ref b280), .val (.ref b284), .val (.int wm), .unset, .unset] [(.ref b234), (.ref b284)])) rfl (by rw [hml]; rfl) (Steps.refl _) (argsL := [(.ref b234)]) (rest := []) (lenOf pd_15 rfl) rfl (by show 2 * 0 + _ ≤ _; exact Nat.le_of_eq rfl) (hb hby at_150) (fun _ _ => ⟨rfl, e309, (by decide : 8 + 0 ≤ _), (by decide : 42 + 0 ≤ _)⟩)
    dsimp only [Pt.U, Pt.locs, Pt.cells, Pt.slots] at X311 l311 y311 z311 st311 hQ311
    subst l311 y311 z311
    obtain ⟨rfl, M311, q311_0⟩ := hQ311
    have N311 := Fr.app N301 M311
    refine own_go (fun t k => st311.trans k) ?_
    refine own_go (B := T311.setTop (mkF m 157 #[.val (.int p1), .val (.int p2), .val (.int p3), .val (.long q4), .second, .val (.long q5), .second, .val (.int wm), .val (.int ii), .val (.int (0 : Int32)), .val (.ref b231), .val (.ref b280), .val (.ref b284), .val (.int wm), .unset, .unset] [(.int wm), (.int (0 : Int32)), (.int (if (0 : Int32) < wm then (1 : Int32) else 0))])) (fun t k => ?_) ?_
    · show Steps p.tables e below (T311.setTop (mkF m 153 #[.val (.int p1), .val (.int p2), .val (.int p3), .val (.long q4), .second, .val (.long q5), .second, .val (.int wm), .val (.int ii), .val (.int (0 : Int32)), .val (.ref b231), .val (.ref b280), .val (.ref b284), .val (.int wm), .unset, .unset] [(.int (if (0 : Int32) < wm then (1 : Int32) else 0))])) _
      refine XS.iload X311.here hx rfl (hb hby at_153) rfl ?_
      show Steps p.tables e below (T311.setTop (mkF m 155 #[.val (.int p1), .val (.int p2), .val (.int p3), .val (.long q4), .second, .val (.long q5), .second, .val (.int wm), .val (.int ii), .val (.int (0 : Int32)), .val (.ref b231), .val (.ref b280), .val (.ref b284), .val (.int wm), .unset, .unset] [(.int (0 : Int32)), (.int (if (0 : Int32) < wm then (1 : Int32) else 0))])) _
      refine XS.iload X311.here hx rfl (hb hby at_155) rfl ?_
      show Steps p.tables e below (T311.setTop (mkF m 157 #[.val (.int p1), .val (.int p2), .val (.int p3), .val (.long q4), .second, .val (.long q5), .second, .val (.int wm), .val (.int ii), .val (.int (0 : Int32)), .val (.ref b231), .val (.ref b280), .val (.ref b284), .val (.int wm), .unset, .unset] [(.int wm), (.int (0 : Int32)), (.int (if (0 : Int32) < wm then (1 : Int32) else 0))])) _
      exact k
    by_cases hc324 : (0 : Int32) < wm
    · refine own_go (B := T311.setTop (mkF m 179 #[.val (.int p1), .val (.int p2), .val (.int p3), .val (.long q4), .second, .val (.long q5), .second, .val (.int wm), .val (.int ii), .val (.int (0 : Int32)), .val (.ref b231), .val (.ref b280), .val (.ref b284), .val (.int wm), .val (.int (1 : Int32)), .unset] [(.ref b280), (.ref b284)])) (fun t k => ?_) ?_
      · show Steps p.tables e below (T311.setTop (mkF m 157 #[.val (.int p1), .val (.int p2), .val (.int p3), .val (.long q4), .second, .val (.long q5), .second, .val (.int wm), .val (.int ii), .val (.int (0 : Int32)), .val (.ref b231), .val (.ref b280), .val (.ref b284), .val (.int wm), .unset, .unset] [(.int wm), (.int (0 : Int32)), (.int (if (0 : Int32) < wm then (1 : Int32) else 0))])) _
        refine XS.icmpNo X311.here hx rfl (hb hby at_157) rfl (tlt hc324).2.1 ?_
        show Steps p.tables e below (T311.setTop (mkF m 160 #[.val (.int p1), .val (.int p2), .val (.int p3), .val (.long q4), .second, .val (.long q5), .second, .val (.int wm), .val (.int ii), .val (.int (0 : Int32)), .val (.ref b231), .val (.ref b280), .val (.ref b284), .val (.int wm), .unset, .unset] [(.int (if (0 : Int32) < wm then (1 : Int32) else 0))])) _
        refine XS.iconst X311.here hx rfl (hb hby at_160) ?_
        show Steps p.tables e below (T311.setTop (mkF m 161 #[.val (.int p1), .val (.int p2), .val (.int p3), .val (.long q4), .second, .val (.long q5), .second, .val (.int wm), .val (.int ii), .val (.int (0 : Int32)), .val (.ref b231), .val (.ref b280), .val (.ref b284), .val (.int wm), .unset, .unset] [(.int (1 : Int32)), (.int (if (0 : Int32) < wm then (1 : Int32) else 0))])) _
        refine XS.goto X311.here hx rfl (pc0 := 161) (pc' := 165) rfl (hb hby at_161) (by decide) (by decide) ?_
        show Steps p.tables e below (T311.setTop (mkF m 165 #[.val (.int p1), .val (.int p2), .val (.int p3), .val (.long q4), .second, .val (.long q5), .second, .val (.int wm), .val (.int ii), .val (.int (0 : Int32)), .val (.ref b231), .val (.ref b280), .val (.ref b284), .val (.int wm), .unset, .unset] [(.int (1 : Int32)), (.int (if (0 : Int32) < wm then (1 : Int32) else 0))])) _
        refine XS.icmpNo X311.here hx rfl (hb hby at_165) rfl (teq (show (if (0 : Int32) < wm then (1 : Int32) else 0) = (1 : Int32) from (by rw [if_pos hc324] <;> decide))).2 ?_
        show Steps p.tables e below (T311.setTop (mkF m 168 #[.val (.int p1), .val (.int p2), .val (.int p3), .val (.long q4), .second, .val (.long q5), .second, .val (.int wm), .val (.int ii), .val (.int (0 : Int32)), .val (.ref b231), .val (.ref b280), .val (.ref b284), .val (.int wm), .unset, .unset] [])) _
        refine XS.iconst X311.here hx rfl (hb hby at_168) ?_
        show Steps p.tables e below (T311.setTop (mkF m 169 #[.val (.int p1), .val (.int p2), .val (.int p3), .val (.long q4), .second, .val (.long q5), .second, .val (.int wm), .val (.int ii), .val (.int (0 : Int32)), .val (.ref b231), .val (.ref b280), .val (.ref b284), .val (.int wm), .unset, .unset] [(.int (1 : Int32))])) _
        refine XS.goto X311.here hx rfl (pc0 := 169) (pc' := 173) rfl (hb hby at_169) (by decide) (by decide) ?_
        show Steps p.tables e below (T311.setTop (mkF m 173 #[.val (.int p1), .val (.int p2), .val (.int p3), .val (.long q4), .second, .val (.long q5), .second, .val (.int wm), .val (.int ii), .val (.int (0 : Int32)), .val (.ref b231), .val (.ref b280), .val (.ref b284), .val (.int wm), .unset, .unset] [(.int (1 : Int32))])) _
        refine XS.istore X311.here hx rfl (hb hby at_173) rfl (l' := #[.val (.int p1), .val (.int p2), .val (.int p3), .val (.long q4), .second, .val (.long q5), .second, .val (.int wm), .val (.int ii), .val (.int (0 : Int32)), .val (.ref b231), .val (.ref b280), .val (.ref b284), .val (.int wm), .val (.int (1 : Int32)), .unset]) rfl ?_
        show Steps p.tables e below (T311.setTop (mkF m 175 #[.val (.int p1), .val (.int p2), .val (.int p3), .val (.long q4), .second, .val (.long q5), .second, .val (.int wm), .val (.int ii), .val (.int (0 : Int32)), .val (.ref b231), .val (.ref b280), .val (.ref b284), .val (.int wm), .val (.int (1 : Int32)), .unset] [])) _
        refine XS.aload X311.here hx rfl (hb hby at_175) rfl rfl ?_
        show Steps p.tables e below (T311.setTop (mkF m 177 #[.val (.int p1), .val (.int p2), .val (.int p3), .val (.long q4), .second, .val (.long q5), .second, .val (.int wm), .val (.int ii), .val (.int (0 : Int32)), .val (.ref b231), .val (.ref b280), .val (.ref b284), .val (.int wm), .val (.int (1 : Int32)), .unset] [(.ref b284)])) _
        refine XS.aload X311.here hx rfl (hb hby at_177) rfl rfl ?_
        show Steps p.tables e below (T311.setTop (mkF m 179 #[.val (.int p1), .val (.int p2), .val (.int p3), .val (.long q4), .second, .val (.long q5), .second, .val (.int wm), .val (.int ii), .val (.int (0 : Int32)), .val (.ref b231), .val (.ref b280), .val (.ref b284), .val (.int wm), .val (.int (1 : Int32)), .unset] [(.ref b280), (.ref b284)])) _
        exact k
      have f326 : Exa Z T296.heap b280 "com/example/tiphys/tiphys/Release" := (((q281_1.ext E284).keep q285_0).keep q296_0)
      have ne327 : b280 ≠ b284 := (Nat.ne_of_lt (Nat.lt_of_lt_of_le (Nat.lt_of_lt_of_le A280.lt q281_0.1) (Nat.le_of_eq g284.symm)))
      have f328 : Fld Z T296.heap b280 "com/example/tiphys/tiphys/Release" "index" "I" (.int ii) := (((q281_2.ext E284).keep q285_0 (ninS ne327 nin0)).keep q296_0 nin0)
      obtain ⟨cq325, kq325, q325a, q325b, q325c⟩ := isOf hZ q311_0 f323
      obtain ⟨_, _, ⟨T325, L325, k325, n325⟩, -, X325, ⟨Lc325, hQ325, l325, y325, z325⟩, st325⟩ := X311.virtualBack hx (y := (⟨"com/example/tiphys/tiphys/Run", "isWarmup", "(Lcom/example/tiphys/tiphys/Release;)Z"⟩ : MethodName)) (z := (⟨"com/example/tiphys/tiphys/Run", "isWarmup", "(Lcom/example/tiphys/tiphys/Release;)Z"⟩ : MethodName)) hown (mvT hZ (hw _ (List.mem_of_getElem? (i := 177) rfl))) (mvT hZ (hw _ (List.mem_of_getElem? (i := 178) rfl))) (notFace_of_selects (args := #[]) (mvT hZ (hw _ (List.mem_of_getElem? (i := 180) rfl)))) (mvT hZ (hw _ (List.mem_of_getElem? (i := 180) rfl))) (mvT hZ (hw _ (List.mem_of_getElem? (i := 179) rfl))) (by decide) (backOf (W := 0) (rm24 l Z a0 hw [] b284 b280 ii wm T296.heap n0 (Nat.le_trans Z0 le300) f326 f328 f322) hZ (hw _ (List.mem_of_getElem? (i := 181) rfl)) (hw _ (List.mem_of_getElem? (i := 82) rfl)) (by decide) (by decide)) q325a q325c (g := (mkF m 179 #[.val (.int p1), .val (.int p2), .val (.int p3), .val (.long q4), .second, .val (.long q5), .second, .val (.int wm), .val (.int ii), .val (.int (0 : Int32)), .val (.ref b231), .val (.ref b280), .val (.ref b284), .val (.int wm), .val (.int (1 : Int32)), .unset] [(.ref b280), (.ref b284)])) rfl (by rw [hml]; rfl) (Steps.refl _) (argsL := [(.ref b280)]) (rest := []) (lenOf pd_15 rfl) rfl (by show 2 * 0 + _ ≤ _; exact Nat.le_of_eq rfl) (hb hby at_179) (fun _ _ => ⟨rfl, q311_0, (by decide : 8 + 0 ≤ _), (by decide : 42 + 0 ≤ _)⟩)
      dsimp only [Pt.U, Pt.locs, Pt.cells, Pt.slots] at X325 l325 y325 z325 st325 hQ325
      subst l325 y325 z325
      obtain ⟨rfl, M325, q325_0⟩ := hQ325
      have N325 := Fr.app N311 M325
      refine own_go (fun t k => st325.trans k) ?_
      refine own_go (B := T325.setTop (mkF m 186 #[.val (.int p1), .val (.int p2), .val (.int p3), .val (.long q4), .second, .val (.long q5), .second, .val (.int wm), .val (.int ii), .val (.int (0 : Int32)), .val (.ref b231), .val (.ref b280), .val (.ref b284), .val (.int wm), .val (.int (1 : Int32)), .unset] [(.int wm), (.int ii), (.int (if ii < wm then (1 : Int32) else 0))])) (fun t k => ?_) ?_
      · show Steps p.tables e below (T325.setTop (mkF m 182 #[.val (.int p1), .val (.int p2), .val (.int p3), .val (.long q4), .second, .val (.long q5), .second, .val (.int wm), .val (.int ii), .val (.int (0 : Int32)), .val (.ref b231), .val (.ref b280), .val (.ref b284), .val (.int wm), .val (.int (1 : Int32)), .unset] [(.int (if ii < wm then (1 : Int32) else 0))])) _
        refine XS.iload X325.here hx rfl (hb hby at_182) rfl ?_
        show Steps p.tables e below (T325.setTop (mkF m 184 #[.val (.int p1), .val (.int p2), .val (.int p3), .val (.long q4), .second, .val (.long q5), .second, .val (.int wm), .val (.int ii), .val (.int (0 : Int32)), .val (.ref b231), .val (.ref b280), .val (.ref b284), .val (.int wm), .val (.int (1 : Int32)), .unset] [(.int ii), (.int (if ii < wm then (1 : Int32) else 0))])) _
        refine XS.iload X325.here hx rfl (hb hby at_184) rfl ?_
        show Steps p.tables e below (T325.setTop (mkF m 186 #[.val (.int p1), .val (.int p2), .val (.int p3), .val (.long q4), .second, .val (.long q5), .second, .val (.int wm), .val (.int ii), .val (.int (0 : Int32)), .val (.ref b231), .val (.ref b280), .val (.ref b284), .val (.int wm), .val (.int (1 : Int32)), .unset] [(.int wm), (.int ii), (.int (if ii < wm then (1 : Int32) else 0))])) _
        exact k
      by_cases hc329 : ii < wm
      · refine own_go (B := T325.setTop (mkF m 226 #[.val (.int p1), .val (.int p2), .val (.int p3), .val (.long q4), .second, .val (.long q5), .second, .val (.int wm), .val (.int ii), .val (.int (0 : Int32)), .val (.ref b231), .val (.ref b280), .val (.ref b284), .val (.int wm), .val (.int (1 : Int32)), .val (.int (1 : Int32))] [(.int (1 : Int32))])) (fun t k => ?_) ?_
        · show Steps p.tables e below (T325.setTop (mkF m 186 #[.val (.int p1), .val (.int p2), .val (.int p3), .val (.long q4), .second, .val (.long q5), .second, .val (.int wm), .val (.int ii), .val (.int (0 : Int32)), .val (.ref b231), .val (.ref b280), .val (.ref b284), .val (.int wm), .val (.int (1 : Int32)), .unset] [(.int wm), (.int ii), (.int (if ii < wm then (1 : Int32) else 0))])) _
          refine XS.icmpNo X325.here hx rfl (hb hby at_186) rfl (tlt hc329).2.1 ?_
          show Steps p.tables e below (T325.setTop (mkF m 189 #[.val (.int p1), .val (.int p2), .val (.int p3), .val (.long q4), .second, .val (.long q5), .second, .val (.int wm), .val (.int ii), .val (.int (0 : Int32)), .val (.ref b231), .val (.ref b280), .val (.ref b284), .val (.int wm), .val (.int (1 : Int32)), .unset] [(.int (if ii < wm then (1 : Int32) else 0))])) _
          refine XS.iconst X325.here hx rfl (hb hby at_189) ?_
          show Steps p.tables e below (T325.setTop (mkF m 190 #[.val (.int p1), .val (.int p2), .val (.int p3), .val (.long q4), .second, .val (.long q5), .second, .val (.int wm), .val (.int ii), .val (.int (0 : Int32)), .val (.ref b231), .val (.ref b280), .val (.ref b284), .val (.int wm), .val (.int (1 : Int32)), .unset] [(.int (1 : Int32)), (.int (if ii < wm then (1 : Int32) else 0))])) _
          refine XS.goto X325.here hx rfl (pc0 := 190) (pc' := 194) rfl (hb hby at_190) (by decide) (by decide) ?_
          show Steps p.tables e below (T325.setTop (mkF m 194 #[.val (.int p1), .val (.int p2), .val (.int p3), .val (.long q4), .second, .val (.long q5), .second, .val (.int wm), .val (.int ii), .val (.int (0 : Int32)), .val (.ref b231), .val (.ref b280), .val (.ref b284), .val (.int wm), .val (.int (1 : Int32)), .unset] [(.int (1 : Int32)), (.int (if ii < wm then (1 : Int32) else 0))])) _
          refine XS.icmpNo X325.here hx rfl (hb hby at_194) rfl (teq (show (if ii < wm then (1 : Int32) else 0) = (1 : Int32) from (by rw [if_pos hc329] <;> decide))).2 ?_
          show Steps p.tables e below (T325.setTop (mkF m 197 #[.val (.int p1), .val (.int p2), .val (.int p3), .val (.long q4), .second, .val (.long q5), .second, .val (.int wm), .val (.int ii), .val (.int (0 : Int32)), .val (.ref b231), .val (.ref b280), .val (.ref b284), .val (.int wm), .val (.int (1 : Int32)), .unset] [])) _
          refine XS.iconst X325.here hx rfl (hb hby at_197) ?_
          show Steps p.tables e below (T325.setTop (mkF m 198 #[.val (.int p1), .val (.int p2), .val (.int p3), .val (.long q4), .second, .val (.long q5), .second, .val (.int wm), .val (.int ii), .val (.int (0 : Int32)), .val (.ref b231), .val (.ref b280), .val (.ref b284), .val (.int wm), .val (.int (1 : Int32)), .unset] [(.int (1 : Int32))])) _
          refine XS.goto X325.here hx rfl (pc0 := 198) (pc' := 202) rfl (hb hby at_198) (by decide) (by decide) ?_
          show Steps p.tables e below (T325.setTop (mkF m 202 #[.val (.int p1), .val (.int p2), .val (.int p3), .val (.long q4), .second, .val (.long q5), .second, .val (.int wm), .val (.int ii), .val (.int (0 : Int32)), .val (.ref b231), .val (.ref b280), .val (.ref b284), .val (.int wm), .val (.int (1 : Int32)), .unset] [(.int (1 : Int32))])) _
          refine XS.istore X325.here hx rfl (hb hby at_202) rfl (l' := #[.val (.int p1), .val (.int p2), .val (.int p3), .val (.long q4), .second, .val (.long q5), .second, .val (.int wm), .val (.int ii), .val (.int (0 : Int32)), .val (.ref b231), .val (.ref b280), .val (.ref b284), .val (.int wm), .val (.int (1 : Int32)), .val (.int (1 : Int32))]) rfl ?_
          show Steps p.tables e below (T325.setTop (mkF m 204 #[.val (.int p1), .val (.int p2), .val (.int p3), .val (.long q4), .second, .val (.long q5), .second, .val (.int wm), .val (.int ii), .val (.int (0 : Int32)), .val (.ref b231), .val (.ref b280), .val (.ref b284), .val (.int wm), .val (.int (1 : Int32)), .val (.int (1 : Int32))] [])) _
          refine XS.iload X325.here hx rfl (hb hby at_204) rfl ?_
          show Steps p.tables e below (T325.setTop (mkF m 206 #[.val (.int p1), .val (.int p2), .val (.int p3), .val (.long q4), .second, .val (.long q5), .second, .val (.int wm), .val (.int ii), .val (.int (0 : Int32)), .val (.ref b231), .val (.ref b280), .val (.ref b284), .val (.int wm), .val (.int (1 : Int32)), .val (.int (1 : Int32))] [(.int wm)])) _
          refine XS.iload X325.here hx rfl (hb hby at_206) rfl ?_
          show Steps p.tables e below (T325.setTop (mkF m 208 #[.val (.int p1), .val (.int p2), .val (.int p3), .val (.long q4), .second, .val (.long q5), .second, .val (.int wm), .val (.int ii), .val (.int (0 : Int32)), .val (.ref b231), .val (.ref b280), .val (.ref b284), .val (.int wm), .val (.int (1 : Int32)), .val (.int (1 : Int32))] [(.int wm), (.int wm)])) _
          refine XS.icmpNo X325.here hx rfl (hb hby at_208) rfl (teq (rfl : wm = wm)).2 ?_
          show Steps p.tables e below (T325.setTop (mkF m 211 #[.val (.int p1), .val (.int p2), .val (.int p3), .val (.long q4), .second, .val (.long q5), .second, .val (.int wm), .val (.int ii), .val (.int (0 : Int32)), .val (.ref b231), .val (.ref b280), .val (.ref b284), .val (.int wm), .val (.int (1 : Int32)), .val (.int (1 : Int32))] [])) _
          refine XS.iload X325.here hx rfl (hb hby at_211) rfl ?_
          show Steps p.tables e below (T325.setTop (mkF m 213 #[.val (.int p1), .val (.int p2), .val (.int p3), .val (.long q4), .second, .val (.long q5), .second, .val (.int wm), .val (.int ii), .val (.int (0 : Int32)), .val (.ref b231), .val (.ref b280), .val (.ref b284), .val (.int wm), .val (.int (1 : Int32)), .val (.int (1 : Int32))] [(.int (1 : Int32))])) _
          refine XS.ifNo X325.here hx rfl (hb hby at_213) rfl ((if0 _ _).trans (feq (by decide : ¬ ((1 : Int32) = (0 : Int32)))).1) ?_
          show Steps p.tables e below (T325.setTop (mkF m 216 #[.val (.int p1), .val (.int p2), .val (.int p3), .val (.long q4), .second, .val (.long q5), .second, .val (.int wm), .val (.int ii), .val (.int (0 : Int32)), .val (.ref b231), .val (.ref b280), .val (.ref b284), .val (.int wm), .val (.int (1 : Int32)), .val (.int (1 : Int32))] [])) _
          refine XS.iload X325.here hx rfl (hb hby at_216) rfl ?_
          show Steps p.tables e below (T325.setTop (mkF m 218 #[.val (.int p1), .val (.int p2), .val (.int p3), .val (.long q4), .second, .val (.long q5), .second, .val (.int wm), .val (.int ii), .val (.int (0 : Int32)), .val (.ref b231), .val (.ref b280), .val (.ref b284), .val (.int wm), .val (.int (1 : Int32)), .val (.int (1 : Int32))] [(.int (1 : Int32))])) _
          refine XS.ifNo X325.here hx rfl (hb hby at_218) rfl ((if0 _ _).trans (feq (by decide : ¬ ((1 : Int32) = (0 : Int32)))).1) ?_
          show Steps p.tables e below (T325.setTop (mkF m 221 #[.val (.int p1), .val (.int p2), .val (.int p3), .val (.long q4), .second, .val (.long q5), .second, .val (.int wm), .val (.int ii), .val (.int (0 : Int32)), .val (.ref b231), .val (.ref b280), .val (.ref b284), .val (.int wm), .val (.int (1 : Int32)), .val (.int (1 : Int32))] [])) _
          refine XS.iconst X325.here hx rfl (hb hby at_221) ?_
          show Steps p.tables e below (T325.setTop (mkF m 222 #[.val (.int p1), .val (.int p2), .val (.int p3), .val (.long q4), .second, .val (.long q5), .second, .val (.int wm), .val (.int ii), .val (.int (0 : Int32)), .val (.ref b231), .val (.ref b280), .val (.ref b284), .val (.int wm), .val (.int (1 : Int32)), .val (.int (1 : Int32))] [(.int (1 : Int32))])) _
          refine XS.goto X325.here hx rfl (pc0 := 222) (pc' := 226) rfl (hb hby at_222) (by decide) (by decide) ?_
          show Steps p.tables e below (T325.setTop (mkF m 226 #[.val (.int p1), .val (.int p2), .val (.int p3), .val (.long q4), .second, .val (.long q5), .second, .val (.int wm), .val (.int ii), .val (.int (0 : Int32)), .val (.ref b231), .val (.ref b280), .val (.ref b284), .val (.int wm), .val (.int (1 : Int32)), .val (.int (1 : Int32))] [(.int (1 : Int32))])) _
          exact k
        obtain ⟨fs, hr, hrun, hended, hW, hsame⟩ := X325.leave (v := some (.int (1 : Int32))) (fun h => by rw [Bd.returns] at h; cases h)
        refine ⟨_, _, ?_, hrun, hended, _, _, rfl, ?_, ⟨_, rfl⟩, hW, hsame.mono (by decide) (by decide)⟩
        · exact retN X325 hx (t := .boolean) Bd.returns (by simp) (hb hby at_226) hr
        · show Q0 Z p1 p2 p3 q4 q5 w_DEFAULTCAPACITY_EMPTY_ELEMENTDATA k_DEFAULTCAPACITY_EMPTY_ELEMENTDATA h0 n0 _ T325.heap _
          rw [q325_0]
          exact ⟨rfl, N325⟩
      · refine own_go (B := T325.setTop (mkF m 226 #[.val (.int p1), .val (.int p2), .val (.int p3), .val (.long q4), .second, .val (.long q5), .second, .val (.int wm), .val (.int ii), .val (.int (0 : Int32)), .val (.ref b231), .val (.ref b280), .val (.ref b284), .val (.int wm), .val (.int (1 : Int32)), .val (.int (1 : Int32))] [(.int (1 : Int32))])) (fun t k => ?_) ?_
        · show Steps p.tables e below (T325.setTop (mkF m 186 #[.val (.int p1), .val (.int p2), .val (.int p3), .val (.long q4), .second, .val (.long q5), .second, .val (.int wm), .val (.int ii), .val (.int (0 : Int32)), .val (.ref b231), .val (.ref b280), .val (.ref b284), .val (.int wm), .val (.int (1 : Int32)), .unset] [(.int wm), (.int ii), (.int (if ii < wm then (1 : Int32) else 0))])) _
          refine XS.icmpYes X325.here hx rfl (pc0 := 186) (pc' := 193) rfl (hb hby at_186) rfl (flt hc329).2.1 (by decide) (by decide) ?_
          show Steps p.tables e below (T325.setTop (mkF m 193 #[.val (.int p1), .val (.int p2), .val (.int p3), .val (.long q4), .second, .val (.long q5), .second, .val (.int wm), .val (.int ii), .val (.int (0 : Int32)), .val (.ref b231), .val (.ref b280), .val (.ref b284), .val (.int wm), .val (.int (1 : Int32)), .unset] [(.int (if ii < wm then (1 : Int32) else 0))])) _
          refine XS.iconst X325.here hx rfl (hb hby at_193) ?_
          show Steps p.tables e below (T325.setTop (mkF m 194 #[.val (.int p1), .val (.int p2), .val (.int p3), .val (.long q4), .second, .val (.long q5), .second, .val (.int wm), .val (.int ii), .val (.int (0 : Int32)), .val (.ref b231), .val (.ref b280), .val (.ref b284), .val (.int wm), .val (.int (1 : Int32)), .unset] [(.int (0 : Int32)), (.int (if ii < wm then (1 : Int32) else 0))])) _
          refine XS.icmpNo X325.here hx rfl (hb hby at_194) rfl (teq (show (if ii < wm then (1 : Int32) else 0) = (0 : Int32) from (by rw [if_neg hc329] <;> decide))).2 ?_
          show Steps p.tables e below (T325.setTop (mkF m 197 #[.val (.int p1), .val (.int p2), .val (.int p3), .val (.long q4), .second, .val (.long q5), .second, .val (.int wm), .val (.int ii), .val (.int (0 : Int32)), .val (.ref b231), .val (.ref b280), .val (.ref b284), .val (.int wm), .val (.int (1 : Int32)), .unset] [])) _
          refine XS.iconst X325.here hx rfl (hb hby at_197) ?_
          show Steps p.tables e below (T325.setTop (mkF m 198 #[.val (.int p1), .val (.int p2), .val (.int p3), .val (.long q4), .second, .val (.long q5), .second, .val (.int wm), .val (.int ii), .val (.int (0 : Int32)), .val (.ref b231), .val (.ref b280), .val (.ref b284), .val (.int wm), .val (.int (1 : Int32)), .unset] [(.int (1 : Int32))])) _
          refine XS.goto X325.here hx rfl (pc0 := 198) (pc' := 202) rfl (hb hby at_198) (by decide) (by decide) ?_
          show Steps p.tables e below (T325.setTop (mkF m 202 #[.val (.int p1), .val (.int p2), .val (.int p3), .val (.long q4), .second, .val (.long q5), .second, .val (.int wm), .val (.int ii), .val (.int (0 : Int32)), .val (.ref b231), .val (.ref b280), .val (.ref b284), .val (.int wm), .val (.int (1 : Int32)), .unset] [(.int (1 : Int32))])) _
          refine XS.istore X325.here hx rfl (hb hby at_202) rfl (l' := #[.val (.int p1), .val (.int p2), .val (.int p3), .val (.long q4), .second, .val (.long q5), .second, .val (.int wm), .val (.int ii), .val (.int (0 : Int32)), .val (.ref b231), .val (.ref b280), .val (.ref b284), .val (.int wm), .val (.int (1 : Int32)), .val (.int (1 : Int32))]) rfl ?_
          show Steps p.tables e below (T325.setTop (mkF m 204 #[.val (.int p1), .val (.int p2), .val (.int p3), .val (.long q4), .second, .val (.long q5), .second, .val (.int wm), .val (.int ii), .val (.int (0 : Int32)), .val (.ref b231), .val (.ref b280), .val (.ref b284), .val (.int wm), .val (.int (1 : Int32)), .val (.int (1 : Int32))] [])) _
          refine XS.iload X325.here hx rfl (hb hby at_204) rfl ?_
          show Steps p.tables e below (T325.setTop (mkF m 206 #[.val (.int p1), .val (.int p2), .val (.int p3), .val (.long q4), .second, .val (.long q5), .second, .val (.int wm), .val (.int ii), .val (.int (0 : Int32)), .val (.ref b231), .val (.ref b280), .val (.ref b284), .val (.int wm), .val (.int (1 : Int32)), .val (.int (1 : Int32))] [(.int wm)])) _
          refine XS.iload X325.here hx rfl (hb hby at_206) rfl ?_
          show Steps p.tables e below (T325.setTop (mkF m 208 #[.val (.int p1), .val (.int p2), .val (.int p3), .val (.long q4), .second, .val (.long q5), .second, .val (.int wm), .val (.int ii), .val (.int (0 : Int32)), .val (.ref b231), .val (.ref b280), .val (.ref b284), .val (.int wm), .val (.int (1 : Int32)), .val (.int (1 : Int32))] [(.int wm), (.int wm)])) _
          refine XS.icmpNo X325.here hx rfl (hb hby at_208) rfl (teq (rfl : wm = wm)).2 ?_
          show Steps p.tables e below (T325.setTop (mkF m 211 #[.val (.int p1), .val (.int p2), .val (.int p3), .val (.long q4), .second, .val (.long q5), .second, .val (.int wm), .val (.int ii), .val (.int (0 : Int32)), .val (.ref b231), .val (.ref b280), .val (.ref b284), .val (.int wm), .val (.int (1 : Int32)), .val (.int (1 : Int32))] [])) _
          refine XS.iload X325.here hx rfl (hb hby at_211) rfl ?_
          show Steps p.tables e below (T325.setTop (mkF m 213 #[.val (.int p1), .val (.int p2), .val (.int p3), .val (.long q4), .second, .val (.long q5), .second, .val (.int wm), .val (.int ii), .val (.int (0 : Int32)), .val (.ref b231), .val (.ref b280), .val (.ref b284), .val (.int wm), .val (.int (1 : Int32)), .val (.int (1 : Int32))] [(.int (1 : Int32))])) _
          refine XS.ifNo X325.here hx rfl (hb hby at_213) rfl ((if0 _ _).trans (feq (by decide : ¬ ((1 : Int32) = (0 : Int32)))).1) ?_
          show Steps p.tables e below (T325.setTop (mkF m 216 #[.val (.int p1), .val (.int p2), .val (.int p3), .val (.long q4), .second, .val (.long q5), .second, .val (.int wm), .val (.int ii), .val (.int (0 : Int32)), .val (.ref b231), .val (.ref b280), .val (.ref b284), .val (.int wm), .val (.int (1 : Int32)), .val (.int (1 : Int32))] [])) _
          refine XS.iload X325.here hx rfl (hb hby at_216) rfl ?_
          show Steps p.tables e below (T325.setTop (mkF m 218 #[.val (.int p1), .val (.int p2), .val (.int p3), .val (.long q4), .second, .val (.long q5), .second, .val (.int wm), .val (.int ii), .val (.int (0 : Int32)), .val (.ref b231), .val (.ref b280), .val (.ref b284), .val (.int wm), .val (.int (1 : Int32)), .val (.int (1 : Int32))] [(.int (1 : Int32))])) _
          refine XS.ifNo X325.here hx rfl (hb hby at_218) rfl ((if0 _ _).trans (feq (by decide : ¬ ((1 : Int32) = (0 : Int32)))).1) ?_
          show Steps p.tables e below (T325.setTop (mkF m 221 #[.val (.int p1), .val (.int p2), .val (.int p3), .val (.long q4), .second, .val (.long q5), .second, .val (.int wm), .val (.int ii), .val (.int (0 : Int32)), .val (.ref b231), .val (.ref b280), .val (.ref b284), .val (.int wm), .val (.int (1 : Int32)), .val (.int (1 : Int32))] [])) _
          refine XS.iconst X325.here hx rfl (hb hby at_221) ?_
          show Steps p.tables e below (T325.setTop (mkF m 222 #[.val (.int p1), .val (.int p2), .val (.int p3), .val (.long q4), .second, .val (.long q5), .second, .val (.int wm), .val (.int ii), .val (.int (0 : Int32)), .val (.ref b231), .val (.ref b280), .val (.ref b284), .val (.int wm), .val (.int (1 : Int32)), .val (.int (1 : Int32))] [(.int (1 : Int32))])) _
          refine XS.goto X325.here hx rfl (pc0 := 222) (pc' := 226) rfl (hb hby at_222) (by decide) (by decide) ?_
          show Steps p.tables e below (T325.setTop (mkF m 226 #[.val (.int p1), .val (.int p2), .val (.int p3), .val (.long q4), .second, .val (.long q5), .second, .val (.int wm), .val (.int ii), .val (.int (0 : Int32)), .val (.ref b231), .val (.ref b280), .val (.ref b284), .val (.int wm), .val (.int (1 : Int32)), .val (.int (1 : Int32))] [(.int (1 : Int32))])) _
          exact k
        obtain ⟨fs, hr, hrun, hended, hW, hsame⟩ := X325.leave (v := some (.int (1 : Int32))) (fun h => by rw [Bd.returns] at h; cases h)
        refine ⟨_, _, ?_, hrun, hended, _, _, rfl, ?_, ⟨_, rfl⟩, hW, hsame.mono (by decide) (by decide)⟩
        · exact retN X325 hx (t := .boolean) Bd.returns (by simp) (hb hby at_226) hr
        · show Q0 Z p1 p2 p3 q4 q5 w_DEFAULTCAPACITY_EMPTY_ELEMENTDATA k_DEFAULTCAPACITY_EMPTY_ELEMENTDATA h0 n0 _ T325.heap _
          rw [q325_0]
          exact ⟨rfl, N325⟩
    · refine own_go (B := T311.setTop (mkF m 179 #[.val (.int p1), .val (.int p2), .val (.int p3), .val (.long q4), .second, .val (.long q5), .second, .val (.int wm), .val (.int ii), .val (.int (0 : Int32)), .val (.ref b231), .val (.ref b280), .val (.ref b284), .val (.int wm), .val (.int (1 : Int32)), .unset] [(.ref b280), (.ref b284)])) (fun t k => ?_) ?_
      · show Steps p.tables e below (T311.setTop (mkF m 157 #[.val (.int p1), .val (.int p2), .val (.int p3), .val (.long q4), .second, .val (.long q5), .second, .val (.int wm), .val (.int ii), .val (.int (0 : Int32)), .val (.ref b231), .val (.ref b280), .val (.ref b284), .val (.int wm), .unset, .unset] [(.int wm), (.int (0 : Int32)), (.int (if (0 : Int32) < wm then (1 : Int32) else 0))])) _
        refine XS.icmpYes X311.here hx rfl (pc0 := 157) (pc' := 164) rfl (hb hby at_157) rfl (flt hc324).2.1 (by decide) (by decide) ?_
        show Steps p.tables e below (T311.setTop (mkF m 164 #[.val (.int p1), .val (.int p2), .val (.int p3), .val (.long q4), .second, .val (.long q5), .second, .val (.int wm), .val (.int ii), .val (.int (0 : Int32)), .val (.ref b231), .val (.ref b280), .val (.ref b284), .val (.int wm), .unset, .unset] [(.int (if (0 : Int32) < wm then (1 : Int32) else 0))])) _
        refine XS.iconst X311.here hx rfl (hb hby at_164) ?_
        show Steps p.tables e below (T311.setTop (mkF m 165 #[.val (.int p1), .val (.int p2), .val (.int p3), .val (.long q4), .second, .val (.long q5), .second, .val (.int wm), .val (.int ii), .val (.int (0 : Int32)), .val (.ref b231), .val (.ref b280), .val (.ref b284), .val (.int wm), .unset, .unset] [(.int (0 : Int32)), (.int (if (0 : Int32) < wm then (1 : Int32) else 0))])) _
        refine XS.icmpNo X311.here hx rfl (hb hby at_165) rfl (teq (show (if (0 : Int32) < wm then (1 : Int32) else 0) = (0 : Int32) from (by rw [if_neg hc324] <;> decide))).2 ?_
        show Steps p.tables e below (T311.setTop (mkF m 168 #[.val (.int p1), .val (.int p2), .val (.int p3), .val (.long q4), .second, .val (.long q5), .second, .val (.int wm), .val (.int ii), .val (.int (0 : Int32)), .val (.ref b231), .val (.ref b280), .val (.ref b284), .val (.int wm), .unset, .unset] [])) _
        refine XS.iconst X311.here hx rfl (hb hby at_168) ?_
        show Steps p.tables e below (T311.setTop (mkF m 169 #[.val (.int p1), .val (.int p2), .val (.int p3), .val (.long q4), .second, .val (.long q5), .second, .val (.int wm), .val (.int ii), .val (.int (0 : Int32)), .val (.ref b231), .val (.ref b280), .val (.ref b284), .val (.int wm), .unset, .unset] [(.int (1 : Int32))])) _
        refine XS.goto X311.here hx rfl (pc0 := 169) (pc' := 173) rfl (hb hby at_169) (by decide) (by decide) ?_
        show Steps p.tables e below (T311.setTop (mkF m 173 #[.val (.int p1), .val (.int p2), .val (.int p3), .val (.long q4), .second, .val (.long q5), .second, .val (.int wm), .val (.int ii), .val (.int (0 : Int32)), .val (.ref b231), .val (.ref b280), .val (.ref b284), .val (.int wm), .unset, .unset] [(.int (1 : Int32))])) _
        refine XS.istore X311.here hx rfl (hb hby at_173) rfl (l' := #[.val (.int p1), .val (.int p2), .val (.int p3), .val (.long q4), .second, .val (.long q5), .second, .val (.int wm), .val (.int ii), .val (.int (0 : Int32)), .val (.ref b231), .val (.ref b280), .val (.ref b284), .val (.int wm), .val (.int (1 : Int32)), .unset]) rfl ?_
        show Steps p.tables e below (T311.setTop (mkF m 175 #[.val (.int p1), .val (.int p2), .val (.int p3), .val (.long q4), .second, .val (.long q5), .second, .val (.int wm), .val (.int ii), .val (.int (0 : Int32)), .val (.ref b231), .val (.ref b280), .val (.ref b284), .val (.int wm), .val (.int (1 : Int32)), .unset] [])) _
        refine XS.aload X311.here hx rfl (hb hby at_175) rfl rfl ?_
        show Steps p.tables e below (T311.setTop (mkF m 177 #[.val (.int p1), .val (.int p2), .val (.int p3), .val (.long q4), .second, .val (.long q5), .second, .val (.int wm), .val (.int ii), .val (.int (0 : Int32)), .val (.ref b231), .val (.ref b280), .val (.ref b284), .val (.int wm), .val (.int (1 : Int32)), .unset] [(.ref b284)])) _
        refine XS.aload X311.here hx rfl (hb hby at_177) rfl rfl ?_
        show Steps p.tables e below (T311.setTop (mkF m 179 #[.val (.int p1), .val (.int p2), .val (.int p3), .val (.long q4), .second, .val (.long q5), .second, .val (.int wm), .val (.int ii), .val (.int (0 : Int32)), .val (.ref b231), .val (.ref b280), .val (.ref b284), .val (.int wm), .val (.int (1 : Int32)), .unset] [(.ref b280), (.ref b284)])) _
        exact k
      have f333 : Exa Z T296.heap b280 "com/example/tiphys/tiphys/Release" := (((q281_1.ext E284).keep q285_0).keep q296_0)
      have ne334 : b280 ≠ b284 := (Nat.ne_of_lt (Nat.lt_of_lt_of_le (Nat.lt_of_lt_of_le A280.lt q281_0.1) (Nat.le_of_eq g284.symm)))
      have f335 : Fld Z T296.heap b280 "com/example/tiphys/tiphys/Release" "index" "I" (.int ii) := (((q281_2.ext E284).keep q285_0 (ninS ne334 nin0)).keep q296_0 nin0)
      obtain ⟨cq332, kq332, q332a, q332b, q332c⟩ := isOf hZ q311_0 f323
      obtain ⟨_, _, ⟨T332, L332, k332, n332⟩, -, X332, ⟨Lc332, hQ332, l332, y332, z332⟩, st332⟩ := X311.virtualBack hx (y := (⟨"com/example/tiphys/tiphys/Run", "isWarmup", "(Lcom/example/tiphys/tiphys/Release;)Z"⟩ : MethodName)) (z := (⟨"com/example/tiphys/tiphys/Run", "isWarmup", "(Lcom/example/tiphys/tiphys/Release;)Z"⟩ : MethodName)) hown (mvT hZ (hw _ (List.mem_of_getElem? (i := 177) rfl))) (mvT hZ (hw _ (List.mem_of_getElem? (i := 178) rfl))) (notFace_of_selects (args := #[]) (mvT hZ (hw _ (List.mem_of_getElem? (i := 180) rfl)))) (mvT hZ (hw _ (List.mem_of_getElem? (i := 180) rfl))) (mvT hZ (hw _ (List.mem_of_getElem? (i := 179) rfl))) (by decide) (backOf (W := 0) (rm24 l Z a0 hw [] b284 b280 ii wm T296.heap n0 (Nat.le_trans Z0 le300) f333 f335 f322) hZ (hw _ (List.mem_of_getElem? (i := 181) rfl)) (hw _ (List.mem_of_getElem? (i := 82) rfl)) (by decide) (by decide)) q332a q332c (g := (mkF m 179 #[.val (.int p1), .val (.int p2), .val (.int p3), .val (.long q4), .second, .val (.long q5), .second, .val (.int wm), .val (.int ii), .val (.int (0 : Int32)), .val (.ref b231), .val (.ref b280), .val (.ref b284), .val (.int wm), .val (.int (1 : Int32)), .unset] [(.ref b280), (.ref b284)])) rfl (by rw [hml]; rfl) (Steps.refl _) (argsL := [(.ref b280)]) (rest := []) (lenOf pd_15 rfl) rfl (by show 2 * 0 + _ ≤ _; exact Nat.le_of_eq rfl) (hb hby at_179) (fun _ _ => ⟨rfl, q311_0, (by decide : 8 + 0 ≤ _), (by decide : 42 + 0 ≤ _)⟩)
      dsimp only [Pt.U, Pt.locs, Pt.cells, Pt.slots] at X332 l332 y332 z332 st332 hQ332
      subst l332 y332 z332
      obtain ⟨rfl, M332, q332_0⟩ := hQ332
      have N332 := Fr.app N311 M332
      refine own_go (fun t k => st332.trans k) ?_
      refine own_go (B := T332.setTop (mkF m 186 #[.val (.int p1), .val (.int p2), .val (.int p3), .val (.long q4), .second, .val (.long q5), .second, .val (.int wm), .val (.int ii), .val (.int (0 : Int32)), .val (.ref b231), .val (.ref b280), .val (.ref b284), .val (.int wm), .val (.int (1 : Int32)), .unset] [(.int wm), (.int ii), (.int (if ii < wm then (1 : Int32) else 0))])) (fun t k => ?_) ?_
      · show Steps p.tables e below (T332.setTop (mkF m 182 #[.val (.int p1), .val (.int p2), .val (.int p3), .val (.long q4), .second, .val (.long q5), .second, .val (.int wm), .val (.int ii), .val (.int (0 : Int32)), .val (.ref b231), .val (.ref b280), .val (.ref b284), .val (.int wm), .val (.int (1 : Int32)), .unset] [(.int (if ii < wm then (1 : Int32) else 0))])) _
        refine XS.iload X332.here hx rfl (hb hby at_182) rfl ?_
        show Steps p.tables e below (T332.setTop (mkF m 184 #[.val (.int p1), .val (.int p2), .val (.int p3), .val (.long q4), .second, .val (.long q5), .second, .val (.int wm), .val (.int ii), .val (.int (0 : Int32)), .val (.ref b231), .val (.ref b280), .val (.ref b284), .val (.int wm), .val (.int (1 : Int32)), .unset] [(.int ii), (.int (if ii < wm then (1 : Int32) else 0))])) _
        refine XS.iload X332.here hx rfl (hb hby at_184) rfl ?_
        show Steps p.tables e below (T332.setTop (mkF m 186 #[.val (.int p1), .val (.int p2), .val (.int p3), .val (.long q4), .second, .val (.long q5), .second, .val (.int wm), .val (.int ii), .val (.int (0 : Int32)), .val (.ref b231), .val (.ref b280), .val (.ref b284), .val (.int wm), .val (.int (1 : Int32)), .unset] [(.int wm), (.int ii), (.int (if ii < wm then (1 : Int32) else 0))])) _
        exact k
      by_cases hc336 : ii < wm
      · refine own_go (B := T332.setTop (mkF m 226 #[.val (.int p1), .val (.int p2), .val (.int p3), .val (.long q4), .second, .val (.long q5), .second, .val (.int wm), .val (.int ii), .val (.int (0 : Int32)), .val (.ref b231), .val (.ref b280), .val (.ref b284), .val (.int wm), .val (.int (1 : Int32)), .val (.int (1 : Int32))] [(.int (1 : Int32))])) (fun t k => ?_) ?_
        · show Steps p.tables e below (T332.setTop (mkF m 186 #[.val (.int p1), .val (.int p2), .val (.int p3), .val (.long q4), .second, .val (.long q5), .second, .val (.int wm), .val (.int ii), .val (.int (0 : Int32)), .val (.ref b231), .val (.ref b280), .val (.ref b284), .val (.int wm), .val (.int (1 : Int32)), .unset] [(.int wm), (.int ii), (.int (if ii < wm then (1 : Int32) else 0))])) _
          refine XS.icmpNo X332.here hx rfl (hb hby at_186) rfl (tlt hc336).2.1 ?_
          show Steps p.tables e below (T332.setTop (mkF m 189 #[.val (.int p1), .val (.int p2), .val (.int p3), .val (.long q4), .second, .val (.long q5), .second, .val (.int wm), .val (.int ii), .val (.int (0 : Int32)), .val (.ref b231), .val (.ref b280), .val (.ref b284), .val (.int wm), .val (.int (1 : Int32)), .unset] [(.int (if ii < wm then (1 : Int32) else 0))])) _
          refine XS.iconst X332.here hx rfl (hb hby at_189) ?_
          show Steps p.tables e below (T332.setTop (mkF m 190 #[.val (.int p1), .val (.int p2), .val (.int p3), .val (.long q4), .second, .val (.long q5), .second, .val (.int wm), .val (.int ii), .val (.int (0 : Int32)), .val (.ref b231), .val (.ref b280), .val (.ref b284), .val (.int wm), .val (.int (1 : Int32)), .unset] [(.int (1 : Int32)), (.int (if ii < wm then (1 : Int32) else 0))])) _
          refine XS.goto X332.here hx rfl (pc0 := 190) (pc' := 194) rfl (hb hby at_190) (by decide) (by decide) ?_
          show Steps p.tables e below (T332.setTop (mkF m 194 #[.val (.int p1), .val (.int p2), .val (.int p3), .val (.long q4), .second, .val (.long q5), .second, .val (.int wm), .val (.int ii), .val (.int (0 : Int32)), .val (.ref b231), .val (.ref b280), .val (.ref b284), .val (.int wm), .val (.int (1 : Int32)), .unset] [(.int (1 : Int32)), (.int (if ii < wm then (1 : Int32) else 0))])) _
          refine XS.icmpNo X332.here hx rfl (hb hby at_194) rfl (teq (show (if ii < wm then (1 : Int32) else 0) = (1 : Int32) from (by rw [if_pos hc336] <;> decide))).2 ?_
          show Steps p.tables e below (T332.setTop (mkF m 197 #[.val (.int p1), .val (.int p2), .val (.int p3), .val (.long q4), .second, .val (.long q5), .second, .val (.int wm), .val (.int ii), .val (.int (0 : Int32)), .val (.ref b231), .val (.ref b280), .val (.ref b284), .val (.int wm), .val (.int (1 : Int32)), .unset] [])) _
          refine XS.iconst X332.here hx rfl (hb hby at_197) ?_
          show Steps p.tables e below (T332.setTop (mkF m 198 #[.val (.int p1), .val (.int p2), .val (.int p3), .val (.long q4), .second, .val (.long q5), .second, .val (.int wm), .val (.int ii), .val (.int (0 : Int32)), .val (.ref b231), .val (.ref b280), .val (.ref b284), .val (.int wm), .val (.int (1 : Int32)), .unset] [(.int (1 : Int32))])) _
          refine XS.goto X332.here hx rfl (pc0 := 198) (pc' := 202) rfl (hb hby at_198) (by decide) (by decide) ?_
          show Steps p.tables e below (T332.setTop (mkF m 202 #[.val (.int p1), .val (.int p2), .val (.int p3), .val (.long q4), .second, .val (.long q5), .second, .val (.int wm), .val (.int ii), .val (.int (0 : Int32)), .val (.ref b231), .val (.ref b280), .val (.ref b284), .val (.int wm), .val (.int (1 : Int32)), .unset] [(.int (1 : Int32))])) _
          refine XS.istore X332.here hx rfl (hb hby at_202) rfl (l' := #[.val (.int p1), .val (.int p2), .val (.int p3), .val (.long q4), .second, .val (.long q5), .second, .val (.int wm), .val (.int ii), .val (.int (0 : Int32)), .val (.ref b231), .val (.ref b280), .val (.ref b284), .val (.int wm), .val (.int (1 : Int32)), .val (.int (1 : Int32))]) rfl ?_
          show Steps p.tables e below (T332.setTop (mkF m 204 #[.val (.int p1), .val (.int p2), .val (.int p3), .val (.long q4), .second, .val (.long q5), .second, .val (.int wm), .val (.int ii), .val (.int (0 : Int32)), .val (.ref b231), .val (.ref b280), .val (.ref b284), .val (.int wm), .val (.int (1 : Int32)), .val (.int (1 : Int32))] [])) _
          refine XS.iload X332.here hx rfl (hb hby at_204) rfl ?_
          show Steps p.tables e below (T332.setTop (mkF m 206 #[.val (.int p1), .val (.int p2), .val (.int p3), .val (.long q4), .second, .val (.long q5), .second, .val (.int wm), .val (.int ii), .val (.int (0 : Int32)), .val (.ref b231), .val (.ref b280), .val (.ref b284), .val (.int wm), .val (.int (1 : Int32)), .val (.int (1 : Int32))] [(.int wm)])) _
          refine XS.iload X332.here hx rfl (hb hby at_206) rfl ?_
          show Steps p.tables e below (T332.setTop (mkF m 208 #[.val (.int p1), .val (.int p2), .val (.int p3), .val (.long q4), .second, .val (.long q5), .second, .val (.int wm), .val (.int ii), .val (.int (0 : Int32)), .val (.ref b231), .val (.ref b280), .val (.ref b284), .val (.int wm), .val (.int (1 : Int32)), .val (.int (1 : Int32))] [(.int wm), (.int wm)])) _
          refine XS.icmpNo X332.here hx rfl (hb hby at_208) rfl (teq (rfl : wm = wm)).2 ?_
          show Steps p.tables e below (T332.setTop (mkF m 211 #[.val (.int p1), .val (.int p2), .val (.int p3), .val (.long q4), .second, .val (.long q5), .second, .val (.int wm), .val (.int ii), .val (.int (0 : Int32)), .val (.ref b231), .val (.ref b280), .val (.ref b284), .val (.int wm), .val (.int (1 : Int32)), .val (.int (1 : Int32))] [])) _
          refine XS.iload X332.here hx rfl (hb hby at_211) rfl ?_
          show Steps p.tables e below (T332.setTop (mkF m 213 #[.val (.int p1), .val (.int p2), .val (.int p3), .val (.long q4), .second, .val (.long q5), .second, .val (.int wm), .val (.int ii), .val (.int (0 : Int32)), .val (.ref b231), .val (.ref b280), .val (.ref b284), .val (.int wm), .val (.int (1 : Int32)), .val (.int (1 : Int32))] [(.int (1 : Int32))])) _
          refine XS.ifNo X332.here hx rfl (hb hby at_213) rfl ((if0 _ _).trans (feq (by decide : ¬ ((1 : Int32) = (0 : Int32)))).1) ?_
          show Steps p.tables e below (T332.setTop (mkF m 216 #[.val (.int p1), .val (.int p2), .val (.int p3), .val (.long q4), .second, .val (.long q5), .second, .val (.int wm), .val (.int ii), .val (.int (0 : Int32)), .val (.ref b231), .val (.ref b280), .val (.ref b284), .val (.int wm), .val (.int (1 : Int32)), .val (.int (1 : Int32))] [])) _
          refine XS.iload X332.here hx rfl (hb hby at_216) rfl ?_
          show Steps p.tables e below (T332.setTop (mkF m 218 #[.val (.int p1), .val (.int p2), .val (.int p3), .val (.long q4), .second, .val (.long q5), .second, .val (.int wm), .val (.int ii), .val (.int (0 : Int32)), .val (.ref b231), .val (.ref b280), .val (.ref b284), .val (.int wm), .val (.int (1 : Int32)), .val (.int (1 : Int32))] [(.int (1 : Int32))])) _
          refine XS.ifNo X332.here hx rfl (hb hby at_218) rfl ((if0 _ _).trans (feq (by decide : ¬ ((1 : Int32) = (0 : Int32)))).1) ?_
          show Steps p.tables e below (T332.setTop (mkF m 221 #[.val (.int p1), .val (.int p2), .val (.int p3), .val (.long q4), .second, .val (.long q5), .second, .val (.int wm), .val (.int ii), .val (.int (0 : Int32)), .val (.ref b231), .val (.ref b280), .val (.ref b284), .val (.int wm), .val (.int (1 : Int32)), .val (.int (1 : Int32))] [])) _
          refine XS.iconst X332.here hx rfl (hb hby at_221) ?_
          show Steps p.tables e below (T332.setTop (mkF m 222 #[.val (.int p1), .val (.int p2), .val (.int p3), .val (.long q4), .second, .val (.long q5), .second, .val (.int wm), .val (.int ii), .val (.int (0 : Int32)), .val (.ref b231), .val (.ref b280), .val (.ref b284), .val (.int wm), .val (.int (1 : Int32)), .val (.int (1 : Int32))] [(.int (1 : Int32))])) _
          refine XS.goto X332.here hx rfl (pc0 := 222) (pc' := 226) rfl (hb hby at_222) (by decide) (by decide) ?_
          show Steps p.tables e below (T332.setTop (mkF m 226 #[.val (.int p1), .val (.int p2), .val (.int p3), .val (.long q4), .second, .val (.long q5), .second, .val (.int wm), .val (.int ii), .val (.int (0 : Int32)), .val (.ref b231), .val (.ref b280), .val (.ref b284), .val (.int wm), .val (.int (1 : Int32)), .val (.int (1 : Int32))] [(.int (1 : Int32))])) _
          exact k
        obtain ⟨fs, hr, hrun, hended, hW, hsame⟩ := X332.leave (v := some (.int (1 : Int32))) (fun h => by rw [Bd.returns] at h; cases h)
        refine ⟨_, _, ?_, hrun, hended, _, _, rfl, ?_, ⟨_, rfl⟩, hW, hsame.mono (by decide) (by decide)⟩
        · exact retN X332 hx (t := .boolean) Bd.returns (by simp) (hb hby at_226) hr
        · show Q0 Z p1 p2 p3 q4 q5 w_DEFAULTCAPACITY_EMPTY_ELEMENTDATA k_DEFAULTCAPACITY_EMPTY_ELEMENTDATA h0 n0 _ T332.heap _
          rw [q332_0]
          exact ⟨rfl, N332⟩
      · refine own_go (B := T332.setTop (mkF m 226 #[.val (.int p1), .val (.int p2), .val (.int p3), .val (.long q4), .second, .val (.long q5), .second, .val (.int wm), .val (.int ii), .val (.int (0 : Int32)), .val (.ref b231), .val (.ref b280), .val (.ref b284), .val (.int wm), .val (.int (1 : Int32)), .val (.int (1 : Int32))] [(.int (1 : Int32))])) (fun t k => ?_) ?_
        · show Steps p.tables e below (T332.setTop (mkF m 186 #[.val (.int p1), .val (.int p2), .val (.int p3), .val (.long q4), .second, .val (.long q5), .second, .val (.int wm), .val (.int ii), .val (.int (0 : Int32)), .val (.ref b231), .val (.ref b280), .val (.ref b284), .val (.int wm), .val (.int (1 : Int32)), .unset] [(.int wm), (.int ii), (.int (if ii < wm then (1 : Int32) else 0))])) _
          refine XS.icmpYes X332.here hx rfl (pc0 := 186) (pc' := 193) rfl (hb hby at_186) rfl (flt hc336).2.1 (by decide) (by decide) ?_
          show Steps p.tables e below (T332.setTop (mkF m 193 #[.val (.int p1), .val (.int p2), .val (.int p3), .val (.long q4), .second, .val (.long q5), .second, .val (.int wm), .val (.int ii), .val (.int (0 : Int32)), .val (.ref b231), .val (.ref b280), .val (.ref b284), .val (.int wm), .val (.int (1 : Int32)), .unset] [(.int (if ii < wm then (1 : Int32) else 0))])) _
          refine XS.iconst X332.here hx rfl (hb hby at_193) ?_
          show Steps p.tables e below (T332.setTop (mkF m 194 #[.val (.int p1), .val (.int p2), .val (.int p3), .val (.long q4), .second, .val (.long q5), .second, .val (.int wm), .val (.int ii), .val (.int (0 : Int32)), .val (.ref b231), .val (.ref b280), .val (.ref b284), .val (.int wm), .val (.int (1 : Int32)), .unset] [(.int (0 : Int32)), (.int (if ii < wm then (1 : Int32) else 0))])) _
          refine XS.icmpNo X332.here hx rfl (hb hby at_194) rfl (teq (show (if ii < wm then (1 : Int32) else 0) = (0 : Int32) from (by rw [if_neg hc336] <;> decide))).2 ?_
          show Steps p.tables e below (T332.setTop (mkF m 197 #[.val (.int p1), .val (.int p2), .val (.int p3), .val (.long q4), .second, .val (.long q5), .second, .val (.int wm), .val (.int ii), .val (.int (0 : Int32)), .val (.ref b231), .val (.ref b280), .val (.ref b284), .val (.int wm), .val (.int (1 : Int32)), .unset] [])) _
          refine XS.iconst X332.here hx rfl (hb hby at_197) ?_
          show Steps p.tables e below (T332.setTop (mkF m 198 #[.val (.int p1), .val (.int p2), .val (.int p3), .val (.long q4), .second, .val (.long q5), .second, .val (.int wm), .val (.int ii), .val (.int (0 : Int32)), .val (.ref b231), .val (.ref b280), .val (.ref b284), .val (.int wm), .val (.int (1 : Int32)), .unset] [(.int (1 : Int32))])) _
          refine XS.goto X332.here hx rfl (pc0 := 198) (pc' := 202) rfl (hb hby at_198) (by decide) (by decide) ?_
          show Steps p.tables e below (T332.setTop (mkF m 202 #[.val (.int p1), .val (.int p2), .val (.int p3), .val (.long q4), .second, .val (.long q5), .second, .val (.int wm), .val (.int ii), .val (.int (0 : Int32)), .val (.ref b231), .val (.ref b280), .val (.ref b284), .val (.int wm), .val (.int (1 : Int32)), .unset] [(.int (1 : Int32))])) _
          refine XS.istore X332.here hx rfl (hb hby at_202) rfl (l' := #[.val (.int p1), .val (.int p2), .val (.int p3), .val (.long q4), .second, .val (.long q5), .second, .val (.int wm), .val (.int ii), .val (.int (0 : Int32)), .val (.ref b231), .val (.ref b280), .val (.ref b284), .val (.int wm), .val (.int (1 : Int32)), .val (.int (1 : Int32))]) rfl ?_
          show Steps p.tables e below (T332.setTop (mkF m 204 #[.val (.int p1), .val (.int p2), .val (.int p3), .val (.long q4), .second, .val (.long q5), .second, .val (.int wm), .val (.int ii), .val (.int (0 : Int32)), .val (.ref b231), .val (.ref b280), .val (.ref b284), .val (.int wm), .val (.int (1 : Int32)), .val (.int (1 : Int32))] [])) _
          refine XS.iload X332.here hx rfl (hb hby at_204) rfl ?_
          show Steps p.tables e below (T332.setTop (mkF m 206 #[.val (.int p1), .val (.int p2), .val (.int p3), .val (.long q4), .second, .val (.long q5), .second, .val (.int wm), .val (.int ii), .val (.int (0 : Int32)), .val (.ref b231), .val (.ref b280), .val (.ref b284), .val (.int wm), .val (.int (1 : Int32)), .val (.int (1 : Int32))] [(.int wm)])) _
          refine XS.iload X332.here hx rfl (hb hby at_206) rfl ?_
          show Steps p.tables e below (T332.setTop (mkF m 208 #[.val (.int p1), .val (.int p2), .val (.int p3), .val (.long q4), .second, .val (.long q5), .second, .val (.int wm), .val (.int ii), .val (.int (0 : Int32)), .val (.ref b231), .val (.ref b280), .val (.ref b284), .val (.int wm), .val (.int (1 : Int32)), .val (.int (1 : Int32))] [(.int wm), (.int wm)])) _
          refine XS.icmpNo X332.here hx rfl (hb hby at_208) rfl (teq (rfl : wm = wm)).2 ?_
          show Steps p.tables e below (T332.setTop (mkF m 211 #[.val (.int p1), .val (.int p2), .val (.int p3), .val (.long q4), .second, .val (.long q5), .second, .val (.int wm), .val (.int ii), .val (.int (0 : Int32)), .val (.ref b231), .val (.ref b280), .val (.ref b284), .val (.int wm), .val (.int (1 : Int32)), .val (.int (1 : Int32))] [])) _
          refine XS.iload X332.here hx rfl (hb hby at_211) rfl ?_
          show Steps p.tables e below (T332.setTop (mkF m 213 #[.val (.int p1), .val (.int p2), .val (.int p3), .val (.long q4), .second, .val (.long q5), .second, .val (.int wm), .val (.int ii), .val (.int (0 : Int32)), .val (.ref b231), .val (.ref b280), .val (.ref b284), .val (.int wm), .val (.int (1 : Int32)), .val (.int (1 : Int32))] [(.int (1 : Int32))])) _
          refine XS.ifNo X332.here hx rfl (hb hby at_213) rfl ((if0 _ _).trans (feq (by decide : ¬ ((1 : Int32) = (0 : Int32)))).1) ?_
          show Steps p.tables e below (T332.setTop (mkF m 216 #[.val (.int p1), .val (.int p2), .val (.int p3), .val (.long q4), .second, .val (.long q5), .second, .val (.int wm), .val (.int ii), .val (.int (0 : Int32)), .val (.ref b231), .val (.ref b280), .val (.ref b284), .val (.int wm), .val (.int (1 : Int32)), .val (.int (1 : Int32))] [])) _
          refine XS.iload X332.here hx rfl (hb hby at_216) rfl ?_
          show Steps p.tables e below (T332.setTop (mkF m 218 #[.val (.int p1), .val (.int p2), .val (.int p3), .val (.long q4), .second, .val (.long q5), .second, .val (.int wm), .val (.int ii), .val (.int (0 : Int32)), .val (.ref b231), .val (.ref b280), .val (.ref b284), .val (.int wm), .val (.int (1 : Int32)), .val (.int (1 : Int32))] [(.int (1 : Int32))])) _
          refine XS.ifNo X332.here hx rfl (hb hby at_218) rfl ((if0 _ _).trans (feq (by decide : ¬ ((1 : Int32) = (0 : Int32)))).1) ?_
          show Steps p.tables e below (T332.setTop (mkF m 221 #[.val (.int p1), .val (.int p2), .val (.int p3), .val (.long q4), .second, .val (.long q5), .second, .val (.int wm), .val (.int ii), .val (.int (0 : Int32)), .val (.ref b231), .val (.ref b280), .val (.ref b284), .val (.int wm), .val (.int (1 : Int32)), .val (.int (1 : Int32))] [])) _
          refine XS.iconst X332.here hx rfl (hb hby at_221) ?_
          show Steps p.tables e below (T332.setTop (mkF m 222 #[.val (.int p1), .val (.int p2), .val (.int p3), .val (.long q4), .second, .val (.long q5), .second, .val (.int wm), .val (.int ii), .val (.int (0 : Int32)), .val (.ref b231), .val (.ref b280), .val (.ref b284), .val (.int wm), .val (.int (1 : Int32)), .val (.int (1 : Int32))] [(.int (1 : Int32))])) _
          refine XS.goto X332.here hx rfl (pc0 := 222) (pc' := 226) rfl (hb hby at_222) (by decide) (by decide) ?_
          show Steps p.tables e below (T332.setTop (mkF m 226 #[.val (.int p1), .val (.int p2), .val (.int p3), .val (.long q4), .second, .val (.long q5), .second, .val (.int wm), .val (.int ii), .val (.int (0 : Int32)), .val (.ref b231), .val (.ref b280), .val (.ref b284), .val (.int wm), .val (.int (1 : Int32)), .val (.int (1 : Int32))] [(.int (1 : Int32))])) _
          exact k
        obtain ⟨fs, hr, hrun, hended, hW, hsame⟩ := X332.leave (v := some (.int (1 : Int32))) (fun h => by rw [Bd.returns] at h; cases h)
        refine ⟨_, _, ?_, hrun, hended, _, _, rfl, ?_, ⟨_, rfl⟩, hW, hsame.mono (by decide) (by decide)⟩
        · exact retN X332 hx (t := .boolean) Bd.returns (by simp) (hb hby at_226) hr
        · show Q0 Z p1 p2 p3 q4 q5 w_DEFAULTCAPACITY_EMPTY_ELEMENTDATA k_DEFAULTCAPACITY_EMPTY_ELEMENTDATA h0 n0 _ T332.heap _
          rw [q332_0]
          exact ⟨rfl, N332⟩
  · by_cases hk1 : kk = (1 : Int32)
    · rw [show kk = (1 : Int32) from hk1]
      refine own_go (B := T298.setTop (mkF m 144 #[.val (.int p1), .val (.int p2), .val (.int p3), .val (.long q4), .second, .val (.long q5), .second, .val (.int wm), .val (.int ii), .val (.int (1 : Int32)), .val (.ref b231), .val (.ref b280), .val (.ref b284), .val (.int wm), .unset, .unset] [(.int (1 : Int32)), (.ref b231), (.ref b284)])) (fun t k => ?_) ?_
      · show Steps p.tables e below (T298.setTop (mkF m 138 #[.val (.int p1), .val (.int p2), .val (.int p3), .val (.long q4), .second, .val (.long q5), .second, .val (.int wm), .val (.int ii), .val (.int (1 : Int32)), .val (.ref b231), .val (.ref b280), .val (.ref b284), .val (.int wm), .unset, .unset] [])) _
        refine XS.aload X298.here hx rfl (hb hby at_138) rfl rfl ?_
        show Steps p.tables e below (T298.setTop (mkF m 140 #[.val (.int p1), .val (.int p2), .val (.int p3), .val (.long q4), .second, .val (.long q5), .second, .val (.int wm), .val (.int ii), .val (.int (1 : Int32)), .val (.ref b231), .val (.ref b280), .val (.ref b284), .val (.int wm), .unset, .unset] [(.ref b284)])) _
        refine XS.aload X298.here hx rfl (hb hby at_140) rfl rfl ?_
        show Steps p.tables e below (T298.setTop (mkF m 142 #[.val (.int p1), .val (.int p2), .val (.int p3), .val (.long q4), .second, .val (.long q5), .second, .val (.int wm), .val (.int ii), .val (.int (1 : Int32)), .val (.ref b231), .val (.ref b280), .val (.ref b284), .val (.int wm), .unset, .unset] [(.ref b231), (.ref b284)])) _
        refine XS.iload X298.here hx rfl (hb hby at_142) rfl ?_
        show Steps p.tables e below (T298.setTop (mkF m 144 #[.val (.int p1), .val (.int p2), .val (.int p3), .val (.long q4), .second, .val (.long q5), .second, .val (.int wm), .val (.int ii), .val (.int (1 : Int32)), .val (.ref b231), .val (.ref b280), .val (.ref b284), .val (.int wm), .unset, .unset] [(.int (1 : Int32)), (.ref b231), (.ref b284)])) _
        exact k
      have f340 : Exa Z T296.heap b231 "java/util/ArrayList" := (f295.keep q296_0)
      have f341 : Fld Z T296.heap b231 "java/util/ArrayList" "size" "I" (.int (3 : Int32)) := (f293.keep q296_0 nin0)
      have f342 : Fld Z T296.heap b231 "java/util/ArrayList" "elementData" "[Ljava/lang/Object;" (.ref bn_238) := (((((q270_5.ext E280).keep q281_0 (ninS ne290 nin0)).ext E284).keep q285_0 (ninS ne292 nin0)).keep q296_0 nin0)
      have ne343 : bn_238 ≠ b280 := (Nat.ne_of_lt (Nat.lt_of_lt_of_le q270_1.lt (Nat.le_of_eq g280.symm)))
      have le344 : T270.heap.size ≤ T281.heap.size := (Nat.le_trans E280.1 q281_0.1)
      have ne345 : bn_238 ≠ b284 := (Nat.ne_of_lt (Nat.lt_of_lt_of_le (Nat.lt_of_lt_of_le q270_1.lt le344) (Nat.le_of_eq g284.symm)))
      have f346 : Arv Z T296.heap bn_238 kn_238 (.object "java/lang/Object") (10 : Int32) [(.ref b234), (.ref b250), (.ref b266), .null, .null, .null, .null, .null, .null, .null] .null := (((((q270_1.ext E280).keep q281_0 (ninS ne343 nin0)).ext E284).keep q285_0 (ninS ne345 nin0)).keep q296_0 nin0)
      obtain ⟨cq339, kq339, q339a, q339b, q339c⟩ := isOf hZ q298_0 f340
      obtain ⟨_, _, ⟨T339, L339, k339, n339⟩, -, X339, ⟨Lc339, hQ339, l339, y339, z339⟩, st339⟩ := X298.virtualBack hx (y := (⟨"java/util/ArrayList", "get", "(I)Ljava/lang/Object;"⟩ : MethodName)) (z := (⟨"java/util/ArrayList", "get", "(I)Ljava/lang/Object;"⟩ : MethodName)) hown (mvT hZ (hw _ (List.mem_of_getElem? (i := 158) rfl))) (mvT hZ (hw _ (List.mem_of_getElem? (i := 159) rfl))) (notFace_of_selects (args := #[]) (mvT hZ (hw _ (List.mem_of_getElem? (i := 161) rfl)))) (mvT hZ (hw _ (List.mem_of_getElem? (i := 161) rfl))) (mvT hZ (hw _ (List.mem_of_getElem? (i := 160) rfl))) (by decide) (backOf (W := 1) (rm20_1 l Z a0 hw [] b231 b234 b250 b266 bn_238 kn_238 T296.heap n0 (Nat.le_trans Z0 le300) f340 f341 f342 f346) hZ (hw _ (List.mem_of_getElem? (i := 162) rfl)) (hw _ (List.mem_of_getElem? (i := 3) rfl)) (by decide) (by decide)) q339a q339c (g := (mkF m 144 #[.val (.int p1), .val (.int p2), .val (.int p3), .val (.long q4), .second, .val (.long q5), .second, .val (.int wm), .val (.int ii), .val (.int (1 : Int32)), .val (.ref b231), .val (.ref b280), .val (.ref b284), .val (.int wm), .unset, .unset] [(.int (1 : Int32)), (.ref b231), (.ref b284)])) rfl (by rw [hml]; rfl) (Steps.refl _) (argsL := [(.int (1 : Int32))]) (rest := [(.ref b284)]) (lenOf pd_7 rfl) rfl (by show 2 * 0 + _ ≤ _; exact Nat.le_of_eq rfl) (hb hby at_144) (fun _ _ => ⟨rfl, q298_0, (by decide : 8 + 0 ≤ _), (by decide : 42 + 0 ≤ _)⟩)
      dsimp only [Pt.U, Pt.locs, Pt.cells, Pt.slots] at X339 l339 y339 z339 st339 hQ339
      subst l339 y339 z339
      obtain ⟨rfl, M339, q339_0⟩ := hQ339
      have N339 := Fr.app N298 M339
      refine own_go (fun t k => st339.trans k) ?_
      have f348 : Exa Z T296.heap b250 "com/example/tiphys/tiphys/Release" := (((((((((q251_1.keep q254_0).ext E266).keep q267_0).keep q270_0).ext E280).keep q281_0).ext E284).keep q285_0).keep q296_0)
      obtain ⟨T347, X347, e347, st347⟩ := castY X339 hx hZ hown (hw _ (List.mem_of_getElem? (i := 27) rfl)) q339_0 (Ins.self f348) (g := (mkF m 147 #[.val (.int p1), .val (.int p2), .val (.int p3), .val (.long q4), .second, .val (.long q5), .second, .val (.int wm), .val (.int ii), .val (.int (1 : Int32)), .val (.ref b231), .val (.ref b280), .val (.ref b284), .val (.int wm), .unset, .unset] [(.ref b250), (.ref b284)])) rfl rfl (hb hby at_147)
      refine own_go st347 ?_
      have le350 : h250.size ≤ T254.heap.size := (Nat.le_trans q251_0.1 q254_0.1)
      have ne351 : b250 ≠ b266 := (Nat.ne_of_lt (Nat.lt_of_lt_of_le (Nat.lt_of_lt_of_le A250.lt le350) (Nat.le_of_eq g266.symm)))
      have le352 : h250.size ≤ T270.heap.size := (Nat.le_trans (Nat.le_trans (Nat.le_trans (Nat.le_trans q251_0.1 q254_0.1) E266.1) q267_0.1) q270_0.1)
      have ne353 : b250 ≠ b280 := (Nat.ne_of_lt (Nat.lt_of_lt_of_le (Nat.lt_of_lt_of_le A250.lt le352) (Nat.le_of_eq g280.symm)))
      have le354 : h250.size ≤ T281.heap.size := (Nat.le_trans (Nat.le_trans (Nat.le_trans (Nat.le_trans (Nat.le_trans (Nat.le_trans q251_0.1 q254_0.1) E266.1) q267_0.1) q270_0.1) E280.1) q281_0.1)
      have ne355 : b250 ≠ b284 := (Nat.ne_of_lt (Nat.lt_of_lt_of_le (Nat.lt_of_lt_of_le A250.lt le354) (Nat.le_of_eq g284.symm)))
      have f356 : Fld Z T296.heap b250 "com/example/tiphys/tiphys/Release" "index" "I" (.int (1 : Int32)) := (((((((((q251_2.keep q254_0 (ninS (Ne.symm ne257) (ninS (Ne.symm ne261) nin0))).ext E266).keep q267_0 (ninS ne351 nin0)).keep q270_0 (ninS (Ne.symm ne257) (ninS (Ne.symm ne261) nin0))).ext E280).keep q281_0 (ninS ne353 nin0)).ext E284).keep q285_0 (ninS ne355 nin0)).keep q296_0 nin0)
      have f357 : Fld Z T296.heap b284 "com/example/tiphys/tiphys/Run" "warmups" "I" (.int wm) := (q285_3.keep q296_0 nin0)
      have f358 : Exa Z T296.heap b284 "com/example/tiphys/tiphys/Run" := (q285_1.keep q296_0)
      obtain ⟨cq349, kq349, q349a, q349b, q349c⟩ := isOf hZ e347 f358
      obtain ⟨_, _, ⟨T349, L349, k349, n349⟩, -, X349, ⟨Lc349, hQ349, l349, y349, z349⟩, st349⟩ := X347.virtualBack hx (y := (⟨"com/example/tiphys/tiphys/Run", "isWarmup", "(Lcom/example/tiphys/tiphys/Release;)Z"⟩ : MethodName)) (z := (⟨"com/example/tiphys/tiphys/Run", "isWarmup", "(Lcom/example/tiphys/tiphys/Release;)Z"⟩ : MethodName)) hown (mvT hZ (hw _ (List.mem_of_getElem? (i := 177) rfl))) (mvT hZ (hw _ (List.mem_of_getElem? (i := 178) rfl))) (notFace_of_selects (args := #[]) (mvT hZ (hw _ (List.mem_of_getElem? (i := 180) rfl)))) (mvT hZ (hw _ (List.mem_of_getElem? (i := 180) rfl))) (mvT hZ (hw _ (List.mem_of_getElem? (i := 179) rfl))) (by decide) (backOf (W := 0) (rm24 l Z a0 hw [] b284 b250 (1 : Int32) wm T296.heap n0 (Nat.le_trans Z0 le300) f348 f356 f357) hZ (hw _ (List.mem_of_getElem? (i := 181) rfl)) (hw _ (List.mem_of_getElem? (i := 82) rfl)) (by decide) (by decide)) q349a q349c (g := (mkF m 150 #[.val (.int p1), .val (.int p2), .val (.int p3), .val (.long q4), .second, .val (.long q5), .second, .val (.int wm), .val (.int ii), .val (.int (1 : Int32)), .val (.ref b231), .val (.ref b280), .val (.ref b284), .val (.int wm), .unset, .unset] [(.ref b250), (.ref b284)])) rfl (by rw [hml]; rfl) (Steps.refl _) (argsL := [(.ref b250)]) (rest := []) (lenOf pd_15 rfl) rfl (by show 2 * 0 + _ ≤ _; exact Nat.le_of_eq rfl) (hb hby at_150) (fun _ _ => ⟨rfl, e347, (by decide : 8 + 0 ≤ _), (by decide : 42 + 0 ≤ _)⟩)
      dsimp only [Pt.U, Pt.locs, Pt.cells, Pt.slots] at X349 l349 y349 z349 st349 hQ349
      subst l349 y349 z349
      obtain ⟨rfl, M349, q349_0⟩ := hQ349
      have N349 := Fr.app N339 M349
      refine own_go (fun t k => st349.trans k) ?_
      refine own_go (B := T349.setTop (mkF m 157 #[.val (.int p1), .val (.int p2), .val (.int p3), .val (.long q4), .second, .val (.long q5), .second, .val (.int wm), .val (.int ii), .val (.int (1 : Int32)), .val (.ref b231), .val (.ref b280), .val (.ref b284), .val (.int wm), .unset, .unset] [(.int wm), (.int (1 : Int32)), (.int (if (1 : Int32) < wm then (1 : Int32) else 0))])) (fun t k => ?_) ?_
      · show Steps p.tables e below (T349.setTop (mkF m 153 #[.val (.int p1), .val (.int p2), .val (.int p3), .val (.long q4), .second, .val (.long q5), .second, .val (.int wm), .val (.int ii), .val (.int (1 : Int32)), .val (.ref b231), .val (.ref b280), .val (.ref b284), .val (.int wm), .unset, .unset] [(.int (if (1 : Int32) < wm then (1 : Int32) else 0))])) _
        refine XS.iload X349.here hx rfl (hb hby at_153) rfl ?_
        show Steps p.tables e below (T349.setTop (mkF m 155 #[.val (.int p1), .val (.int p2), .val (.int p3), .val (.long q4), .second, .val (.long q5), .second, .val (.int wm), .val (.int ii), .val (.int (1 : Int32)), .val (.ref b231), .val (.ref b280), .val (.ref b284), .val (.int wm), .unset, .unset] [(.int (1 : Int32)), (.int (if (1 : Int32) < wm then (1 : Int32) else 0))])) _
        refine XS.iload X349.here hx rfl (hb hby at_155) rfl ?_
        show Steps p.tables e below (T349.setTop (mkF m 157 #[.val (.int p1), .val (.int p2), .val (.int p3), .val (.long q4), .second, .val (.long q5), .second, .val (.int wm), .val (.int ii), .val (.int (1 : Int32)), .val (.ref b231), .val (.ref b280), .val (.ref b284), .val (.int wm), .unset, .unset] [(.int wm), (.int (1 : Int32)), (.int (if (1 : Int32) < wm then (1 : Int32) else 0))])) _
        exact k
      by_cases hc359 : (1 : Int32) < wm
      · refine own_go (B := T349.setTop (mkF m 179 #[.val (.int p1), .val (.int p2), .val (.int p3), .val (.long q4), .second, .val (.long q5), .second, .val (.int wm), .val (.int ii), .val (.int (1 : Int32)), .val (.ref b231), .val (.ref b280), .val (.ref b284), .val (.int wm), .val (.int (1 : Int32)), .unset] [(.ref b280), (.ref b284)])) (fun t k => ?_) ?_
        · show Steps p.tables e below (T349.setTop (mkF m 157 #[.val (.int p1), .val (.int p2), .val (.int p3), .val (.long q4), .second, .val (.long q5), .second, .val (.int wm), .val (.int ii), .val (.int (1 : Int32)), .val (.ref b231), .val (.ref b280), .val (.ref b284), .val (.int wm), .unset, .unset] [(.int wm), (.int (1 : Int32)), (.int (if (1 : Int32) < wm then (1 : Int32) else 0))])) _
          refine XS.icmpNo X349.here hx rfl (hb hby at_157) rfl (tlt hc359).2.1 ?_
          show Steps p.tables e below (T349.setTop (mkF m 160 #[.val (.int p1), .val (.int p2), .val (.int p3), .val (.long q4), .second, .val (.long q5), .second, .val (.int wm), .val (.int ii), .val (.int (1 : Int32)), .val (.ref b231), .val (.ref b280), .val (.ref b284), .val (.int wm), .unset, .unset] [(.int (if (1 : Int32) < wm then (1 : Int32) else 0))])) _
          refine XS.iconst X349.here hx rfl (hb hby at_160) ?_
          show Steps p.tables e below (T349.setTop (mkF m 161 #[.val (.int p1), .val (.int p2), .val (.int p3), .val (.long q4), .second, .val (.long q5), .second, .val (.int wm), .val (.int ii), .val (.int (1 : Int32)), .val (.ref b231), .val (.ref b280), .val (.ref b284), .val (.int wm), .unset, .unset] [(.int (1 : Int32)), (.int (if (1 : Int32) < wm then (1 : Int32) else 0))])) _
          refine XS.goto X349.here hx rfl (pc0 := 161) (pc' := 165) rfl (hb hby at_161) (by decide) (by decide) ?_
          show Steps p.tables e below (T349.setTop (mkF m 165 #[.val (.int p1), .val (.int p2), .val (.int p3), .val (.long q4), .second, .val (.long q5), .second, .val (.int wm), .val (.int ii), .val (.int (1 : Int32)), .val (.ref b231), .val (.ref b280), .val (.ref b284), .val (.int wm), .unset, .unset] [(.int (1 : Int32)), (.int (if (1 : Int32) < wm then (1 : Int32) else 0))])) _
          refine XS.icmpNo X349.here hx rfl (hb hby at_165) rfl (teq (show (if (1 : Int32) < wm then (1 : Int32) else 0) = (1 : Int32) from (by rw [if_pos hc359] <;> decide))).2 ?_
          show Steps p.tables e below (T349.setTop (mkF m 168 #[.val (.int p1), .val (.int p2), .val (.int p3), .val (.long q4), .second, .val (.long q5), .second, .val (.int wm), .val (.int ii), .val (.int (1 : Int32)), .val (.ref b231), .val (.ref b280), .val (.ref b284), .val (.int wm), .unset, .unset] [])) _
          refine XS.iconst X349.here hx rfl (hb hby at_168) ?_
          show Steps p.tables e below (T349.setTop (mkF m 169 #[.val (.int p1), .val (.int p2), .val (.int p3), .val (.long q4), .second, .val (.long q5), .second, .val (.int wm), .val (.int ii), .val (.int (1 : Int32)), .val (.ref b231), .val (.ref b280), .val (.ref b284), .val (.int wm), .unset, .unset] [(.int (1 : Int32))])) _
          refine XS.goto X349.here hx rfl (pc0 := 169) (pc' := 173) rfl (hb hby at_169) (by decide) (by decide) ?_
          show Steps p.tables e below (T349.setTop (mkF m 173 #[.val (.int p1), .val (.int p2), .val (.int p3), .val (.long q4), .second, .val (.long q5), .second, .val (.int wm), .val (.int ii), .val (.int (1 : Int32)), .val (.ref b231), .val (.ref b280), .val (.ref b284), .val (.int wm), .unset, .unset] [(.int (1 : Int32))])) _
          refine XS.istore X349.here hx rfl (hb hby at_173) rfl (l' := #[.val (.int p1), .val (.int p2), .val (.int p3), .val (.long q4), .second, .val (.long q5), .second, .val (.int wm), .val (.int ii), .val (.int (1 : Int32)), .val (.ref b231), .val (.ref b280), .val (.ref b284), .val (.int wm), .val (.int (1 : Int32)), .unset]) rfl ?_
          show Steps p.tables e below (T349.setTop (mkF m 175 #[.val (.int p1), .val (.int p2), .val (.int p3), .val (.long q4), .second, .val (.long q5), .second, .val (.int wm), .val (.int ii), .val (.int (1 : Int32)), .val (.ref b231), .val (.ref b280), .val (.ref b284), .val (.int wm), .val (.int (1 : Int32)), .unset] [])) _
          refine XS.aload X349.here hx rfl (hb hby at_175) rfl rfl ?_
          show Steps p.tables e below (T349.setTop (mkF m 177 #[.val (.int p1), .val (.int p2), .val (.int p3), .val (.long q4), .second, .val (.long q5), .second, .val (.int wm), .val (.int ii), .val (.int (1 : Int32)), .val (.ref b231), .val (.ref b280), .val (.ref b284), .val (.int wm), .val (.int (1 : Int32)), .unset] [(.ref b284)])) _
          refine XS.aload X349.here hx rfl (hb hby at_177) rfl rfl ?_
          show Steps p.tables e below (T349.setTop (mkF m 179 #[.val (.int p1), .val (.int p2), .val (.int p3), .val (.long q4), .second, .val (.long q5), .second, .val (.int wm), .val (.int ii), .val (.int (1 : Int32)), .val (.ref b231), .val (.ref b280), .val (.ref b284), .val (.int wm), .val (.int (1 : Int32)), .unset] [(.ref b280), (.ref b284)])) _
          exact k
        have f361 : Exa Z T296.heap b280 "com/example/tiphys/tiphys/Release" := (((q281_1.ext E284).keep q285_0).keep q296_0)
        have ne362 : b280 ≠ b284 := (Nat.ne_of_lt (Nat.lt_of_lt_of_le (Nat.lt_of_lt_of_le A280.lt q281_0.1) (Nat.le_of_eq g284.symm)))
        have f363 : Fld Z T296.heap b280 "com/example/tiphys/tiphys/Release" "index" "I" (.int ii) := (((q281_2.ext E284).keep q285_0 (ninS ne362 nin0)).keep q296_0 nin0)
        obtain ⟨cq360, kq360, q360a, q360b, q360c⟩ := isOf hZ q349_0 f358
        obtain ⟨_, _, ⟨T360, L360, k360, n360⟩, -, X360, ⟨Lc360, hQ360, l360, y360, z360⟩, st360⟩ := X349.virtualBack hx (y := (⟨"com/example/tiphys/tiphys/Run", "isWarmup", "(Lcom/example/tiphys/tiphys/Release;)Z"⟩ : MethodName)) (z := (⟨"com/example/tiphys/tiphys/Run", "isWarmup", "(Lcom/example/tiphys/tiphys/Release;)Z"⟩ : MethodName)) hown (mvT hZ (hw _ (List.mem_of_getElem? (i := 177) rfl))) (mvT hZ (hw _ (List.mem_of_getElem? (i := 178) rfl))) (notFace_of_selects (args := #[]) (mvT hZ (hw _ (List.mem_of_getElem? (i := 180) rfl)))) (mvT hZ (hw _ (List.mem_of_getElem? (i := 180) rfl))) (mvT hZ (hw _ (List.mem_of_getElem? (i := 179) rfl))) (by decide) (backOf (W := 0) (rm24 l Z a0 hw [] b284 b280 ii wm T296.heap n0 (Nat.le_trans Z0 le300) f361 f363 f357) hZ (hw _ (List.mem_of_getElem? (i := 181) rfl)) (hw _ (List.mem_of_getElem? (i := 82) rfl)) (by decide) (by decide)) q360a q360c (g := (mkF m 179 #[.val (.int p1), .val (.int p2), .val (.int p3), .val (.long q4), .second, .val (.long q5), .second, .val (.int wm), .val (.int ii), .val (.int (1 : Int32)), .val (.ref b231), .val (.ref b280), .val (.ref b284), .val (.int wm), .val (.int (1 : Int32)), .unset] [(.ref b280), (.ref b284)])) rfl (by rw [hml]; rfl) (Steps.refl _) (argsL := [(.ref b280)]) (rest := []) (lenOf pd_15 rfl) rfl (by show 2 * 0 + _ ≤ _; exact Nat.le_of_eq rfl) (hb hby at_179) (fun _ _ => ⟨rfl, q349_0, (by decide : 8 + 0 ≤ _), (by decide : 42 + 0 ≤ _)⟩)
        dsimp only [Pt.U, Pt.locs, Pt.cells, Pt.slots] at X360 l360 y360 z360 st360 hQ360
        subst l360 y360 z360
        obtain ⟨rfl, M360, q360_0⟩ := hQ360
        have N360 := Fr.app N349 M360
        refine own_go (fun t k => st360.trans k) ?_
        refine own_go (B := T360.setTop (mkF m 186 #[.val (.int p1), .val (.int p2), .val (.int p3), .val (.long q4), .second, .val (.long q5), .second, .val (.int wm), .val (.int ii), .val (.int (1 : Int32)), .val (.ref b231), .val (.ref b280), .val (.ref b284), .val (.int wm), .val (.int (1 : Int32)), .unset] [(.int wm), (.int ii), (.int (if ii < wm then (1 : Int32) else 0))])) (fun t k => ?_) ?_
        · show Steps p.tables e below (T360.setTop (mkF m 182 #[.val (.int p1), .val (.int p2), .val (.int p3), .val (.long q4), .second, .val (.long q5), .second, .val (.int wm), .val (.int ii), .val (.int (1 : Int32)), .val (.ref b231), .val (.ref b280), .val (.ref b284), .val (.int wm), .val (.int (1 : Int32)), .unset] [(.int (if ii < wm then (1 : Int32) else 0))])) _
          refine XS.iload X360.here hx rfl (hb hby at_182) rfl ?_
          show Steps p.tables e below (T360.setTop (mkF m 184 #[.val (.int p1), .val (.int p2), .val (.int p3), .val (.long q4), .second, .val (.long q5), .second, .val (.int wm), .val (.int ii), .val (.int (1 : Int32)), .val (.ref b231), .val (.ref b280), .val (.ref b284), .val (.int wm), .val (.int (1 : Int32)), .unset] [(.int ii), (.int (if ii < wm then (1 : Int32) else 0))])) _
          refine XS.iload X360.here hx rfl (hb hby at_184) rfl ?_
          show Steps p.tables e below (T360.setTop (mkF m 186 #[.val (.int p1), .val (.int p2), .val (.int p3), .val (.long q4), .second, .val (.long q5), .second, .val (.int wm), .val (.int ii), .val (.int (1 : Int32)), .val (.ref b231), .val (.ref b280), .val (.ref b284), .val (.int wm), .val (.int (1 : Int32)), .unset] [(.int wm), (.int ii), (.int (if ii < wm then (1 : Int32) else 0))])) _
          exact k
        by_cases hc364 : ii < wm
        · refine own_go (B := T360.setTop (mkF m 226 #[.val (.int p1), .val (.int p2), .val (.int p3), .val (.long q4), .second, .val (.long q5), .second, .val (.int wm), .val (.int ii), .val (.int (1 : Int32)), .val (.ref b231), .val (.ref b280), .val (.ref b284), .val (.int wm), .val (.int (1 : Int32)), .val (.int (1 : Int32))] [(.int (1 : Int32))])) (fun t k => ?_) ?_
          · show Steps p.tables e below (T360.setTop (mkF m 186 #[.val (.int p1), .val (.int p2), .val (.int p3), .val (.long q4), .second, .val (.long q5), .second, .val (.int wm), .val (.int ii), .val (.int (1 : Int32)), .val (.ref b231), .val (.ref b280), .val (.ref b284), .val (.int wm), .val (.int (1 : Int32)), .unset] [(.int wm), (.int ii), (.int (if ii < wm then (1 : Int32) else 0))])) _
            refine XS.icmpNo X360.here hx rfl (hb hby at_186) rfl (tlt hc364).2.1 ?_
            show Steps p.tables e below (T360.setTop (mkF m 189 #[.val (.int p1), .val (.int p2), .val (.int p3), .val (.long q4), .second, .val (.long q5), .second, .val (.int wm), .val (.int ii), .val (.int (1 : Int32)), .val (.ref b231), .val (.ref b280), .val (.ref b284), .val (.int wm), .val (.int (1 : Int32)), .unset] [(.int (if ii < wm then (1 : Int32) else 0))])) _
            refine XS.iconst X360.here hx rfl (hb hby at_189) ?_
            show Steps p.tables e below (T360.setTop (mkF m 190 #[.val (.int p1), .val (.int p2), .val (.int p3), .val (.long q4), .second, .val (.long q5), .second, .val (.int wm), .val (.int ii), .val (.int (1 : Int32)), .val (.ref b231), .val (.ref b280), .val (.ref b284), .val (.int wm), .val (.int (1 : Int32)), .unset] [(.int (1 : Int32)), (.int (if ii < wm then (1 : Int32) else 0))])) _
            refine XS.goto X360.here hx rfl (pc0 := 190) (pc' := 194) rfl (hb hby at_190) (by decide) (by decide) ?_
            show Steps p.tables e below (T360.setTop (mkF m 194 #[.val (.int p1), .val (.int p2), .val (.int p3), .val (.long q4), .second, .val (.long q5), .second, .val (.int wm), .val (.int ii), .val (.int (1 : Int32)), .val (.ref b231), .val (.ref b280), .val (.ref b284), .val (.int wm), .val (.int (1 : Int32)), .unset] [(.int (1 : Int32)), (.int (if ii < wm then (1 : Int32) else 0))])) _
            refine XS.icmpNo X360.here hx rfl (hb hby at_194) rfl (teq (show (if ii < wm then (1 : Int32) else 0) = (1 : Int32) from (by rw [if_pos hc364] <;> decide))).2 ?_
            show Steps p.tables e below (T360.setTop (mkF m 197 #[.val (.int p1), .val (.int p2), .val (.int p3), .val (.long q4), .second, .val (.long q5), .second, .val (.int wm), .val (.int ii), .val (.int (1 : Int32)), .val (.ref b231), .val (.ref b280), .val (.ref b284), .val (.int wm), .val (.int (1 : Int32)), .unset] [])) _
            refine XS.iconst X360.here hx rfl (hb hby at_197) ?_
            show Steps p.tables e below (T360.setTop (mkF m 198 #[.val (.int p1), .val (.int p2), .val (.int p3), .val (.long q4), .second, .val (.long q5), .second, .val (.int wm), .val (.int ii), .val (.int (1 : Int32)), .val (.ref b231), .val (.ref b280), .val (.ref b284), .val (.int wm), .val (.int (1 : Int32)), .unset] [(.int (1 : Int32))])) _
            refine XS.goto X360.here hx rfl (pc0 := 198) (pc' := 202) rfl (hb hby at_198) (by decide) (by decide) ?_
            show Steps p.tables e below (T360.setTop (mkF m 202 #[.val (.int p1), .val (.int p2), .val (.int p3), .val (.long q4), .second, .val (.long q5), .second, .val (.int wm), .val (.int ii), .val (.int (1 : Int32)), .val (.ref b231), .val (.ref b280), .val (.ref b284), .val (.int wm), .val (.int (1 : Int32)), .unset] [(.int (1 : Int32))])) _
            refine XS.istore X360.here hx rfl (hb hby at_202) rfl (l' := #[.val (.int p1), .val (.int p2), .val (.int p3), .val (.long q4), .second, .val (.long q5), .second, .val (.int wm), .val (.int ii), .val (.int (1 : Int32)), .val (.ref b231), .val (.ref b280), .val (.ref b284), .val (.int wm), .val (.int (1 : Int32)), .val (.int (1 : Int32))]) rfl ?_
            show Steps p.tables e below (T360.setTop (mkF m 204 #[.val (.int p1), .val (.int p2), .val (.int p3), .val (.long q4), .second, .val (.long q5), .second, .val (.int wm), .val (.int ii), .val (.int (1 : Int32)), .val (.ref b231), .val (.ref b280), .val (.ref b284), .val (.int wm), .val (.int (1 : Int32)), .val (.int (1 : Int32))] [])) _
            refine XS.iload X360.here hx rfl (hb hby at_204) rfl ?_
            show Steps p.tables e below (T360.setTop (mkF m 206 #[.val (.int p1), .val (.int p2), .val (.int p3), .val (.long q4), .second, .val (.long q5), .second, .val (.int wm), .val (.int ii), .val (.int (1 : Int32)), .val (.ref b231), .val (.ref b280), .val (.ref b284), .val (.int wm), .val (.int (1 : Int32)), .val (.int (1 : Int32))] [(.int wm)])) _
            refine XS.iload X360.here hx rfl (hb hby at_206) rfl ?_
            show Steps p.tables e below (T360.setTop (mkF m 208 #[.val (.int p1), .val (.int p2), .val (.int p3), .val (.long q4), .second, .val (.long q5), .second, .val (.int wm), .val (.int ii), .val (.int (1 : Int32)), .val (.ref b231), .val (.ref b280), .val (.ref b284), .val (.int wm), .val (.int (1 : Int32)), .val (.int (1 : Int32))] [(.int wm), (.int wm)])) _
            refine XS.icmpNo X360.here hx rfl (hb hby at_208) rfl (teq (rfl : wm = wm)).2 ?_
            show Steps p.tables e below (T360.setTop (mkF m 211 #[.val (.int p1), .val (.int p2), .val (.int p3), .val (.long q4), .second, .val (.long q5), .second, .val (.int wm), .val (.int ii), .val (.int (1 : Int32)), .val (.ref b231), .val (.ref b280), .val (.ref b284), .val (.int wm), .val (.int (1 : Int32)), .val (.int (1 : Int32))] [])) _
            refine XS.iload X360.here hx rfl (hb hby at_211) rfl ?_
            show Steps p.tables e below (T360.setTop (mkF m 213 #[.val (.int p1), .val (.int p2), .val (.int p3), .val (.long q4), .second, .val (.long q5), .second, .val (.int wm), .val (.int ii), .val (.int (1 : Int32)), .val (.ref b231), .val (.ref b280), .val (.ref b284), .val (.int wm), .val (.int (1 : Int32)), .val (.int (1 : Int32))] [(.int (1 : Int32))])) _
            refine XS.ifNo X360.here hx rfl (hb hby at_213) rfl ((if0 _ _).trans (feq (by decide : ¬ ((1 : Int32) = (0 : Int32)))).1) ?_
            show Steps p.tables e below (T360.setTop (mkF m 216 #[.val (.int p1), .val (.int p2), .val (.int p3), .val (.long q4), .second, .val (.long q5), .second, .val (.int wm), .val (.int ii), .val (.int (1 : Int32)), .val (.ref b231), .val (.ref b280), .val (.ref b284), .val (.int wm), .val (.int (1 : Int32)), .val (.int (1 : Int32))] [])) _
            refine XS.iload X360.here hx rfl (hb hby at_216) rfl ?_
            show Steps p.tables e below (T360.setTop (mkF m 218 #[.val (.int p1), .val (.int p2), .val (.int p3), .val (.long q4), .second, .val (.long q5), .second, .val (.int wm), .val (.int ii), .val (.int (1 : Int32)), .val (.ref b231), .val (.ref b280), .val (.ref b284), .val (.int wm), .val (.int (1 : Int32)), .val (.int (1 : Int32))] [(.int (1 : Int32))])) _
            refine XS.ifNo X360.here hx rfl (hb hby at_218) rfl ((if0 _ _).trans (feq (by decide : ¬ ((1 : Int32) = (0 : Int32)))).1) ?_
            show Steps p.tables e below (T360.setTop (mkF m 221 #[.val (.int p1), .val (.int p2), .val (.int p3), .val (.long q4), .second, .val (.long q5), .second, .val (.int wm), .val (.int ii), .val (.int (1 : Int32)), .val (.ref b231), .val (.ref b280), .val (.ref b284), .val (.int wm), .val (.int (1 : Int32)), .val (.int (1 : Int32))] [])) _
            refine XS.iconst X360.here hx rfl (hb hby at_221) ?_
            show Steps p.tables e below (T360.setTop (mkF m 222 #[.val (.int p1), .val (.int p2), .val (.int p3), .val (.long q4), .second, .val (.long q5), .second, .val (.int wm), .val (.int ii), .val (.int (1 : Int32)), .val (.ref b231), .val (.ref b280), .val (.ref b284), .val (.int wm), .val (.int (1 : Int32)), .val (.int (1 : Int32))] [(.int (1 : Int32))])) _
            refine XS.goto X360.here hx rfl (pc0 := 222) (pc' := 226) rfl (hb hby at_222) (by decide) (by decide) ?_
            show Steps p.tables e below (T360.setTop (mkF m 226 #[.val (.int p1), .val (.int p2), .val (.int p3), .val (.long q4), .second, .val (.long q5), .second, .val (.int wm), .val (.int ii), .val (.int (1 : Int32)), .val (.ref b231), .val (.ref b280), .val (.ref b284), .val (.int wm), .val (.int (1 : Int32)), .val (.int (1 : Int32))] [(.int (1 : Int32))])) _
            exact k
          obtain ⟨fs, hr, hrun, hended, hW, hsame⟩ := X360.leave (v := some (.int (1 : Int32))) (fun h => by rw [Bd.returns] at h; cases h)
          refine ⟨_, _, ?_, hrun, hended, _, _, rfl, ?_, ⟨_, rfl⟩, hW, hsame.mono (by decide) (by decide)⟩
          · exact retN X360 hx (t := .boolean) Bd.returns (by simp) (hb hby at_226) hr
          · show Q0 Z p1 p2 p3 q4 q5 w_DEFAULTCAPACITY_EMPTY_ELEMENTDATA k_DEFAULTCAPACITY_EMPTY_ELEMENTDATA h0 n0 _ T360.heap _
            rw [q360_0]
            exact ⟨rfl, N360⟩
        · refine own_go (B := T360.setTop (mkF m 226 #[.val (.int p1), .val (.int p2), .val (.int p3), .val (.long q4), .second, .val (.long q5), .second, .val (.int wm), .val (.int ii), .val (.int (1 : Int32)), .val (.ref b231), .val (.ref b280), .val (.ref b284), .val (.int wm), .val (.int (1 : Int32)), .val (.int (1 : Int32))] [(.int (1 : Int32))])) (fun t k => ?_) ?_
          · show Steps p.tables e below (T360.setTop (mkF m 186 #[.val (.int p1), .val (.int p2), .val (.int p3), .val (.long q4), .second, .val (.long q5), .second, .val (.int wm), .val (.int ii), .val (.int (1 : Int32)), .val (.ref b231), .val (.ref b280), .val (.ref b284), .val (.int wm), .val (.int (1 : Int32)), .unset] [(.int wm), (.int ii), (.int (if ii < wm then (1 : Int32) else 0))])) _
            refine XS.icmpYes X360.here hx rfl (pc0 := 186) (pc' := 193) rfl (hb hby at_186) rfl (flt hc364).2.1 (by decide) (by decide) ?_
            show Steps p.tables e below (T360.setTop (mkF m 193 #[.val (.int p1), .val (.int p2), .val (.int p3), .val (.long q4), .second, .val (.long q5), .second, .val (.int wm), .val (.int ii), .val (.int (1 : Int32)), .val (.ref b231), .val (.ref b280), .val (.ref b284), .val (.int wm), .val (.int (1 : Int32)), .unset] [(.int (if ii < wm then (1 : Int32) else 0))])) _
            refine XS.iconst X360.here hx rfl (hb hby at_193) ?_
            show Steps p.tables e below (T360.setTop (mkF m 194 #[.val (.int p1), .val (.int p2), .val (.int p3), .val (.long q4), .second, .val (.long q5), .second, .val (.int wm), .val (.int ii), .val (.int (1 : Int32)), .val (.ref b231), .val (.ref b280), .val (.ref b284), .val (.int wm), .val (.int (1 : Int32)), .unset] [(.int (0 : Int32)), (.int (if ii < wm then (1 : Int32) else 0))])) _
            refine XS.icmpNo X360.here hx rfl (hb hby at_194) rfl (teq (show (if ii < wm then (1 : Int32) else 0) = (0 : Int32) from (by rw [if_neg hc364] <;> decide))).2 ?_
            show Steps p.tables e below (T360.setTop (mkF m 197 #[.val (.int p1), .val (.int p2), .val (.int p3), .val (.long q4), .second, .val (.long q5), .second, .val (.int wm), .val (.int ii), .val (.int (1 : Int32)), .val (.ref b231), .val (.ref b280), .val (.ref b284), .val (.int wm), .val (.int (1 : Int32)), .unset] [])) _
            refine XS.iconst X360.here hx rfl (hb hby at_197) ?_
            show Steps p.tables e below (T360.setTop (mkF m 198 #[.val (.int p1), .val (.int p2), .val (.int p3), .val (.long q4), .second, .val (.long q5), .second, .val (.int wm), .val (.int ii), .val (.int (1 : Int32)), .val (.ref b231), .val (.ref b280), .val (.ref b284), .val (.int wm), .val (.int (1 : Int32)), .unset] [(.int (1 : Int32))])) _
            refine XS.goto X360.here hx rfl (pc0 := 198) (pc' := 202) rfl (hb hby at_198) (by decide) (by decide) ?_
            show Steps p.tables e below (T360.setTop (mkF m 202 #[.val (.int p1), .val (.int p2), .val (.int p3), .val (.long q4), .second, .val (.long q5), .second, .val (.int wm), .val (.int ii), .val (.int (1 : Int32)), .val (.ref b231), .val (.ref b280), .val (.ref b284), .val (.int wm), .val (.int (1 : Int32)), .unset] [(.int (1 : Int32))])) _
            refine XS.istore X360.here hx rfl (hb hby at_202) rfl (l' := #[.val (.int p1), .val (.int p2), .val (.int p3), .val (.long q4), .second, .val (.long q5), .second, .val (.int wm), .val (.int ii), .val (.int (1 : Int32)), .val (.ref b231), .val (.ref b280), .val (.ref b284), .val (.int wm), .val (.int (1 : Int32)), .val (.int (1 : Int32))]) rfl ?_
            show Steps p.tables e below (T360.setTop (mkF m 204 #[.val (.int p1), .val (.int p2), .val (.int p3), .val (.long q4), .second, .val (.long q5), .second, .val (.int wm), .val (.int ii), .val (.int (1 : Int32)), .val (.ref b231), .val (.ref b280), .val (.ref b284), .val (.int wm), .val (.int (1 : Int32)), .val (.int (1 : Int32))] [])) _
            refine XS.iload X360.here hx rfl (hb hby at_204) rfl ?_
            show Steps p.tables e below (T360.setTop (mkF m 206 #[.val (.int p1), .val (.int p2), .val (.int p3), .val (.long q4), .second, .val (.long q5), .second, .val (.int wm), .val (.int ii), .val (.int (1 : Int32)), .val (.ref b231), .val (.ref b280), .val (.ref b284), .val (.int wm), .val (.int (1 : Int32)), .val (.int (1 : Int32))] [(.int wm)])) _
            refine XS.iload X360.here hx rfl (hb hby at_206) rfl ?_
            show Steps p.tables e below (T360.setTop (mkF m 208 #[.val (.int p1), .val (.int p2), .val (.int p3), .val (.long q4), .second, .val (.long q5), .second, .val (.int wm), .val (.int ii), .val (.int (1 : Int32)), .val (.ref b231), .val (.ref b280), .val (.ref b284), .val (.int wm), .val (.int (1 : Int32)), .val (.int (1 : Int32))] [(.int wm), (.int wm)])) _
            refine XS.icmpNo X360.here hx rfl (hb hby at_208) rfl (teq (rfl : wm = wm)).2 ?_
            show Steps p.tables e below (T360.setTop (mkF m 211 #[.val (.int p1), .val (.int p2), .val (.int p3), .val (.long q4), .second, .val (.long q5), .second, .val (.int wm), .val (.int ii), .val (.int (1 : Int32)), .val (.ref b231), .val (.ref b280), .val (.ref b284), .val (.int wm), .val (.int (1 : Int32)), .val (.int (1 : Int32))] [])) _
            refine XS.iload X360.here hx rfl (hb hby at_211) rfl ?_
            show Steps p.tables e below (T360.setTop (mkF m 213 #[.val (.int p1), .val (.int p2), .val (.int p3), .val (.long q4), .second, .val (.long q5), .second, .val (.int wm), .val (.int ii), .val (.int (1 : Int32)), .val (.ref b231), .val (.ref b280), .val (.ref b284), .val (.int wm), .val (.int (1 : Int32)), .val (.int (1 : Int32))] [(.int (1 : Int32))])) _
            refine XS.ifNo X360.here hx rfl (hb hby at_213) rfl ((if0 _ _).trans (feq (by decide : ¬ ((1 : Int32) = (0 : Int32)))).1) ?_
            show Steps p.tables e below (T360.setTop (mkF m 216 #[.val (.int p1), .val (.int p2), .val (.int p3), .val (.long q4), .second, .val (.long q5), .second, .val (.int wm), .val (.int ii), .val (.int (1 : Int32)), .val (.ref b231), .val (.ref b280), .val (.ref b284), .val (.int wm), .val (.int (1 : Int32)), .val (.int (1 : Int32))] [])) _
            refine XS.iload X360.here hx rfl (hb hby at_216) rfl ?_
            show Steps p.tables e below (T360.setTop (mkF m 218 #[.val (.int p1), .val (.int p2), .val (.int p3), .val (.long q4), .second, .val (.long q5), .second, .val (.int wm), .val (.int ii), .val (.int (1 : Int32)), .val (.ref b231), .val (.ref b280), .val (.ref b284), .val (.int wm), .val (.int (1 : Int32)), .val (.int (1 : Int32))] [(.int (1 : Int32))])) _
            refine XS.ifNo X360.here hx rfl (hb hby at_218) rfl ((if0 _ _).trans (feq (by decide : ¬ ((1 : Int32) = (0 : Int32)))).1) ?_
            show Steps p.tables e below (T360.setTop (mkF m 221 #[.val (.int p1), .val (.int p2), .val (.int p3), .val (.long q4), .second, .val (.long q5), .second, .val (.int wm), .val (.int ii), .val (.int (1 : Int32)), .val (.ref b231), .val (.ref b280), .val (.ref b284), .val (.int wm), .val (.int (1 : Int32)), .val (.int (1 : Int32))] [])) _
            refine XS.iconst X360.here hx rfl (hb hby at_221) ?_
            show Steps p.tables e below (T360.setTop (mkF m 222 #[.val (.int p1), .val (.int p2), .val (.int p3), .val (.long q4), .second, .val (.long q5), .second, .val (.int wm), .val (.int ii), .val (.int (1 : Int32)), .val (.ref b231), .val (.ref b280), .val (.ref b284), .val (.int wm), .val (.int (1 : Int32)), .val (.int (1 : Int32))] [(.int (1 : Int32))])) _
            refine XS.goto X360.here hx rfl (pc0 := 222) (pc' := 226) rfl (hb hby at_222) (by decide) (by decide) ?_
            show Steps p.tables e below (T360.setTop (mkF m 226 #[.val (.int p1), .val (.int p2), .val (.int p3), .val (.long q4), .second, .val (.long q5), .second, .val (.int wm), .val (.int ii), .val (.int (1 : Int32)), .val (.ref b231), .val (.ref b280), .val (.ref b284), .val (.int wm), .val (.int (1 : Int32)), .val (.int (1 : Int32))] [(.int (1 : Int32))])) _
            exact k
          obtain ⟨fs, hr, hrun, hended, hW, hsame⟩ := X360.leave (v := some (.int (1 : Int32))) (fun h => by rw [Bd.returns] at h; cases h)
          refine ⟨_, _, ?_, hrun, hended, _, _, rfl, ?_, ⟨_, rfl⟩, hW, hsame.mono (by decide) (by decide)⟩
          · exact retN X360 hx (t := .boolean) Bd.returns (by simp) (hb hby at_226) hr
          · show Q0 Z p1 p2 p3 q4 q5 w_DEFAULTCAPACITY_EMPTY_ELEMENTDATA k_DEFAULTCAPACITY_EMPTY_ELEMENTDATA h0 n0 _ T360.heap _
            rw [q360_0]
            exact ⟨rfl, N360⟩
      · refine own_go (B := T349.setTop (mkF m 179 #[.val (.int p1), .val (.int p2), .val (.int p3), .val (.long q4), .second, .val (.long q5), .second, .val (.int wm), .val (.int ii), .val (.int (1 : Int32)), .val (.ref b231), .val (.ref b280), .val (.ref b284), .val (.int wm), .val (.int (1 : Int32)), .unset] [(.ref b280), (.ref b284)])) (fun t k => ?_) ?_
        · show Steps p.tables e below (T349.setTop (mkF m 157 #[.val (.int p1), .val (.int p2), .val (.int p3), .val (.long q4), .second, .val (.long q5), .second, .val (.int wm), .val (.int ii), .val (.int (1 : Int32)), .val (.ref b231), .val (.ref b280), .val (.ref b284), .val (.int wm), .unset, .unset] [(.int wm), (.int (1 : Int32)), (.int (if (1 : Int32) < wm then (1 : Int32) else 0))])) _
          refine XS.icmpYes X349.here hx rfl (pc0 := 157) (pc' := 164) rfl (hb hby at_157) rfl (flt hc359).2.1 (by decide) (by decide) ?_
          show Steps p.tables e below (T349.setTop (mkF m 164 #[.val (.int p1), .val (.int p2), .val (.int p3), .val (.long q4), .second, .val (.long q5), .second, .val (.int wm), .val (.int ii), .val (.int (1 : Int32)), .val (.ref b231), .val (.ref b280), .val (.ref b284), .val (.int wm), .unset, .unset] [(.int (if (1 : Int32) < wm then (1 : Int32) else 0))])) _
          refine XS.iconst X349.here hx rfl (hb hby at_164) ?_
          show Steps p.tables e below (T349.setTop (mkF m 165 #[.val (.int p1), .val (.int p2), .val (.int p3), .val (.long q4), .second, .val (.long q5), .second, .val (.int wm), .val (.int ii), .val (.int (1 : Int32)), .val (.ref b231), .val (.ref b280), .val (.ref b284), .val (.int wm), .unset, .unset] [(.int (0 : Int32)), (.int (if (1 : Int32) < wm then (1 : Int32) else 0))])) _
          refine XS.icmpNo X349.here hx rfl (hb hby at_165) rfl (teq (show (if (1 : Int32) < wm then (1 : Int32) else 0) = (0 : Int32) from (by rw [if_neg hc359] <;> decide))).2 ?_
          show Steps p.tables e below (T349.setTop (mkF m 168 #[.val (.int p1), .val (.int p2), .val (.int p3), .val (.long q4), .second, .val (.long q5), .second, .val (.int wm), .val (.int ii), .val (.int (1 : Int32)), .val (.ref b231), .val (.ref b280), .val (.ref b284), .val (.int wm), .unset, .unset] [])) _
          refine XS.iconst X349.here hx rfl (hb hby at_168) ?_
          show Steps p.tables e below (T349.setTop (mkF m 169 #[.val (.int p1), .val (.int p2), .val (.int p3), .val (.long q4), .second, .val (.long q5), .second, .val (.int wm), .val (.int ii), .val (.int (1 : Int32)), .val (.ref b231), .val (.ref b280), .val (.ref b284), .val (.int wm), .unset, .unset] [(.int (1 : Int32))])) _
          refine XS.goto X349.here hx rfl (pc0 := 169) (pc' := 173) rfl (hb hby at_169) (by decide) (by decide) ?_
          show Steps p.tables e below (T349.setTop (mkF m 173 #[.val (.int p1), .val (.int p2), .val (.int p3), .val (.long q4), .second, .val (.long q5), .second, .val (.int wm), .val (.int ii), .val (.int (1 : Int32)), .val (.ref b231), .val (.ref b280), .val (.ref b284), .val (.int wm), .unset, .unset] [(.int (1 : Int32))])) _
          refine XS.istore X349.here hx rfl (hb hby at_173) rfl (l' := #[.val (.int p1), .val (.int p2), .val (.int p3), .val (.long q4), .second, .val (.long q5), .second, .val (.int wm), .val (.int ii), .val (.int (1 : Int32)), .val (.ref b231), .val (.ref b280), .val (.ref b284), .val (.int wm), .val (.int (1 : Int32)), .unset]) rfl ?_
          show Steps p.tables e below (T349.setTop (mkF m 175 #[.val (.int p1), .val (.int p2), .val (.int p3), .val (.long q4), .second, .val (.long q5), .second, .val (.int wm), .val (.int ii), .val (.int (1 : Int32)), .val (.ref b231), .val (.ref b280), .val (.ref b284), .val (.int wm), .val (.int (1 : Int32)), .unset] [])) _
          refine XS.aload X349.here hx rfl (hb hby at_175) rfl rfl ?_
          show Steps p.tables e below (T349.setTop (mkF m 177 #[.val (.int p1), .val (.int p2), .val (.int p3), .val (.long q4), .second, .val (.long q5), .second, .val (.int wm), .val (.int ii), .val (.int (1 : Int32)), .val (.ref b231), .val (.ref b280), .val (.ref b284), .val (.int wm), .val (.int (1 : Int32)), .unset] [(.ref b284)])) _
          refine XS.aload X349.here hx rfl (hb hby at_177) rfl rfl ?_
          show Steps p.tables e below (T349.setTop (mkF m 179 #[.val (.int p1), .val (.int p2), .val (.int p3), .val (.long q4), .second, .val (.long q5), .second, .val (.int wm), .val (.int ii), .val (.int (1 : Int32)), .val (.ref b231), .val (.ref b280), .val (.ref b284), .val (.int wm), .val (.int (1 : Int32)), .unset] [(.ref b280), (.ref b284)])) _
          exact k
        have f368 : Exa Z T296.heap b280 "com/example/tiphys/tiphys/Release" := (((q281_1.ext E284).keep q285_0).keep q296_0)
        have ne369 : b280 ≠ b284 := (Nat.ne_of_lt (Nat.lt_of_lt_of_le (Nat.lt_of_lt_of_le A280.lt q281_0.1) (Nat.le_of_eq g284.symm)))
        have f370 : Fld Z T296.heap b280 "com/example/tiphys/tiphys/Release" "index" "I" (.int ii) := (((q281_2.ext E284).keep q285_0 (ninS ne369 nin0)).keep q296_0 nin0)
        obtain ⟨cq367, kq367, q367a, q367b, q367c⟩ := isOf hZ q349_0 f358
        obtain ⟨_, _, ⟨T367, L367, k367, n367⟩, -, X367, ⟨Lc367, hQ367, l367, y367, z367⟩, st367⟩ := X349.virtualBack hx (y := (⟨"com/example/tiphys/tiphys/Run", "isWarmup", "(Lcom/example/tiphys/tiphys/Release;)Z"⟩ : MethodName)) (z := (⟨"com/example/tiphys/tiphys/Run", "isWarmup", "(Lcom/example/tiphys/tiphys/Release;)Z"⟩ : MethodName)) hown (mvT hZ (hw _ (List.mem_of_getElem? (i := 177) rfl))) (mvT hZ (hw _ (List.mem_of_getElem? (i := 178) rfl))) (notFace_of_selects (args := #[]) (mvT hZ (hw _ (List.mem_of_getElem? (i := 180) rfl)))) (mvT hZ (hw _ (List.mem_of_getElem? (i := 180) rfl))) (mvT hZ (hw _ (List.mem_of_getElem? (i := 179) rfl))) (by decide) (backOf (W := 0) (rm24 l Z a0 hw [] b284 b280 ii wm T296.heap n0 (Nat.le_trans Z0 le300) f368 f370 f357) hZ (hw _ (List.mem_of_getElem? (i := 181) rfl)) (hw _ (List.mem_of_getElem? (i := 82) rfl)) (by decide) (by decide)) q367a q367c (g := (mkF m 179 #[.val (.int p1), .val (.int p2), .val (.int p3), .val (.long q4), .second, .val (.long q5), .second, .val (.int wm), .val (.int ii), .val (.int (1 : Int32)), .val (.ref b231), .val (.ref b280), .val (.ref b284), .val (.int wm), .val (.int (1 : Int32)), .unset] [(.ref b280), (.ref b284)])) rfl (by rw [hml]; rfl) (Steps.refl _) (argsL := [(.ref b280)]) (rest := []) (lenOf pd_15 rfl) rfl (by show 2 * 0 + _ ≤ _; exact Nat.le_of_eq rfl) (hb hby at_179) (fun _ _ => ⟨rfl, q349_0, (by decide : 8 + 0 ≤ _), (by decide : 42 + 0 ≤ _)⟩)
        dsimp only [Pt.U, Pt.locs, Pt.cells, Pt.slots] at X367 l367 y367 z367 st367 hQ367
        subst l367 y367 z367
        obtain ⟨rfl, M367, q367_0⟩ := hQ367
        have N367 := Fr.app N349 M367
        refine own_go (fun t k => st367.trans k) ?_
        refine own_go (B := T367.setTop (mkF m 186 #[.val (.int p1), .val (.int p2), .val (.int p3), .val (.long q4), .second, .val (.long q5), .second, .val (.int wm), .val (.int ii), .val (.int (1 : Int32)), .val (.ref b231), .val (.ref b280), .val (.ref b284), .val (.int wm), .val (.int (1 : Int32)), .unset] [(.int wm), (.int ii), (.int (if ii < wm then (1 : Int32) else 0))])) (fun t k => ?_) ?_
        · show Steps p.tables e below (T367.setTop (mkF m 182 #[.val (.int p1), .val (.int p2), .val (.int p3), .val (.long q4), .second, .val (.long q5), .second, .val (.int wm), .val (.int ii), .val (.int (1 : Int32)), .val (.ref b231), .val (.ref b280), .val (.ref b284), .val (.int wm), .val (.int (1 : Int32)), .unset] [(.int (if ii < wm then (1 : Int32) else 0))])) _
          refine XS.iload X367.here hx rfl (hb hby at_182) rfl ?_
          show Steps p.tables e below (T367.setTop (mkF m 184 #[.val (.int p1), .val (.int p2), .val (.int p3), .val (.long q4), .second, .val (.long q5), .second, .val (.int wm), .val (.int ii), .val (.int (1 : Int32)), .val (.ref b231), .val (.ref b280), .val (.ref b284), .val (.int wm), .val (.int (1 : Int32)), .unset] [(.int ii), (.int (if ii < wm then (1 : Int32) else 0))])) _
          refine XS.iload X367.here hx rfl (hb hby at_184) rfl ?_
          show Steps p.tables e below (T367.setTop (mkF m 186 #[.val (.int p1), .val (.int p2), .val (.int p3), .val (.long q4), .second, .val (.long q5), .second, .val (.int wm), .val (.int ii), .val (.int (1 : Int32)), .val (.ref b231), .val (.ref b280), .val (.ref b284), .val (.int wm), .val (.int (1 : Int32)), .unset] [(.int wm), (.int ii), (.int (if ii < wm then (1 : Int32) else 0))])) _
          exact k
        by_cases hc371 : ii < wm
        · refine own_go (B := T367.setTop (mkF m 226 #[.val (.int p1), .val (.int p2), .val (.int p3), .val (.long q4), .second, .val (.long q5), .second, .val (.int wm), .val (.int ii), .val (.int (1 : Int32)), .val (.ref b231), .val (.ref b280), .val (.ref b284), .val (.int wm), .val (.int (1 : Int32)), .val (.int (1 : Int32))] [(.int (1 : Int32))])) (fun t k => ?_) ?_
          · show Steps p.tables e below (T367.setTop (mkF m 186 #[.val (.int p1), .val (.int p2), .val (.int p3), .val (.long q4), .second, .val (.long q5), .second, .val (.int wm), .val (.int ii), .val (.int (1 : Int32)), .val (.ref b231), .val (.ref b280), .val (.ref b284), .val (.int wm), .val (.int (1 : Int32)), .unset] [(.int wm), (.int ii), (.int (if ii < wm then (1 : Int32) else 0))])) _
            refine XS.icmpNo X367.here hx rfl (hb hby at_186) rfl (tlt hc371).2.1 ?_
            show Steps p.tables e below (T367.setTop (mkF m 189 #[.val (.int p1), .val (.int p2), .val (.int p3), .val (.long q4), .second, .val (.long q5), .second, .val (.int wm), .val (.int ii), .val (.int (1 : Int32)), .val (.ref b231), .val (.ref b280), .val (.ref b284), .val (.int wm), .val (.int (1 : Int32)), .unset] [(.int (if ii < wm then (1 : Int32) else 0))])) _
            refine XS.iconst X367.here hx rfl (hb hby at_189) ?_
            show Steps p.tables e below (T367.setTop (mkF m 190 #[.val (.int p1), .val (.int p2), .val (.int p3), .val (.long q4), .second, .val (.long q5), .second, .val (.int wm), .val (.int ii), .val (.int (1 : Int32)), .val (.ref b231), .val (.ref b280), .val (.ref b284), .val (.int wm), .val (.int (1 : Int32)), .unset] [(.int (1 : Int32)), (.int (if ii < wm then (1 : Int32) else 0))])) _
            refine XS.goto X367.here hx rfl (pc0 := 190) (pc' := 194) rfl (hb hby at_190) (by decide) (by decide) ?_
            show Steps p.tables e below (T367.setTop (mkF m 194 #[.val (.int p1), .val (.int p2), .val (.int p3), .val (.long q4), .second, .val (.long q5), .second, .val (.int wm), .val (.int ii), .val (.int (1 : Int32)), .val (.ref b231), .val (.ref b280), .val (.ref b284), .val (.int wm), .val (.int (1 : Int32)), .unset] [(.int (1 : Int32)), (.int (if ii < wm then (1 : Int32) else 0))])) _
            refine XS.icmpNo X367.here hx rfl (hb hby at_194) rfl (teq (show (if ii < wm then (1 : Int32) else 0) = (1 : Int32) from (by rw [if_pos hc371] <;> decide))).2 ?_
            show Steps p.tables e below (T367.setTop (mkF m 197 #[.val (.int p1), .val (.int p2), .val (.int p3), .val (.long q4), .second, .val (.long q5), .second, .val (.int wm), .val (.int ii), .val (.int (1 : Int32)), .val (.ref b231), .val (.ref b280), .val (.ref b284), .val (.int wm), .val (.int (1 : Int32)), .unset] [])) _
            refine XS.iconst X367.here hx rfl (hb hby at_197) ?_
            show Steps p.tables e below (T367.setTop (mkF m 198 #[.val (.int p1), .val (.int p2), .val (.int p3), .val (.long q4), .second, .val (.long q5), .second, .val (.int wm), .val (.int ii), .val (.int (1 : Int32)), .val (.ref b231), .val (.ref b280), .val (.ref b284), .val (.int wm), .val (.int (1 : Int32)), .unset] [(.int (1 : Int32))])) _
            refine XS.goto X367.here hx rfl (pc0 := 198) (pc' := 202) rfl (hb hby at_198) (by decide) (by decide) ?_
            show Steps p.tables e below (T367.setTop (mkF m 202 #[.val (.int p1), .val (.int p2), .val (.int p3), .val (.long q4), .second, .val (.long q5), .second, .val (.int wm), .val (.int ii), .val (.int (1 : Int32)), .val (.ref b231), .val (.ref b280), .val (.ref b284), .val (.int wm), .val (.int (1 : Int32)), .unset] [(.int (1 : Int32))])) _
            refine XS.istore X367.here hx rfl (hb hby at_202) rfl (l' := #[.val (.int p1), .val (.int p2), .val (.int p3), .val (.long q4), .second, .val (.long q5), .second, .val (.int wm), .val (.int ii), .val (.int (1 : Int32)), .val (.ref b231), .val (.ref b280), .val (.ref b284), .val (.int wm), .val (.int (1 : Int32)), .val (.int (1 : Int32))]) rfl ?_
            show Steps p.tables e below (T367.setTop (mkF m 204 #[.val (.int p1), .val (.int p2), .val (.int p3), .val (.long q4), .second, .val (.long q5), .second, .val (.int wm), .val (.int ii), .val (.int (1 : Int32)), .val (.ref b231), .val (.ref b280), .val (.ref b284), .val (.int wm), .val (.int (1 : Int32)), .val (.int (1 : Int32))] [])) _
            refine XS.iload X367.here hx rfl (hb hby at_204) rfl ?_
            show Steps p.tables e below (T367.setTop (mkF m 206 #[.val (.int p1), .val (.int p2), .val (.int p3), .val (.long q4), .second, .val (.long q5), .second, .val (.int wm), .val (.int ii), .val (.int (1 : Int32)), .val (.ref b231), .val (.ref b280), .val (.ref b284), .val (.int wm), .val (.int (1 : Int32)), .val (.int (1 : Int32))] [(.int wm)])) _
            refine XS.iload X367.here hx rfl (hb hby at_206) rfl ?_
            show Steps p.tables e below (T367.setTop (mkF m 208 #[.val (.int p1), .val (.int p2), .val (.int p3), .val (.long q4), .second, .val (.long q5), .second, .val (.int wm), .val (.int ii), .val (.int (1 : Int32)), .val (.ref b231), .val (.ref b280), .val (.ref b284), .val (.int wm), .val (.int (1 : Int32)), .val (.int (1 : Int32))] [(.int wm), (.int wm)])) _
            refine XS.icmpNo X367.here hx rfl (hb hby at_208) rfl (teq (rfl : wm = wm)).2 ?_
            show Steps p.tables e below (T367.setTop (mkF m 211 #[.val (.int p1), .val (.int p2), .val (.int p3), .val (.long q4), .second, .val (.long q5), .second, .val (.int wm), .val (.int ii), .val (.int (1 : Int32)), .val (.ref b231), .val (.ref b280), .val (.ref b284), .val (.int wm), .val (.int (1 : Int32)), .val (.int (1 : Int32))] [])) _
            refine XS.iload X367.here hx rfl (hb hby at_211) rfl ?_
            show Steps p.tables e below (T367.setTop (mkF m 213 #[.val (.int p1), .val (.int p2), .val (.int p3), .val (.long q4), .second, .val (.long q5), .second, .val (.int wm), .val (.int ii), .val (.int (1 : Int32)), .val (.ref b231), .val (.ref b280), .val (.ref b284), .val (.int wm), .val (.int (1 : Int32)), .val (.int (1 : Int32))] [(.int (1 : Int32))])) _
            refine XS.ifNo X367.here hx rfl (hb hby at_213) rfl ((if0 _ _).trans (feq (by decide : ¬ ((1 : Int32) = (0 : Int32)))).1) ?_
            show Steps p.tables e below (T367.setTop (mkF m 216 #[.val (.int p1), .val (.int p2), .val (.int p3), .val (.long q4), .second, .val (.long q5), .second, .val (.int wm), .val (.int ii), .val (.int (1 : Int32)), .val (.ref b231), .val (.ref b280), .val (.ref b284), .val (.int wm), .val (.int (1 : Int32)), .val (.int (1 : Int32))] [])) _
            refine XS.iload X367.here hx rfl (hb hby at_216) rfl ?_
            show Steps p.tables e below (T367.setTop (mkF m 218 #[.val (.int p1), .val (.int p2), .val (.int p3), .val (.long q4), .second, .val (.long q5), .second, .val (.int wm), .val (.int ii), .val (.int (1 : Int32)), .val (.ref b231), .val (.ref b280), .val (.ref b284), .val (.int wm), .val (.int (1 : Int32)), .val (.int (1 : Int32))] [(.int (1 : Int32))])) _
            refine XS.ifNo X367.here hx rfl (hb hby at_218) rfl ((if0 _ _).trans (feq (by decide : ¬ ((1 : Int32) = (0 : Int32)))).1) ?_
            show Steps p.tables e below (T367.setTop (mkF m 221 #[.val (.int p1), .val (.int p2), .val (.int p3), .val (.long q4), .second, .val (.long q5), .second, .val (.int wm), .val (.int ii), .val (.int (1 : Int32)), .val (.ref b231), .val (.ref b280), .val (.ref b284), .val (.int wm), .val (.int (1 : Int32)), .val (.int (1 : Int32))] [])) _
            refine XS.iconst X367.here hx rfl (hb hby at_221) ?_
            show Steps p.tables e below (T367.setTop (mkF m 222 #[.val (.int p1), .val (.int p2), .val (.int p3), .val (.long q4), .second, .val (.long q5), .second, .val (.int wm), .val (.int ii), .val (.int (1 : Int32)), .val (.ref b231), .val (.ref b280), .val (.ref b284), .val (.int wm), .val (.int (1 : Int32)), .val (.int (1 : Int32))] [(.int (1 : Int32))])) _
            refine XS.goto X367.here hx rfl (pc0 := 222) (pc' := 226) rfl (hb hby at_222) (by decide) (by decide) ?_
            show Steps p.tables e below (T367.setTop (mkF m 226 #[.val (.int p1), .val (.int p2), .val (.int p3), .val (.long q4), .second, .val (.long q5), .second, .val (.int wm), .val (.int ii), .val (.int (1 : Int32)), .val (.ref b231), .val (.ref b280), .val (.ref b284), .val (.int wm), .val (.int (1 : Int32)), .val (.int (1 : Int32))] [(.int (1 : Int32))])) _
            exact k
          obtain ⟨fs, hr, hrun, hended, hW, hsame⟩ := X367.leave (v := some (.int (1 : Int32))) (fun h => by rw [Bd.returns] at h; cases h)
          refine ⟨_, _, ?_, hrun, hended, _, _, rfl, ?_, ⟨_, rfl⟩, hW, hsame.mono (by decide) (by decide)⟩
          · exact retN X367 hx (t := .boolean) Bd.returns (by simp) (hb hby at_226) hr
          · show Q0 Z p1 p2 p3 q4 q5 w_DEFAULTCAPACITY_EMPTY_ELEMENTDATA k_DEFAULTCAPACITY_EMPTY_ELEMENTDATA h0 n0 _ T367.heap _
            rw [q367_0]
            exact ⟨rfl, N367⟩
        · refine own_go (B := T367.setTop (mkF m 226 #[.val (.int p1), .val (.int p2), .val (.int p3), .val (.long q4), .second, .val (.long q5), .second, .val (.int wm), .val (.int ii), .val (.int (1 : Int32)), .val (.ref b231), .val (.ref b280), .val (.ref b284), .val (.int wm), .val (.int (1 : Int32)), .val (.int (1 : Int32))] [(.int (1 : Int32))])) (fun t k => ?_) ?_
          · show Steps p.tables e below (T367.setTop (mkF m 186 #[.val (.int p1), .val (.int p2), .val (.int p3), .val (.long q4), .second, .val (.long q5), .second, .val (.int wm), .val (.int ii), .val (.int (1 : Int32)), .val (.ref b231), .val (.ref b280), .val (.ref b284), .val (.int wm), .val (.int (1 : Int32)), .unset] [(.int wm), (.int ii), (.int (if ii < wm then (1 : Int32) else 0))])) _
            refine XS.icmpYes X367.here hx rfl (pc0 := 186) (pc' := 193) rfl (hb hby at_186) rfl (flt hc371).2.1 (by decide) (by decide) ?_
            show Steps p.tables e below (T367.setTop (mkF m 193 #[.val (.int p1), .val (.int p2), .val (.int p3), .val (.long q4), .second, .val (.long q5), .second, .val (.int wm), .val (.int ii), .val (.int (1 : Int32)), .val (.ref b231), .val (.ref b280), .val (.ref b284), .val (.int wm), .val (.int (1 : Int32)), .unset] [(.int (if ii < wm then (1 : Int32) else 0))])) _
            refine XS.iconst X367.here hx rfl (hb hby at_193) ?_
            show Steps p.tables e below (T367.setTop (mkF m 194 #[.val (.int p1), .val (.int p2), .val (.int p3), .val (.long q4), .second, .val (.long q5), .second, .val (.int wm), .val (.int ii), .val (.int (1 : Int32)), .val (.ref b231), .val (.ref b280), .val (.ref b284), .val (.int wm), .val (.int (1 : Int32)), .unset] [(.int (0 : Int32)), (.int (if ii < wm then (1 : Int32) else 0))])) _
            refine XS.icmpNo X367.here hx rfl (hb hby at_194) rfl (teq (show (if ii < wm then (1 : Int32) else 0) = (0 : Int32) from (by rw [if_neg hc371] <;> decide))).2 ?_
            show Steps p.tables e below (T367.setTop (mkF m 197 #[.val (.int p1), .val (.int p2), .val (.int p3), .val (.long q4), .second, .val (.long q5), .second, .val (.int wm), .val (.int ii), .val (.int (1 : Int32)), .val (.ref b231), .val (.ref b280), .val (.ref b284), .val (.int wm), .val (.int (1 : Int32)), .unset] [])) _
            refine XS.iconst X367.here hx rfl (hb hby at_197) ?_
            show Steps p.tables e below (T367.setTop (mkF m 198 #[.val (.int p1), .val (.int p2), .val (.int p3), .val (.long q4), .second, .val (.long q5), .second, .val (.int wm), .val (.int ii), .val (.int (1 : Int32)), .val (.ref b231), .val (.ref b280), .val (.ref b284), .val (.int wm), .val (.int (1 : Int32)), .unset] [(.int (1 : Int32))])) _
            refine XS.goto X367.here hx rfl (pc0 := 198) (pc' := 202) rfl (hb hby at_198) (by decide) (by decide) ?_
            show Steps p.tables e below (T367.setTop (mkF m 202 #[.val (.int p1), .val (.int p2), .val (.int p3), .val (.long q4), .second, .val (.long q5), .second, .val (.int wm), .val (.int ii), .val (.int (1 : Int32)), .val (.ref b231), .val (.ref b280), .val (.ref b284), .val (.int wm), .val (.int (1 : Int32)), .unset] [(.int (1 : Int32))])) _
            refine XS.istore X367.here hx rfl (hb hby at_202) rfl (l' := #[.val (.int p1), .val (.int p2), .val (.int p3), .val (.long q4), .second, .val (.long q5), .second, .val (.int wm), .val (.int ii), .val (.int (1 : Int32)), .val (.ref b231), .val (.ref b280), .val (.ref b284), .val (.int wm), .val (.int (1 : Int32)), .val (.int (1 : Int32))]) rfl ?_
            show Steps p.tables e below (T367.setTop (mkF m 204 #[.val (.int p1), .val (.int p2), .val (.int p3), .val (.long q4), .second, .val (.long q5), .second, .val (.int wm), .val (.int ii), .val (.int (1 : Int32)), .val (.ref b231), .val (.ref b280), .val (.ref b284), .val (.int wm), .val (.int (1 : Int32)), .val (.int (1 : Int32))] [])) _
            refine XS.iload X367.here hx rfl (hb hby at_204) rfl ?_
            show Steps p.tables e below (T367.setTop (mkF m 206 #[.val (.int p1), .val (.int p2), .val (.int p3), .val (.long q4), .second, .val (.long q5), .second, .val (.int wm), .val (.int ii), .val (.int (1 : Int32)), .val (.ref b231), .val (.ref b280), .val (.ref b284), .val (.int wm), .val (.int (1 : Int32)), .val (.int (1 : Int32))] [(.int wm)])) _
            refine XS.iload X367.here hx rfl (hb hby at_206) rfl ?_
            show Steps p.tables e below (T367.setTop (mkF m 208 #[.val (.int p1), .val (.int p2), .val (.int p3), .val (.long q4), .second, .val (.long q5), .second, .val (.int wm), .val (.int ii), .val (.int (1 : Int32)), .val (.ref b231), .val (.ref b280), .val (.ref b284), .val (.int wm), .val (.int (1 : Int32)), .val (.int (1 : Int32))] [(.int wm), (.int wm)])) _
            refine XS.icmpNo X367.here hx rfl (hb hby at_208) rfl (teq (rfl : wm = wm)).2 ?_
            show Steps p.tables e below (T367.setTop (mkF m 211 #[.val (.int p1), .val (.int p2), .val (.int p3), .val (.long q4), .second, .val (.long q5), .second, .val (.int wm), .val (.int ii), .val (.int (1 : Int32)), .val (.ref b231), .val (.ref b280), .val (.ref b284), .val (.int wm), .val (.int (1 : Int32)), .val (.int (1 : Int32))] [])) _
            refine XS.iload X367.here hx rfl (hb hby at_211) rfl ?_
            show Steps p.tables e below (T367.setTop (mkF m 213 #[.val (.int p1), .val (.int p2), .val (.int p3), .val (.long q4), .second, .val (.long q5), .second, .val (.int wm), .val (.int ii), .val (.int (1 : Int32)), .val (.ref b231), .val (.ref b280), .val (.ref b284), .val (.int wm), .val (.int (1 : Int32)), .val (.int (1 : Int32))] [(.int (1 : Int32))])) _
            refine XS.ifNo X367.here hx rfl (hb hby at_213) rfl ((if0 _ _).trans (feq (by decide : ¬ ((1 : Int32) = (0 : Int32)))).1) ?_
            show Steps p.tables e below (T367.setTop (mkF m 216 #[.val (.int p1), .val (.int p2), .val (.int p3), .val (.long q4), .second, .val (.long q5), .second, .val (.int wm), .val (.int ii), .val (.int (1 : Int32)), .val (.ref b231), .val (.ref b280), .val (.ref b284), .val (.int wm), .val (.int (1 : Int32)), .val (.int (1 : Int32))] [])) _
            refine XS.iload X367.here hx rfl (hb hby at_216) rfl ?_
            show Steps p.tables e below (T367.setTop (mkF m 218 #[.val (.int p1), .val (.int p2), .val (.int p3), .val (.long q4), .second, .val (.long q5), .second, .val (.int wm), .val (.int ii), .val (.int (1 : Int32)), .val (.ref b231), .val (.ref b280), .val (.ref b284), .val (.int wm), .val (.int (1 : Int32)), .val (.int (1 : Int32))] [(.int (1 : Int32))])) _
            refine XS.ifNo X367.here hx rfl (hb hby at_218) rfl ((if0 _ _).trans (feq (by decide : ¬ ((1 : Int32) = (0 : Int32)))).1) ?_
            show Steps p.tables e below (T367.setTop (mkF m 221 #[.val (.int p1), .val (.int p2), .val (.int p3), .val (.long q4), .second, .val (.long q5), .second, .val (.int wm), .val (.int ii), .val (.int (1 : Int32)), .val (.ref b231), .val (.ref b280), .val (.ref b284), .val (.int wm), .val (.int (1 : Int32)), .val (.int (1 : Int32))] [])) _
            refine XS.iconst X367.here hx rfl (hb hby at_221) ?_
            show Steps p.tables e below (T367.setTop (mkF m 222 #[.val (.int p1), .val (.int p2), .val (.int p3), .val (.long q4), .second, .val (.long q5), .second, .val (.int wm), .val (.int ii), .val (.int (1 : Int32)), .val (.ref b231), .val (.ref b280), .val (.ref b284), .val (.int wm), .val (.int (1 : Int32)), .val (.int (1 : Int32))] [(.int (1 : Int32))])) _
            refine XS.goto X367.here hx rfl (pc0 := 222) (pc' := 226) rfl (hb hby at_222) (by decide) (by decide) ?_
            show Steps p.tables e below (T367.setTop (mkF m 226 #[.val (.int p1), .val (.int p2), .val (.int p3), .val (.long q4), .second, .val (.long q5), .second, .val (.int wm), .val (.int ii), .val (.int (1 : Int32)), .val (.ref b231), .val (.ref b280), .val (.ref b284), .val (.int wm), .val (.int (1 : Int32)), .val (.int (1 : Int32))] [(.int (1 : Int32))])) _
            exact k
          obtain ⟨fs, hr, hrun, hended, hW, hsame⟩ := X367.leave (v := some (.int (1 : Int32))) (fun h => by rw [Bd.returns] at h; cases h)
          refine ⟨_, _, ?_, hrun, hended, _, _, rfl, ?_, ⟨_, rfl⟩, hW, hsame.mono (by decide) (by decide)⟩
          · exact retN X367 hx (t := .boolean) Bd.returns (by simp) (hb hby at_226) hr
          · show Q0 Z p1 p2 p3 q4 q5 w_DEFAULTCAPACITY_EMPTY_ELEMENTDATA k_DEFAULTCAPACITY_EMPTY_ELEMENTDATA h0 n0 _ T367.heap _
            rw [q367_0]
            exact ⟨rfl, N367⟩
    · rw [show kk = (2 : Int32) from own_k2 kk hkk hk0 hk1]
      refine own_go (B := T298.setTop (mkF m 144 #[.val (.int p1), .val (.int p2), .val (.int p3), .val (.long q4), .second, .val (.long q5), .second, .val (.int wm), .val (.int ii), .val (.int (2 : Int32)), .val (.ref b231), .val (.ref b280), .val (.ref b284), .val (.int wm), .unset, .unset] [(.int (2 : Int32)), (.ref b231), (.ref b284)])) (fun t k => ?_) ?_
      · show Steps p.tables e below (T298.setTop (mkF m 138 #[.val (.int p1), .val (.int p2), .val (.int p3), .val (.long q4), .second, .val (.long q5), .second, .val (.int wm), .val (.int ii), .val (.int (2 : Int32)), .val (.ref b231), .val (.ref b280), .val (.ref b284), .val (.int wm), .unset, .unset] [])) _
        refine XS.aload X298.here hx rfl (hb hby at_138) rfl rfl ?_
        show Steps p.tables e below (T298.setTop (mkF m 140 #[.val (.int p1), .val (.int p2), .val (.int p3), .val (.long q4), .second, .val (.long q5), .second, .val (.int wm), .val (.int ii), .val (.int (2 : Int32)), .val (.ref b231), .val (.ref b280), .val (.ref b284), .val (.int wm), .unset, .unset] [(.ref b284)])) _
        refine XS.aload X298.here hx rfl (hb hby at_140) rfl rfl ?_
        show Steps p.tables e below (T298.setTop (mkF m 142 #[.val (.int p1), .val (.int p2), .val (.int p3), .val (.long q4), .second, .val (.long q5), .second, .val (.int wm), .val (.int ii), .val (.int (2 : Int32)), .val (.ref b231), .val (.ref b280), .val (.ref b284), .val (.int wm), .unset, .unset] [(.ref b231), (.ref b284)])) _
        refine XS.iload X298.here hx rfl (hb hby at_142) rfl ?_
        show Steps p.tables e below (T298.setTop (mkF m 144 #[.val (.int p1), .val (.int p2), .val (.int p3), .val (.long q4), .second, .val (.long q5), .second, .val (.int wm), .val (.int ii), .val (.int (2 : Int32)), .val (.ref b231), .val (.ref b280), .val (.ref b284), .val (.int wm), .unset, .unset] [(.int (2 : Int32)), (.ref b231), (.ref b284)])) _
        exact k
      have f375 : Exa Z T296.heap b231 "java/util/ArrayList" := (f295.keep q296_0)
      have f376 : Fld Z T296.heap b231 "java/util/ArrayList" "size" "I" (.int (3 : Int32)) := (f293.keep q296_0 nin0)
      have f377 : Fld Z T296.heap b231 "java/util/ArrayList" "elementData" "[Ljava/lang/Object;" (.ref bn_238) := (((((q270_5.ext E280).keep q281_0 (ninS ne290 nin0)).ext E284).keep q285_0 (ninS ne292 nin0)).keep q296_0 nin0)
      have ne378 : bn_238 ≠ b280 := (Nat.ne_of_lt (Nat.lt_of_lt_of_le q270_1.lt (Nat.le_of_eq g280.symm)))
      have le379 : T270.heap.size ≤ T281.heap.size := (Nat.le_trans E280.1 q281_0.1)
      have ne380 : bn_238 ≠ b284 := (Nat.ne_of_lt (Nat.lt_of_lt_of_le (Nat.lt_of_lt_of_le q270_1.lt le379) (Nat.le_of_eq g284.symm)))
      have f381 : Arv Z T296.heap bn_238 kn_238 (.object "java/lang/Object") (10 : Int32) [(.ref b234), (.ref b250), (.ref b266), .null, .null, .null, .null, .null, .null, .null] .null := (((((q270_1.ext E280).keep q281_0 (ninS ne378 nin0)).ext E284).keep q285_0 (ninS ne380 nin0)).keep q296_0 nin0)
      obtain ⟨cq374, kq374, q374a, q374b, q374c⟩ := isOf hZ q298_0 f375
      obtain ⟨_, _, ⟨T374, L374, k374, n374⟩, -, X374, ⟨Lc374, hQ374, l374, y374, z374⟩, st374⟩ := X298.virtualBack hx (y := (⟨"java/util/ArrayList", "get", "(I)Ljava/lang/Object;"⟩ : MethodName)) (z := (⟨"java/util/ArrayList", "get", "(I)Ljava/lang/Object;"⟩ : MethodName)) hown (mvT hZ (hw _ (List.mem_of_getElem? (i := 158) rfl))) (mvT hZ (hw _ (List.mem_of_getElem? (i := 159) rfl))) (notFace_of_selects (args := #[]) (mvT hZ (hw _ (List.mem_of_getElem? (i := 161) rfl)))) (mvT hZ (hw _ (List.mem_of_getElem? (i := 161) rfl))) (mvT hZ (hw _ (List.mem_of_getElem? (i := 160) rfl))) (by decide) (backOf (W := 1) (rm20_2 l Z a0 hw [] b231 b234 b250 b266 bn_238 kn_238 T296.heap n0 (Nat.le_trans Z0 le300) f375 f376 f377 f381) hZ (hw _ (List.mem_of_getElem? (i := 162) rfl)) (hw _ (List.mem_of_getElem? (i := 3) rfl)) (by decide) (by decide)) q374a q374c (g := (mkF m 144 #[.val (.int p1), .val (.int p2), .val (.int p3), .val (.long q4), .second, .val (.long q5), .second, .val (.int wm), .val (.int ii), .val (.int (2 : Int32)), .val (.ref b231), .val (.ref b280), .val (.ref b284), .val (.int wm), .unset, .unset] [(.int (2 : Int32)), (.ref b231), (.ref b284)])) rfl (by rw [hml]; rfl) (Steps.refl _) (argsL := [(.int (2 : Int32))]) (rest := [(.ref b284)]) (lenOf pd_7 rfl) rfl (by show 2 * 0 + _ ≤ _; exact Nat.le_of_eq rfl) (hb hby at_144) (fun _ _ => ⟨rfl, q298_0, (by decide : 8 + 0 ≤ _), (by decide : 42 + 0 ≤ _)⟩)
      dsimp only [Pt.U, Pt.locs, Pt.cells, Pt.slots] at X374 l374 y374 z374 st374 hQ374
      subst l374 y374 z374
      obtain ⟨rfl, M374, q374_0⟩ := hQ374
      have N374 := Fr.app N298 M374
      refine own_go (fun t k => st374.trans k) ?_
      have f383 : Exa Z T296.heap b266 "com/example/tiphys/tiphys/Release" := ((((((q267_1.keep q270_0).ext E280).keep q281_0).ext E284).keep q285_0).keep q296_0)
      obtain ⟨T382, X382, e382, st382⟩ := castY X374 hx hZ hown (hw _ (List.mem_of_getElem? (i := 27) rfl)) q374_0 (Ins.self f383) (g := (mkF m 147 #[.val (.int p1), .val (.int p2), .val (.int p3), .val (.long q4), .second, .val (.long q5), .second, .val (.int wm), .val (.int ii), .val (.int (2 : Int32)), .val (.ref b231), .val (.ref b280), .val (.ref b284), .val (.int wm), .unset, .unset] [(.ref b266), (.ref b284)])) rfl rfl (hb hby at_147)
      refine own_go st382 ?_
      have le385 : h266.size ≤ T270.heap.size := (Nat.le_trans q267_0.1 q270_0.1)
      have ne386 : b266 ≠ b280 := (Nat.ne_of_lt (Nat.lt_of_lt_of_le (Nat.lt_of_lt_of_le A266.lt le385) (Nat.le_of_eq g280.symm)))
      have le387 : h266.size ≤ T281.heap.size := (Nat.le_trans (Nat.le_trans (Nat.le_trans q267_0.1 q270_0.1) E280.1) q281_0.1)
      have ne388 : b266 ≠ b284 := (Nat.ne_of_lt (Nat.lt_of_lt_of_le (Nat.lt_of_lt_of_le A266.lt le387) (Nat.le_of_eq g284.symm)))
      have f389 : Fld Z T296.heap b266 "com/example/tiphys/tiphys/Release" "index" "I" (.int (2 : Int32)) := ((((((q267_2.keep q270_0 (ninS (Ne.symm ne273) (ninS (Ne.symm ne277) nin0))).ext E280).keep q281_0 (ninS ne386 nin0)).ext E284).keep q285_0 (ninS ne388 nin0)).keep q296_0 nin0)
      have f390 : Fld Z T296.heap b284 "com/example/tiphys/tiphys/Run" "warmups" "I" (.int wm) := (q285_3.keep q296_0 nin0)
      have f391 : Exa Z T296.heap b284 "com/example/tiphys/tiphys/Run" := (q285_1.keep q296_0)
      obtain ⟨cq384, kq384, q384a, q384b, q384c⟩ := isOf hZ e382 f391
      obtain ⟨_, _, ⟨T384, L384, k384, n384⟩, -, X384, ⟨Lc384, hQ384, l384, y384, z384⟩, st384⟩ := X382.virtualBack hx (y := (⟨"com/example/tiphys/tiphys/Run", "isWarmup", "(Lcom/example/tiphys/tiphys/Release;)Z"⟩ : MethodName)) (z := (⟨"com/example/tiphys/tiphys/Run", "isWarmup", "(Lcom/example/tiphys/tiphys/Release;)Z"⟩ : MethodName)) hown (mvT hZ (hw _ (List.mem_of_getElem? (i := 177) rfl))) (mvT hZ (hw _ (List.mem_of_getElem? (i := 178) rfl))) (notFace_of_selects (args := #[]) (mvT hZ (hw _ (List.mem_of_getElem? (i := 180) rfl)))) (mvT hZ (hw _ (List.mem_of_getElem? (i := 180) rfl))) (mvT hZ (hw _ (List.mem_of_getElem? (i := 179) rfl))) (by decide) (backOf (W := 0) (rm24 l Z a0 hw [] b284 b266 (2 : Int32) wm T296.heap n0 (Nat.le_trans Z0 le300) f383 f389 f390) hZ (hw _ (List.mem_of_getElem? (i := 181) rfl)) (hw _ (List.mem_of_getElem? (i := 82) rfl)) (by decide) (by decide)) q384a q384c (g := (mkF m 150 #[.val (.int p1), .val (.int p2), .val (.int p3), .val (.long q4), .second, .val (.long q5), .second, .val (.int wm), .val (.int ii), .val (.int (2 : Int32)), .val (.ref b231), .val (.ref b280), .val (.ref b284), .val (.int wm), .unset, .unset] [(.ref b266), (.ref b284)])) rfl (by rw [hml]; rfl) (Steps.refl _) (argsL := [(.ref b266)]) (rest := []) (lenOf pd_15 rfl) rfl (by show 2 * 0 + _ ≤ _; exact Nat.le_of_eq rfl) (hb hby at_150) (fun _ _ => ⟨rfl, e382, (by decide : 8 + 0 ≤ _), (by decide : 42 + 0 ≤ _)⟩)
      dsimp only [Pt.U, Pt.locs, Pt.cells, Pt.slots] at X384 l384 y384 z384 st384 hQ384
      subst l384 y384 z384
      obtain ⟨rfl, M384, q384_0⟩ := hQ384
      have N384 := Fr.app N374 M384
      refine own_go (fun t k => st384.trans k) ?_
      refine own_go (B := T384.setTop (mkF m 157 #[.val (.int p1), .val (.int p2), .val (.int p3), .val (.long q4), .second, .val (.long q5), .second, .val (.int wm), .val (.int ii), .val (.int (2 : Int32)), .val (.ref b231), .val (.ref b280), .val (.ref b284), .val (.int wm), .unset, .unset] [(.int wm), (.int (2 : Int32)), (.int (if (2 : Int32) < wm then (1 : Int32) else 0))])) (fun t k => ?_) ?_
      · show Steps p.tables e below (T384.setTop (mkF m 153 #[.val (.int p1), .val (.int p2), .val (.int p3), .val (.long q4), .second, .val (.long q5), .second, .val (.int wm), .val (.int ii), .val (.int (2 : Int32)), .val (.ref b231), .val (.ref b280), .val (.ref b284), .val (.int wm), .unset, .unset] [(.int (if (2 : Int32) < wm then (1 : Int32) else 0))])) _
        refine XS.iload X384.here hx rfl (hb hby at_153) rfl ?_
        show Steps p.tables e below (T384.setTop (mkF m 155 #[.val (.int p1), .val (.int p2), .val (.int p3), .val (.long q4), .second, .val (.long q5), .second, .val (.int wm), .val (.int ii), .val (.int (2 : Int32)), .val (.ref b231), .val (.ref b280), .val (.ref b284), .val (.int wm), .unset, .unset] [(.int (2 : Int32)), (.int (if (2 : Int32) < wm then (1 : Int32) else 0))])) _
        refine XS.iload X384.here hx rfl (hb hby at_155) rfl ?_
        show Steps p.tables e below (T384.setTop (mkF m 157 #[.val (.int p1), .val (.int p2), .val (.int p3), .val (.long q4), .second, .val (.long q5), .second, .val (.int wm), .val (.int ii), .val (.int (2 : Int32)), .val (.ref b231), .val (.ref b280), .val (.ref b284), .val (.int wm), .unset, .unset] [(.int wm), (.int (2 : Int32)), (.int (if (2 : Int32) < wm then (1 : Int32) else 0))])) _
        exact k
      by_cases hc392 : (2 : Int32) < wm
      · refine own_go (B := T384.setTop (mkF m 179 #[.val (.int p1), .val (.int p2), .val (.int p3), .val (.long q4), .second, .val (.long q5), .second, .val (.int wm), .val (.int ii), .val (.int (2 : Int32)), .val (.ref b231), .val (.ref b280), .val (.ref b284), .val (.int wm), .val (.int (1 : Int32)), .unset] [(.ref b280), (.ref b284)])) (fun t k => ?_) ?_
        · show Steps p.tables e below (T384.setTop (mkF m 157 #[.val (.int p1), .val (.int p2), .val (.int p3), .val (.long q4), .second, .val (.long q5), .second, .val (.int wm), .val (.int ii), .val (.int (2 : Int32)), .val (.ref b231), .val (.ref b280), .val (.ref b284), .val (.int wm), .unset, .unset] [(.int wm), (.int (2 : Int32)), (.int (if (2 : Int32) < wm then (1 : Int32) else 0))])) _
          refine XS.icmpNo X384.here hx rfl (hb hby at_157) rfl (tlt hc392).2.1 ?_
          show Steps p.tables e below (T384.setTop (mkF m 160 #[.val (.int p1), .val (.int p2), .val (.int p3), .val (.long q4), .second, .val (.long q5), .second, .val (.int wm), .val (.int ii), .val (.int (2 : Int32)), .val (.ref b231), .val (.ref b280), .val (.ref b284), .val (.int wm), .unset, .unset] [(.int (if (2 : Int32) < wm then (1 : Int32) else 0))])) _
          refine XS.iconst X384.here hx rfl (hb hby at_160) ?_
          show Steps p.tables e below (T384.setTop (mkF m 161 #[.val (.int p1), .val (.int p2), .val (.int p3), .val (.long q4), .second, .val (.long q5), .second, .val (.int wm), .val (.int ii), .val (.int (2 : Int32)), .val (.ref b231), .val (.ref b280), .val (.ref b284), .val (.int wm), .unset, .unset] [(.int (1 : Int32)), (.int (if (2 : Int32) < wm then (1 : Int32) else 0))])) _
          refine XS.goto X384.here hx rfl (pc0 := 161) (pc' := 165) rfl (hb hby at_161) (by decide) (by decide) ?_
          show Steps p.tables e below (T384.setTop (mkF m 165 #[.val (.int p1), .val (.int p2), .val (.int p3), .val (.long q4), .second, .val (.long q5), .second, .val (.int wm), .val (.int ii), .val (.int (2 : Int32)), .val (.ref b231), .val (.ref b280), .val (.ref b284), .val (.int wm), .unset, .unset] [(.int (1 : Int32)), (.int (if (2 : Int32) < wm then (1 : Int32) else 0))])) _
          refine XS.icmpNo X384.here hx rfl (hb hby at_165) rfl (teq (show (if (2 : Int32) < wm then (1 : Int32) else 0) = (1 : Int32) from (by rw [if_pos hc392] <;> decide))).2 ?_
          show Steps p.tables e below (T384.setTop (mkF m 168 #[.val (.int p1), .val (.int p2), .val (.int p3), .val (.long q4), .second, .val (.long q5), .second, .val (.int wm), .val (.int ii), .val (.int (2 : Int32)), .val (.ref b231), .val (.ref b280), .val (.ref b284), .val (.int wm), .unset, .unset] [])) _
          refine XS.iconst X384.here hx rfl (hb hby at_168) ?_
          show Steps p.tables e below (T384.setTop (mkF m 169 #[.val (.int p1), .val (.int p2), .val (.int p3), .val (.long q4), .second, .val (.long q5), .second, .val (.int wm), .val (.int ii), .val (.int (2 : Int32)), .val (.ref b231), .val (.ref b280), .val (.ref b284), .val (.int wm), .unset, .unset] [(.int (1 : Int32))])) _
          refine XS.goto X384.here hx rfl (pc0 := 169) (pc' := 173) rfl (hb hby at_169) (by decide) (by decide) ?_
          show Steps p.tables e below (T384.setTop (mkF m 173 #[.val (.int p1), .val (.int p2), .val (.int p3), .val (.long q4), .second, .val (.long q5), .second, .val (.int wm), .val (.int ii), .val (.int (2 : Int32)), .val (.ref b231), .val (.ref b280), .val (.ref b284), .val (.int wm), .unset, .unset] [(.int (1 : Int32))])) _
          refine XS.istore X384.here hx rfl (hb hby at_173) rfl (l' := #[.val (.int p1), .val (.int p2), .val (.int p3), .val (.long q4), .second, .val (.long q5), .second, .val (.int wm), .val (.int ii), .val (.int (2 : Int32)), .val (.ref b231), .val (.ref b280), .val (.ref b284), .val (.int wm), .val (.int (1 : Int32)), .unset]) rfl ?_
          show Steps p.tables e below (T384.setTop (mkF m 175 #[.val (.int p1), .val (.int p2), .val (.int p3), .val (.long q4), .second, .val (.long q5), .second, .val (.int wm), .val (.int ii), .val (.int (2 : Int32)), .val (.ref b231), .val (.ref b280), .val (.ref b284), .val (.int wm), .val (.int (1 : Int32)), .unset] [])) _
          refine XS.aload X384.here hx rfl (hb hby at_175) rfl rfl ?_
          show Steps p.tables e below (T384.setTop (mkF m 177 #[.val (.int p1), .val (.int p2), .val (.int p3), .val (.long q4), .second, .val (.long q5), .second, .val (.int wm), .val (.int ii), .val (.int (2 : Int32)), .val (.ref b231), .val (.ref b280), .val (.ref b284), .val (.int wm), .val (.int (1 : Int32)), .unset] [(.ref b284)])) _
          refine XS.aload X384.here hx rfl (hb hby at_177) rfl rfl ?_
          show Steps p.tables e below (T384.setTop (mkF m 179 #[.val (.int p1), .val (.int p2), .val (.int p3), .val (.long q4), .second, .val (.long q5), .second, .val (.int wm), .val (.int ii), .val (.int (2 : Int32)), .val (.ref b231), .val (.ref b280), .val (.ref b284), .val (.int wm), .val (.int (1 : Int32)), .unset] [(.ref b280), (.ref b284)])) _
          exact k
        have f394 : Exa Z T296.heap b280 "com/example/tiphys/tiphys/Release" := (((q281_1.ext E284).keep q285_0).keep q296_0)
        have ne395 : b280 ≠ b284 := (Nat.ne_of_lt (Nat.lt_of_lt_of_le (Nat.lt_of_lt_of_le A280.lt q281_0.1) (Nat.le_of_eq g284.symm)))
        have f396 : Fld Z T296.heap b280 "com/example/tiphys/tiphys/Release" "index" "I" (.int ii) := (((q281_2.ext E284).keep q285_0 (ninS ne395 nin0)).keep q296_0 nin0)
        obtain ⟨cq393, kq393, q393a, q393b, q393c⟩ := isOf hZ q384_0 f391
        obtain ⟨_, _, ⟨T393, L393, k393, n393⟩, -, X393, ⟨Lc393, hQ393, l393, y393, z393⟩, st393⟩ := X384.virtualBack hx (y := (⟨"com/example/tiphys/tiphys/Run", "isWarmup", "(Lcom/example/tiphys/tiphys/Release;)Z"⟩ : MethodName)) (z := (⟨"com/example/tiphys/tiphys/Run", "isWarmup", "(Lcom/example/tiphys/tiphys/Release;)Z"⟩ : MethodName)) hown (mvT hZ (hw _ (List.mem_of_getElem? (i := 177) rfl))) (mvT hZ (hw _ (List.mem_of_getElem? (i := 178) rfl))) (notFace_of_selects (args := #[]) (mvT hZ (hw _ (List.mem_of_getElem? (i := 180) rfl)))) (mvT hZ (hw _ (List.mem_of_getElem? (i := 180) rfl))) (mvT hZ (hw _ (List.mem_of_getElem? (i := 179) rfl))) (by decide) (backOf (W := 0) (rm24 l Z a0 hw [] b284 b280 ii wm T296.heap n0 (Nat.le_trans Z0 le300) f394 f396 f390) hZ (hw _ (List.mem_of_getElem? (i := 181) rfl)) (hw _ (List.mem_of_getElem? (i := 82) rfl)) (by decide) (by decide)) q393a q393c (g := (mkF m 179 #[.val (.int p1), .val (.int p2), .val (.int p3), .val (.long q4), .second, .val (.long q5), .second, .val (.int wm), .val (.int ii), .val (.int (2 : Int32)), .val (.ref b231), .val (.ref b280), .val (.ref b284), .val (.int wm), .val (.int (1 : Int32)), .unset] [(.ref b280), (.ref b284)])) rfl (by rw [hml]; rfl) (Steps.refl _) (argsL := [(.ref b280)]) (rest := []) (lenOf pd_15 rfl) rfl (by show 2 * 0 + _ ≤ _; exact Nat.le_of_eq rfl) (hb hby at_179) (fun _ _ => ⟨rfl, q384_0, (by decide : 8 + 0 ≤ _), (by decide : 42 + 0 ≤ _)⟩)
        dsimp only [Pt.U, Pt.locs, Pt.cells, Pt.slots] at X393 l393 y393 z393 st393 hQ393
        subst l393 y393 z393
        obtain ⟨rfl, M393, q393_0⟩ := hQ393
        have N393 := Fr.app N384 M393
        refine own_go (fun t k => st393.trans k) ?_
        refine own_go (B := T393.setTop (mkF m 186 #[.val (.int p1), .val (.int p2), .val (.int p3), .val (.long q4), .second, .val (.long q5), .second, .val (.int wm), .val (.int ii), .val (.int (2 : Int32)), .val (.ref b231), .val (.ref b280), .val (.ref b284), .val (.int wm), .val (.int (1 : Int32)), .unset] [(.int wm), (.int ii), (.int (if ii < wm then (1 : Int32) else 0))])) (fun t k => ?_) ?_
        · show Steps p.tables e below (T393.setTop (mkF m 182 #[.val (.int p1), .val (.int p2), .val (.int p3), .val (.long q4), .second, .val (.long q5), .second, .val (.int wm), .val (.int ii), .val (.int (2 : Int32)), .val (.ref b231), .val (.ref b280), .val (.ref b284), .val (.int wm), .val (.int (1 : Int32)), .unset] [(.int (if ii < wm then (1 : Int32) else 0))])) _
          refine XS.iload X393.here hx rfl (hb hby at_182) rfl ?_
          show Steps p.tables e below (T393.setTop (mkF m 184 #[.val (.int p1), .val (.int p2), .val (.int p3), .val (.long q4), .second, .val (.long q5), .second, .val (.int wm), .val (.int ii), .val (.int (2 : Int32)), .val (.ref b231), .val (.ref b280), .val (.ref b284), .val (.int wm), .val (.int (1 : Int32)), .unset] [(.int ii), (.int (if ii < wm then (1 : Int32) else 0))])) _
          refine XS.iload X393.here hx rfl (hb hby at_184) rfl ?_
          show Steps p.tables e below (T393.setTop (mkF m 186 #[.val (.int p1), .val (.int p2), .val (.int p3), .val (.long q4), .second, .val (.long q5), .second, .val (.int wm), .val (.int ii), .val (.int (2 : Int32)), .val (.ref b231), .val (.ref b280), .val (.ref b284), .val (.int wm), .val (.int (1 : Int32)), .unset] [(.int wm), (.int ii), (.int (if ii < wm then (1 : Int32) else 0))])) _
          exact k
        by_cases hc397 : ii < wm
        · refine own_go (B := T393.setTop (mkF m 226 #[.val (.int p1), .val (.int p2), .val (.int p3), .val (.long q4), .second, .val (.long q5), .second, .val (.int wm), .val (.int ii), .val (.int (2 : Int32)), .val (.ref b231), .val (.ref b280), .val (.ref b284), .val (.int wm), .val (.int (1 : Int32)), .val (.int (1 : Int32))] [(.int (1 : Int32))])) (fun t k => ?_) ?_
          · show Steps p.tables e below (T393.setTop (mkF m 186 #[.val (.int p1), .val (.int p2), .val (.int p3), .val (.long q4), .second, .val (.long q5), .second, .val (.int wm), .val (.int ii), .val (.int (2 : Int32)), .val (.ref b231), .val (.ref b280), .val (.ref b284), .val (.int wm), .val (.int (1 : Int32)), .unset] [(.int wm), (.int ii), (.int (if ii < wm then (1 : Int32) else 0))])) _
            refine XS.icmpNo X393.here hx rfl (hb hby at_186) rfl (tlt hc397).2.1 ?_
            show Steps p.tables e below (T393.setTop (mkF m 189 #[.val (.int p1), .val (.int p2), .val (.int p3), .val (.long q4), .second, .val (.long q5), .second, .val (.int wm), .val (.int ii), .val (.int (2 : Int32)), .val (.ref b231), .val (.ref b280), .val (.ref b284), .val (.int wm), .val (.int (1 : Int32)), .unset] [(.int (if ii < wm then (1 : Int32) else 0))])) _
            refine XS.iconst X393.here hx rfl (hb hby at_189) ?_
            show Steps p.tables e below (T393.setTop (mkF m 190 #[.val (.int p1), .val (.int p2), .val (.int p3), .val (.long q4), .second, .val (.long q5), .second, .val (.int wm), .val (.int ii), .val (.int (2 : Int32)), .val (.ref b231), .val (.ref b280), .val (.ref b284), .val (.int wm), .val (.int (1 : Int32)), .unset] [(.int (1 : Int32)), (.int (if ii < wm then (1 : Int32) else 0))])) _
            refine XS.goto X393.here hx rfl (pc0 := 190) (pc' := 194) rfl (hb hby at_190) (by decide) (by decide) ?_
            show Steps p.tables e below (T393.setTop (mkF m 194 #[.val (.int p1), .val (.int p2), .val (.int p3), .val (.long q4), .second, .val (.long q5), .second, .val (.int wm), .val (.int ii), .val (.int (2 : Int32)), .val (.ref b231), .val (.ref b280), .val (.ref b284), .val (.int wm), .val (.int (1 : Int32)), .unset] [(.int (1 : Int32)), (.int (if ii < wm then (1 : Int32) else 0))])) _
            refine XS.icmpNo X393.here hx rfl (hb hby at_194) rfl (teq (show (if ii < wm then (1 : Int32) else 0) = (1 : Int32) from (by rw [if_pos hc397] <;> decide))).2 ?_
            show Steps p.tables e below (T393.setTop (mkF m 197 #[.val (.int p1), .val (.int p2), .val (.int p3), .val (.long q4), .second, .val (.long q5), .second, .val (.int wm), .val (.int ii), .val (.int (2 : Int32)), .val (.ref b231), .val (.ref b280), .val (.ref b284), .val (.int wm), .val (.int (1 : Int32)), .unset] [])) _
            refine XS.iconst X393.here hx rfl (hb hby at_197) ?_
            show Steps p.tables e below (T393.setTop (mkF m 198 #[.val (.int p1), .val (.int p2), .val (.int p3), .val (.long q4), .second, .val (.long q5), .second, .val (.int wm), .val (.int ii), .val (.int (2 : Int32)), .val (.ref b231), .val (.ref b280), .val (.ref b284), .val (.int wm), .val (.int (1 : Int32)), .unset] [(.int (1 : Int32))])) _
            refine XS.goto X393.here hx rfl (pc0 := 198) (pc' := 202) rfl (hb hby at_198) (by decide) (by decide) ?_
            show Steps p.tables e below (T393.setTop (mkF m 202 #[.val (.int p1), .val (.int p2), .val (.int p3), .val (.long q4), .second, .val (.long q5), .second, .val (.int wm), .val (.int ii), .val (.int (2 : Int32)), .val (.ref b231), .val (.ref b280), .val (.ref b284), .val (.int wm), .val (.int (1 : Int32)), .unset] [(.int (1 : Int32))])) _
            refine XS.istore X393.here hx rfl (hb hby at_202) rfl (l' := #[.val (.int p1), .val (.int p2), .val (.int p3), .val (.long q4), .second, .val (.long q5), .second, .val (.int wm), .val (.int ii), .val (.int (2 : Int32)), .val (.ref b231), .val (.ref b280), .val (.ref b284), .val (.int wm), .val (.int (1 : Int32)), .val (.int (1 : Int32))]) rfl ?_
            show Steps p.tables e below (T393.setTop (mkF m 204 #[.val (.int p1), .val (.int p2), .val (.int p3), .val (.long q4), .second, .val (.long q5), .second, .val (.int wm), .val (.int ii), .val (.int (2 : Int32)), .val (.ref b231), .val (.ref b280), .val (.ref b284), .val (.int wm), .val (.int (1 : Int32)), .val (.int (1 : Int32))] [])) _
            refine XS.iload X393.here hx rfl (hb hby at_204) rfl ?_
            show Steps p.tables e below (T393.setTop (mkF m 206 #[.val (.int p1), .val (.int p2), .val (.int p3), .val (.long q4), .second, .val (.long q5), .second, .val (.int wm), .val (.int ii), .val (.int (2 : Int32)), .val (.ref b231), .val (.ref b280), .val (.ref b284), .val (.int wm), .val (.int (1 : Int32)), .val (.int (1 : Int32))] [(.int wm)])) _
            refine XS.iload X393.here hx rfl (hb hby at_206) rfl ?_
            show Steps p.tables e below (T393.setTop (mkF m 208 #[.val (.int p1), .val (.int p2), .val (.int p3), .val (.long q4), .second, .val (.long q5), .second, .val (.int wm), .val (.int ii), .val (.int (2 : Int32)), .val (.ref b231), .val (.ref b280), .val (.ref b284), .val (.int wm), .val (.int (1 : Int32)), .val (.int (1 : Int32))] [(.int wm), (.int wm)])) _
            refine XS.icmpNo X393.here hx rfl (hb hby at_208) rfl (teq (rfl : wm = wm)).2 ?_
            show Steps p.tables e below (T393.setTop (mkF m 211 #[.val (.int p1), .val (.int p2), .val (.int p3), .val (.long q4), .second, .val (.long q5), .second, .val (.int wm), .val (.int ii), .val (.int (2 : Int32)), .val (.ref b231), .val (.ref b280), .val (.ref b284), .val (.int wm), .val (.int (1 : Int32)), .val (.int (1 : Int32))] [])) _
            refine XS.iload X393.here hx rfl (hb hby at_211) rfl ?_
            show Steps p.tables e below (T393.setTop (mkF m 213 #[.val (.int p1), .val (.int p2), .val (.int p3), .val (.long q4), .second, .val (.long q5), .second, .val (.int wm), .val (.int ii), .val (.int (2 : Int32)), .val (.ref b231), .val (.ref b280), .val (.ref b284), .val (.int wm), .val (.int (1 : Int32)), .val (.int (1 : Int32))] [(.int (1 : Int32))])) _
            refine XS.ifNo X393.here hx rfl (hb hby at_213) rfl ((if0 _ _).trans (feq (by decide : ¬ ((1 : Int32) = (0 : Int32)))).1) ?_
            show Steps p.tables e below (T393.setTop (mkF m 216 #[.val (.int p1), .val (.int p2), .val (.int p3), .val (.long q4), .second, .val (.long q5), .second, .val (.int wm), .val (.int ii), .val (.int (2 : Int32)), .val (.ref b231), .val (.ref b280), .val (.ref b284), .val (.int wm), .val (.int (1 : Int32)), .val (.int (1 : Int32))] [])) _
            refine XS.iload X393.here hx rfl (hb hby at_216) rfl ?_
            show Steps p.tables e below (T393.setTop (mkF m 218 #[.val (.int p1), .val (.int p2), .val (.int p3), .val (.long q4), .second, .val (.long q5), .second, .val (.int wm), .val (.int ii), .val (.int (2 : Int32)), .val (.ref b231), .val (.ref b280), .val (.ref b284), .val (.int wm), .val (.int (1 : Int32)), .val (.int (1 : Int32))] [(.int (1 : Int32))])) _
            refine XS.ifNo X393.here hx rfl (hb hby at_218) rfl ((if0 _ _).trans (feq (by decide : ¬ ((1 : Int32) = (0 : Int32)))).1) ?_
            show Steps p.tables e below (T393.setTop (mkF m 221 #[.val (.int p1), .val (.int p2), .val (.int p3), .val (.long q4), .second, .val (.long q5), .second, .val (.int wm), .val (.int ii), .val (.int (2 : Int32)), .val (.ref b231), .val (.ref b280), .val (.ref b284), .val (.int wm), .val (.int (1 : Int32)), .val (.int (1 : Int32))] [])) _
            refine XS.iconst X393.here hx rfl (hb hby at_221) ?_
            show Steps p.tables e below (T393.setTop (mkF m 222 #[.val (.int p1), .val (.int p2), .val (.int p3), .val (.long q4), .second, .val (.long q5), .second, .val (.int wm), .val (.int ii), .val (.int (2 : Int32)), .val (.ref b231), .val (.ref b280), .val (.ref b284), .val (.int wm), .val (.int (1 : Int32)), .val (.int (1 : Int32))] [(.int (1 : Int32))])) _
            refine XS.goto X393.here hx rfl (pc0 := 222) (pc' := 226) rfl (hb hby at_222) (by decide) (by decide) ?_
            show Steps p.tables e below (T393.setTop (mkF m 226 #[.val (.int p1), .val (.int p2), .val (.int p3), .val (.long q4), .second, .val (.long q5), .second, .val (.int wm), .val (.int ii), .val (.int (2 : Int32)), .val (.ref b231), .val (.ref b280), .val (.ref b284), .val (.int wm), .val (.int (1 : Int32)), .val (.int (1 : Int32))] [(.int (1 : Int32))])) _
            exact k
          obtain ⟨fs, hr, hrun, hended, hW, hsame⟩ := X393.leave (v := some (.int (1 : Int32))) (fun h => by rw [Bd.returns] at h; cases h)
          refine ⟨_, _, ?_, hrun, hended, _, _, rfl, ?_, ⟨_, rfl⟩, hW, hsame.mono (by decide) (by decide)⟩
          · exact retN X393 hx (t := .boolean) Bd.returns (by simp) (hb hby at_226) hr
          · show Q0 Z p1 p2 p3 q4 q5 w_DEFAULTCAPACITY_EMPTY_ELEMENTDATA k_DEFAULTCAPACITY_EMPTY_ELEMENTDATA h0 n0 _ T393.heap _
            rw [q393_0]
            exact ⟨rfl, N393⟩
        · refine own_go (B := T393.setTop (mkF m 226 #[.val (.int p1), .val (.int p2), .val (.int p3), .val (.long q4), .second, .val (.long q5), .second, .val (.int wm), .val (.int ii), .val (.int (2 : Int32)), .val (.ref b231), .val (.ref b280), .val (.ref b284), .val (.int wm), .val (.int (1 : Int32)), .val (.int (1 : Int32))] [(.int (1 : Int32))])) (fun t k => ?_) ?_
          · show Steps p.tables e below (T393.setTop (mkF m 186 #[.val (.int p1), .val (.int p2), .val (.int p3), .val (.long q4), .second, .val (.long q5), .second, .val (.int wm), .val (.int ii), .val (.int (2 : Int32)), .val (.ref b231), .val (.ref b280), .val (.ref b284), .val (.int wm), .val (.int (1 : Int32)), .unset] [(.int wm), (.int ii), (.int (if ii < wm then (1 : Int32) else 0))])) _
            refine XS.icmpYes X393.here hx rfl (pc0 := 186) (pc' := 193) rfl (hb hby at_186) rfl (flt hc397).2.1 (by decide) (by decide) ?_
            show Steps p.tables e below (T393.setTop (mkF m 193 #[.val (.int p1), .val (.int p2), .val (.int p3), .val (.long q4), .second, .val (.long q5), .second, .val (.int wm), .val (.int ii), .val (.int (2 : Int32)), .val (.ref b231), .val (.ref b280), .val (.ref b284), .val (.int wm), .val (.int (1 : Int32)), .unset] [(.int (if ii < wm then (1 : Int32) else 0))])) _
            refine XS.iconst X393.here hx rfl (hb hby at_193) ?_
            show Steps p.tables e below (T393.setTop (mkF m 194 #[.val (.int p1), .val (.int p2), .val (.int p3), .val (.long q4), .second, .val (.long q5), .second, .val (.int wm), .val (.int ii), .val (.int (2 : Int32)), .val (.ref b231), .val (.ref b280), .val (.ref b284), .val (.int wm), .val (.int (1 : Int32)), .unset] [(.int (0 : Int32)), (.int (if ii < wm then (1 : Int32) else 0))])) _
            refine XS.icmpNo X393.here hx rfl (hb hby at_194) rfl (teq (show (if ii < wm then (1 : Int32) else 0) = (0 : Int32) from (by rw [if_neg hc397] <;> decide))).2 ?_
            show Steps p.tables e below (T393.setTop (mkF m 197 #[.val (.int p1), .val (.int p2), .val (.int p3), .val (.long q4), .second, .val (.long q5), .second, .val (.int wm), .val (.int ii), .val (.int (2 : Int32)), .val (.ref b231), .val (.ref b280), .val (.ref b284), .val (.int wm), .val (.int (1 : Int32)), .unset] [])) _
            refine XS.iconst X393.here hx rfl (hb hby at_197) ?_
            show Steps p.tables e below (T393.setTop (mkF m 198 #[.val (.int p1), .val (.int p2), .val (.int p3), .val (.long q4), .second, .val (.long q5), .second, .val (.int wm), .val (.int ii), .val (.int (2 : Int32)), .val (.ref b231), .val (.ref b280), .val (.ref b284), .val (.int wm), .val (.int (1 : Int32)), .unset] [(.int (1 : Int32))])) _
            refine XS.goto X393.here hx rfl (pc0 := 198) (pc' := 202) rfl (hb hby at_198) (by decide) (by decide) ?_
            show Steps p.tables e below (T393.setTop (mkF m 202 #[.val (.int p1), .val (.int p2), .val (.int p3), .val (.long q4), .second, .val (.long q5), .second, .val (.int wm), .val (.int ii), .val (.int (2 : Int32)), .val (.ref b231), .val (.ref b280), .val (.ref b284), .val (.int wm), .val (.int (1 : Int32)), .unset] [(.int (1 : Int32))])) _
            refine XS.istore X393.here hx rfl (hb hby at_202) rfl (l' := #[.val (.int p1), .val (.int p2), .val (.int p3), .val (.long q4), .second, .val (.long q5), .second, .val (.int wm), .val (.int ii), .val (.int (2 : Int32)), .val (.ref b231), .val (.ref b280), .val (.ref b284), .val (.int wm), .val (.int (1 : Int32)), .val (.int (1 : Int32))]) rfl ?_
            show Steps p.tables e below (T393.setTop (mkF m 204 #[.val (.int p1), .val (.int p2), .val (.int p3), .val (.long q4), .second, .val (.long q5), .second, .val (.int wm), .val (.int ii), .val (.int (2 : Int32)), .val (.ref b231), .val (.ref b280), .val (.ref b284), .val (.int wm), .val (.int (1 : Int32)), .val (.int (1 : Int32))] [])) _
            refine XS.iload X393.here hx rfl (hb hby at_204) rfl ?_
            show Steps p.tables e below (T393.setTop (mkF m 206 #[.val (.int p1), .val (.int p2), .val (.int p3), .val (.long q4), .second, .val (.long q5), .second, .val (.int wm), .val (.int ii), .val (.int (2 : Int32)), .val (.ref b231), .val (.ref b280), .val (.ref b284), .val (.int wm), .val (.int (1 : Int32)), .val (.int (1 : Int32))] [(.int wm)])) _
            refine XS.iload X393.here hx rfl (hb hby at_206) rfl ?_
            show Steps p.tables e below (T393.setTop (mkF m 208 #[.val (.int p1), .val (.int p2), .val (.int p3), .val (.long q4), .second, .val (.long q5), .second, .val (.int wm), .val (.int ii), .val (.int (2 : Int32)), .val (.ref b231), .val (.ref b280), .val (.ref b284), .val (.int wm), .val (.int (1 : Int32)), .val (.int (1 : Int32))] [(.int wm), (.int wm)])) _
            refine XS.icmpNo X393.here hx rfl (hb hby at_208) rfl (teq (rfl : wm = wm)).2 ?_
            show Steps p.tables e below (T393.setTop (mkF m 211 #[.val (.int p1), .val (.int p2), .val (.int p3), .val (.long q4), .second, .val (.long q5), .second, .val (.int wm), .val (.int ii), .val (.int (2 : Int32)), .val (.ref b231), .val (.ref b280), .val (.ref b284), .val (.int wm), .val (.int (1 : Int32)), .val (.int (1 : Int32))] [])) _
            refine XS.iload X393.here hx rfl (hb hby at_211) rfl ?_
            show Steps p.tables e below (T393.setTop (mkF m 213 #[.val (.int p1), .val (.int p2), .val (.int p3), .val (.long q4), .second, .val (.long q5), .second, .val (.int wm), .val (.int ii), .val (.int (2 : Int32)), .val (.ref b231), .val (.ref b280), .val (.ref b284), .val (.int wm), .val (.int (1 : Int32)), .val (.int (1 : Int32))] [(.int (1 : Int32))])) _
            refine XS.ifNo X393.here hx rfl (hb hby at_213) rfl ((if0 _ _).trans (feq (by decide : ¬ ((1 : Int32) = (0 : Int32)))).1) ?_
            show Steps p.tables e below (T393.setTop (mkF m 216 #[.val (.int p1), .val (.int p2), .val (.int p3), .val (.long q4), .second, .val (.long q5), .second, .val (.int wm), .val (.int ii), .val (.int (2 : Int32)), .val (.ref b231), .val (.ref b280), .val (.ref b284), .val (.int wm), .val (.int (1 : Int32)), .val (.int (1 : Int32))] [])) _
            refine XS.iload X393.here hx rfl (hb hby at_216) rfl ?_
            show Steps p.tables e below (T393.setTop (mkF m 218 #[.val (.int p1), .val (.int p2), .val (.int p3), .val (.long q4), .second, .val (.long q5), .second, .val (.int wm), .val (.int ii), .val (.int (2 : Int32)), .val (.ref b231), .val (.ref b280), .val (.ref b284), .val (.int wm), .val (.int (1 : Int32)), .val (.int (1 : Int32))] [(.int (1 : Int32))])) _
            refine XS.ifNo X393.here hx rfl (hb hby at_218) rfl ((if0 _ _).trans (feq (by decide : ¬ ((1 : Int32) = (0 : Int32)))).1) ?_
            show Steps p.tables e below (T393.setTop (mkF m 221 #[.val (.int p1), .val (.int p2), .val (.int p3), .val (.long q4), .second, .val (.long q5), .second, .val (.int wm), .val (.int ii), .val (.int (2 : Int32)), .val (.ref b231), .val (.ref b280), .val (.ref b284), .val (.int wm), .val (.int (1 : Int32)), .val (.int (1 : Int32))] [])) _
            refine XS.iconst X393.here hx rfl (hb hby at_221) ?_
            show Steps p.tables e below (T393.setTop (mkF m 222 #[.val (.int p1), .val (.int p2), .val (.int p3), .val (.long q4), .second, .val (.long q5), .second, .val (.int wm), .val (.int ii), .val (.int (2 : Int32)), .val (.ref b231), .val (.ref b280), .val (.ref b284), .val (.int wm), .val (.int (1 : Int32)), .val (.int (1 : Int32))] [(.int (1 : Int32))])) _
            refine XS.goto X393.here hx rfl (pc0 := 222) (pc' := 226) rfl (hb hby at_222) (by decide) (by decide) ?_
            show Steps p.tables e below (T393.setTop (mkF m 226 #[.val (.int p1), .val (.int p2), .val (.int p3), .val (.long q4), .second, .val (.long q5), .second, .val (.int wm), .val (.int ii), .val (.int (2 : Int32)), .val (.ref b231), .val (.ref b280), .val (.ref b284), .val (.int wm), .val (.int (1 : Int32)), .val (.int (1 : Int32))] [(.int (1 : Int32))])) _
            exact k
          obtain ⟨fs, hr, hrun, hended, hW, hsame⟩ := X393.leave (v := some (.int (1 : Int32))) (fun h => by rw [Bd.returns] at h; cases h)
          refine ⟨_, _, ?_, hrun, hended, _, _, rfl, ?_, ⟨_, rfl⟩, hW, hsame.mono (by decide) (by decide)⟩
          · exact retN X393 hx (t := .boolean) Bd.returns (by simp) (hb hby at_226) hr
          · show Q0 Z p1 p2 p3 q4 q5 w_DEFAULTCAPACITY_EMPTY_ELEMENTDATA k_DEFAULTCAPACITY_EMPTY_ELEMENTDATA h0 n0 _ T393.heap _
            rw [q393_0]
            exact ⟨rfl, N393⟩
      · refine own_go (B := T384.setTop (mkF m 179 #[.val (.int p1), .val (.int p2), .val (.int p3), .val (.long q4), .second, .val (.long q5), .second, .val (.int wm), .val (.int ii), .val (.int (2 : Int32)), .val (.ref b231), .val (.ref b280), .val (.ref b284), .val (.int wm), .val (.int (1 : Int32)), .unset] [(.ref b280), (.ref b284)])) (fun t k => ?_) ?_
        · show Steps p.tables e below (T384.setTop (mkF m 157 #[.val (.int p1), .val (.int p2), .val (.int p3), .val (.long q4), .second, .val (.long q5), .second, .val (.int wm), .val (.int ii), .val (.int (2 : Int32)), .val (.ref b231), .val (.ref b280), .val (.ref b284), .val (.int wm), .unset, .unset] [(.int wm), (.int (2 : Int32)), (.int (if (2 : Int32) < wm then (1 : Int32) else 0))])) _
          refine XS.icmpYes X384.here hx rfl (pc0 := 157) (pc' := 164) rfl (hb hby at_157) rfl (flt hc392).2.1 (by decide) (by decide) ?_
          show Steps p.tables e below (T384.setTop (mkF m 164 #[.val (.int p1), .val (.int p2), .val (.int p3), .val (.long q4), .second, .val (.long q5), .second, .val (.int wm), .val (.int ii), .val (.int (2 : Int32)), .val (.ref b231), .val (.ref b280), .val (.ref b284), .val (.int wm), .unset, .unset] [(.int (if (2 : Int32) < wm then (1 : Int32) else 0))])) _
          refine XS.iconst X384.here hx rfl (hb hby at_164) ?_
          show Steps p.tables e below (T384.setTop (mkF m 165 #[.val (.int p1), .val (.int p2), .val (.int p3), .val (.long q4), .second, .val (.long q5), .second, .val (.int wm), .val (.int ii), .val (.int (2 : Int32)), .val (.ref b231), .val (.ref b280), .val (.ref b284), .val (.int wm), .unset, .unset] [(.int (0 : Int32)), (.int (if (2 : Int32) < wm then (1 : Int32) else 0))])) _
          refine XS.icmpNo X384.here hx rfl (hb hby at_165) rfl (teq (show (if (2 : Int32) < wm then (1 : Int32) else 0) = (0 : Int32) from (by rw [if_neg hc392] <;> decide))).2 ?_
          show Steps p.tables e below (T384.setTop (mkF m 168 #[.val (.int p1), .val (.int p2), .val (.int p3), .val (.long q4), .second, .val (.long q5), .second, .val (.int wm), .val (.int ii), .val (.int (2 : Int32)), .val (.ref b231), .val (.ref b280), .val (.ref b284), .val (.int wm), .unset, .unset] [])) _
          refine XS.iconst X384.here hx rfl (hb hby at_168) ?_
          show Steps p.tables e below (T384.setTop (mkF m 169 #[.val (.int p1), .val (.int p2), .val (.int p3), .val (.long q4), .second, .val (.long q5), .second, .val (.int wm), .val (.int ii), .val (.int (2 : Int32)), .val (.ref b231), .val (.ref b280), .val (.ref b284), .val (.int wm), .unset, .unset] [(.int (1 : Int32))])) _
          refine XS.goto X384.here hx rfl (pc0 := 169) (pc' := 173) rfl (hb hby at_169) (by decide) (by decide) ?_
          show Steps p.tables e below (T384.setTop (mkF m 173 #[.val (.int p1), .val (.int p2), .val (.int p3), .val (.long q4), .second, .val (.long q5), .second, .val (.int wm), .val (.int ii), .val (.int (2 : Int32)), .val (.ref b231), .val (.ref b280), .val (.ref b284), .val (.int wm), .unset, .unset] [(.int (1 : Int32))])) _
          refine XS.istore X384.here hx rfl (hb hby at_173) rfl (l' := #[.val (.int p1), .val (.int p2), .val (.int p3), .val (.long q4), .second, .val (.long q5), .second, .val (.int wm), .val (.int ii), .val (.int (2 : Int32)), .val (.ref b231), .val (.ref b280), .val (.ref b284), .val (.int wm), .val (.int (1 : Int32)), .unset]) rfl ?_
          show Steps p.tables e below (T384.setTop (mkF m 175 #[.val (.int p1), .val (.int p2), .val (.int p3), .val (.long q4), .second, .val (.long q5), .second, .val (.int wm), .val (.int ii), .val (.int (2 : Int32)), .val (.ref b231), .val (.ref b280), .val (.ref b284), .val (.int wm), .val (.int (1 : Int32)), .unset] [])) _
          refine XS.aload X384.here hx rfl (hb hby at_175) rfl rfl ?_
          show Steps p.tables e below (T384.setTop (mkF m 177 #[.val (.int p1), .val (.int p2), .val (.int p3), .val (.long q4), .second, .val (.long q5), .second, .val (.int wm), .val (.int ii), .val (.int (2 : Int32)), .val (.ref b231), .val (.ref b280), .val (.ref b284), .val (.int wm), .val (.int (1 : Int32)), .unset] [(.ref b284)])) _
          refine XS.aload X384.here hx rfl (hb hby at_177) rfl rfl ?_
          show Steps p.tables e below (T384.setTop (mkF m 179 #[.val (.int p1), .val (.int p2), .val (.int p3), .val (.long q4), .second, .val (.long q5), .second, .val (.int wm), .val (.int ii), .val (.int (2 : Int32)), .val (.ref b231), .val (.ref b280), .val (.ref b284), .val (.int wm), .val (.int (1 : Int32)), .unset] [(.ref b280), (.ref b284)])) _
          exact k
        have f401 : Exa Z T296.heap b280 "com/example/tiphys/tiphys/Release" := (((q281_1.ext E284).keep q285_0).keep q296_0)
        have ne402 : b280 ≠ b284 := (Nat.ne_of_lt (Nat.lt_of_lt_of_le (Nat.lt_of_lt_of_le A280.lt q281_0.1) (Nat.le_of_eq g284.symm)))
        have f403 : Fld Z T296.heap b280 "com/example/tiphys/tiphys/Release" "index" "I" (.int ii) := (((q281_2.ext E284).keep q285_0 (ninS ne402 nin0)).keep q296_0 nin0)
        obtain ⟨cq400, kq400, q400a, q400b, q400c⟩ := isOf hZ q384_0 f391
        obtain ⟨_, _, ⟨T400, L400, k400, n400⟩, -, X400, ⟨Lc400, hQ400, l400, y400, z400⟩, st400⟩ := X384.virtualBack hx (y := (⟨"com/example/tiphys/tiphys/Run", "isWarmup", "(Lcom/example/tiphys/tiphys/Release;)Z"⟩ : MethodName)) (z := (⟨"com/example/tiphys/tiphys/Run", "isWarmup", "(Lcom/example/tiphys/tiphys/Release;)Z"⟩ : MethodName)) hown (mvT hZ (hw _ (List.mem_of_getElem? (i := 177) rfl))) (mvT hZ (hw _ (List.mem_of_getElem? (i := 178) rfl))) (notFace_of_selects (args := #[]) (mvT hZ (hw _ (List.mem_of_getElem? (i := 180) rfl)))) (mvT hZ (hw _ (List.mem_of_getElem? (i := 180) rfl))) (mvT hZ (hw _ (List.mem_of_getElem? (i := 179) rfl))) (by decide) (backOf (W := 0) (rm24 l Z a0 hw [] b284 b280 ii wm T296.heap n0 (Nat.le_trans Z0 le300) f401 f403 f390) hZ (hw _ (List.mem_of_getElem? (i := 181) rfl)) (hw _ (List.mem_of_getElem? (i := 82) rfl)) (by decide) (by decide)) q400a q400c (g := (mkF m 179 #[.val (.int p1), .val (.int p2), .val (.int p3), .val (.long q4), .second, .val (.long q5), .second, .val (.int wm), .val (.int ii), .val (.int (2 : Int32)), .val (.ref b231), .val (.ref b280), .val (.ref b284), .val (.int wm), .val (.int (1 : Int32)), .unset] [(.ref b280), (.ref b284)])) rfl (by rw [hml]; rfl) (Steps.refl _) (argsL := [(.ref b280)]) (rest := []) (lenOf pd_15 rfl) rfl (by show 2 * 0 + _ ≤ _; exact Nat.le_of_eq rfl) (hb hby at_179) (fun _ _ => ⟨rfl, q384_0, (by decide : 8 + 0 ≤ _), (by decide : 42 + 0 ≤ _)⟩)
        dsimp only [Pt.U, Pt.locs, Pt.cells, Pt.slots] at X400 l400 y400 z400 st400 hQ400
        subst l400 y400 z400
        obtain ⟨rfl, M400, q400_0⟩ := hQ400
        have N400 := Fr.app N384 M400
        refine own_go (fun t k => st400.trans k) ?_
        refine own_go (B := T400.setTop (mkF m 186 #[.val (.int p1), .val (.int p2), .val (.int p3), .val (.long q4), .second, .val (.long q5), .second, .val (.int wm), .val (.int ii), .val (.int (2 : Int32)), .val (.ref b231), .val (.ref b280), .val (.ref b284), .val (.int wm), .val (.int (1 : Int32)), .unset] [(.int wm), (.int ii), (.int (if ii < wm then (1 : Int32) else 0))])) (fun t k => ?_) ?_
        · show Steps p.tables e below (T400.setTop (mkF m 182 #[.val (.int p1), .val (.int p2), .val (.int p3), .val (.long q4), .second, .val (.long q5), .second, .val (.int wm), .val (.int ii), .val (.int (2 : Int32)), .val (.ref b231), .val (.ref b280), .val (.ref b284), .val (.int wm), .val (.int (1 : Int32)), .unset] [(.int (if ii < wm then (1 : Int32) else 0))])) _
          refine XS.iload X400.here hx rfl (hb hby at_182) rfl ?_
          show Steps p.tables e below (T400.setTop (mkF m 184 #[.val (.int p1), .val (.int p2), .val (.int p3), .val (.long q4), .second, .val (.long q5), .second, .val (.int wm), .val (.int ii), .val (.int (2 : Int32)), .val (.ref b231), .val (.ref b280), .val (.ref b284), .val (.int wm), .val (.int (1 : Int32)), .unset] [(.int ii), (.int (if ii < wm then (1 : Int32) else 0))])) _
          refine XS.iload X400.here hx rfl (hb hby at_184) rfl ?_
          show Steps p.tables e below (T400.setTop (mkF m 186 #[.val (.int p1), .val (.int p2), .val (.int p3), .val (.long q4), .second, .val (.long q5), .second, .val (.int wm), .val (.int ii), .val (.int (2 : Int32)), .val (.ref b231), .val (.ref b280), .val (.ref b284), .val (.int wm), .val (.int (1 : Int32)), .unset] [(.int wm), (.int ii), (.int (if ii < wm then (1 : Int32) else 0))])) _
          exact k
        by_cases hc404 : ii < wm
        · refine own_go (B := T400.setTop (mkF m 226 #[.val (.int p1), .val (.int p2), .val (.int p3), .val (.long q4), .second, .val (.long q5), .second, .val (.int wm), .val (.int ii), .val (.int (2 : Int32)), .val (.ref b231), .val (.ref b280), .val (.ref b284), .val (.int wm), .val (.int (1 : Int32)), .val (.int (1 : Int32))] [(.int (1 : Int32))])) (fun t k => ?_) ?_
          · show Steps p.tables e below (T400.setTop (mkF m 186 #[.val (.int p1), .val (.int p2), .val (.int p3), .val (.long q4), .second, .val (.long q5), .second, .val (.int wm), .val (.int ii), .val (.int (2 : Int32)), .val (.ref b231), .val (.ref b280), .val (.ref b284), .val (.int wm), .val (.int (1 : Int32)), .unset] [(.int wm), (.int ii), (.int (if ii < wm then (1 : Int32) else 0))])) _
            refine XS.icmpNo X400.here hx rfl (hb hby at_186) rfl (tlt hc404).2.1 ?_
            show Steps p.tables e below (T400.setTop (mkF m 189 #[.val (.int p1), .val (.int p2), .val (.int p3), .val (.long q4), .second, .val (.long q5), .second, .val (.int wm), .val (.int ii), .val (.int (2 : Int32)), .val (.ref b231), .val (.ref b280), .val (.ref b284), .val (.int wm), .val (.int (1 : Int32)), .unset] [(.int (if ii < wm then (1 : Int32) else 0))])) _
            refine XS.iconst X400.here hx rfl (hb hby at_189) ?_
            show Steps p.tables e below (T400.setTop (mkF m 190 #[.val (.int p1), .val (.int p2), .val (.int p3), .val (.long q4), .second, .val (.long q5), .second, .val (.int wm), .val (.int ii), .val (.int (2 : Int32)), .val (.ref b231), .val (.ref b280), .val (.ref b284), .val (.int wm), .val (.int (1 : Int32)), .unset] [(.int (1 : Int32)), (.int (if ii < wm then (1 : Int32) else 0))])) _
            refine XS.goto X400.here hx rfl (pc0 := 190) (pc' := 194) rfl (hb hby at_190) (by decide) (by decide) ?_
            show Steps p.tables e below (T400.setTop (mkF m 194 #[.val (.int p1), .val (.int p2), .val (.int p3), .val (.long q4), .second, .val (.long q5), .second, .val (.int wm), .val (.int ii), .val (.int (2 : Int32)), .val (.ref b231), .val (.ref b280), .val (.ref b284), .val (.int wm), .val (.int (1 : Int32)), .unset] [(.int (1 : Int32)), (.int (if ii < wm then (1 : Int32) else 0))])) _
            refine XS.icmpNo X400.here hx rfl (hb hby at_194) rfl (teq (show (if ii < wm then (1 : Int32) else 0) = (1 : Int32) from (by rw [if_pos hc404] <;> decide))).2 ?_
            show Steps p.tables e below (T400.setTop (mkF m 197 #[.val (.int p1), .val (.int p2), .val (.int p3), .val (.long q4), .second, .val (.long q5), .second, .val (.int wm), .val (.int ii), .val (.int (2 : Int32)), .val (.ref b231), .val (.ref b280), .val (.ref b284), .val (.int wm), .val (.int (1 : Int32)), .unset] [])) _
            refine XS.iconst X400.here hx rfl (hb hby at_197) ?_
            show Steps p.tables e below (T400.setTop (mkF m 198 #[.val (.int p1), .val (.int p2), .val (.int p3), .val (.long q4), .second, .val (.long q5), .second, .val (.int wm), .val (.int ii), .val (.int (2 : Int32)), .val (.ref b231), .val (.ref b280), .val (.ref b284), .val (.int wm), .val (.int (1 : Int32)), .unset] [(.int (1 : Int32))])) _
            refine XS.goto X400.here hx rfl (pc0 := 198) (pc' := 202) rfl (hb hby at_198) (by decide) (by decide) ?_
            show Steps p.tables e below (T400.setTop (mkF m 202 #[.val (.int p1), .val (.int p2), .val (.int p3), .val (.long q4), .second, .val (.long q5), .second, .val (.int wm), .val (.int ii), .val (.int (2 : Int32)), .val (.ref b231), .val (.ref b280), .val (.ref b284), .val (.int wm), .val (.int (1 : Int32)), .unset] [(.int (1 : Int32))])) _
            refine XS.istore X400.here hx rfl (hb hby at_202) rfl (l' := #[.val (.int p1), .val (.int p2), .val (.int p3), .val (.long q4), .second, .val (.long q5), .second, .val (.int wm), .val (.int ii), .val (.int (2 : Int32)), .val (.ref b231), .val (.ref b280), .val (.ref b284), .val (.int wm), .val (.int (1 : Int32)), .val (.int (1 : Int32))]) rfl ?_
            show Steps p.tables e below (T400.setTop (mkF m 204 #[.val (.int p1), .val (.int p2), .val (.int p3), .val (.long q4), .second, .val (.long q5), .second, .val (.int wm), .val (.int ii), .val (.int (2 : Int32)), .val (.ref b231), .val (.ref b280), .val (.ref b284), .val (.int wm), .val (.int (1 : Int32)), .val (.int (1 : Int32))] [])) _
            refine XS.iload X400.here hx rfl (hb hby at_204) rfl ?_
            show Steps p.tables e below (T400.setTop (mkF m 206 #[.val (.int p1), .val (.int p2), .val (.int p3), .val (.long q4), .second, .val (.long q5), .second, .val (.int wm), .val (.int ii), .val (.int (2 : Int32)), .val (.ref b231), .val (.ref b280), .val (.ref b284), .val (.int wm), .val (.int (1 : Int32)), .val (.int (1 : Int32))] [(.int wm)])) _
            refine XS.iload X400.here hx rfl (hb hby at_206) rfl ?_
            show Steps p.tables e below (T400.setTop (mkF m 208 #[.val (.int p1), .val (.int p2), .val (.int p3), .val (.long q4), .second, .val (.long q5), .second, .val (.int wm), .val (.int ii), .val (.int (2 : Int32)), .val (.ref b231), .val (.ref b280), .val (.ref b284), .val (.int wm), .val (.int (1 : Int32)), .val (.int (1 : Int32))] [(.int wm), (.int wm)])) _
            refine XS.icmpNo X400.here hx rfl (hb hby at_208) rfl (teq (rfl : wm = wm)).2 ?_
            show Steps p.tables e below (T400.setTop (mkF m 211 #[.val (.int p1), .val (.int p2), .val (.int p3), .val (.long q4), .second, .val (.long q5), .second, .val (.int wm), .val (.int ii), .val (.int (2 : Int32)), .val (.ref b231), .val (.ref b280), .val (.ref b284), .val (.int wm), .val (.int (1 : Int32)), .val (.int (1 : Int32))] [])) _
            refine XS.iload X400.here hx rfl (hb hby at_211) rfl ?_
            show Steps p.tables e below (T400.setTop (mkF m 213 #[.val (.int p1), .val (.int p2), .val (.int p3), .val (.long q4), .second, .val (.long q5), .second, .val (.int wm), .val (.int ii), .val (.int (2 : Int32)), .val (.ref b231), .val (.ref b280), .val (.ref b284), .val (.int wm), .val (.int (1 : Int32)), .val (.int (1 : Int32))] [(.int (1 : Int32))])) _
            refine XS.ifNo X400.here hx rfl (hb hby at_213) rfl ((if0 _ _).trans (feq (by decide : ¬ ((1 : Int32) = (0 : Int32)))).1) ?_
            show Steps p.tables e below (T400.setTop (mkF m 216 #[.val (.int p1), .val (.int p2), .val (.int p3), .val (.long q4), .second, .val (.long q5), .second, .val (.int wm), .val (.int ii), .val (.int (2 : Int32)), .val (.ref b231), .val (.ref b280), .val (.ref b284), .val (.int wm), .val (.int (1 : Int32)), .val (.int (1 : Int32))] [])) _
            refine XS.iload X400.here hx rfl (hb hby at_216) rfl ?_
            show Steps p.tables e below (T400.setTop (mkF m 218 #[.val (.int p1), .val (.int p2), .val (.int p3), .val (.long q4), .second, .val (.long q5), .second, .val (.int wm), .val (.int ii), .val (.int (2 : Int32)), .val (.ref b231), .val (.ref b280), .val (.ref b284), .val (.int wm), .val (.int (1 : Int32)), .val (.int (1 : Int32))] [(.int (1 : Int32))])) _
            refine XS.ifNo X400.here hx rfl (hb hby at_218) rfl ((if0 _ _).trans (feq (by decide : ¬ ((1 : Int32) = (0 : Int32)))).1) ?_
            show Steps p.tables e below (T400.setTop (mkF m 221 #[.val (.int p1), .val (.int p2), .val (.int p3), .val (.long q4), .second, .val (.long q5), .second, .val (.int wm), .val (.int ii), .val (.int (2 : Int32)), .val (.ref b231), .val (.ref b280), .val (.ref b284), .val (.int wm), .val (.int (1 : Int32)), .val (.int (1 : Int32))] [])) _
            refine XS.iconst X400.here hx rfl (hb hby at_221) ?_
            show Steps p.tables e below (T400.setTop (mkF m 222 #[.val (.int p1), .val (.int p2), .val (.int p3), .val (.long q4), .second, .val (.long q5), .second, .val (.int wm), .val (.int ii), .val (.int (2 : Int32)), .val (.ref b231), .val (.ref b280), .val (.ref b284), .val (.int wm), .val (.int (1 : Int32)), .val (.int (1 : Int32))] [(.int (1 : Int32))])) _
            refine XS.goto X400.here hx rfl (pc0 := 222) (pc' := 226) rfl (hb hby at_222) (by decide) (by decide) ?_
            show Steps p.tables e below (T400.setTop (mkF m 226 #[.val (.int p1), .val (.int p2), .val (.int p3), .val (.long q4), .second, .val (.long q5), .second, .val (.int wm), .val (.int ii), .val (.int (2 : Int32)), .val (.ref b231), .val (.ref b280), .val (.ref b284), .val (.int wm), .val (.int (1 : Int32)), .val (.int (1 : Int32))] [(.int (1 : Int32))])) _
            exact k
          obtain ⟨fs, hr, hrun, hended, hW, hsame⟩ := X400.leave (v := some (.int (1 : Int32))) (fun h => by rw [Bd.returns] at h; cases h)
          refine ⟨_, _, ?_, hrun, hended, _, _, rfl, ?_, ⟨_, rfl⟩, hW, hsame.mono (by decide) (by decide)⟩
          · exact retN X400 hx (t := .boolean) Bd.returns (by simp) (hb hby at_226) hr
          · show Q0 Z p1 p2 p3 q4 q5 w_DEFAULTCAPACITY_EMPTY_ELEMENTDATA k_DEFAULTCAPACITY_EMPTY_ELEMENTDATA h0 n0 _ T400.heap _
            rw [q400_0]
            exact ⟨rfl, N400⟩
        · refine own_go (B := T400.setTop (mkF m 226 #[.val (.int p1), .val (.int p2), .val (.int p3), .val (.long q4), .second, .val (.long q5), .second, .val (.int wm), .val (.int ii), .val (.int (2 : Int32)), .val (.ref b231), .val (.ref b280), .val (.ref b284), .val (.int wm), .val (.int (1 : Int32)), .val (.int (1 : Int32))] [(.int (1 : Int32))])) (fun t k => ?_) ?_
          · show Steps p.tables e below (T400.setTop (mkF m 186 #[.val (.int p1), .val (.int p2), .val (.int p3), .val (.long q4), .second, .val (.long q5), .second, .val (.int wm), .val (.int ii), .val (.int (2 : Int32)), .val (.ref b231), .val (.ref b280), .val (.ref b284), .val (.int wm), .val (.int (1 : Int32)), .unset] [(.int wm), (.int ii), (.int (if ii < wm then (1 : Int32) else 0))])) _
            refine XS.icmpYes X400.here hx rfl (pc0 := 186) (pc' := 193) rfl (hb hby at_186) rfl (flt hc404).2.1 (by decide) (by decide) ?_
            show Steps p.tables e below (T400.setTop (mkF m 193 #[.val (.int p1), .val (.int p2), .val (.int p3), .val (.long q4), .second, .val (.long q5), .second, .val (.int wm), .val (.int ii), .val (.int (2 : Int32)), .val (.ref b231), .val (.ref b280), .val (.ref b284), .val (.int wm), .val (.int (1 : Int32)), .unset] [(.int (if ii < wm then (1 : Int32) else 0))])) _
            refine XS.iconst X400.here hx rfl (hb hby at_193) ?_
            show Steps p.tables e below (T400.setTop (mkF m 194 #[.val (.int p1), .val (.int p2), .val (.int p3), .val (.long q4), .second, .val (.long q5), .second, .val (.int wm), .val (.int ii), .val (.int (2 : Int32)), .val (.ref b231), .val (.ref b280), .val (.ref b284), .val (.int wm), .val (.int (1 : Int32)), .unset] [(.int (0 : Int32)), (.int (if ii < wm then (1 : Int32) else 0))])) _
            refine XS.icmpNo X400.here hx rfl (hb hby at_194) rfl (teq (show (if ii < wm then (1 : Int32) else 0) = (0 : Int32) from (by rw [if_neg hc404] <;> decide))).2 ?_
            show Steps p.tables e below (T400.setTop (mkF m 197 #[.val (.int p1), .val (.int p2), .val (.int p3), .val (.long q4), .second, .val (.long q5), .second, .val (.int wm), .val (.int ii), .val (.int (2 : Int32)), .val (.ref b231), .val (.ref b280), .val (.ref b284), .val (.int wm), .val (.int (1 : Int32)), .unset] [])) _
            refine XS.iconst X400.here hx rfl (hb hby at_197) ?_
            show Steps p.tables e below (T400.setTop (mkF m 198 #[.val (.int p1), .val (.int p2), .val (.int p3), .val (.long q4), .second, .val (.long q5), .second, .val (.int wm), .val (.int ii), .val (.int (2 : Int32)), .val (.ref b231), .val (.ref b280), .val (.ref b284), .val (.int wm), .val (.int (1 : Int32)), .unset] [(.int (1 : Int32))])) _
            refine XS.goto X400.here hx rfl (pc0 := 198) (pc' := 202) rfl (hb hby at_198) (by decide) (by decide) ?_
            show Steps p.tables e below (T400.setTop (mkF m 202 #[.val (.int p1), .val (.int p2), .val (.int p3), .val (.long q4), .second, .val (.long q5), .second, .val (.int wm), .val (.int ii), .val (.int (2 : Int32)), .val (.ref b231), .val (.ref b280), .val (.ref b284), .val (.int wm), .val (.int (1 : Int32)), .unset] [(.int (1 : Int32))])) _
            refine XS.istore X400.here hx rfl (hb hby at_202) rfl (l' := #[.val (.int p1), .val (.int p2), .val (.int p3), .val (.long q4), .second, .val (.long q5), .second, .val (.int wm), .val (.int ii), .val (.int (2 : Int32)), .val (.ref b231), .val (.ref b280), .val (.ref b284), .val (.int wm), .val (.int (1 : Int32)), .val (.int (1 : Int32))]) rfl ?_
            show Steps p.tables e below (T400.setTop (mkF m 204 #[.val (.int p1), .val (.int p2), .val (.int p3), .val (.long q4), .second, .val (.long q5), .second, .val (.int wm), .val (.int ii), .val (.int (2 : Int32)), .val (.ref b231), .val (.ref b280), .val (.ref b284), .val (.int wm), .val (.int (1 : Int32)), .val (.int (1 : Int32))] [])) _
            refine XS.iload X400.here hx rfl (hb hby at_204) rfl ?_
            show Steps p.tables e below (T400.setTop (mkF m 206 #[.val (.int p1), .val (.int p2), .val (.int p3), .val (.long q4), .second, .val (.long q5), .second, .val (.int wm), .val (.int ii), .val (.int (2 : Int32)), .val (.ref b231), .val (.ref b280), .val (.ref b284), .val (.int wm), .val (.int (1 : Int32)), .val (.int (1 : Int32))] [(.int wm)])) _
            refine XS.iload X400.here hx rfl (hb hby at_206) rfl ?_
            show Steps p.tables e below (T400.setTop (mkF m 208 #[.val (.int p1), .val (.int p2), .val (.int p3), .val (.long q4), .second, .val (.long q5), .second, .val (.int wm), .val (.int ii), .val (.int (2 : Int32)), .val (.ref b231), .val (.ref b280), .val (.ref b284), .val (.int wm), .val (.int (1 : Int32)), .val (.int (1 : Int32))] [(.int wm), (.int wm)])) _
            refine XS.icmpNo X400.here hx rfl (hb hby at_208) rfl (teq (rfl : wm = wm)).2 ?_
            show Steps p.tables e below (T400.setTop (mkF m 211 #[.val (.int p1), .val (.int p2), .val (.int p3), .val (.long q4), .second, .val (.long q5), .second, .val (.int wm), .val (.int ii), .val (.int (2 : Int32)), .val (.ref b231), .val (.ref b280), .val (.ref b284), .val (.int wm), .val (.int (1 : Int32)), .val (.int (1 : Int32))] [])) _
            refine XS.iload X400.here hx rfl (hb hby at_211) rfl ?_
            show Steps p.tables e below (T400.setTop (mkF m 213 #[.val (.int p1), .val (.int p2), .val (.int p3), .val (.long q4), .second, .val (.long q5), .second, .val (.int wm), .val (.int ii), .val (.int (2 : Int32)), .val (.ref b231), .val (.ref b280), .val (.ref b284), .val (.int wm), .val (.int (1 : Int32)), .val (.int (1 : Int32))] [(.int (1 : Int32))])) _
            refine XS.ifNo X400.here hx rfl (hb hby at_213) rfl ((if0 _ _).trans (feq (by decide : ¬ ((1 : Int32) = (0 : Int32)))).1) ?_
            show Steps p.tables e below (T400.setTop (mkF m 216 #[.val (.int p1), .val (.int p2), .val (.int p3), .val (.long q4), .second, .val (.long q5), .second, .val (.int wm), .val (.int ii), .val (.int (2 : Int32)), .val (.ref b231), .val (.ref b280), .val (.ref b284), .val (.int wm), .val (.int (1 : Int32)), .val (.int (1 : Int32))] [])) _
            refine XS.iload X400.here hx rfl (hb hby at_216) rfl ?_
            show Steps p.tables e below (T400.setTop (mkF m 218 #[.val (.int p1), .val (.int p2), .val (.int p3), .val (.long q4), .second, .val (.long q5), .second, .val (.int wm), .val (.int ii), .val (.int (2 : Int32)), .val (.ref b231), .val (.ref b280), .val (.ref b284), .val (.int wm), .val (.int (1 : Int32)), .val (.int (1 : Int32))] [(.int (1 : Int32))])) _
            refine XS.ifNo X400.here hx rfl (hb hby at_218) rfl ((if0 _ _).trans (feq (by decide : ¬ ((1 : Int32) = (0 : Int32)))).1) ?_
            show Steps p.tables e below (T400.setTop (mkF m 221 #[.val (.int p1), .val (.int p2), .val (.int p3), .val (.long q4), .second, .val (.long q5), .second, .val (.int wm), .val (.int ii), .val (.int (2 : Int32)), .val (.ref b231), .val (.ref b280), .val (.ref b284), .val (.int wm), .val (.int (1 : Int32)), .val (.int (1 : Int32))] [])) _
            refine XS.iconst X400.here hx rfl (hb hby at_221) ?_
            show Steps p.tables e below (T400.setTop (mkF m 222 #[.val (.int p1), .val (.int p2), .val (.int p3), .val (.long q4), .second, .val (.long q5), .second, .val (.int wm), .val (.int ii), .val (.int (2 : Int32)), .val (.ref b231), .val (.ref b280), .val (.ref b284), .val (.int wm), .val (.int (1 : Int32)), .val (.int (1 : Int32))] [(.int (1 : Int32))])) _
            refine XS.goto X400.here hx rfl (pc0 := 222) (pc' := 226) rfl (hb hby at_222) (by decide) (by decide) ?_
            show Steps p.tables e below (T400.setTop (mkF m 226 #[.val (.int p1), .val (.int p2), .val (.int p3), .val (.long q4), .second, .val (.long q5), .second, .val (.int wm), .val (.int ii), .val (.int (2 : Int32)), .val (.ref b231), .val (.ref b280), .val (.ref b284), .val (.int wm), .val (.int (1 : Int32)), .val (.int (1 : Int32))] [(.int (1 : Int32))])) _
            exact k
          obtain ⟨fs, hr, hrun, hended, hW, hsame⟩ := X400.leave (v := some (.int (1 : Int32))) (fun h => by rw [Bd.returns] at h; cases h)
          refine ⟨_, _, ?_, hrun, hended, _, _, rfl, ?_, ⟨_, rfl⟩, hW, hsame.mono (by decide) (by decide)⟩
          · exact retN X400 hx (t := .boolean) Bd.returns (by simp) (hb hby at_226) hr
          · show Q0 Z p1 p2 p3 q4 q5 w_DEFAULTCAPACITY_EMPTY_ELEMENTDATA k_DEFAULTCAPACITY_EMPTY_ELEMENTDATA h0 n0 _ T400.heap _
            rw [q400_0]
            exact ⟨rfl, N400⟩
set_option maxRecDepth 65536 in
set_option maxHeartbeats 40000000 in
theorem comes_1 {Post : Tables → Env → Array Value → State → Outcome → State → Prop} (hpost : ∀ tb e args s v u, (limb_1_1.after args s (.returned v) u = true ∧ limb_1_2.after args s (.returned v) u = true ∧ True) → FrameEnd s (.returned v) u (Jvm.fieldLocs frame_1_writes args s ++ Jvm.arrayLocs frame_1_arrays args s ++ Jvm.staticLocs frame_1_statics s) 24 192 → Post tb e args s (.returned v) u) :
    ArmFor flags0 classFile x code maxLocals ret World_1 tables_1 room_1 Calls_1 rest_1 Pre_1 Post := by
  intro l hfl _ _ p e ha hc hk s m args below hf hA hF happ hP
  obtain ⟨hcalls, hrest, hpre⟩ := hP
  obtain ⟨-, -, -, hnamed, -, -, -, hat⟩ := (Spec.applies_iff hf).mp happ
  obtain ⟨hg, hn⟩ := and_e (Cond.before_iff.mp (show (Jvm.Cond.and given_1 narrow_1).before args s = true from hpre))
  obtain ⟨g0, hg0⟩ := and_e hg
  obtain ⟨g1, hg1⟩ := and_e hg0
  obtain ⟨g2, hg2⟩ := and_e hg1
  obtain ⟨g3, hg3⟩ := and_e hg2
  obtain ⟨g4, hg4⟩ := and_e hg3
  obtain ⟨w0, w1, w2, w3, w4, rfl⟩ : ∃ w0 w1 w2 w3 w4 : Value, args = #[w0, w1, w2, w3, w4] := by
    have hs : args.size = 5 := by simpa [Cond.value, given_1] using g0
    obtain ⟨L⟩ := args
    match L, hs with
    | [w0, w1, w2, w3, w4], _ => exact ⟨w0, w1, w2, w3, w4, rfl⟩
  have hw := fun d (hd : d ∈ tables_1) => atoms_spec (ws := Jvm.Cond.code x code maxLocals ret :: tables_1) hat d (List.mem_cons_of_mem _ hd)
  have hfit : Fit s := fun {y c} hc i hi => by
    obtain ⟨ha, rfl⟩ := Array.getElem?_eq_some_iff.mp hc
    have q := List.all_eq_true.mp ((Array.all_eq_true_iff_forall_mem.mp hF) _ (Array.getElem_mem ha)) i (List.mem_range.mpr hi)
    simpa [Array.getElem?_eq_getElem hi] using q
  obtain ⟨hsets, hown0⟩ := atoms_of _ (rest_1_c_eq ▸ (show rest_1_c.before _ s = true from hrest))
  obtain ⟨i0, ei0⟩ := is_v g1
  obtain rfl : w0 = (.int i0) := Option.some.inj ei0
  obtain ⟨i1, ei1⟩ := is_v g2
  obtain rfl : w1 = (.int i1) := Option.some.inj ei1
  obtain ⟨i2, ei2⟩ := is_v g3
  obtain rfl : w2 = (.int i2) := Option.some.inj ei2
  obtain ⟨i3, ei3⟩ := isL_v g4
  obtain rfl : w3 = (.long i3) := Option.some.inj ei3
  obtain ⟨i4, ei4⟩ := isL_v hg4
  obtain rfl : w4 = (.long i4) := Option.some.inj ei4
  obtain ⟨w_EMPTY_ELEMENTDATA, ev_EMPTY_ELEMENTDATA⟩ := arr_v (Cond.before_iff.mp (hsets _ (List.mem_of_getElem? (i := 3) rfl)))
  have S_EMPTY_ELEMENTDATA := Sta.start ev_EMPTY_ELEMENTDATA (Or.inl (hsets _ (List.mem_of_getElem? (i := 1) rfl)))
  obtain ⟨cl_EMPTY_ELEMENTDATA, A_EMPTY_ELEMENTDATA⟩ := Arr.start ev_EMPTY_ELEMENTDATA (Cond.before_iff.mp (hsets _ (List.mem_of_getElem? (i := 3) rfl)))
  have E_EMPTY_ELEMENTDATA := Exa.start ev_EMPTY_ELEMENTDATA (Cond.before_iff.mp (hsets _ (List.mem_of_getElem? (i := 4) rfl)))
  obtain ⟨w_DEFAULTCAPACITY_EMPTY_ELEMENTDATA, ev_DEFAULTCAPACITY_EMPTY_ELEMENTDATA⟩ := arr_v (Cond.before_iff.mp (hsets _ (List.mem_of_getElem? (i := 6) rfl)))
  have S_DEFAULTCAPACITY_EMPTY_ELEMENTDATA := Sta.start ev_DEFAULTCAPACITY_EMPTY_ELEMENTDATA (Or.inr ⟨(hw _ (List.mem_of_getElem? (i := 3) rfl)), (hsets _ (List.mem_of_getElem? (i := 2) rfl))⟩)
  obtain ⟨cl_DEFAULTCAPACITY_EMPTY_ELEMENTDATA, A_DEFAULTCAPACITY_EMPTY_ELEMENTDATA⟩ := Arr.start ev_DEFAULTCAPACITY_EMPTY_ELEMENTDATA (Cond.before_iff.mp (hsets _ (List.mem_of_getElem? (i := 6) rfl)))
  have E_DEFAULTCAPACITY_EMPTY_ELEMENTDATA := Exa.start ev_DEFAULTCAPACITY_EMPTY_ELEMENTDATA (Cond.before_iff.mp (hsets _ (List.mem_of_getElem? (i := 7) rfl)))
  have L_EMPTY_ELEMENTDATA := own_lenStart ev_EMPTY_ELEMENTDATA A_EMPTY_ELEMENTDATA (Cond.before_iff.mp (hsets _ (List.mem_of_getElem? (i := 5) rfl)))
  have L_DEFAULTCAPACITY_EMPTY_ELEMENTDATA := own_lenStart ev_DEFAULTCAPACITY_EMPTY_ELEMENTDATA A_DEFAULTCAPACITY_EMPTY_ELEMENTDATA (Cond.before_iff.mp (hsets _ (List.mem_of_getElem? (i := 8) rfl)))
  have V_EMPTY_ELEMENTDATA : Arv s s.heap w_EMPTY_ELEMENTDATA cl_EMPTY_ELEMENTDATA.cls (.object "java/lang/Object") (0 : Int32) [] .null := Arv.start hfit A_EMPTY_ELEMENTDATA L_EMPTY_ELEMENTDATA.1 L_EMPTY_ELEMENTDATA.2 (by decide) rfl trivial
  have V_DEFAULTCAPACITY_EMPTY_ELEMENTDATA : Arv s s.heap w_DEFAULTCAPACITY_EMPTY_ELEMENTDATA cl_DEFAULTCAPACITY_EMPTY_ELEMENTDATA.cls (.object "java/lang/Object") (0 : Int32) [] .null := Arv.start hfit A_DEFAULTCAPACITY_EMPTY_ELEMENTDATA L_DEFAULTCAPACITY_EMPTY_ELEMENTDATA.1 L_DEFAULTCAPACITY_EMPTY_ELEMENTDATA.2 (by decide) rfl trivial
  obtain ⟨n, o, h1, h2, h3, _, L, rfl, ⟨rfl, N⟩, hq⟩ := rm0 l s _ hw tables_1 i0 i1 i2 i3 i4 w_DEFAULTCAPACITY_EMPTY_ELEMENTDATA cl_DEFAULTCAPACITY_EMPTY_ELEMENTDATA.cls s.heap s.heap.size (Nat.le_refl _) S_DEFAULTCAPACITY_EMPTY_ELEMENTDATA E_DEFAULTCAPACITY_EMPTY_ELEMENTDATA V_DEFAULTCAPACITY_EMPTY_ELEMENTDATA p e ha hc hk s m _ below hf ((Spec.applies_iff_loose hf).mp happ).1 ⟨rfl, State.Warmed39.refl s, rfl⟩ trivial
  refine ⟨n, _, h1, h2, h3, hpost _ _ _ _ _ _ ⟨Cond.after_iff.mpr rfl, Cond.after_iff.mpr (eq_i res_at (Term.int_eval (1)) rfl), trivial⟩ ⟨hq.1, hq.2.1, (hq.2.2.sift fun y hy => Or.inr (N y hy)).mono (by decide) (by decide)⟩⟩
theorem main_1_1 : Claimed_1_1 := comes_1 fun _ _ _ _ _ _ h hF => ⟨h.1, hF⟩
theorem main_1_2 : Claimed_1_2 := comes_1 fun _ _ _ _ _ _ h hF => ⟨h.2.1, hF⟩
end Jvm.Pilot.@@N@@
namespace Jvm.Pilot.@@N@@
open Jvm Jvm.ClassFile Sem Op Lib Jvm.Free Jvm.Stand Jvm.Pilot.@@N@@.Jvm.D
/-! MADE BY PROGRAM (witnessworld.py) out of the Statement's table words and the real class files: 25 classes; the members and pool entries that the words name. The judged class is class 1, her method 1. -/
namespace start1
open Jvm.ClassFile
def u (s : String) : CpInfo := .utf8 (stringToUtf16 s)
/-- a pool by its gaps: so many unusable entries, then the entry; so many at the end -/
def gap : Nat → List CpInfo → List CpInfo
  | 0, r => r
  | n + 1, r => .unusable :: gap n r
def poolList (es : List (Nat × CpInfo)) (last : Nat) : List CpInfo := es.foldr (fun e r => gap e.1 (e.2 :: r)) (gap last [])
def pool (es : List (Nat × CpInfo)) (last : Nat) : Array CpInfo := ⟨poolList es last⟩
def fileOf (pool : Array CpInfo) (this : Nat) (attrs : Array Attribute := #[]) (ms : Array MethodInfo := #[]) (fl : Nat := 33) (sup : Nat := 0) (ifs : Array Nat := #[]) (fds : Array FieldInfo := #[]) : ClassFile where
  minorVersion := 0
  majorVersion := 65
  constantPool := pool
  accessFlags := fl
  thisClass := this
  superClass := sup
  interfaces := ifs
  fields := fds
  methods := ms
  attributes := attrs
def plain (name : String) (sup : Option ClassId) : Class where
  name := name
  kind := .ordinary
  loader := none
  accessFlags := 33
  super := sup
  interfaces := #[]
  cf := none
  fields := #[]
  methods := #[]
  instanceTypes := #[]
  staticTypes := #[]
  resolved := #[]
  callSites := []
  init := .initialized
  statics := none
  mirror := none

def pool0 : Array CpInfo := pool [(5, u "<init>"), (0, u "()V"), (1, .class_ 10), (1, u "java/lang/Object")] 113

def k0c0 : Code := { maxStack := 0, maxLocals := 1, code := object_method_1_code, exceptionTable := #[], attributes := #[] }
def k0m0 : Method := { name := "<init>", desc := "()V", sig := { parameters := [], returnType := none }, accessFlags := 1, code := some k0c0 }
/-- java/lang/Object -/
def k0 : Class := { plain "java/lang/Object" none with
  accessFlags := 33
  interfaces := #[]
  cf := some (fileOf pool0 8 #[] #[{ accessFlags := 1, nameIndex := 5, descriptorIndex := 6, attributes := #[] }] 33 0 #[] #[])
  fields := #[]
  methods := #[k0m0]
  instanceTypes := #[]
  staticTypes := #[]
  resolved := Array.replicate 124 none
  statics := none }

def pool1 : Array CpInfo := pool [(2, .class_ 4), (0, .nameAndType 5 6), (0, u "java/lang/Object"), (0, u "<init>"), (0, u "()V"), (0, .integer 2147483647), (0, .class_ 9), (0, u "java/util/ArrayList"), (0, .methodref 8 3), (0, .class_ 12), (0, u "com/example/tiphys/tiphys/Release"), (0, .methodref 11 14), (0, .nameAndType 5 15), (0, u "(IJJJJ)V"), (0, .methodref 8 17), (0, .nameAndType 18 19), (0, u "add"), (0, u "(Ljava/lang/Object;)Z"), (0, .class_ 21), (0, u "com/example/tiphys/tiphys/Run"), (0, .methodref 20 23), (0, .nameAndType 5 24), (0, u "(Ljava/util/List;IJJ)V"), (0, .methodref 8 26), (0, .nameAndType 27 28), (0, u "size"), (0, u "()I"), (0, .methodref 20 30), (0, .nameAndType 31 32), (0, u "measured"), (0, u "()Ljava/util/List;"), (0, .interfaceMethodref 34 26), (0, .class_ 35), (0, u "java/util/List"), (0, .methodref 8 37), (0, .nameAndType 38 39), (0, u "get"), (0, u "(I)Ljava/lang/Object;"), (0, .methodref 20 41), (0, .nameAndType 42 43), (0, u "isWarmup"), (0, u "(Lcom/example/tiphys/tiphys/Release;)Z"), (0, .class_ 45), (0, u "com/example/tiphys/tiphys/RunIsWarmupPinLaw"), (2, u "law"), (0, u "(IIIJJ)Z")] 3

def k1m0 : Method := { name := "<init>", desc := "()V", sig := { parameters := [], returnType := none }, accessFlags := 1, code := none }
def k1c1 : Code := { maxStack := 12, maxLocals := 16, code := code, exceptionTable := #[], attributes := #[] }
def k1m1 : Method := { name := "law", desc := "(IIIJJ)Z", sig := { parameters := [.int, .int, .int, .long, .long], returnType := some .boolean }, accessFlags := 9, code := some k1c1 }
/-- com/example/tiphys/tiphys/RunIsWarmupPinLaw -/
def k1 : Class := { plain "com/example/tiphys/tiphys/RunIsWarmupPinLaw" (some 0) with
  accessFlags := 49
  interfaces := #[]
  cf := some (fileOf pool1 44 #[] #[{ accessFlags := 1, nameIndex := 5, descriptorIndex := 6, attributes := #[] }, { accessFlags := 9, nameIndex := 48, descriptorIndex := 49, attributes := #[] }] 49 2 #[] #[])
  fields := #[]
  methods := #[k1m0, k1m1]
  instanceTypes := #[]
  staticTypes := #[]
  resolved := Array.replicate 53 none
  statics := none }

def pool2 : Array CpInfo := pool [(8, .class_ 10), (1, u "java/lang/Iterable"), (24, .class_ 36), (0, u "java/lang/Object")] 25

/-- java/lang/Iterable -/
def k2 : Class := { plain "java/lang/Iterable" (some 0) with
  accessFlags := 1537
  interfaces := #[]
  cf := some (fileOf pool2 8 #[] #[] 1537 35 #[] #[])
  fields := #[]
  methods := #[]
  instanceTypes := #[]
  staticTypes := #[]
  resolved := Array.replicate 62 none
  statics := none }

def pool3 : Array CpInfo := pool [(10, .class_ 12), (1, u "java/util/Collection"), (47, .class_ 61), (0, u "java/lang/Object"), (0, .class_ 63), (0, u "java/lang/Iterable")] 51

/-- java/util/Collection -/
def k3 : Class := { plain "java/util/Collection" (some 0) with
  accessFlags := 1537
  interfaces := #[2]
  cf := some (fileOf pool3 10 #[] #[] 1537 60 #[62] #[])
  fields := #[]
  methods := #[]
  instanceTypes := #[]
  staticTypes := #[]
  resolved := Array.replicate 115 none
  statics := none }

def pool4 : Array CpInfo := pool [(1, .methodref 2 3), (0, .class_ 4), (0, .nameAndType 5 6), (0, u "java/lang/Object"), (0, u "<init>"), (0, u "()V"), (1, .class_ 10), (1, u "java/util/AbstractCollection"), (66, .class_ 78), (0, u "java/util/Collection")] 81

def k4c0 : Code := { maxStack := 1, maxLocals := 1, code := jdk_22_method_1_code, exceptionTable := #[], attributes := #[] }
def k4m0 : Method := { name := "<init>", desc := "()V", sig := { parameters := [], returnType := none }, accessFlags := 4, code := some k4c0 }
/-- java/util/AbstractCollection -/
def k4 : Class := { plain "java/util/AbstractCollection" (some 0) with
  accessFlags := 1057
  interfaces := #[3]
  cf := some (fileOf pool4 8 #[] #[{ accessFlags := 4, nameIndex := 5, descriptorIndex := 6, attributes := #[] }] 1057 2 #[77] #[])
  fields := #[]
  methods := #[k4m0]
  instanceTypes := #[]
  staticTypes := #[]
  resolved := Array.replicate 160 none
  statics := none }

def pool5 : Array CpInfo := pool [(8, .class_ 10), (1, u "java/util/SequencedCollection"), (15, .class_ 27), (0, u "java/lang/Object"), (0, .class_ 29), (0, u "java/util/Collection")] 27

/-- java/util/SequencedCollection -/
def k5 : Class := { plain "java/util/SequencedCollection" (some 0) with
  accessFlags := 1537
  interfaces := #[3]
  cf := some (fileOf pool5 8 #[] #[] 1537 26 #[28] #[])
  fields := #[]
  methods := #[]
  instanceTypes := #[]
  staticTypes := #[]
  resolved := Array.replicate 57 none
  statics := none }

def pool6 : Array CpInfo := pool [(8, .class_ 10), (1, u "java/util/List"), (68, u "size"), (0, u "()I"), (22, .class_ 104), (0, u "java/lang/Object"), (15, .class_ 121), (0, u "java/util/SequencedCollection"), (60, u "subList"), (0, u "(II)Ljava/util/List;")] 67

def k6m0 : Method := { name := "size", desc := "()I", sig := { parameters := [], returnType := some .int }, accessFlags := 1025, code := none }
def k6m1 : Method := { name := "subList", desc := "(II)Ljava/util/List;", sig := { parameters := [.int, .int], returnType := some (.object "java/util/List") }, accessFlags := 1025, code := none }
/-- java/util/List -/
def k6 : Class := { plain "java/util/List" (some 0) with
  accessFlags := 1537
  interfaces := #[5]
  cf := some (fileOf pool6 8 #[] #[{ accessFlags := 1025, nameIndex := 79, descriptorIndex := 80, attributes := #[] }, { accessFlags := 1025, nameIndex := 182, descriptorIndex := 183, attributes := #[] }] 1537 103 #[120] #[])
  fields := #[]
  methods := #[k6m0, k6m1]
  instanceTypes := #[]
  staticTypes := #[]
  resolved := Array.replicate 251 none
  statics := none }

def pool7 : Array CpInfo := pool [(1, .methodref 2 3), (0, .class_ 4), (0, .nameAndType 5 6), (0, u "java/util/AbstractCollection"), (0, u "<init>"), (0, u "()V"), (0, .fieldref 8 9), (0, .class_ 10), (0, .nameAndType 11 12), (0, u "java/util/AbstractList"), (0, u "modCount"), (0, u "I"), (64, .class_ 78), (0, u "java/util/AbstractList$Itr"), (3, .class_ 83), (0, u "java/util/AbstractList$ListItr"), (5, u "subListRangeCheck"), (0, u "(III)V"), (2, .class_ 94), (0, u "java/util/AbstractList$RandomAccessSubList"), (3, .class_ 99), (0, u "java/util/AbstractList$SubList"), (33, .class_ 134), (0, u "java/util/List"), (73, .class_ 209), (0, u "java/util/AbstractList$SubList$1"), (0, .class_ 211), (0, u "java/util/AbstractList$RandomAccessSpliterator")] 6

def k7c0 : Code := { maxStack := 2, maxLocals := 1, code := jdk_39_method_1_code, exceptionTable := #[], attributes := #[] }
def k7m0 : Method := { name := "<init>", desc := "()V", sig := { parameters := [], returnType := none }, accessFlags := 4, code := some k7c0 }
def k7c1 : Code := { maxStack := 4, maxLocals := 3, code := jdk_39_method_15_code, exceptionTable := #[], attributes := #[] }
def k7m1 : Method := { name := "subListRangeCheck", desc := "(III)V", sig := { parameters := [.int, .int, .int], returnType := none }, accessFlags := 8, code := some k7c1 }
/-- java/util/AbstractList -/
def k7 : Class := { plain "java/util/AbstractList" (some 4) with
  accessFlags := 1057
  interfaces := #[6]
  cf := some (fileOf pool7 8 #[.nestMembers #[93, 98, 208, 210, 82, 77]] #[{ accessFlags := 4, nameIndex := 5, descriptorIndex := 6, attributes := #[] }, { accessFlags := 8, nameIndex := 89, descriptorIndex := 90, attributes := #[] }] 1057 2 #[133] #[{ accessFlags := 132, nameIndex := 11, descriptorIndex := 12, attributes := #[] }])
  fields := #[{ name := "modCount", type := .int, accessFlags := 132, slot := 0, constantValue := 0 }]
  methods := #[k7m0, k7m1]
  instanceTypes := #[.int]
  staticTypes := #[]
  resolved := Array.replicate 218 none
  statics := none }

def pool8 : Array CpInfo := pool [(1, .class_ 2), (0, u "java/util/RandomAccess"), (0, .class_ 4), (0, u "java/lang/Object")] 2

/-- java/util/RandomAccess -/
def k8 : Class := { plain "java/util/RandomAccess" (some 0) with
  accessFlags := 1537
  interfaces := #[]
  cf := some (fileOf pool8 1 #[] #[] 1537 3 #[] #[])
  fields := #[]
  methods := #[]
  instanceTypes := #[]
  staticTypes := #[]
  resolved := Array.replicate 7 none
  statics := none }

def pool9 : Array CpInfo := pool [(1, .class_ 2), (0, u "java/lang/Cloneable"), (0, .class_ 4), (0, u "java/lang/Object")] 2

/-- java/lang/Cloneable -/
def k9 : Class := { plain "java/lang/Cloneable" (some 0) with
  accessFlags := 1537
  interfaces := #[]
  cf := some (fileOf pool9 1 #[] #[] 1537 3 #[] #[])
  fields := #[]
  methods := #[]
  instanceTypes := #[]
  staticTypes := #[]
  resolved := Array.replicate 7 none
  statics := none }

def pool10 : Array CpInfo := pool [(1, .class_ 2), (0, u "java/io/Serializable"), (0, .class_ 4), (0, u "java/lang/Object")] 2

/-- java/io/Serializable -/
def k10 : Class := { plain "java/io/Serializable" (some 0) with
  accessFlags := 1537
  interfaces := #[]
  cf := some (fileOf pool10 1 #[] #[] 1537 3 #[] #[])
  fields := #[]
  methods := #[]
  instanceTypes := #[]
  staticTypes := #[]
  resolved := Array.replicate 7 none
  statics := none }

def pool11 : Array CpInfo := pool [(1, .methodref 2 3), (0, .class_ 4), (0, .nameAndType 5 6), (0, u "java/util/AbstractList"), (0, u "<init>"), (0, u "()V"), (0, .class_ 8), (0, u "java/lang/Object"), (0, .fieldref 10 11), (0, .class_ 12), (0, .nameAndType 13 14), (0, u "java/util/ArrayList"), (0, u "elementData"), (0, u "[Ljava/lang/Object;"), (2, u "EMPTY_ELEMENTDATA"), (21, .fieldref 10 40), (0, .nameAndType 41 14), (0, u "DEFAULTCAPACITY_EMPTY_ELEMENTDATA"), (5, u "()[Ljava/lang/Object;"), (0, .fieldref 10 49), (0, .nameAndType 50 51), (0, u "size"), (0, u "I"), (11, .fieldref 10 64), (0, .nameAndType 65 51), (0, u "modCount"), (3, .methodref 10 70), (0, .nameAndType 71 72), (0, u "grow"), (0, u "(I)[Ljava/lang/Object;"), (6, .methodref 80 81), (0, .class_ 82), (0, .nameAndType 83 84), (0, u "java/lang/Math"), (0, u "max"), (0, u "(II)I"), (11, u "(Ljava/lang/Object;)Z"), (21, .methodref 119 120), (0, .class_ 121), (0, .nameAndType 122 84), (0, u "java/util/Objects"), (0, u "checkIndex"), (0, .methodref 10 124), (0, .nameAndType 13 125), (0, u "(I)Ljava/lang/Object;"), (3, .methodref 10 130), (0, .nameAndType 71 47), (0, .methodref 10 132), (0, .nameAndType 133 134), (0, u "add"), (0, u "(Ljava/lang/Object;[Ljava/lang/Object;I)V"), (13, .class_ 149), (0, u "java/util/List"), (36, u "()I"), (75, .class_ 263), (0, u "java/util/ArrayList$ListItr"), (3, .class_ 268), (0, u "java/util/ArrayList$Itr"), (3, .methodref 10 273), (0, .nameAndType 274 275), (0, u "subListRangeCheck"), (0, u "(III)V"), (0, .class_ 277), (0, u "java/util/ArrayList$SubList"), (0, .methodref 276 279), (0, .nameAndType 5 280), (0, u "(Ljava/util/ArrayList;II)V"), (9, .class_ 291), (0, u "java/util/ArrayList$ArrayListSpliterator"), (37, .class_ 330), (0, u "java/util/RandomAccess"), (0, .class_ 332), (0, u "java/lang/Cloneable"), (0, .class_ 334), (0, u "java/io/Serializable"), (0, u "serialVersionUID"), (0, u "J"), (3, u "DEFAULT_CAPACITY"), (40, u "get"), (77, u "subList"), (0, u "(II)Ljava/util/List;"), (39, .class_ 501), (0, u "java/util/ArrayList$SubList$2"), (0, .class_ 503), (0, u "java/util/ArrayList$SubList$1")] 5

def k11c0 : Code := { maxStack := 2, maxLocals := 1, code := jdk_38_method_2_code, exceptionTable := #[], attributes := #[] }
def k11m0 : Method := { name := "<init>", desc := "()V", sig := { parameters := [], returnType := none }, accessFlags := 1, code := some k11c0 }
def k11c1 : Code := { maxStack := 4, maxLocals := 4, code := jdk_38_method_6_code, exceptionTable := #[], attributes := #[] }
def k11m1 : Method := { name := "grow", desc := "(I)[Ljava/lang/Object;", sig := { parameters := [.int], returnType := some (.array (.object "java/lang/Object")) }, accessFlags := 2, code := some k11c1 }
def k11c2 : Code := { maxStack := 3, maxLocals := 1, code := jdk_38_method_7_code, exceptionTable := #[], attributes := #[] }
def k11m2 : Method := { name := "grow", desc := "()[Ljava/lang/Object;", sig := { parameters := [], returnType := some (.array (.object "java/lang/Object")) }, accessFlags := 2, code := some k11c2 }
def k11c3 : Code := { maxStack := 1, maxLocals := 1, code := jdk_38_method_8_code, exceptionTable := #[], attributes := #[] }
def k11m3 : Method := { name := "size", desc := "()I", sig := { parameters := [], returnType := some .int }, accessFlags := 1, code := some k11c3 }
def k11c4 : Code := { maxStack := 2, maxLocals := 2, code := jdk_38_method_18_code, exceptionTable := #[], attributes := #[] }
def k11m4 : Method := { name := "elementData", desc := "(I)Ljava/lang/Object;", sig := { parameters := [.int], returnType := some (.object "java/lang/Object") }, accessFlags := 0, code := some k11c4 }
def k11c5 : Code := { maxStack := 2, maxLocals := 2, code := jdk_38_method_20_code, exceptionTable := #[], attributes := #[] }
def k11m5 : Method := { name := "get", desc := "(I)Ljava/lang/Object;", sig := { parameters := [.int], returnType := some (.object "java/lang/Object") }, accessFlags := 1, code := some k11c5 }
def k11c6 : Code := { maxStack := 3, maxLocals := 4, code := jdk_38_method_24_code, exceptionTable := #[], attributes := #[] }
def k11m6 : Method := { name := "add", desc := "(Ljava/lang/Object;[Ljava/lang/Object;I)V", sig := { parameters := [(.object "java/lang/Object"), (.array (.object "java/lang/Object")), .int], returnType := none }, accessFlags := 2, code := some k11c6 }
def k11c7 : Code := { maxStack := 4, maxLocals := 2, code := jdk_38_method_25_code, exceptionTable := #[], attributes := #[] }
def k11m7 : Method := { name := "add", desc := "(Ljava/lang/Object;)Z", sig := { parameters := [(.object "java/lang/Object")], returnType := some .boolean }, accessFlags := 1, code := some k11c7 }
def k11c8 : Code := { maxStack := 5, maxLocals := 3, code := jdk_38_method_56_code, exceptionTable := #[], attributes := #[] }
def k11m8 : Method := { name := "subList", desc := "(II)Ljava/util/List;", sig := { parameters := [.int, .int], returnType := some (.object "java/util/List") }, accessFlags := 1, code := some k11c8 }
/-- java/util/ArrayList -/
def k11 : Class := { plain "java/util/ArrayList" (some 7) with
  accessFlags := 33
  interfaces := #[6, 8, 9, 10]
  cf := some (fileOf pool11 10 #[.nestMembers #[290, 276, 500, 502, 262, 267]] #[{ accessFlags := 1, nameIndex := 5, descriptorIndex := 6, attributes := #[] }, { accessFlags := 2, nameIndex := 71, descriptorIndex := 72, attributes := #[] }, { accessFlags := 2, nameIndex := 71, descriptorIndex := 47, attributes := #[] }, { accessFlags := 1, nameIndex := 50, descriptorIndex := 186, attributes := #[] }, { accessFlags := 0, nameIndex := 13, descriptorIndex := 125, attributes := #[] }, { accessFlags := 1, nameIndex := 381, descriptorIndex := 125, attributes := #[] }, { accessFlags := 2, nameIndex := 133, descriptorIndex := 134, attributes := #[] }, { accessFlags := 1, nameIndex := 133, descriptorIndex := 96, attributes := #[] }, { accessFlags := 1, nameIndex := 459, descriptorIndex := 460, attributes := #[] }] 33 2 #[148, 329, 331, 333] #[{ accessFlags := 26, nameIndex := 335, descriptorIndex := 336, attributes := #[] }, { accessFlags := 26, nameIndex := 340, descriptorIndex := 51, attributes := #[] }, { accessFlags := 26, nameIndex := 17, descriptorIndex := 14, attributes := #[] }, { accessFlags := 26, nameIndex := 41, descriptorIndex := 14, attributes := #[] }, { accessFlags := 128, nameIndex := 13, descriptorIndex := 14, attributes := #[] }, { accessFlags := 2, nameIndex := 50, descriptorIndex := 51, attributes := #[] }])
  fields := #[{ name := "serialVersionUID", type := .long, accessFlags := 26, slot := 0, constantValue := 0 }, { name := "DEFAULT_CAPACITY", type := .int, accessFlags := 26, slot := 1, constantValue := 0 }, { name := "EMPTY_ELEMENTDATA", type := (.array (.object "java/lang/Object")), accessFlags := 26, slot := 2, constantValue := 0 }, { name := "DEFAULTCAPACITY_EMPTY_ELEMENTDATA", type := (.array (.object "java/lang/Object")), accessFlags := 26, slot := 3, constantValue := 0 }, { name := "elementData", type := (.array (.object "java/lang/Object")), accessFlags := 128, slot := 1, constantValue := 0 }, { name := "size", type := .int, accessFlags := 2, slot := 2, constantValue := 0 }]
  methods := #[k11m0, k11m1, k11m2, k11m3, k11m4, k11m5, k11m6, k11m7, k11m8]
  instanceTypes := #[.int, (.array (.object "java/lang/Object")), .int]
  staticTypes := #[.long, .int, (.array (.object "java/lang/Object")), (.array (.object "java/lang/Object"))]
  resolved := Array.replicate 509 none
  statics := some 0 }

def pool12 : Array CpInfo := pool [(1, .methodref 2 3), (0, .class_ 4), (0, .nameAndType 5 6), (0, u "java/lang/Object"), (0, u "<init>"), (0, u "()V"), (0, .class_ 8), (0, u "java/lang/Record")] 13

def k12c0 : Code := { maxStack := 1, maxLocals := 1, code := jdk_30_method_1_code, exceptionTable := #[], attributes := #[] }
def k12m0 : Method := { name := "<init>", desc := "()V", sig := { parameters := [], returnType := none }, accessFlags := 4, code := some k12c0 }
/-- java/lang/Record -/
def k12 : Class := { plain "java/lang/Record" (some 0) with
  accessFlags := 1057
  interfaces := #[]
  cf := some (fileOf pool12 7 #[] #[{ accessFlags := 4, nameIndex := 5, descriptorIndex := 6, attributes := #[] }] 1057 2 #[] #[])
  fields := #[]
  methods := #[k12m0]
  instanceTypes := #[]
  staticTypes := #[]
  resolved := Array.replicate 22 none
  statics := none }

def pool13 : Array CpInfo := pool [(1, .class_ 2), (0, u "com/example/tiphys/tiphys/Timed"), (0, .class_ 4), (0, u "java/lang/Object")] 4

/-- com/example/tiphys/tiphys/Timed -/
def k13 : Class := { plain "com/example/tiphys/tiphys/Timed" (some 0) with
  accessFlags := 1537
  interfaces := #[]
  cf := some (fileOf pool13 1 #[] #[] 1537 3 #[] #[])
  fields := #[]
  methods := #[]
  instanceTypes := #[]
  staticTypes := #[]
  resolved := Array.replicate 9 none
  statics := none }

def pool14 : Array CpInfo := pool [(1, .methodref 2 3), (0, .class_ 4), (0, .nameAndType 5 6), (0, u "java/lang/Record"), (0, u "<init>"), (0, u "()V"), (0, .fieldref 8 9), (0, .class_ 10), (0, .nameAndType 11 12), (0, u "com/example/tiphys/tiphys/Release"), (0, u "index"), (0, u "I"), (0, .fieldref 8 14), (0, .nameAndType 15 16), (0, u "idealNs"), (0, u "J"), (0, .fieldref 8 18), (0, .nameAndType 19 16), (0, u "startNs"), (0, .fieldref 8 21), (0, .nameAndType 22 16), (0, u "endNs"), (0, .fieldref 8 24), (0, .nameAndType 25 16), (0, u "allocatedBytes"), (1, .class_ 29), (1, u "com/example/tiphys/tiphys/Release$1"), (7, u "()I"), (27, .class_ 66), (0, u "com/example/tiphys/tiphys/Timed"), (0, u "NOT_COUNTED"), (3, u "(IJJJJ)V")] 35

def k14c0 : Code := { maxStack := 3, maxLocals := 10, code := prog_44_method_1_code, exceptionTable := #[], attributes := #[] }
def k14m0 : Method := { name := "<init>", desc := "(IJJJJ)V", sig := { parameters := [.int, .long, .long, .long, .long], returnType := none }, accessFlags := 1, code := some k14c0 }
def k14c1 : Code := { maxStack := 1, maxLocals := 1, code := prog_44_method_10_code, exceptionTable := #[], attributes := #[] }
def k14m1 : Method := { name := "index", desc := "()I", sig := { parameters := [], returnType := some .int }, accessFlags := 1, code := some k14c1 }
/-- com/example/tiphys/tiphys/Release -/
def k14 : Class := { plain "com/example/tiphys/tiphys/Release" (some 12) with
  accessFlags := 49
  interfaces := #[13]
  cf := some (fileOf pool14 8 #[.nestMembers #[27]] #[{ accessFlags := 1, nameIndex := 5, descriptorIndex := 71, attributes := #[] }, { accessFlags := 1, nameIndex := 11, descriptorIndex := 37, attributes := #[] }] 49 2 #[65] #[{ accessFlags := 18, nameIndex := 11, descriptorIndex := 12, attributes := #[] }, { accessFlags := 18, nameIndex := 15, descriptorIndex := 16, attributes := #[] }, { accessFlags := 18, nameIndex := 19, descriptorIndex := 16, attributes := #[] }, { accessFlags := 18, nameIndex := 22, descriptorIndex := 16, attributes := #[] }, { accessFlags := 18, nameIndex := 25, descriptorIndex := 16, attributes := #[] }, { accessFlags := 25, nameIndex := 67, descriptorIndex := 16, attributes := #[] }])
  fields := #[{ name := "index", type := .int, accessFlags := 18, slot := 0, constantValue := 0 }, { name := "idealNs", type := .long, accessFlags := 18, slot := 1, constantValue := 0 }, { name := "startNs", type := .long, accessFlags := 18, slot := 2, constantValue := 0 }, { name := "endNs", type := .long, accessFlags := 18, slot := 3, constantValue := 0 }, { name := "allocatedBytes", type := .long, accessFlags := 18, slot := 4, constantValue := 0 }, { name := "NOT_COUNTED", type := .long, accessFlags := 25, slot := 0, constantValue := 0 }]
  methods := #[k14m0, k14m1]
  instanceTypes := #[.int, .long, .long, .long, .long]
  staticTypes := #[.long]
  resolved := Array.replicate 107 none
  statics := none }

def pool15 : Array CpInfo := pool [(1, .class_ 2), (0, u "java/lang/Math"), (1, .class_ 6), (1, u "java/lang/Object"), (0, u "<init>"), (0, u "()V"), (89, .class_ 100), (1, u "java/lang/Math$RandomNumberGeneratorHolder"), (71, u "negativeZeroFloatBits"), (0, u "J"), (2, u "negativeZeroDoubleBits"), (21, u "max"), (46, u "$assertionsDisabled"), (0, u "Z"), (88, u "(II)I"), (2, u "twoToTheDoubleScaleDown"), (0, u "D"), (4, u "twoToTheDoubleScaleUp"), (9, u "E"), (3, u "PI"), (2, u "TAU"), (2, u "DEGREES_TO_RADIANS"), (0, u "RADIANS_TO_DEGREES")] 94

def k15m0 : Method := { name := "<init>", desc := "()V", sig := { parameters := [], returnType := none }, accessFlags := 2, code := none }
def k15c1 : Code := { maxStack := 2, maxLocals := 2, code := jdk_29_method_65_code, exceptionTable := #[], attributes := #[] }
def k15m1 : Method := { name := "max", desc := "(II)I", sig := { parameters := [.int, .int], returnType := some .int }, accessFlags := 9, code := some k15c1 }
/-- java/lang/Math -/
def k15 : Class := { plain "java/lang/Math" (some 0) with
  accessFlags := 49
  interfaces := #[]
  cf := some (fileOf pool15 1 #[.nestMembers #[98]] #[{ accessFlags := 2, nameIndex := 7, descriptorIndex := 8, attributes := #[] }, { accessFlags := 9, nameIndex := 198, descriptorIndex := 335, attributes := #[] }] 49 4 #[] #[{ accessFlags := 25, nameIndex := 354, descriptorIndex := 339, attributes := #[] }, { accessFlags := 25, nameIndex := 358, descriptorIndex := 339, attributes := #[] }, { accessFlags := 25, nameIndex := 361, descriptorIndex := 339, attributes := #[] }, { accessFlags := 26, nameIndex := 364, descriptorIndex := 339, attributes := #[] }, { accessFlags := 26, nameIndex := 365, descriptorIndex := 339, attributes := #[] }, { accessFlags := 26, nameIndex := 172, descriptorIndex := 173, attributes := #[] }, { accessFlags := 26, nameIndex := 176, descriptorIndex := 173, attributes := #[] }, { accessFlags := 8, nameIndex := 344, descriptorIndex := 339, attributes := #[] }, { accessFlags := 8, nameIndex := 338, descriptorIndex := 339, attributes := #[] }, { accessFlags := 4120, nameIndex := 245, descriptorIndex := 246, attributes := #[] }])
  fields := #[{ name := "E", type := .double, accessFlags := 25, slot := 0, constantValue := 0 }, { name := "PI", type := .double, accessFlags := 25, slot := 1, constantValue := 0 }, { name := "TAU", type := .double, accessFlags := 25, slot := 2, constantValue := 0 }, { name := "DEGREES_TO_RADIANS", type := .double, accessFlags := 26, slot := 3, constantValue := 0 }, { name := "RADIANS_TO_DEGREES", type := .double, accessFlags := 26, slot := 4, constantValue := 0 }, { name := "negativeZeroFloatBits", type := .long, accessFlags := 26, slot := 5, constantValue := 0 }, { name := "negativeZeroDoubleBits", type := .long, accessFlags := 26, slot := 6, constantValue := 0 }, { name := "twoToTheDoubleScaleUp", type := .double, accessFlags := 8, slot := 7, constantValue := 0 }, { name := "twoToTheDoubleScaleDown", type := .double, accessFlags := 8, slot := 8, constantValue := 0 }, { name := "$assertionsDisabled", type := .boolean, accessFlags := 4120, slot := 9, constantValue := 0 }]
  methods := #[k15m0, k15m1]
  instanceTypes := #[]
  staticTypes := #[.double, .double, .double, .double, .double, .long, .long, .double, .double, .boolean]
  resolved := Array.replicate 460 none
  statics := none }

def pool16 : Array CpInfo := pool [(1, .methodref 2 3), (0, .class_ 4), (0, .nameAndType 5 6), (0, u "java/lang/Record"), (0, u "<init>"), (0, u "()V"), (0, .fieldref 8 9), (0, .class_ 10), (0, .nameAndType 11 12), (0, u "com/example/tiphys/tiphys/Run"), (0, u "releases"), (0, u "Ljava/util/List;"), (0, .fieldref 8 14), (0, .nameAndType 15 16), (0, u "warmups"), (0, u "I"), (0, .fieldref 8 18), (0, .nameAndType 19 20), (0, u "deadlineNs"), (0, u "J"), (0, .fieldref 8 22), (0, .nameAndType 23 20), (0, u "garbageCollections"), (0, .interfaceMethodref 25 26), (0, .class_ 27), (0, .nameAndType 28 29), (0, u "java/util/List"), (0, u "size"), (0, u "()I"), (0, .interfaceMethodref 25 31), (0, .nameAndType 32 33), (0, u "subList"), (0, u "(II)Ljava/util/List;"), (0, .methodref 35 36), (0, .class_ 37), (0, .nameAndType 38 29), (0, u "com/example/tiphys/tiphys/Release"), (0, u "index"), (2, u "measured"), (0, u "()Ljava/util/List;"), (82, u "(Ljava/util/List;IJJ)V"), (5, u "isWarmup"), (0, u "(Lcom/example/tiphys/tiphys/Release;)Z")] 47

def k16c0 : Code := { maxStack := 3, maxLocals := 7, code := prog_49_method_1_code, exceptionTable := #[], attributes := #[] }
def k16m0 : Method := { name := "<init>", desc := "(Ljava/util/List;IJJ)V", sig := { parameters := [(.object "java/util/List"), .int, .long, .long], returnType := none }, accessFlags := 0, code := some k16c0 }
def k16c1 : Code := { maxStack := 3, maxLocals := 1, code := prog_49_method_2_code, exceptionTable := #[], attributes := #[] }
def k16m1 : Method := { name := "measured", desc := "()Ljava/util/List;", sig := { parameters := [], returnType := some (.object "java/util/List") }, accessFlags := 0, code := some k16c1 }
def k16c2 : Code := { maxStack := 2, maxLocals := 2, code := prog_49_method_3_code, exceptionTable := #[], attributes := #[] }
def k16m2 : Method := { name := "isWarmup", desc := "(Lcom/example/tiphys/tiphys/Release;)Z", sig := { parameters := [(.object "com/example/tiphys/tiphys/Release")], returnType := some .boolean }, accessFlags := 0, code := some k16c2 }
/-- com/example/tiphys/tiphys/Run -/
def k16 : Class := { plain "com/example/tiphys/tiphys/Run" (some 12) with
  accessFlags := 48
  interfaces := #[]
  cf := some (fileOf pool16 8 #[] #[{ accessFlags := 0, nameIndex := 5, descriptorIndex := 125, attributes := #[] }, { accessFlags := 0, nameIndex := 41, descriptorIndex := 42, attributes := #[] }, { accessFlags := 0, nameIndex := 131, descriptorIndex := 132, attributes := #[] }] 48 2 #[] #[{ accessFlags := 18, nameIndex := 11, descriptorIndex := 12, attributes := #[] }, { accessFlags := 18, nameIndex := 15, descriptorIndex := 16, attributes := #[] }, { accessFlags := 18, nameIndex := 19, descriptorIndex := 20, attributes := #[] }, { accessFlags := 18, nameIndex := 23, descriptorIndex := 20, attributes := #[] }])
  fields := #[{ name := "releases", type := (.object "java/util/List"), accessFlags := 18, slot := 0, constantValue := 0 }, { name := "warmups", type := .int, accessFlags := 18, slot := 1, constantValue := 0 }, { name := "deadlineNs", type := .long, accessFlags := 18, slot := 2, constantValue := 0 }, { name := "garbageCollections", type := .long, accessFlags := 18, slot := 3, constantValue := 0 }]
  methods := #[k16m0, k16m1, k16m2]
  instanceTypes := #[(.object "java/util/List"), .int, .long, .long]
  staticTypes := #[]
  resolved := Array.replicate 180 none
  statics := none }

def pool17 : Array CpInfo := pool [(1, .methodref 2 3), (0, .class_ 4), (0, .nameAndType 5 6), (0, u "java/util/AbstractList"), (0, u "<init>"), (0, u "()V"), (0, .fieldref 8 9), (0, .class_ 10), (0, .nameAndType 11 12), (0, u "java/util/ArrayList$SubList"), (0, u "root"), (0, u "Ljava/util/ArrayList;"), (0, .fieldref 8 14), (0, .nameAndType 15 16), (0, u "parent"), (0, u "Ljava/util/ArrayList$SubList;"), (0, .fieldref 8 18), (0, .nameAndType 19 20), (0, u "offset"), (0, u "I"), (0, .fieldref 8 22), (0, .nameAndType 23 20), (0, u "size"), (0, .fieldref 25 26), (0, .class_ 27), (0, .nameAndType 28 20), (0, u "java/util/ArrayList"), (0, u "modCount"), (0, .fieldref 8 26), (6, .methodref 8 37), (0, .nameAndType 38 6), (0, u "checkForComodification"), (33, u "()I"), (109, .class_ 183), (0, u "java/util/RandomAccess"), (3, u "(Ljava/util/ArrayList;II)V")] 82

def k17c0 : Code := { maxStack := 3, maxLocals := 4, code := jdk_130_method_1_code, exceptionTable := #[], attributes := #[] }
def k17m0 : Method := { name := "<init>", desc := "(Ljava/util/ArrayList;II)V", sig := { parameters := [(.object "java/util/ArrayList"), .int, .int], returnType := none }, accessFlags := 1, code := some k17c0 }
def k17c1 : Code := { maxStack := 1, maxLocals := 1, code := jdk_130_method_5_code, exceptionTable := #[], attributes := #[] }
def k17m1 : Method := { name := "size", desc := "()I", sig := { parameters := [], returnType := some .int }, accessFlags := 1, code := some k17c1 }
def k17c2 : Code := { maxStack := 2, maxLocals := 1, code := jdk_130_method_28_code, exceptionTable := #[], attributes := #[] }
def k17m2 : Method := { name := "checkForComodification", desc := "()V", sig := { parameters := [], returnType := none }, accessFlags := 2, code := some k17c2 }
/-- java/util/ArrayList$SubList -/
def k17 : Class := { plain "java/util/ArrayList$SubList" (some 7) with
  accessFlags := 32
  interfaces := #[8]
  cf := some (fileOf pool17 8 #[.nestHost 25] #[{ accessFlags := 1, nameIndex := 5, descriptorIndex := 187, attributes := #[] }, { accessFlags := 1, nameIndex := 23, descriptorIndex := 72, attributes := #[] }, { accessFlags := 2, nameIndex := 38, descriptorIndex := 6, attributes := #[] }] 32 2 #[182] #[{ accessFlags := 18, nameIndex := 11, descriptorIndex := 12, attributes := #[] }, { accessFlags := 18, nameIndex := 15, descriptorIndex := 16, attributes := #[] }, { accessFlags := 18, nameIndex := 19, descriptorIndex := 20, attributes := #[] }, { accessFlags := 2, nameIndex := 23, descriptorIndex := 20, attributes := #[] }])
  fields := #[{ name := "root", type := (.object "java/util/ArrayList"), accessFlags := 18, slot := 1, constantValue := 0 }, { name := "parent", type := (.object "java/util/ArrayList$SubList"), accessFlags := 18, slot := 2, constantValue := 0 }, { name := "offset", type := .int, accessFlags := 18, slot := 3, constantValue := 0 }, { name := "size", type := .int, accessFlags := 2, slot := 4, constantValue := 0 }]
  methods := #[k17m0, k17m1, k17m2]
  instanceTypes := #[.int, (.object "java/util/ArrayList"), (.object "java/util/ArrayList$SubList"), .int, .int]
  staticTypes := #[]
  resolved := Array.replicate 270 none
  statics := none }

def pool18 : Array CpInfo := pool [(2, .class_ 4), (1, u "java/lang/Object"), (0, u "<init>"), (0, u "()V"), (35, .class_ 44), (1, u "java/util/Objects"), (60, .methodref 106 107), (0, .class_ 108), (0, .nameAndType 109 110), (0, u "jdk/internal/util/Preconditions"), (0, u "checkIndex"), (0, u "(IILjava/util/function/BiFunction;)I"), (60, u "(II)I")] 12

def k18m0 : Method := { name := "<init>", desc := "()V", sig := { parameters := [], returnType := none }, accessFlags := 2, code := none }
def k18c1 : Code := { maxStack := 3, maxLocals := 2, code := jdk_31_method_17_code, exceptionTable := #[], attributes := #[] }
def k18m1 : Method := { name := "checkIndex", desc := "(II)I", sig := { parameters := [.int, .int], returnType := some .int }, accessFlags := 9, code := some k18c1 }
/-- java/util/Objects -/
def k18 : Class := { plain "java/util/Objects" (some 0) with
  accessFlags := 49
  interfaces := #[]
  cf := some (fileOf pool18 42 #[] #[{ accessFlags := 2, nameIndex := 5, descriptorIndex := 6, attributes := #[] }, { accessFlags := 9, nameIndex := 109, descriptorIndex := 171, attributes := #[] }] 49 2 #[] #[])
  fields := #[]
  methods := #[k18m0, k18m1]
  instanceTypes := #[]
  staticTypes := #[]
  resolved := Array.replicate 184 none
  statics := none }

def pool19 : Array CpInfo := pool [(2, .class_ 4), (1, u "java/lang/Object"), (0, u "<init>"), (0, u "()V"), (17, .class_ 26), (1, u "jdk/internal/util/Preconditions"), (6, u "checkIndex"), (21, .class_ 56), (0, u "jdk/internal/util/Preconditions$4"), (57, .class_ 115), (0, u "jdk/internal/util/Preconditions$1"), (7, u "SIOOBE_FORMATTER"), (0, u "Ljava/util/function/BiFunction;"), (0, .class_ 126), (0, u "jdk/internal/util/Preconditions$2"), (3, u "AIOOBE_FORMATTER"), (0, .class_ 132), (0, u "jdk/internal/util/Preconditions$3"), (3, u "IOOBE_FORMATTER"), (41, u "(IILjava/util/function/BiFunction;)I")] 15

def k19m0 : Method := { name := "<init>", desc := "()V", sig := { parameters := [], returnType := none }, accessFlags := 1, code := none }
def k19c1 : Code := { maxStack := 3, maxLocals := 3, code := jdk_41_method_11_code, exceptionTable := #[], attributes := #[] }
def k19m1 : Method := { name := "checkIndex", desc := "(IILjava/util/function/BiFunction;)I", sig := { parameters := [.int, .int, (.object "java/util/function/BiFunction")], returnType := some .int }, accessFlags := 9, code := some k19c1 }
/-- jdk/internal/util/Preconditions -/
def k19 : Class := { plain "jdk/internal/util/Preconditions" (some 0) with
  accessFlags := 33
  interfaces := #[]
  cf := some (fileOf pool19 24 #[.nestMembers #[55, 131, 125, 114]] #[{ accessFlags := 1, nameIndex := 5, descriptorIndex := 6, attributes := #[] }, { accessFlags := 9, nameIndex := 33, descriptorIndex := 178, attributes := #[] }] 33 2 #[] #[{ accessFlags := 25, nameIndex := 123, descriptorIndex := 124, attributes := #[] }, { accessFlags := 25, nameIndex := 130, descriptorIndex := 124, attributes := #[] }, { accessFlags := 25, nameIndex := 136, descriptorIndex := 124, attributes := #[] }])
  fields := #[{ name := "SIOOBE_FORMATTER", type := (.object "java/util/function/BiFunction"), accessFlags := 25, slot := 0, constantValue := 0 }, { name := "AIOOBE_FORMATTER", type := (.object "java/util/function/BiFunction"), accessFlags := 25, slot := 1, constantValue := 0 }, { name := "IOOBE_FORMATTER", type := (.object "java/util/function/BiFunction"), accessFlags := 25, slot := 2, constantValue := 0 }]
  methods := #[k19m0, k19m1]
  instanceTypes := #[]
  staticTypes := #[(.object "java/util/function/BiFunction"), (.object "java/util/function/BiFunction"), (.object "java/util/function/BiFunction")]
  resolved := Array.replicate 194 none
  statics := none }

/-- the primitive byte -/
def k20 : Class := { plain "byte" none with kind := .primitive 'B', accessFlags := 0x411 }
/-- [B -/
def k21 : Class := { plain "[B" (some 0) with kind := .array 20 .byte, interfaces := #[9, 10], accessFlags := 1041 }

/-- the primitive int -/
def k22 : Class := { plain "int" none with kind := .primitive 'I', accessFlags := 0x411 }
/-- [I -/
def k23 : Class := { plain "[I" (some 0) with kind := .array 22 .int, interfaces := #[9, 10], accessFlags := 1041 }

/-- [Ljava/lang/Object; -/
def k24 : Class := { plain "[Ljava/lang/Object;" (some 0) with kind := .array 0 (.object "java/lang/Object"), interfaces := #[9, 10], accessFlags := 1041 }

def heap : Heap := #[{ cls := 11, slots := #[.long 0, .int 0, .ref 1, .ref 2], vm := .statics 11 },
  { cls := 24, slots := #[], vm := .none },
  { cls := 24, slots := #[], vm := .none }]
def classes : Array Class := #[k0, k1, k2, k3, k4, k5, k6, k7, k8, k9, k10, k11, k12, k13, k14, k15, k16, k17, k18, k19, k20, k21, k22, k23, k24]
def interned : List (Array UInt16 × Addr) := []
def slotsUsed : Nat := 4
def theMethod : MethodId := ⟨1, 1⟩
def args0 : Array Value := #[.int 5, .int 7, .int 9, .long 1, .long 11]
def aboutOver (below : List Frame) : State where
  vm := { classes := classes, interned := interned.toArray }
  heap := heap
  slotsUsed := slotsUsed
  threads := #[{ frames := .invoking theMethod args0 :: below }]
def below0 : List Frame := [.native { method := ⟨0, 0⟩, args := #[] }]
def about1 : State := aboutOver below0
def p0 : Program := .bare "" "" ""
def e0 : Env := launch0.env 0 0 0
theorem w_frames : about1.frames = Frame.invoking theMethod args0 :: below0 := rfl
set_option maxRecDepth 65536 in
theorem w_args : argsFit about1.vm theMethod args0 = true := by decide +kernel
set_option maxRecDepth 65536 in
theorem w_heap : heapFits about1 = true := by decide +kernel
set_option maxRecDepth 65536 in
theorem w_runnable : about1.curStatus? = some .runnable := by decide +kernel
set_option maxRecDepth 65536 in
theorem w_alone : about1.alone = true := by decide +kernel
set_option maxRecDepth 65536 in
theorem w_named : about1.methodNamed? x = some theMethod := by decide +kernel
set_option maxRecDepth 65536 in
theorem w_hears : about1.hears theMethod below0 = true := by decide +kernel
set_option maxRecDepth 65536 in
theorem w_ripe : about1.ripe theMethod args0 below0 = true := by decide +kernel
theorem w_running : about1.status = .running := rfl
set_option maxRecDepth 65536 in
theorem w_room : about1.hasRoom e0.platform room_1 = true :=
  launch0.hasRoom_least _ room_1 (by decide +kernel) (by decide +kernel) (by decide +kernel) (by decide +kernel) (by decide +kernel) (by decide +kernel)
theorem allAtoms_all (ts : List Jvm.Cond) (a : Array Jvm.Value) (st : Jvm.State) : (allAtoms ts).before a st = ts.all (fun c => c.before a st) := by
  induction ts with
  | nil => rfl
  | cons c t ih =>
    show (Jvm.Cond.and c (allAtoms t)).before a st = _
    rw [Jvm.Cond.before_and, ih, List.all_cons]
def words1 : List Jvm.Cond := Jvm.Cond.code x code maxLocals ret :: tables_1
/-- a 'code' word, met by the world's own term for the bytes: nothing is compared byte by byte -/
theorem code_word {y : MethodName} {bytes : ByteArray} {mx : Nat} {rt : Option FieldType} {a : Array Value} {s : State} {m : MethodId} {meth : Method} {c : Code} (h1 : s.methodNamed? y = some m) (h2 : s.vm.method? m = some meth) (h3 : meth.code = some c) (h4 : c.code = bytes)
    (h5 : (c.maxLocals == mx && c.exceptionTable.isEmpty && decide (c.maxStack ≤ mostOperands) && decide (meth.sig.returnType = rt) && !meth.locks && decide (parseMethodDescriptor y.desc = some meth.sig)) = true) : (Jvm.Cond.code y bytes mx rt).before a s = true := by
  simp only [Bool.and_eq_true, beq_iff_eq, Bool.not_eq_true', decide_eq_true_eq] at h5
  obtain ⟨⟨⟨⟨⟨g1, g2⟩, g3⟩, g4⟩, g5⟩, g6⟩ := h5
  simp [Cond.before, Cond.holds, Cond.value, h1, h2, h3, h4, g1, g2, g3, g4, g5, g6]
def isCode : Jvm.Cond → Bool
  | .code _ _ _ _ => true
  | _ => false
theorem all_split {L : List Jvm.Cond} {P : Jvm.Cond → Bool} (h1 : L.all (fun c => isCode c || P c) = true) (h2 : ∀ c ∈ L.filter isCode, P c = true) : L.all P = true := by
  refine List.all_eq_true.mpr fun c hc => ?_
  have h := List.all_eq_true.mp h1 c hc
  rcases Bool.eq_false_or_eq_true (isCode c) with hi | hi
  · exact h2 c (List.mem_filter.mpr ⟨hc, hi⟩)
  · simpa [hi] using h
set_option maxRecDepth 65536 in
theorem w_c0 : (Jvm.Cond.code x code maxLocals ret).before args0 about1 = true := code_word (m := ⟨1, 1⟩) (meth := k1m1) (c := k1c1) (by decide +kernel) rfl rfl rfl (by decide +kernel)
set_option maxRecDepth 65536 in
theorem w_c1 : (Jvm.Cond.code ({ cls := "java/util/ArrayList", name := "<init>", desc := "()V" } : Jvm.MethodName) jdk_38_method_2_code (1 : Nat) (Option.none : Option Jvm.ClassFile.FieldType)).before args0 about1 = true := code_word (m := ⟨11, 0⟩) (meth := k11m0) (c := k11c0) (by decide +kernel) rfl rfl rfl (by decide +kernel)
set_option maxRecDepth 65536 in
theorem w_c2 : (Jvm.Cond.code ({ cls := "java/util/AbstractList", name := "<init>", desc := "()V" } : Jvm.MethodName) jdk_39_method_1_code (1 : Nat) (Option.none : Option Jvm.ClassFile.FieldType)).before args0 about1 = true := code_word (m := ⟨7, 0⟩) (meth := k7m0) (c := k7c0) (by decide +kernel) rfl rfl rfl (by decide +kernel)
set_option maxRecDepth 65536 in
theorem w_c3 : (Jvm.Cond.code ({ cls := "java/util/AbstractCollection", name := "<init>", desc := "()V" } : Jvm.MethodName) jdk_22_method_1_code (1 : Nat) (Option.none : Option Jvm.ClassFile.FieldType)).before args0 about1 = true := code_word (m := ⟨4, 0⟩) (meth := k4m0) (c := k4c0) (by decide +kernel) rfl rfl rfl (by decide +kernel)
set_option maxRecDepth 65536 in
theorem w_c4 : (Jvm.Cond.code ({ cls := "java/lang/Object", name := "<init>", desc := "()V" } : Jvm.MethodName) object_method_1_code (1 : Nat) (Option.none : Option Jvm.ClassFile.FieldType)).before args0 about1 = true := code_word (m := ⟨0, 0⟩) (meth := k0m0) (c := k0c0) (by decide +kernel) rfl rfl rfl (by decide +kernel)
set_option maxRecDepth 65536 in
theorem w_c5 : (Jvm.Cond.code ({ cls := "com/example/tiphys/tiphys/Release", name := "<init>", desc := "(IJJJJ)V" } : Jvm.MethodName) prog_44_method_1_code (10 : Nat) (Option.none : Option Jvm.ClassFile.FieldType)).before args0 about1 = true := code_word (m := ⟨14, 0⟩) (meth := k14m0) (c := k14c0) (by decide +kernel) rfl rfl rfl (by decide +kernel)
set_option maxRecDepth 65536 in
theorem w_c6 : (Jvm.Cond.code ({ cls := "java/lang/Record", name := "<init>", desc := "()V" } : Jvm.MethodName) jdk_30_method_1_code (1 : Nat) (Option.none : Option Jvm.ClassFile.FieldType)).before args0 about1 = true := code_word (m := ⟨12, 0⟩) (meth := k12m0) (c := k12c0) (by decide +kernel) rfl rfl rfl (by decide +kernel)
set_option maxRecDepth 65536 in
theorem w_c7 : (Jvm.Cond.code ({ cls := "java/util/ArrayList", name := "add", desc := "(Ljava/lang/Object;)Z" } : Jvm.MethodName) jdk_38_method_25_code (2 : Nat) (Option.some Jvm.ClassFile.FieldType.boolean)).before args0 about1 = true := code_word (m := ⟨11, 7⟩) (meth := k11m7) (c := k11c7) (by decide +kernel) rfl rfl rfl (by decide +kernel)
set_option maxRecDepth 65536 in
theorem w_c8 : (Jvm.Cond.code ({ cls := "java/util/ArrayList", name := "add", desc := "(Ljava/lang/Object;[Ljava/lang/Object;I)V" } : Jvm.MethodName) jdk_38_method_24_code (4 : Nat) (Option.none : Option Jvm.ClassFile.FieldType)).before args0 about1 = true := code_word (m := ⟨11, 6⟩) (meth := k11m6) (c := k11c6) (by decide +kernel) rfl rfl rfl (by decide +kernel)
set_option maxRecDepth 65536 in
theorem w_c9 : (Jvm.Cond.code ({ cls := "java/util/ArrayList", name := "grow", desc := "()[Ljava/lang/Object;" } : Jvm.MethodName) jdk_38_method_7_code (1 : Nat) (Option.some (Jvm.ClassFile.FieldType.array (Jvm.ClassFile.FieldType.object "java/lang/Object")))).before args0 about1 = true := code_word (m := ⟨11, 2⟩) (meth := k11m2) (c := k11c2) (by decide +kernel) rfl rfl rfl (by decide +kernel)
set_option maxRecDepth 65536 in
theorem w_c10 : (Jvm.Cond.code ({ cls := "java/util/ArrayList", name := "grow", desc := "(I)[Ljava/lang/Object;" } : Jvm.MethodName) jdk_38_method_6_code (4 : Nat) (Option.some (Jvm.ClassFile.FieldType.array (Jvm.ClassFile.FieldType.object "java/lang/Object")))).before args0 about1 = true := code_word (m := ⟨11, 1⟩) (meth := k11m1) (c := k11c1) (by decide +kernel) rfl rfl rfl (by decide +kernel)
set_option maxRecDepth 65536 in
theorem w_c11 : (Jvm.Cond.code ({ cls := "java/lang/Math", name := "max", desc := "(II)I" } : Jvm.MethodName) jdk_29_method_65_code (2 : Nat) (Option.some Jvm.ClassFile.FieldType.int)).before args0 about1 = true := code_word (m := ⟨15, 1⟩) (meth := k15m1) (c := k15c1) (by decide +kernel) rfl rfl rfl (by decide +kernel)
set_option maxRecDepth 65536 in
theorem w_c12 : (Jvm.Cond.code ({ cls := "com/example/tiphys/tiphys/Run", name := "<init>", desc := "(Ljava/util/List;IJJ)V" } : Jvm.MethodName) prog_49_method_1_code (7 : Nat) (Option.none : Option Jvm.ClassFile.FieldType)).before args0 about1 = true := code_word (m := ⟨16, 0⟩) (meth := k16m0) (c := k16c0) (by decide +kernel) rfl rfl rfl (by decide +kernel)
set_option maxRecDepth 65536 in
theorem w_c13 : (Jvm.Cond.code ({ cls := "java/util/ArrayList", name := "size", desc := "()I" } : Jvm.MethodName) jdk_38_method_8_code (1 : Nat) (Option.some Jvm.ClassFile.FieldType.int)).before args0 about1 = true := code_word (m := ⟨11, 3⟩) (meth := k11m3) (c := k11c3) (by decide +kernel) rfl rfl rfl (by decide +kernel)
set_option maxRecDepth 65536 in
theorem w_c14 : (Jvm.Cond.code ({ cls := "com/example/tiphys/tiphys/Run", name := "measured", desc := "()Ljava/util/List;" } : Jvm.MethodName) prog_49_method_2_code (1 : Nat) (Option.some (Jvm.ClassFile.FieldType.object "java/util/List"))).before args0 about1 = true := code_word (m := ⟨16, 1⟩) (meth := k16m1) (c := k16c1) (by decide +kernel) rfl rfl rfl (by decide +kernel)
set_option maxRecDepth 65536 in
theorem w_c15 : (Jvm.Cond.code ({ cls := "java/util/ArrayList", name := "subList", desc := "(II)Ljava/util/List;" } : Jvm.MethodName) jdk_38_method_56_code (3 : Nat) (Option.some (Jvm.ClassFile.FieldType.object "java/util/List"))).before args0 about1 = true := code_word (m := ⟨11, 8⟩) (meth := k11m8) (c := k11c8) (by decide +kernel) rfl rfl rfl (by decide +kernel)
set_option maxRecDepth 65536 in
theorem w_c16 : (Jvm.Cond.code ({ cls := "java/util/AbstractList", name := "subListRangeCheck", desc := "(III)V" } : Jvm.MethodName) jdk_39_method_15_code (3 : Nat) (Option.none : Option Jvm.ClassFile.FieldType)).before args0 about1 = true := code_word (m := ⟨7, 1⟩) (meth := k7m1) (c := k7c1) (by decide +kernel) rfl rfl rfl (by decide +kernel)
set_option maxRecDepth 65536 in
theorem w_c17 : (Jvm.Cond.code ({ cls := "java/util/ArrayList$SubList", name := "<init>", desc := "(Ljava/util/ArrayList;II)V" } : Jvm.MethodName) jdk_130_method_1_code (4 : Nat) (Option.none : Option Jvm.ClassFile.FieldType)).before args0 about1 = true := code_word (m := ⟨17, 0⟩) (meth := k17m0) (c := k17c0) (by decide +kernel) rfl rfl rfl (by decide +kernel)
set_option maxRecDepth 65536 in
theorem w_c18 : (Jvm.Cond.code ({ cls := "java/util/ArrayList$SubList", name := "size", desc := "()I" } : Jvm.MethodName) jdk_130_method_5_code (1 : Nat) (Option.some Jvm.ClassFile.FieldType.int)).before args0 about1 = true := code_word (m := ⟨17, 1⟩) (meth := k17m1) (c := k17c1) (by decide +kernel) rfl rfl rfl (by decide +kernel)
set_option maxRecDepth 65536 in
theorem w_c19 : (Jvm.Cond.code ({ cls := "java/util/ArrayList$SubList", name := "checkForComodification", desc := "()V" } : Jvm.MethodName) jdk_130_method_28_code (1 : Nat) (Option.none : Option Jvm.ClassFile.FieldType)).before args0 about1 = true := code_word (m := ⟨17, 2⟩) (meth := k17m2) (c := k17c2) (by decide +kernel) rfl rfl rfl (by decide +kernel)
set_option maxRecDepth 65536 in
theorem w_c20 : (Jvm.Cond.code ({ cls := "java/util/ArrayList", name := "get", desc := "(I)Ljava/lang/Object;" } : Jvm.MethodName) jdk_38_method_20_code (2 : Nat) (Option.some (Jvm.ClassFile.FieldType.object "java/lang/Object"))).before args0 about1 = true := code_word (m := ⟨11, 5⟩) (meth := k11m5) (c := k11c5) (by decide +kernel) rfl rfl rfl (by decide +kernel)
set_option maxRecDepth 65536 in
theorem w_c21 : (Jvm.Cond.code ({ cls := "java/util/Objects", name := "checkIndex", desc := "(II)I" } : Jvm.MethodName) jdk_31_method_17_code (2 : Nat) (Option.some Jvm.ClassFile.FieldType.int)).before args0 about1 = true := code_word (m := ⟨18, 1⟩) (meth := k18m1) (c := k18c1) (by decide +kernel) rfl rfl rfl (by decide +kernel)
set_option maxRecDepth 65536 in
theorem w_c22 : (Jvm.Cond.code ({ cls := "jdk/internal/util/Preconditions", name := "checkIndex", desc := "(IILjava/util/function/BiFunction;)I" } : Jvm.MethodName) jdk_41_method_11_code (3 : Nat) (Option.some Jvm.ClassFile.FieldType.int)).before args0 about1 = true := code_word (m := ⟨19, 1⟩) (meth := k19m1) (c := k19c1) (by decide +kernel) rfl rfl rfl (by decide +kernel)
set_option maxRecDepth 65536 in
theorem w_c23 : (Jvm.Cond.code ({ cls := "java/util/ArrayList", name := "elementData", desc := "(I)Ljava/lang/Object;" } : Jvm.MethodName) jdk_38_method_18_code (2 : Nat) (Option.some (Jvm.ClassFile.FieldType.object "java/lang/Object"))).before args0 about1 = true := code_word (m := ⟨11, 4⟩) (meth := k11m4) (c := k11c4) (by decide +kernel) rfl rfl rfl (by decide +kernel)
set_option maxRecDepth 65536 in
theorem w_c24 : (Jvm.Cond.code ({ cls := "com/example/tiphys/tiphys/Run", name := "isWarmup", desc := "(Lcom/example/tiphys/tiphys/Release;)Z" } : Jvm.MethodName) prog_49_method_3_code (2 : Nat) (Option.some Jvm.ClassFile.FieldType.boolean)).before args0 about1 = true := code_word (m := ⟨16, 2⟩) (meth := k16m2) (c := k16c2) (by decide +kernel) rfl rfl rfl (by decide +kernel)
set_option maxRecDepth 65536 in
theorem w_c25 : (Jvm.Cond.code ({ cls := "com/example/tiphys/tiphys/Release", name := "index", desc := "()I" } : Jvm.MethodName) prog_44_method_10_code (1 : Nat) (Option.some Jvm.ClassFile.FieldType.int)).before args0 about1 = true := code_word (m := ⟨14, 1⟩) (meth := k14m1) (c := k14c1) (by decide +kernel) rfl rfl rfl (by decide +kernel)
def codes1 : List Jvm.Cond := [Jvm.Cond.code x code maxLocals ret, Jvm.Cond.code ({ cls := "java/util/ArrayList", name := "<init>", desc := "()V" } : Jvm.MethodName) jdk_38_method_2_code (1 : Nat) (Option.none : Option Jvm.ClassFile.FieldType), Jvm.Cond.code ({ cls := "java/util/AbstractList", name := "<init>", desc := "()V" } : Jvm.MethodName) jdk_39_method_1_code (1 : Nat) (Option.none : Option Jvm.ClassFile.FieldType), Jvm.Cond.code ({ cls := "java/util/AbstractCollection", name := "<init>", desc := "()V" } : Jvm.MethodName) jdk_22_method_1_code (1 : Nat) (Option.none : Option Jvm.ClassFile.FieldType), Jvm.Cond.code ({ cls := "java/lang/Object", name := "<init>", desc := "()V" } : Jvm.MethodName) object_method_1_code (1 : Nat) (Option.none : Option Jvm.ClassFile.FieldType), Jvm.Cond.code ({ cls := "com/example/tiphys/tiphys/Release", name := "<init>", desc := "(IJJJJ)V" } : Jvm.MethodName) prog_44_method_1_code (10 : Nat) (Option.none : Option Jvm.ClassFile.FieldType), Jvm.Cond.code ({ cls := "java/lang/Record", name := "<init>", desc := "()V" } : Jvm.MethodName) jdk_30_method_1_code (1 : Nat) (Option.none : Option Jvm.ClassFile.FieldType), Jvm.Cond.code ({ cls := "java/util/ArrayList", name := "add", desc := "(Ljava/lang/Object;)Z" } : Jvm.MethodName) jdk_38_method_25_code (2 : Nat) (Option.some Jvm.ClassFile.FieldType.boolean), Jvm.Cond.code ({ cls := "java/util/ArrayList", name := "add", desc := "(Ljava/lang/Object;[Ljava/lang/Object;I)V" } : Jvm.MethodName) jdk_38_method_24_code (4 : Nat) (Option.none : Option Jvm.ClassFile.FieldType), Jvm.Cond.code ({ cls := "java/util/ArrayList", name := "grow", desc := "()[Ljava/lang/Object;" } : Jvm.MethodName) jdk_38_method_7_code (1 : Nat) (Option.some (Jvm.ClassFile.FieldType.array (Jvm.ClassFile.FieldType.object "java/lang/Object"))), Jvm.Cond.code ({ cls := "java/util/ArrayList", name := "grow", desc := "(I)[Ljava/lang/Object;" } : Jvm.MethodName) jdk_38_method_6_code (4 : Nat) (Option.some (Jvm.ClassFile.FieldType.array (Jvm.ClassFile.FieldType.object "java/lang/Object"))), Jvm.Cond.code ({ cls := "java/lang/Math", name := "max", desc := "(II)I" } : Jvm.MethodName) jdk_29_method_65_code (2 : Nat) (Option.some Jvm.ClassFile.FieldType.int), Jvm.Cond.code ({ cls := "com/example/tiphys/tiphys/Run", name := "<init>", desc := "(Ljava/util/List;IJJ)V" } : Jvm.MethodName) prog_49_method_1_code (7 : Nat) (Option.none : Option Jvm.ClassFile.FieldType), Jvm.Cond.code ({ cls := "java/util/ArrayList", name := "size", desc := "()I" } : Jvm.MethodName) jdk_38_method_8_code (1 : Nat) (Option.some Jvm.ClassFile.FieldType.int), Jvm.Cond.code ({ cls := "com/example/tiphys/tiphys/Run", name := "measured", desc := "()Ljava/util/List;" } : Jvm.MethodName) prog_49_method_2_code (1 : Nat) (Option.some (Jvm.ClassFile.FieldType.object "java/util/List")), Jvm.Cond.code ({ cls := "java/util/ArrayList", name := "subList", desc := "(II)Ljava/util/List;" } : Jvm.MethodName) jdk_38_method_56_code (3 : Nat) (Option.some (Jvm.ClassFile.FieldType.object "java/util/List")), Jvm.Cond.code ({ cls := "java/util/AbstractList", name := "subListRangeCheck", desc := "(III)V" } : Jvm.MethodName) jdk_39_method_15_code (3 : Nat) (Option.none : Option Jvm.ClassFile.FieldType), Jvm.Cond.code ({ cls := "java/util/ArrayList$SubList", name := "<init>", desc := "(Ljava/util/ArrayList;II)V" } : Jvm.MethodName) jdk_130_method_1_code (4 : Nat) (Option.none : Option Jvm.ClassFile.FieldType), Jvm.Cond.code ({ cls := "java/util/ArrayList$SubList", name := "size", desc := "()I" } : Jvm.MethodName) jdk_130_method_5_code (1 : Nat) (Option.some Jvm.ClassFile.FieldType.int), Jvm.Cond.code ({ cls := "java/util/ArrayList$SubList", name := "checkForComodification", desc := "()V" } : Jvm.MethodName) jdk_130_method_28_code (1 : Nat) (Option.none : Option Jvm.ClassFile.FieldType), Jvm.Cond.code ({ cls := "java/util/ArrayList", name := "get", desc := "(I)Ljava/lang/Object;" } : Jvm.MethodName) jdk_38_method_20_code (2 : Nat) (Option.some (Jvm.ClassFile.FieldType.object "java/lang/Object")), Jvm.Cond.code ({ cls := "java/util/Objects", name := "checkIndex", desc := "(II)I" } : Jvm.MethodName) jdk_31_method_17_code (2 : Nat) (Option.some Jvm.ClassFile.FieldType.int), Jvm.Cond.code ({ cls := "jdk/internal/util/Preconditions", name := "checkIndex", desc := "(IILjava/util/function/BiFunction;)I" } : Jvm.MethodName) jdk_41_method_11_code (3 : Nat) (Option.some Jvm.ClassFile.FieldType.int), Jvm.Cond.code ({ cls := "java/util/ArrayList", name := "elementData", desc := "(I)Ljava/lang/Object;" } : Jvm.MethodName) jdk_38_method_18_code (2 : Nat) (Option.some (Jvm.ClassFile.FieldType.object "java/lang/Object")), Jvm.Cond.code ({ cls := "com/example/tiphys/tiphys/Run", name := "isWarmup", desc := "(Lcom/example/tiphys/tiphys/Release;)Z" } : Jvm.MethodName) prog_49_method_3_code (2 : Nat) (Option.some Jvm.ClassFile.FieldType.boolean), Jvm.Cond.code ({ cls := "com/example/tiphys/tiphys/Release", name := "index", desc := "()I" } : Jvm.MethodName) prog_44_method_10_code (1 : Nat) (Option.some Jvm.ClassFile.FieldType.int)]
set_option maxRecDepth 65536 in
theorem codes_eq : words1.filter isCode = codes1 := rfl
theorem w_codes : ∀ c ∈ words1.filter isCode, c.before args0 about1 = true := by
  rw [codes_eq]
  intro c hc
  simp only [codes1, List.mem_cons, List.not_mem_nil, or_false] at hc
  rcases hc with rfl | rfl | rfl | rfl | rfl | rfl | rfl | rfl | rfl | rfl | rfl | rfl | rfl | rfl | rfl | rfl | rfl | rfl | rfl | rfl | rfl | rfl | rfl | rfl | rfl | rfl
  · exact w_c0
  · exact w_c1
  · exact w_c2
  · exact w_c3
  · exact w_c4
  · exact w_c5
  · exact w_c6
  · exact w_c7
  · exact w_c8
  · exact w_c9
  · exact w_c10
  · exact w_c11
  · exact w_c12
  · exact w_c13
  · exact w_c14
  · exact w_c15
  · exact w_c16
  · exact w_c17
  · exact w_c18
  · exact w_c19
  · exact w_c20
  · exact w_c21
  · exact w_c22
  · exact w_c23
  · exact w_c24
  · exact w_c25
set_option maxRecDepth 65536 in
theorem w_t1 : (words1.take 24).all (fun c => isCode c || c.before args0 about1) = true := by decide +kernel
set_option maxRecDepth 65536 in
theorem w_t2 : ((words1.drop 24).take 24).all (fun c => isCode c || c.before args0 about1) = true := by decide +kernel
set_option maxRecDepth 65536 in
theorem w_t3 : (((words1.drop 24).drop 24).take 24).all (fun c => isCode c || c.before args0 about1) = true := by decide +kernel
set_option maxRecDepth 65536 in
theorem w_t4 : ((((words1.drop 24).drop 24).drop 24).take 24).all (fun c => isCode c || c.before args0 about1) = true := by decide +kernel
set_option maxRecDepth 65536 in
theorem w_t5 : (((((words1.drop 24).drop 24).drop 24).drop 24).take 24).all (fun c => isCode c || c.before args0 about1) = true := by decide +kernel
set_option maxRecDepth 65536 in
theorem w_t6 : ((((((words1.drop 24).drop 24).drop 24).drop 24).drop 24).take 24).all (fun c => isCode c || c.before args0 about1) = true := by decide +kernel
set_option maxRecDepth 65536 in
theorem w_t7 : (((((((words1.drop 24).drop 24).drop 24).drop 24).drop 24).drop 24).take 24).all (fun c => isCode c || c.before args0 about1) = true := by decide +kernel
set_option maxRecDepth 65536 in
theorem w_t8 : (((((((words1.drop 24).drop 24).drop 24).drop 24).drop 24).drop 24).drop 24).all (fun c => isCode c || c.before args0 about1) = true := by decide +kernel
theorem w_tables : (allAtoms (Jvm.Cond.code x code maxLocals ret :: tables_1)).before args0 about1 = true := by
  rw [allAtoms_all]
  show words1.all (fun c => c.before args0 about1) = true
  refine all_split ?_ w_codes
  rw [← List.take_append_drop 24 words1, List.all_append, w_t1, ← List.take_append_drop 24 (words1.drop 24), List.all_append, w_t2, ← List.take_append_drop 24 ((words1.drop 24).drop 24), List.all_append, w_t3, ← List.take_append_drop 24 (((words1.drop 24).drop 24).drop 24), List.all_append, w_t4, ← List.take_append_drop 24 ((((words1.drop 24).drop 24).drop 24).drop 24), List.all_append, w_t5, ← List.take_append_drop 24 (((((words1.drop 24).drop 24).drop 24).drop 24).drop 24), List.all_append, w_t6, ← List.take_append_drop 24 ((((((words1.drop 24).drop 24).drop 24).drop 24).drop 24).drop 24), List.all_append, w_t7, w_t8]
  rfl
set_option maxRecDepth 65536 in
theorem w_rest : rest_1_c.before args0 about1 = true := by decide +kernel
set_option maxRecDepth 65536 in
theorem w_case : (Jvm.Cond.and given_1 narrow_1).before args0 about1 = true := by decide +kernel
theorem w_applies : (headSpec (Jvm.Cond.code x code maxLocals ret :: tables_1) room_1).applies x e0.platform about1 = true :=
  (Spec.applies_iff w_frames).mpr ⟨w_running, w_runnable, w_alone, w_named, w_hears, w_ripe, w_room, w_tables⟩
theorem atStart : AtStart classFile x code maxLocals ret World_1 tables_1 room_1 Calls_1 rest_1 Pre_1 launch0 p0 e0 about1 theMethod args0 below0 :=
  ⟨lists_1, trivial, launch0.admits_env _ _ _, launch0.least_env, fairChoices_fair.cas, fairChoices_fair.clock, w_frames, w_args, w_heap, w_applies, trivial, w_rest, w_case⟩
end start1
theorem witness_1 : WitnessClaimed_1 := ⟨start1.p0, start1.e0, start1.about1, start1.theMethod, start1.args0, start1.below0, start1.atStart⟩
end Jvm.Pilot.@@N@@
