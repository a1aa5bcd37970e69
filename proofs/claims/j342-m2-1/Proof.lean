import JvmDerived
import JvmDerived.Pilot.@@N@@Statement
import JvmDerived.Pilot.@@N@@Code
set_option linter.unusedVariables false
set_option linter.unusedSimpArgs false
namespace Jvm.RoadKit
open Sem ClassFile Op Lib Jvm.Stand Jvm.Free Jvm.LawKit
section New
variable {p : Program} {l : Launch} {e : Env} {R : Room} {s : State} {m : MethodId} {args : Array Value} {below : List Frame} {meth : Method} {c : Code} {T : State} {locs : List Loc} {cells slots : Nat}
theorem retI (X : Stand p l e R s m args below meth c T locs cells slots) (hx : p.tables.exec = Jvm.exec) {pc : Nat} {Ls : Array Slot} {z : Int32} {rest : List Value} (hret : meth.sig.returnType = some .int) (hd : decode c.code pc = .ok (.ireturn, 1)) {fs : List Frame}
    (hl : ∀ (f : JFrame) (acts : List Action), f.method = m → f.locked = none → f.entered = [] → (doReturn e (T.setTop f) acts (some (.int z))).1 = T.setFrames fs) : Steps p.tables e below (T.setTop (mkF m pc Ls (.int z :: rest))) (T.setFrames fs) := by
  have hm' : T.vm.method? m = some meth := X.method'
  have hn : narrow .int (.int z) = .int z := rfl
  show Steps p.tables e below (T.setTop { method := m, pc := pc, locals := Ls, stack := _ :: rest, locked := none }) _
  jvm_step X.here [X.here.top, hx, hd, hm', hret, hn]
  first | (intro acts; rw [hl _ acts rfl rfl rfl]) | rw [hl _ _ rfl rfl rfl]
  exact Steps.refl _
theorem own_retJ (X : Stand p l e R s m args below meth c T locs cells slots) (hx : p.tables.exec = Jvm.exec) {pc : Nat} {Ls : Array Slot} {z : Int64} {rest : List Value} (hret : meth.sig.returnType = some .long) (hd : decode c.code pc = .ok (.lreturn, 1)) {fs : List Frame}
    (hl : ∀ (f : JFrame) (acts : List Action), f.method = m → f.locked = none → f.entered = [] → (doReturn e (T.setTop f) acts (some (.long z))).1 = T.setFrames fs) : Steps p.tables e below (T.setTop (mkF m pc Ls (.long z :: rest))) (T.setFrames fs) :=
  retOut X hx hret rfl (Or.inr (Or.inl ⟨rfl, rfl, z, rfl⟩)) hd hl
theorem own_retR (X : Stand p l e R s m args below meth c T locs cells slots) (hx : p.tables.exec = Jvm.exec) {pc : Nat} {Ls : Array Slot} {w : Value} {t : FieldType} {rest : List Value} (hret : meth.sig.returnType = some t) (ht : t.isReference = true) (hw : w.isRef = true) (hd : decode c.code pc = .ok (.areturn, 1)) {fs : List Frame}
    (hl : ∀ (f : JFrame) (acts : List Action), f.method = m → f.locked = none → f.entered = [] → (doReturn e (T.setTop f) acts (some w)).1 = T.setFrames fs) : Steps p.tables e below (T.setTop (mkF m pc Ls (w :: rest))) (T.setFrames fs) :=
  retOut X hx hret (by cases t <;> first | rfl | cases ht) (Or.inr (Or.inr (Or.inr (Or.inr ⟨rfl, ht, hw⟩)))) hd hl
theorem own_lrem {tb : Tables} [Ours tb] {e : Env} {below : List Frame} {T target : State} {m : MethodId} {c : Code} {g : JFrame} (h : At T m c below) (hx : tb.exec = Jvm.exec) (hg : g.method = m) {x y : Int64} {rest : List Value} (hd : decode c.code g.pc = .ok (.lrem, 1)) (hs : g.stack = .long y :: .long x :: rest) (hy : y ≠ 0)
    (hr : Steps tb e below (T.setTop { g with pc := g.pc + 1, stack := .long (x % y) :: rest }) target) : Steps tb e below (T.setTop g) target :=
  XS.lrem h hx hg hd hs hy (by rw [lrem_mod]; exact hr)
theorem own_go {tb : Tables} {e : Env} {below : List Frame} {A B : State} {P : State → Outcome → Prop} (h : ∀ t, Steps tb e below B t → Steps tb e below A t) (k : ∃ s₂ o, Steps tb e below B s₂ ∧ P s₂ o) : ∃ s₂ o, Steps tb e below A s₂ ∧ P s₂ o := by
  obtain ⟨s₂, o, h1, h2⟩ := k
  exact ⟨s₂, o, h _ h1, h2⟩
theorem own_cut {α : Type} {C : α → Prop} {B : α → State} {tb : Tables} {e : Env} {below : List Frame} {A : State} {P : State → Outcome → Prop} (h : ∀ a, C a → ∃ s₂ o, Steps tb e below (B a) s₂ ∧ P s₂ o) (k : (∀ a, C a → ∃ s₂ o, Steps tb e below (B a) s₂ ∧ P s₂ o) → ∃ s₂ o, Steps tb e below A s₂ ∧ P s₂ o) : ∃ s₂ o, Steps tb e below A s₂ ∧ P s₂ o := k h
theorem own_narZ (P : Prop) [Decidable P] : narrow .boolean (.int (if P then (1 : Int32) else 0)) = .int (if P then (1 : Int32) else 0) := by split <;> rfl
theorem own_fitZ (P : Prop) [Decidable P] : fits .boolean (.int (if P then (1 : Int32) else 0)) = true := by split <;> rfl
theorem own_retZ (P : Prop) [Decidable P] : (some (.int (nar .boolean (if P then (1 : Int32) else 0))) : Option Value) = some (.int (if P then (1 : Int32) else 0)) := by split <;> rfl
theorem own_staKeep {Z : State} {h h' : Heap} {C n d : String} {v : Value} {ws : List Addr} (F : Sta Z h C n d v) (K : Keep h h' ws) (q : ∀ x ∈ ws, ∃ c : Cell, h[x]? = some c ∧ c.vm.isStatics = false) : Sta Z h' C n d v := by
  obtain ⟨cf, i, k, f, st, cell, h1, h2, h3, h4, h5, h6, h7⟩ := F
  refine ⟨cf, i, k, f, st, cell, h1, h2, h3, h4, K.2.1 _ _ h5 fun hm => ?_, h6, h7⟩
  obtain ⟨c', g1, g2⟩ := q _ hm
  cases h5.symm.trans g1
  rw [h6] at g2
  cases g2
theorem own_arrKeep {Z : State} {h h' : Heap} {a : Addr} {c : Cell} {ty : FieldType} {ws : List Addr} (F : Arr Z h a c ty) (K : Keep h h' ws) (q : a ∉ ws) : Arr Z h' a c ty := ⟨K.2.1 _ _ F.1 q, F.2⟩
theorem own_ns0 {h : Heap} : ∀ x ∈ ([] : List Addr), ∃ c : Cell, h[x]? = some c ∧ c.vm.isStatics = false := fun _ q => nomatch q
theorem own_nsS {h : Heap} {y : Addr} {L : List Addr} (q : ∃ c : Cell, h[y]? = some c ∧ c.vm.isStatics = false) (r : ∀ x ∈ L, ∃ c : Cell, h[x]? = some c ∧ c.vm.isStatics = false) : ∀ x ∈ y :: L, ∃ c : Cell, h[x]? = some c ∧ c.vm.isStatics = false := fun x z => (List.mem_cons.mp z).elim (fun u => u ▸ q) (r x)
theorem own_nsE {Z : State} {h : Heap} {a : Addr} {C : String} (F : Exa Z h a C) : ∃ c : Cell, h[a]? = some c ∧ c.vm.isStatics = false := by
  obtain ⟨c, k, h1, h2, h3, h4, h5⟩ := F
  exact ⟨c, h1, h4⟩
theorem own_nsV {Z : State} {h : Heap} {a : Addr} {k : ClassId} {ty : FieldType} {z : Int32} {vs : List Value} {d : Value} (F : Arv Z h a k ty z vs d) : ∃ c : Cell, h[a]? = some c ∧ c.vm.isStatics = false := by
  obtain ⟨c, A, r⟩ := F
  exact ⟨c, A.1, A.plain⟩
theorem own_since (s : State) (n : Nat) : s.Since s.vm n := ⟨State.Warmed39.refl s, fun j p hj hp => absurd (Array.getElem?_eq_some_iff.mp hp).1 (Nat.not_lt.mpr hj)⟩
end New
end Jvm.RoadKit
namespace Jvm.Pilot.@@N@@
open Jvm Jvm.ClassFile Sem Op Lib Jvm.Free Jvm.Stand Jvm.LawKit Jvm.RoadKit Bundle Jvm.Pilot.@@N@@.Jvm.D
theorem own_strA {Z : State} {a0 : Array Value} (hw : ∀ d ∈ tables_1, d.before a0 Z = true) : ∀ a ∈ Bundle.stringAtoms, a.before a0 Z = true := by
  intro d hd
  simp only [Bundle.stringAtoms, List.mem_cons, List.not_mem_nil, or_false] at hd
  rcases hd with rfl | rfl | rfl | rfl | rfl | rfl | rfl
  · exact hw _ (List.mem_of_getElem? (i := 25) rfl)
  · exact hw _ (List.mem_of_getElem? (i := 26) rfl)
  · exact hw _ (List.mem_of_getElem? (i := 27) rfl)
  · exact hw _ (List.mem_of_getElem? (i := 28) rfl)
  · exact hw _ (List.mem_of_getElem? (i := 29) rfl)
  · exact hw _ (List.mem_of_getElem? (i := 30) rfl)
  · exact hw _ (List.mem_of_getElem? (i := 31) rfl)
theorem own_fldStart {Z : State} {args : Array Value} {t : Term} {C n d : String} {k : Int32} {a : Addr} (ev : t.eval args Z none [] Z = some (.ref a)) (h : (Jvm.Cond.eq (.field t C n d) (.int k)).value args Z none Z [] = some true) : Fld Z Z.heap a C n d (.int k) := by
  refine Fld.start ?_
  have e1 := fld_at (C := C) (n := n) (dd := d) ev
  cases hf : Z.fieldOf? a C n d with
  | none => rw [hf] at e1; simp only [Cond.value, e1, Term.int_eval] at h; cases h
  | some v =>
    rw [hf] at e1
    simp only [Cond.value, e1, Term.int_eval] at h
    cases v <;> simp at h
    rw [h]
theorem own_s0 (p1 : Int32) : ((((p1.toInt64) * ((0 : Int32).toInt64)) / (100 : Int64)).toInt32) = (0 : Int32) := by
  have l0 : ((0 : Int32).toInt64) = (0 : Int64) := by decide
  rw [l0, Int64.mul_zero]; decide
theorem own_k7 (p1 p2 : Int32) : ¬ (if (0 : Int32) < (p1 - ((2 : Int32) * p2)) then (p1 - ((2 : Int32) * p2)) else (0 : Int32)) < ((((p1.toInt64) * ((0 : Int32).toInt64)) / (100 : Int64)).toInt32) := by
  rw [own_s0]
  split
  · rename_i h; intro q; rw [Int32.lt_iff_toInt_lt] at h q; omega
  · exact Int32.lt_irrefl
theorem own_nd (p1 : Int32) : 2 ≤ ((2 : Int32) + ((p1 &&& (2147483647 : Int32)) % (16777213 : Int32))).toInt ∧ ((2 : Int32) + ((p1 &&& (2147483647 : Int32)) % (16777213 : Int32))).toInt ≤ 16777214 := by
  have e1 := c_mask p1 2147483647 31 (by decide) (by decide)
  have e2 := (c_irem (p1 &&& 2147483647) 16777213 16777213 (by decide)).1 (by omega)
  have e3 := c_iadd 2 ((p1 &&& 2147483647) % 16777213)
  have e4 := rng32 ((2 : Int32) + ((p1 &&& (2147483647 : Int32)) % (16777213 : Int32)))
  have l0 : (0 : Int32).toInt = 0 := by decide
  have l1 : (1 : Int32).toInt = 1 := by decide
  have l2 : (2 : Int32).toInt = 2 := by decide
  have l3 : (100 : Int32).toInt = 100 := by decide
  have l4 : (16777214 : Int32).toInt = 16777214 := by decide
  omega
theorem own_nz (nd : Int32) (h : 2 ≤ nd.toInt) : (nd - (1 : Int32)) ≠ 0 := by
  intro q
  have e := c_isub nd 1
  have e2 := rng32 nd
  rw [q] at e
  have l0 : (0 : Int32).toInt = 0 := by decide
  have l1 : (1 : Int32).toInt = 1 := by decide
  have l2 : (2 : Int32).toInt = 2 := by decide
  have l3 : (100 : Int32).toInt = 100 := by decide
  have l4 : (16777214 : Int32).toInt = 16777214 := by decide
  omega
theorem own_ky (p2 nd : Int32) (h : 2 ≤ nd.toInt) (h2 : nd.toInt ≤ 16777214) : ¬ ((1 : Int32) + ((p2 &&& (2147483647 : Int32)) % (nd - (1 : Int32)))) < (1 : Int32) ∧ ((1 : Int32) + ((p2 &&& (2147483647 : Int32)) % (nd - (1 : Int32)))) < nd := by
  have e1 := c_mask p2 2147483647 31 (by decide) (by decide)
  have e0 := c_isub nd 1
  have e5 := rng32 (nd - 1)
  have l0 : (0 : Int32).toInt = 0 := by decide
  have l1 : (1 : Int32).toInt = 1 := by decide
  have l2 : (2 : Int32).toInt = 2 := by decide
  have l3 : (100 : Int32).toInt = 100 := by decide
  have l4 : (16777214 : Int32).toInt = 16777214 := by decide
  have e6 : (nd - (1 : Int32)).toInt = nd.toInt - 1 := by omega
  have e2 : ((p2 &&& (2147483647 : Int32)) % (nd - (1 : Int32))).toInt = (p2 &&& (2147483647 : Int32)).toInt % (nd.toInt - 1) := by
    rw [Int32.toInt_mod, e6, Int.tmod_eq_emod_of_nonneg (by omega)]
  have e7 := Int.emod_nonneg (p2 &&& (2147483647 : Int32)).toInt (show nd.toInt - 1 ≠ 0 by omega)
  have e8 := Int.emod_lt_of_pos (p2 &&& (2147483647 : Int32)).toInt (show 0 < nd.toInt - 1 by omega)
  have e3 := c_iadd 1 ((p2 &&& (2147483647 : Int32)) % (nd - (1 : Int32)))
  have e4 := rng32 ((1 : Int32) + ((p2 &&& (2147483647 : Int32)) % (nd - (1 : Int32))))
  rw [Int32.lt_iff_toInt_lt, Int32.lt_iff_toInt_lt]
  omega
theorem own_ky1 (nd : Int32) (h : 2 ≤ nd.toInt) : ¬ (1 : Int32) < (1 : Int32) ∧ (1 : Int32) < nd := by
  refine ⟨by decide, ?_⟩
  rw [Int32.lt_iff_toInt_lt]
  have l0 : (0 : Int32).toInt = 0 := by decide
  have l1 : (1 : Int32).toInt = 1 := by decide
  have l2 : (2 : Int32).toInt = 2 := by decide
  have l3 : (100 : Int32).toInt = 100 := by decide
  have l4 : (16777214 : Int32).toInt = 16777214 := by decide
  omega
theorem own_kl (p3 : Int32) : 0 ≤ ((p3 &&& (2147483647 : Int32)) % (101 : Int32)).toInt ∧ ((p3 &&& (2147483647 : Int32)) % (101 : Int32)).toInt ≤ 100 := by
  have e1 := c_mask p3 2147483647 31 (by decide) (by decide)
  have e2 := (c_irem (p3 &&& 2147483647) 101 101 (by decide)).1 (by omega)
  omega
theorem own_pr (nd kl : Int32) (h1 : 2 ≤ nd.toInt) (h2 : nd.toInt ≤ 16777214) (h3 : 0 ≤ kl.toInt) (h4 : kl.toInt ≤ 100) : 0 ≤ ((nd.toInt64) * (kl.toInt64)).toInt ∧ ((nd.toInt64) * (kl.toInt64)).toInt ≤ 1677721400 := by
  have e := c_lmul nd.toInt64 kl.toInt64
  rw [c_i2l, c_i2l] at e
  have a := Int.mul_nonneg (show 0 ≤ nd.toInt by omega) h3
  have b : nd.toInt * kl.toInt ≤ 16777214 * 100 := Int.mul_le_mul h2 h4 h3 (by omega)
  have r := rng64 ((nd.toInt64) * (kl.toInt64))
  generalize nd.toInt * kl.toInt = z at *
  omega
theorem own_st (pr : Int64) (h0 : 0 ≤ pr.toInt) (h1 : pr.toInt ≤ 1677721400) : (pr / (100 : Int64)).toInt32.toInt = pr.toInt / 100 := by
  have e1 := (c_ldiv pr 100 100 (by decide) (by decide)).1 h0
  have e2 := c_l2i (pr / 100)
  have e3 := rng32 (pr / 100).toInt32
  omega
theorem own_idl (nd ky : Int32) (h1 : 2 ≤ nd.toInt) (h2 : nd.toInt ≤ 16777214) (h3 : ¬ ky < (1 : Int32) ∧ ky < nd) : 0 ≤ (if (0 : Int32) < (nd - ((2 : Int32) * ky)) then (nd - ((2 : Int32) * ky)) else (0 : Int32)).toInt ∧ (if (0 : Int32) < (nd - ((2 : Int32) * ky)) then (nd - ((2 : Int32) * ky)) else (0 : Int32)).toInt ≤ 16777214 := by
  rw [Int32.lt_iff_toInt_lt, Int32.lt_iff_toInt_lt] at h3
  have e1 := c_imul 2 ky
  have e2 := c_isub nd ((2 : Int32) * ky)
  have e3 := rng32 ((2 : Int32) * ky)
  have e4 := rng32 (nd - ((2 : Int32) * ky))
  have l0 : (0 : Int32).toInt = 0 := by decide
  have l1 : (1 : Int32).toInt = 1 := by decide
  have l2 : (2 : Int32).toInt = 2 := by decide
  have l3 : (100 : Int32).toInt = 100 := by decide
  have l4 : (16777214 : Int32).toInt = 16777214 := by decide
  rw [l2] at e1
  split
  · rename_i h; rw [Int32.lt_iff_toInt_lt] at h; omega
  · omega
theorem own_hun (x : Int32) (h0 : 0 ≤ x.toInt) (h1 : x.toInt ≤ 16777214) : ((100 : Int64) * ((x + (1 : Int32)).toInt64)).toInt = 100 * (x.toInt + 1) := by
  have e1 := c_iadd x 1
  have e2 := rng32 (x + 1)
  have e3 := c_lmul 100 (x + 1).toInt64
  rw [c_i2l] at e3
  have e4 := rng64 ((100 : Int64) * ((x + (1 : Int32)).toInt64))
  have l5 : (100 : Int64).toInt = 100 := by decide
  rw [l5] at e3
  have l0 : (0 : Int32).toInt = 0 := by decide
  have l1 : (1 : Int32).toInt = 1 := by decide
  have l2 : (2 : Int32).toInt = 2 := by decide
  have l3 : (100 : Int32).toInt = 100 := by decide
  have l4 : (16777214 : Int32).toInt = 16777214 := by decide
  have e5 : (x + 1).toInt = x.toInt + 1 := by omega
  rw [e5] at e3
  omega
theorem pn_3 : plainName "java/lang/Record" = true := by first | (simp [plainName, overriddenIn]; done) | decide +kernel
theorem d4_0 : decode jdk_30_method_1_code 0 = .ok (.aload_n 0, 1) := by decide +kernel
theorem d4_1 : decode jdk_30_method_1_code 1 = .ok (.invokespecial 1, 3) := by decide +kernel
theorem d4_4 : decode jdk_30_method_1_code 4 = .ok (.return_, 1) := by decide +kernel
theorem ef_4 (m : MethodId) (a1 : Addr) : entryFrame m #[(.ref a1)] 1 = mkF m 0 #[.val (.ref a1)] [] := by first | (simp [entryFrame, mkF, argsToLocals, Value.category]; done) | rfl
def Q4 (Z : State) (a1 : Addr) (h0 : Heap) (n0 : Nat) (v : Option Value) (h : Heap) (L : List Loc) : Prop := v = none ∧ Fr n0 L ∧ h = h0
set_option maxRecDepth 65536 in
set_option maxHeartbeats 40000000 in
theorem rm4 (l : Launch) (Z : State) (a0 : Array Value) (hw : ∀ d ∈ tables_1, d.before a0 Z = true) (ws : List Jvm.Cond) (a1 : Addr) (h0 : Heap) (n0 : Nat) (Z0 : n0 ≤ h0.size) :
    MetFree l (⟨"java/lang/Record", "<init>", "()V"⟩ : MethodName) (head1 (Jvm.Cond.code (⟨"java/lang/Record", "<init>", "()V"⟩ : MethodName) jdk_30_method_1_code 1 none :: ws) ({ frames := 1, cells := 0, slots := 0, locals := 12 } : Room)) (fun a U => a = #[(.ref a1)] ∧ Z.Warmed39 U.vm ∧ U.heap = h0) (fun _ _ _ _ _ => True) (fun _ U o U' => ∃ v L, o = .returned v ∧ Q4 Z a1 h0 n0 v U'.heap L ∧ FrameEnd U o U' L ({ frames := 1, cells := 0, slots := 0, locals := 12 } : Room).cells ({ frames := 1, cells := 0, slots := 0, locals := 12 } : Room).slots) := by
  refine MetFree.of_bodySF (plainFor_of_name pn_3) hisR ?_
  intro p e s m args below meth c s₁ Bd hml0 hP hK
  obtain ⟨rfl, hZ, hh⟩ := hP
  have hx := Bd.exec
  have hby := Bd.bytes
  have hml : c.maxLocals = 1 := hml0
  have hown : s.vm.findClass "java/lang/Record" = some m.cls := findClass_of_methodNamed Bd.named
  have hnm := (name_of_methodNamed Bd.named Bd.method).1
  have X0 : Stand p l e ({ frames := 1, cells := 0, slots := 0, locals := 12 } : Room) s m #[(.ref a1)] below meth c s₁ [] 0 0 := Stand.of_body Bd
  have e0 : s₁.heap = h0 := by rw [← hh, Bd.state]; rfl
  have N0 := Fr.nil n0
  refine own_go (B := s₁.setTop (mkF m 0 #[.val (.ref a1)] [])) (fun t k => castTop (ef_4 m a1) k) ?_
  refine own_go (B := s₁.setTop (mkF m 1 #[.val (.ref a1)] [(.ref a1)])) (fun t k => ?_) ?_
  · show Steps p.tables e below (s₁.setTop (mkF m 0 #[.val (.ref a1)] [])) _
    refine XS.aloadN X0.here hx rfl (hb hby d4_0) rfl rfl ?_
    show Steps p.tables e below (s₁.setTop (mkF m 1 #[.val (.ref a1)] [(.ref a1)])) _
    exact k
  obtain ⟨T1, X1, e1, st1⟩ := initO X0 hx hZ hown (hw _ (List.mem_of_getElem? (i := 21) rfl)) (hw _ (List.mem_of_getElem? (i := 22) rfl)) (hw _ (List.mem_of_getElem? (i := 23) rfl)) e0 (g := (mkF m 1 #[.val (.ref a1)] [(.ref a1)])) rfl (by rw [hml]; rfl) rfl (hb hby d4_1) (by decide) (W := 0) (by show 2 * 0 + _ ≤ _; exact Nat.le_of_eq rfl) (by decide)
  refine own_go st1 ?_
  obtain ⟨fs, hr, hrun, hended, hW, hsame⟩ := X1.leave (v := none) (fun _ => rfl)
  refine ⟨_, _, ?_, hrun, hended, _, _, rfl, ?_, ⟨_, rfl⟩, hW, hsame.mono (by decide) (by decide)⟩
  · exact X1.returnOut hx Bd.returns (hb hby d4_4) hr
  · show Q4 Z a1 h0 n0 _ T1.heap _
    rw [e1]
    exact ⟨rfl, N0, rfl⟩
theorem pn_8 : plainName "java/util/Objects" = true := by first | (simp [plainName, overriddenIn]; done) | decide +kernel
theorem d6_0 : decode jdk_31_method_11_code 0 = .ok (.aload_n 0, 1) := by decide +kernel
theorem d6_1 : decode jdk_31_method_11_code 1 = .ok (.ifnonnull 12, 3) := by decide +kernel
theorem d6_13 : decode jdk_31_method_11_code 13 = .ok (.aload_n 0, 1) := by decide +kernel
theorem d6_14 : decode jdk_31_method_11_code 14 = .ok (.areturn, 1) := by decide +kernel
theorem ef_6 (m : MethodId) (a1 : Addr) (a2 : Addr) : entryFrame m #[(.ref a1), (.ref a2)] 2 = mkF m 0 #[.val (.ref a1), .val (.ref a2)] [] := by first | (simp [entryFrame, mkF, argsToLocals, Value.category]; done) | rfl
def Q6 (Z : State) (a1 : Addr) (a2 : Addr) (h0 : Heap) (n0 : Nat) (v : Option Value) (h : Heap) (L : List Loc) : Prop := v = some (.ref a1) ∧ Fr n0 L ∧ h = h0
set_option maxRecDepth 65536 in
set_option maxHeartbeats 40000000 in
theorem rm6 (l : Launch) (Z : State) (a0 : Array Value) (hw : ∀ d ∈ tables_1, d.before a0 Z = true) (ws : List Jvm.Cond) (a1 : Addr) (a2 : Addr) (h0 : Heap) (n0 : Nat) (Z0 : n0 ≤ h0.size) :
    MetFree l (⟨"java/util/Objects", "requireNonNull", "(Ljava/lang/Object;Ljava/lang/String;)Ljava/lang/Object;"⟩ : MethodName) (head1 (Jvm.Cond.code (⟨"java/util/Objects", "requireNonNull", "(Ljava/lang/Object;Ljava/lang/String;)Ljava/lang/Object;"⟩ : MethodName) jdk_31_method_11_code 2 (some (.object "java/lang/Object")) :: ws) ({ frames := 0, cells := 0, slots := 0, locals := 0 } : Room)) (fun a U => a = #[(.ref a1), (.ref a2)] ∧ Z.Warmed39 U.vm ∧ U.heap = h0) (fun _ _ _ _ _ => True) (fun _ U o U' => ∃ v L, o = .returned v ∧ Q6 Z a1 a2 h0 n0 v U'.heap L ∧ FrameEnd U o U' L ({ frames := 0, cells := 0, slots := 0, locals := 0 } : Room).cells ({ frames := 0, cells := 0, slots := 0, locals := 0 } : Room).slots) := by
  refine MetFree.of_bodySF (plainFor_of_name pn_8) hisR ?_
  intro p e s m args below meth c s₁ Bd hml0 hP hK
  obtain ⟨rfl, hZ, hh⟩ := hP
  have hx := Bd.exec
  have hby := Bd.bytes
  have hml : c.maxLocals = 2 := hml0
  have hown : s.vm.findClass "java/util/Objects" = some m.cls := findClass_of_methodNamed Bd.named
  have hnm := (name_of_methodNamed Bd.named Bd.method).1
  have X0 : Stand p l e ({ frames := 0, cells := 0, slots := 0, locals := 0 } : Room) s m #[(.ref a1), (.ref a2)] below meth c s₁ [] 0 0 := Stand.of_body Bd
  have e0 : s₁.heap = h0 := by rw [← hh, Bd.state]; rfl
  have N0 := Fr.nil n0
  refine own_go (B := s₁.setTop (mkF m 0 #[.val (.ref a1), .val (.ref a2)] [])) (fun t k => castTop (ef_6 m a1 a2) k) ?_
  refine own_go (B := s₁.setTop (mkF m 14 #[.val (.ref a1), .val (.ref a2)] [(.ref a1)])) (fun t k => ?_) ?_
  · show Steps p.tables e below (s₁.setTop (mkF m 0 #[.val (.ref a1), .val (.ref a2)] [])) _
    refine XS.aloadN X0.here hx rfl (hb hby d6_0) rfl rfl ?_
    show Steps p.tables e below (s₁.setTop (mkF m 1 #[.val (.ref a1), .val (.ref a2)] [(.ref a1)])) _
    refine XS.ifnonnullYes X0.here hx rfl (pc0 := 1) (pc' := 13) rfl (hb hby d6_1) rfl (by decide) (by decide) ?_
    show Steps p.tables e below (s₁.setTop (mkF m 13 #[.val (.ref a1), .val (.ref a2)] [])) _
    refine XS.aloadN X0.here hx rfl (hb hby d6_13) rfl rfl ?_
    show Steps p.tables e below (s₁.setTop (mkF m 14 #[.val (.ref a1), .val (.ref a2)] [(.ref a1)])) _
    exact k
  obtain ⟨fs, hr, hrun, hended, hW, hsame⟩ := X0.leave (v := some (.ref a1)) (fun h => by rw [Bd.returns] at h; cases h)
  refine ⟨_, _, ?_, hrun, hended, _, _, rfl, ?_, ⟨_, rfl⟩, hW, hsame.mono (by decide) (by decide)⟩
  · exact own_retR X0 hx Bd.returns rfl rfl (hb hby d6_14) hr
  · show Q6 Z a1 a2 h0 n0 _ s₁.heap _
    rw [e0]
    exact ⟨rfl, N0, rfl⟩
theorem d8_0 : decode jdk_29_method_65_code 0 = .ok (.iload_n 0, 1) := by decide +kernel
theorem d8_1 : decode jdk_29_method_65_code 1 = .ok (.iload_n 1, 1) := by decide +kernel
theorem d8_2 : decode jdk_29_method_65_code 2 = .ok (.if_icmp .lt 7, 3) := by decide +kernel
theorem d8_5 : decode jdk_29_method_65_code 5 = .ok (.iload_n 0, 1) := by decide +kernel
theorem d8_6 : decode jdk_29_method_65_code 6 = .ok (.goto 4, 3) := by decide +kernel
theorem d8_9 : decode jdk_29_method_65_code 9 = .ok (.iload_n 1, 1) := by decide +kernel
theorem d8_10 : decode jdk_29_method_65_code 10 = .ok (.ireturn, 1) := by decide +kernel
theorem ef_8 (m : MethodId) (p1 : Int32) (p2 : Int32) : entryFrame m #[(.int p1), (.int p2)] 2 = mkF m 0 #[.val (.int p1), .val (.int p2)] [] := by first | (simp [entryFrame, mkF, argsToLocals, Value.category]; done) | rfl
def Q8 (Z : State) (p1 : Int32) (p2 : Int32) (h0 : Heap) (n0 : Nat) (v : Option Value) (h : Heap) (L : List Loc) : Prop := v = some (.int (if p1 < p2 then p2 else p1)) ∧ Fr n0 L ∧ h = h0
set_option maxRecDepth 65536 in
set_option maxHeartbeats 40000000 in
theorem rm8 (l : Launch) (Z : State) (a0 : Array Value) (hw : ∀ d ∈ tables_1, d.before a0 Z = true) (ws : List Jvm.Cond) (p1 : Int32) (p2 : Int32) (h0 : Heap) (n0 : Nat) (Z0 : n0 ≤ h0.size) :
    MetFree l (⟨"java/lang/Math", "max", "(II)I"⟩ : MethodName) (head1 (Jvm.Cond.code (⟨"java/lang/Math", "max", "(II)I"⟩ : MethodName) jdk_29_method_65_code 2 (some .int) :: ws) ({ frames := 0, cells := 0, slots := 0, locals := 0 } : Room)) (fun a U => a = #[(.int p1), (.int p2)] ∧ Z.Warmed39 U.vm ∧ U.heap = h0) (fun _ _ _ _ _ => True) (fun _ U o U' => ∃ v L, o = .returned v ∧ Q8 Z p1 p2 h0 n0 v U'.heap L ∧ FrameEnd U o U' L ({ frames := 0, cells := 0, slots := 0, locals := 0 } : Room).cells ({ frames := 0, cells := 0, slots := 0, locals := 0 } : Room).slots) := by
  refine MetFree.of_bodySF (Jvm.Free.JP.mathPlain rfl (by decide +kernel)) hisR ?_
  intro p e s m args below meth c s₁ Bd hml0 hP hK
  obtain ⟨rfl, hZ, hh⟩ := hP
  have hx := Bd.exec
  have hby := Bd.bytes
  have hml : c.maxLocals = 2 := hml0
  have hown : s.vm.findClass "java/lang/Math" = some m.cls := findClass_of_methodNamed Bd.named
  have hnm := (name_of_methodNamed Bd.named Bd.method).1
  have X0 : Stand p l e ({ frames := 0, cells := 0, slots := 0, locals := 0 } : Room) s m #[(.int p1), (.int p2)] below meth c s₁ [] 0 0 := Stand.of_body Bd
  have e0 : s₁.heap = h0 := by rw [← hh, Bd.state]; rfl
  have N0 := Fr.nil n0
  refine own_go (B := s₁.setTop (mkF m 0 #[.val (.int p1), .val (.int p2)] [])) (fun t k => castTop (ef_8 m p1 p2) k) ?_
  refine own_go (B := s₁.setTop (mkF m 2 #[.val (.int p1), .val (.int p2)] [(.int p2), (.int p1)])) (fun t k => ?_) ?_
  · show Steps p.tables e below (s₁.setTop (mkF m 0 #[.val (.int p1), .val (.int p2)] [])) _
    refine XS.iloadN X0.here hx rfl (hb hby d8_0) rfl ?_
    show Steps p.tables e below (s₁.setTop (mkF m 1 #[.val (.int p1), .val (.int p2)] [(.int p1)])) _
    refine XS.iloadN X0.here hx rfl (hb hby d8_1) rfl ?_
    show Steps p.tables e below (s₁.setTop (mkF m 2 #[.val (.int p1), .val (.int p2)] [(.int p2), (.int p1)])) _
    exact k
  by_cases hc4 : p1 < p2
  · refine own_go (B := s₁.setTop (mkF m 10 #[.val (.int p1), .val (.int p2)] [(.int p2)])) (fun t k => ?_) ?_
    · show Steps p.tables e below (s₁.setTop (mkF m 2 #[.val (.int p1), .val (.int p2)] [(.int p2), (.int p1)])) _
      refine XS.icmpYes X0.here hx rfl (pc0 := 2) (pc' := 9) rfl (hb hby d8_2) rfl (tlt hc4).1 (by decide) (by decide) ?_
      show Steps p.tables e below (s₁.setTop (mkF m 9 #[.val (.int p1), .val (.int p2)] [])) _
      refine XS.iloadN X0.here hx rfl (hb hby d8_9) rfl ?_
      show Steps p.tables e below (s₁.setTop (mkF m 10 #[.val (.int p1), .val (.int p2)] [(.int p2)])) _
      exact k
    obtain ⟨fs, hr, hrun, hended, hW, hsame⟩ := X0.leave (v := some (.int p2)) (fun h => by rw [Bd.returns] at h; cases h)
    refine ⟨_, _, ?_, hrun, hended, _, _, rfl, ?_, ⟨_, rfl⟩, hW, hsame.mono (by decide) (by decide)⟩
    · exact retI X0 hx Bd.returns (hb hby d8_10) hr
    · show Q8 Z p1 p2 h0 n0 _ s₁.heap _
      rw [e0]
      exact ⟨(by rw [if_pos hc4]), N0, rfl⟩
  · refine own_go (B := s₁.setTop (mkF m 10 #[.val (.int p1), .val (.int p2)] [(.int p1)])) (fun t k => ?_) ?_
    · show Steps p.tables e below (s₁.setTop (mkF m 2 #[.val (.int p1), .val (.int p2)] [(.int p2), (.int p1)])) _
      refine XS.icmpNo X0.here hx rfl (hb hby d8_2) rfl (flt hc4).1 ?_
      show Steps p.tables e below (s₁.setTop (mkF m 5 #[.val (.int p1), .val (.int p2)] [])) _
      refine XS.iloadN X0.here hx rfl (hb hby d8_5) rfl ?_
      show Steps p.tables e below (s₁.setTop (mkF m 6 #[.val (.int p1), .val (.int p2)] [(.int p1)])) _
      refine XS.goto X0.here hx rfl (pc0 := 6) (pc' := 10) rfl (hb hby d8_6) (by decide) (by decide) ?_
      show Steps p.tables e below (s₁.setTop (mkF m 10 #[.val (.int p1), .val (.int p2)] [(.int p1)])) _
      exact k
    obtain ⟨fs, hr, hrun, hended, hW, hsame⟩ := X0.leave (v := some (.int p1)) (fun h => by rw [Bd.returns] at h; cases h)
    refine ⟨_, _, ?_, hrun, hended, _, _, rfl, ?_, ⟨_, rfl⟩, hW, hsame.mono (by decide) (by decide)⟩
    · exact retI X0 hx Bd.returns (hb hby d8_10) hr
    · show Q8 Z p1 p2 h0 n0 _ s₁.heap _
      rw [e0]
      exact ⟨(by rw [if_neg hc4]), N0, rfl⟩
theorem pn_18 : plainName "java/util/OptionalInt" = true := by first | (simp [plainName, overriddenIn]; done) | decide +kernel
theorem d2_0 : decode jdk_2649_method_2_code 0 = .ok (.getstatic 17, 3) := by decide +kernel
theorem d2_3 : decode jdk_2649_method_2_code 3 = .ok (.areturn, 1) := by decide +kernel
theorem ef_2 (m : MethodId)  : entryFrame m #[] 0 = mkF m 0 #[] [] := by first | (simp [entryFrame, mkF, argsToLocals, Value.category]; done) | rfl
def Q2 (Z : State) (w_EMPTY : Addr) (h0 : Heap) (n0 : Nat) (v : Option Value) (h : Heap) (L : List Loc) : Prop := v = some (.ref w_EMPTY) ∧ Fr n0 L ∧ h = h0
set_option maxRecDepth 65536 in
set_option maxHeartbeats 40000000 in
theorem rm2 (l : Launch) (Z : State) (a0 : Array Value) (hw : ∀ d ∈ tables_1, d.before a0 Z = true) (ws : List Jvm.Cond) (w_EMPTY : Addr) (h0 : Heap) (n0 : Nat) (Z0 : n0 ≤ h0.size) (S_EMPTY : Sta Z h0 "java/util/OptionalInt" "EMPTY" "Ljava/util/OptionalInt;" (.ref w_EMPTY)) :
    MetFree l (⟨"java/util/OptionalInt", "empty", "()Ljava/util/OptionalInt;"⟩ : MethodName) (head1 (Jvm.Cond.code (⟨"java/util/OptionalInt", "empty", "()Ljava/util/OptionalInt;"⟩ : MethodName) jdk_2649_method_2_code 0 (some (.object "java/util/OptionalInt")) :: ws) ({ frames := 0, cells := 0, slots := 0, locals := 0 } : Room)) (fun a U => a = #[] ∧ Z.Warmed39 U.vm ∧ U.heap = h0) (fun _ _ _ _ _ => True) (fun _ U o U' => ∃ v L, o = .returned v ∧ Q2 Z w_EMPTY h0 n0 v U'.heap L ∧ FrameEnd U o U' L ({ frames := 0, cells := 0, slots := 0, locals := 0 } : Room).cells ({ frames := 0, cells := 0, slots := 0, locals := 0 } : Room).slots) := by
  refine MetFree.of_bodySF (plainFor_of_name pn_18) hisR ?_
  intro p e s m args below meth c s₁ Bd hml0 hP hK
  obtain ⟨rfl, hZ, hh⟩ := hP
  have hx := Bd.exec
  have hby := Bd.bytes
  have hml : c.maxLocals = 0 := hml0
  have hown : s.vm.findClass "java/util/OptionalInt" = some m.cls := findClass_of_methodNamed Bd.named
  have hnm := (name_of_methodNamed Bd.named Bd.method).1
  have X0 : Stand p l e ({ frames := 0, cells := 0, slots := 0, locals := 0 } : Room) s m #[] below meth c s₁ [] 0 0 := Stand.of_body Bd
  have e0 : s₁.heap = h0 := by rw [← hh, Bd.state]; rfl
  have N0 := Fr.nil n0
  refine own_go (B := s₁.setTop (mkF m 0 #[] [])) (fun t k => castTop (ef_2 m ) k) ?_
  obtain ⟨T7, X7, e7, st7⟩ := getS2 X0 hx hZ hown (host := "") (Or.inl (hw _ (List.mem_of_getElem? (i := 12) rfl))) Via.refl e0 S_EMPTY (g := (mkF m 0 #[] [])) rfl (hb hby d2_0)
  refine own_go st7 ?_
  obtain ⟨fs, hr, hrun, hended, hW, hsame⟩ := X7.leave (v := some (.ref w_EMPTY)) (fun h => by rw [Bd.returns] at h; cases h)
  refine ⟨_, _, ?_, hrun, hended, _, _, rfl, ?_, ⟨_, rfl⟩, hW, hsame.mono (by decide) (by decide)⟩
  · exact own_retR X7 hx Bd.returns rfl rfl (hb hby d2_3) hr
  · show Q2 Z w_EMPTY h0 n0 _ T7.heap _
    rw [e7]
    exact ⟨rfl, N0, rfl⟩
theorem d9_0 : decode jdk_2649_method_11_code 0 = .ok (.aload_n 0, 1) := by decide +kernel
theorem d9_1 : decode jdk_2649_method_11_code 1 = .ok (.getfield 7, 3) := by decide +kernel
theorem d9_4 : decode jdk_2649_method_11_code 4 = .ok (.ifCond .eq 10, 3) := by decide +kernel
theorem d9_14 : decode jdk_2649_method_11_code 14 = .ok (.iload_n 1, 1) := by decide +kernel
theorem d9_15 : decode jdk_2649_method_11_code 15 = .ok (.ireturn, 1) := by decide +kernel
theorem ef_9 (m : MethodId) (a1 : Addr) (p1 : Int32) : entryFrame m #[(.ref a1), (.int p1)] 2 = mkF m 0 #[.val (.ref a1), .val (.int p1)] [] := by first | (simp [entryFrame, mkF, argsToLocals, Value.category]; done) | rfl
def Q9 (Z : State) (a1 : Addr) (p1 : Int32) (h0 : Heap) (n0 : Nat) (v : Option Value) (h : Heap) (L : List Loc) : Prop := v = some (.int p1) ∧ Fr n0 L ∧ h = h0
set_option maxRecDepth 65536 in
set_option maxHeartbeats 40000000 in
theorem rm9 (l : Launch) (Z : State) (a0 : Array Value) (hw : ∀ d ∈ tables_1, d.before a0 Z = true) (ws : List Jvm.Cond) (a1 : Addr) (p1 : Int32) (h0 : Heap) (n0 : Nat) (Z0 : n0 ≤ h0.size) (F_ip : Fld Z h0 a1 "java/util/OptionalInt" "isPresent" "Z" (.int (0 : Int32))) :
    MetFree l (⟨"java/util/OptionalInt", "orElse", "(I)I"⟩ : MethodName) (head1 (Jvm.Cond.code (⟨"java/util/OptionalInt", "orElse", "(I)I"⟩ : MethodName) jdk_2649_method_11_code 2 (some .int) :: ws) ({ frames := 0, cells := 0, slots := 0, locals := 0 } : Room)) (fun a U => a = #[(.ref a1), (.int p1)] ∧ Z.Warmed39 U.vm ∧ U.heap = h0) (fun _ _ _ _ _ => True) (fun _ U o U' => ∃ v L, o = .returned v ∧ Q9 Z a1 p1 h0 n0 v U'.heap L ∧ FrameEnd U o U' L ({ frames := 0, cells := 0, slots := 0, locals := 0 } : Room).cells ({ frames := 0, cells := 0, slots := 0, locals := 0 } : Room).slots) := by
  refine MetFree.of_bodySF (plainFor_of_name pn_18) hisR ?_
  intro p e s m args below meth c s₁ Bd hml0 hP hK
  obtain ⟨rfl, hZ, hh⟩ := hP
  have hx := Bd.exec
  have hby := Bd.bytes
  have hml : c.maxLocals = 2 := hml0
  have hown : s.vm.findClass "java/util/OptionalInt" = some m.cls := findClass_of_methodNamed Bd.named
  have hnm := (name_of_methodNamed Bd.named Bd.method).1
  have X0 : Stand p l e ({ frames := 0, cells := 0, slots := 0, locals := 0 } : Room) s m #[(.ref a1), (.int p1)] below meth c s₁ [] 0 0 := Stand.of_body Bd
  have e0 : s₁.heap = h0 := by rw [← hh, Bd.state]; rfl
  have N0 := Fr.nil n0
  refine own_go (B := s₁.setTop (mkF m 0 #[.val (.ref a1), .val (.int p1)] [])) (fun t k => castTop (ef_9 m a1 p1) k) ?_
  refine own_go (B := s₁.setTop (mkF m 1 #[.val (.ref a1), .val (.int p1)] [(.ref a1)])) (fun t k => ?_) ?_
  · show Steps p.tables e below (s₁.setTop (mkF m 0 #[.val (.ref a1), .val (.int p1)] [])) _
    refine XS.aloadN X0.here hx rfl (hb hby d9_0) rfl rfl ?_
    show Steps p.tables e below (s₁.setTop (mkF m 1 #[.val (.ref a1), .val (.int p1)] [(.ref a1)])) _
    exact k
  obtain ⟨T9, X9, e9, st9⟩ := getF X0 hx hZ hown (host := "") (Or.inl (hw _ (List.mem_of_getElem? (i := 51) rfl))) Via.refl e0 F_ip (g := (mkF m 1 #[.val (.ref a1), .val (.int p1)] [(.ref a1)])) rfl rfl (hb hby d9_1)
  refine own_go st9 ?_
  refine own_go (B := T9.setTop (mkF m 15 #[.val (.ref a1), .val (.int p1)] [(.int p1)])) (fun t k => ?_) ?_
  · show Steps p.tables e below (T9.setTop (mkF m 4 #[.val (.ref a1), .val (.int p1)] [(.int (0 : Int32))])) _
    refine XS.ifYes X9.here hx rfl (pc0 := 4) (pc' := 14) rfl (hb hby d9_4) rfl ((if0 _ _).trans (teq (by decide : (0 : Int32) = (0 : Int32))).1) (by decide) (by decide) ?_
    show Steps p.tables e below (T9.setTop (mkF m 14 #[.val (.ref a1), .val (.int p1)] [])) _
    refine XS.iloadN X9.here hx rfl (hb hby d9_14) rfl ?_
    show Steps p.tables e below (T9.setTop (mkF m 15 #[.val (.ref a1), .val (.int p1)] [(.int p1)])) _
    exact k
  obtain ⟨fs, hr, hrun, hended, hW, hsame⟩ := X9.leave (v := some (.int p1)) (fun h => by rw [Bd.returns] at h; cases h)
  refine ⟨_, _, ?_, hrun, hended, _, _, rfl, ?_, ⟨_, rfl⟩, hW, hsame.mono (by decide) (by decide)⟩
  · exact retI X9 hx Bd.returns (hb hby d9_15) hr
  · show Q9 Z a1 p1 h0 n0 _ T9.heap _
    rw [e9]
    exact ⟨rfl, N0, rfl⟩
theorem pn_33 : plainName "com/example/strict_dht/strictdht/sim/Simulation$Scenario" = true := by first | (simp [plainName, overriddenIn]; done) | decide +kernel
theorem d7_0 : decode prog_66_method_10_code 0 = .ok (.iload_n 0, 1) := by decide +kernel
theorem d7_1 : decode prog_66_method_10_code 1 = .ok (.i2l, 1) := by decide +kernel
theorem d7_2 : decode prog_66_method_10_code 2 = .ok (.iload_n 1, 1) := by decide +kernel
theorem d7_3 : decode prog_66_method_10_code 3 = .ok (.i2l, 1) := by decide +kernel
theorem d7_4 : decode prog_66_method_10_code 4 = .ok (.lmul, 1) := by decide +kernel
theorem d7_5 : decode prog_66_method_10_code 5 = .ok (.ldc2_w 107, 3) := by decide +kernel
theorem d7_8 : decode prog_66_method_10_code 8 = .ok (.ldiv, 1) := by decide +kernel
theorem d7_9 : decode prog_66_method_10_code 9 = .ok (.l2i, 1) := by decide +kernel
theorem d7_10 : decode prog_66_method_10_code 10 = .ok (.ireturn, 1) := by decide +kernel
theorem ef_7 (m : MethodId) (p1 : Int32) (p2 : Int32) : entryFrame m #[(.int p1), (.int p2)] 2 = mkF m 0 #[.val (.int p1), .val (.int p2)] [] := by first | (simp [entryFrame, mkF, argsToLocals, Value.category]; done) | rfl
def Q7 (Z : State) (p1 : Int32) (p2 : Int32) (h0 : Heap) (n0 : Nat) (v : Option Value) (h : Heap) (L : List Loc) : Prop := v = some (.int ((((p1.toInt64) * (p2.toInt64)) / (100 : Int64)).toInt32)) ∧ Fr n0 L ∧ h = h0
set_option maxRecDepth 65536 in
set_option maxHeartbeats 40000000 in
theorem rm7 (l : Launch) (Z : State) (a0 : Array Value) (hw : ∀ d ∈ tables_1, d.before a0 Z = true) (ws : List Jvm.Cond) (p1 : Int32) (p2 : Int32) (h0 : Heap) (n0 : Nat) (Z0 : n0 ≤ h0.size) :
    MetFree l (⟨"com/example/strict_dht/strictdht/sim/Simulation$Scenario", "stopping", "(II)I"⟩ : MethodName) (head1 (Jvm.Cond.code (⟨"com/example/strict_dht/strictdht/sim/Simulation$Scenario", "stopping", "(II)I"⟩ : MethodName) prog_66_method_10_code 2 (some .int) :: ws) ({ frames := 0, cells := 0, slots := 0, locals := 0 } : Room)) (fun a U => a = #[(.int p1), (.int p2)] ∧ Z.Warmed39 U.vm ∧ U.heap = h0) (fun _ _ _ _ _ => True) (fun _ U o U' => ∃ v L, o = .returned v ∧ Q7 Z p1 p2 h0 n0 v U'.heap L ∧ FrameEnd U o U' L ({ frames := 0, cells := 0, slots := 0, locals := 0 } : Room).cells ({ frames := 0, cells := 0, slots := 0, locals := 0 } : Room).slots) := by
  refine MetFree.of_bodySF (plainFor_of_name pn_33) hisR ?_
  intro p e s m args below meth c s₁ Bd hml0 hP hK
  obtain ⟨rfl, hZ, hh⟩ := hP
  have hx := Bd.exec
  have hby := Bd.bytes
  have hml : c.maxLocals = 2 := hml0
  have hown : s.vm.findClass "com/example/strict_dht/strictdht/sim/Simulation$Scenario" = some m.cls := findClass_of_methodNamed Bd.named
  have hnm := (name_of_methodNamed Bd.named Bd.method).1
  have X0 : Stand p l e ({ frames := 0, cells := 0, slots := 0, locals := 0 } : Room) s m #[(.int p1), (.int p2)] below meth c s₁ [] 0 0 := Stand.of_body Bd
  have e0 : s₁.heap = h0 := by rw [← hh, Bd.state]; rfl
  have N0 := Fr.nil n0
  refine own_go (B := s₁.setTop (mkF m 0 #[.val (.int p1), .val (.int p2)] [])) (fun t k => castTop (ef_7 m p1 p2) k) ?_
  refine own_go (B := s₁.setTop (mkF m 10 #[.val (.int p1), .val (.int p2)] [(.int ((((p1.toInt64) * (p2.toInt64)) / (100 : Int64)).toInt32))])) (fun t k => ?_) ?_
  · show Steps p.tables e below (s₁.setTop (mkF m 0 #[.val (.int p1), .val (.int p2)] [])) _
    refine XS.iloadN X0.here hx rfl (hb hby d7_0) rfl ?_
    show Steps p.tables e below (s₁.setTop (mkF m 1 #[.val (.int p1), .val (.int p2)] [(.int p1)])) _
    refine XS.i2l X0.here hx rfl (hb hby d7_1) rfl ?_
    show Steps p.tables e below (s₁.setTop (mkF m 2 #[.val (.int p1), .val (.int p2)] [(.long (p1.toInt64))])) _
    refine XS.iloadN X0.here hx rfl (hb hby d7_2) rfl ?_
    show Steps p.tables e below (s₁.setTop (mkF m 3 #[.val (.int p1), .val (.int p2)] [(.int p2), (.long (p1.toInt64))])) _
    refine XS.i2l X0.here hx rfl (hb hby d7_3) rfl ?_
    show Steps p.tables e below (s₁.setTop (mkF m 4 #[.val (.int p1), .val (.int p2)] [(.long (p2.toInt64)), (.long (p1.toInt64))])) _
    refine XS.lmul X0.here hx rfl (hb hby d7_4) rfl ?_
    show Steps p.tables e below (s₁.setTop (mkF m 5 #[.val (.int p1), .val (.int p2)] [(.long ((p1.toInt64) * (p2.toInt64)))])) _
    refine X0.ldc2Long hx hown (mvT hZ (hw _ (List.mem_of_getElem? (i := 41) rfl))) (g := (mkF m 5 #[.val (.int p1), .val (.int p2)] [(.long ((p1.toInt64) * (p2.toInt64)))])) rfl (hb hby d7_5) _ ?_
    show Steps p.tables e below (s₁.setTop (mkF m 8 #[.val (.int p1), .val (.int p2)] [(.long (100 : Int64)), (.long ((p1.toInt64) * (p2.toInt64)))])) _
    refine XS.ldiv X0.here hx rfl (hb hby d7_8) rfl (by decide) ?_
    show Steps p.tables e below (s₁.setTop (mkF m 9 #[.val (.int p1), .val (.int p2)] [(.long (((p1.toInt64) * (p2.toInt64)) / (100 : Int64)))])) _
    refine XS.l2i X0.here hx rfl (hb hby d7_9) rfl ?_
    show Steps p.tables e below (s₁.setTop (mkF m 10 #[.val (.int p1), .val (.int p2)] [(.int ((((p1.toInt64) * (p2.toInt64)) / (100 : Int64)).toInt32))])) _
    exact k
  obtain ⟨fs, hr, hrun, hended, hW, hsame⟩ := X0.leave (v := some (.int ((((p1.toInt64) * (p2.toInt64)) / (100 : Int64)).toInt32))) (fun h => by rw [Bd.returns] at h; cases h)
  refine ⟨_, _, ?_, hrun, hended, _, _, rfl, ?_, ⟨_, rfl⟩, hW, hsame.mono (by decide) (by decide)⟩
  · exact retI X0 hx Bd.returns (hb hby d7_10) hr
  · show Q7 Z p1 p2 h0 n0 _ s₁.heap _
    rw [e0]
    exact ⟨rfl, N0, rfl⟩
theorem pd_0 : parseMethodDescriptor "()V" = some ⟨[], none⟩ := by decide +kernel
theorem pd_1 : parseMethodDescriptor "(Ljava/lang/Object;Ljava/lang/String;)Ljava/lang/Object;" = some ⟨[(.object "java/lang/Object"), (.object "java/lang/String")], some (.object "java/lang/Object")⟩ := by decide +kernel
theorem pd_2 : parseMethodDescriptor "(II)I" = some ⟨[.int, .int], some .int⟩ := by decide +kernel
theorem pd_3 : parseMethodDescriptor "(I)I" = some ⟨[.int], some .int⟩ := by decide +kernel
theorem d3_0 : decode prog_66_method_1_code 0 = .ok (.aload_n 0, 1) := by decide +kernel
theorem d3_1 : decode prog_66_method_1_code 1 = .ok (.invokespecial 3, 3) := by decide +kernel
theorem d3_4 : decode prog_66_method_1_code 4 = .ok (.aload 7, 2) := by decide +kernel
theorem d3_6 : decode prog_66_method_1_code 6 = .ok (.ldc 9, 2) := by decide +kernel
theorem d3_8 : decode prog_66_method_1_code 8 = .ok (.invokestatic 11, 3) := by decide +kernel
theorem d3_11 : decode prog_66_method_1_code 11 = .ok (.pop, 1) := by decide +kernel
theorem d3_12 : decode prog_66_method_1_code 12 = .ok (.aload 9, 2) := by decide +kernel
theorem d3_14 : decode prog_66_method_1_code 14 = .ok (.ldc 17, 2) := by decide +kernel
theorem d3_16 : decode prog_66_method_1_code 16 = .ok (.invokestatic 11, 3) := by decide +kernel
theorem d3_19 : decode prog_66_method_1_code 19 = .ok (.pop, 1) := by decide +kernel
theorem d3_20 : decode prog_66_method_1_code 20 = .ok (.iload_n 1, 1) := by decide +kernel
theorem d3_21 : decode prog_66_method_1_code 21 = .ok (.ldc 19, 2) := by decide +kernel
theorem d3_23 : decode prog_66_method_1_code 23 = .ok (.if_icmp .gt 13, 3) := by decide +kernel
theorem d3_26 : decode prog_66_method_1_code 26 = .ok (.iload_n 2, 1) := by decide +kernel
theorem d3_27 : decode prog_66_method_1_code 27 = .ok (.iconst 1, 1) := by decide +kernel
theorem d3_28 : decode prog_66_method_1_code 28 = .ok (.if_icmp .lt 8, 3) := by decide +kernel
theorem d3_31 : decode prog_66_method_1_code 31 = .ok (.iload_n 2, 1) := by decide +kernel
theorem d3_32 : decode prog_66_method_1_code 32 = .ok (.iload_n 1, 1) := by decide +kernel
theorem d3_33 : decode prog_66_method_1_code 33 = .ok (.if_icmp .lt 46, 3) := by decide +kernel
theorem d3_79 : decode prog_66_method_1_code 79 = .ok (.iload 5, 2) := by decide +kernel
theorem d3_81 : decode prog_66_method_1_code 81 = .ok (.ifCond .lt 15, 3) := by decide +kernel
theorem d3_84 : decode prog_66_method_1_code 84 = .ok (.iload 6, 2) := by decide +kernel
theorem d3_86 : decode prog_66_method_1_code 86 = .ok (.ifCond .lt 10, 3) := by decide +kernel
theorem d3_89 : decode prog_66_method_1_code 89 = .ok (.iload 6, 2) := by decide +kernel
theorem d3_91 : decode prog_66_method_1_code 91 = .ok (.bipush 100, 2) := by decide +kernel
theorem d3_93 : decode prog_66_method_1_code 93 = .ok (.if_icmp .le 40, 3) := by decide +kernel
theorem d3_133 : decode prog_66_method_1_code 133 = .ok (.iload_n 1, 1) := by decide +kernel
theorem d3_134 : decode prog_66_method_1_code 134 = .ok (.iload 6, 2) := by decide +kernel
theorem d3_136 : decode prog_66_method_1_code 136 = .ok (.invokestatic 43, 3) := by decide +kernel
theorem d3_139 : decode prog_66_method_1_code 139 = .ok (.istore 10, 2) := by decide +kernel
theorem d3_141 : decode prog_66_method_1_code 141 = .ok (.iconst 0, 1) := by decide +kernel
theorem d3_142 : decode prog_66_method_1_code 142 = .ok (.iload_n 1, 1) := by decide +kernel
theorem d3_143 : decode prog_66_method_1_code 143 = .ok (.iconst 2, 1) := by decide +kernel
theorem d3_144 : decode prog_66_method_1_code 144 = .ok (.iload_n 2, 1) := by decide +kernel
theorem d3_145 : decode prog_66_method_1_code 145 = .ok (.imul, 1) := by decide +kernel
theorem d3_146 : decode prog_66_method_1_code 146 = .ok (.isub, 1) := by decide +kernel
theorem d3_147 : decode prog_66_method_1_code 147 = .ok (.invokestatic 49, 3) := by decide +kernel
theorem d3_150 : decode prog_66_method_1_code 150 = .ok (.istore 11, 2) := by decide +kernel
theorem d3_152 : decode prog_66_method_1_code 152 = .ok (.iload 10, 2) := by decide +kernel
theorem d3_154 : decode prog_66_method_1_code 154 = .ok (.iload 11, 2) := by decide +kernel
theorem d3_156 : decode prog_66_method_1_code 156 = .ok (.if_icmp .le 62, 3) := by decide +kernel
theorem d3_218 : decode prog_66_method_1_code 218 = .ok (.aload 7, 2) := by decide +kernel
theorem d3_220 : decode prog_66_method_1_code 220 = .ok (.iconst 1, 1) := by decide +kernel
theorem d3_221 : decode prog_66_method_1_code 221 = .ok (.invokevirtual 56, 3) := by decide +kernel
theorem d3_224 : decode prog_66_method_1_code 224 = .ok (.iconst 1, 1) := by decide +kernel
theorem d3_225 : decode prog_66_method_1_code 225 = .ok (.if_icmp .ge 35, 3) := by decide +kernel
theorem d3_260 : decode prog_66_method_1_code 260 = .ok (.aload 9, 2) := by decide +kernel
theorem d3_262 : decode prog_66_method_1_code 262 = .ok (.iconst 0, 1) := by decide +kernel
theorem d3_263 : decode prog_66_method_1_code 263 = .ok (.invokevirtual 56, 3) := by decide +kernel
theorem d3_266 : decode prog_66_method_1_code 266 = .ok (.ifCond .ge 35, 3) := by decide +kernel
theorem d3_301 : decode prog_66_method_1_code 301 = .ok (.aload_n 0, 1) := by decide +kernel
theorem d3_302 : decode prog_66_method_1_code 302 = .ok (.iload_n 1, 1) := by decide +kernel
theorem d3_303 : decode prog_66_method_1_code 303 = .ok (.putfield 70, 3) := by decide +kernel
theorem d3_306 : decode prog_66_method_1_code 306 = .ok (.aload_n 0, 1) := by decide +kernel
theorem d3_307 : decode prog_66_method_1_code 307 = .ok (.iload_n 2, 1) := by decide +kernel
theorem d3_308 : decode prog_66_method_1_code 308 = .ok (.putfield 74, 3) := by decide +kernel
theorem d3_311 : decode prog_66_method_1_code 311 = .ok (.aload_n 0, 1) := by decide +kernel
theorem d3_312 : decode prog_66_method_1_code 312 = .ok (.lload_n 3, 1) := by decide +kernel
theorem d3_313 : decode prog_66_method_1_code 313 = .ok (.putfield 77, 3) := by decide +kernel
theorem d3_316 : decode prog_66_method_1_code 316 = .ok (.aload_n 0, 1) := by decide +kernel
theorem d3_317 : decode prog_66_method_1_code 317 = .ok (.iload 5, 2) := by decide +kernel
theorem d3_319 : decode prog_66_method_1_code 319 = .ok (.putfield 81, 3) := by decide +kernel
theorem d3_322 : decode prog_66_method_1_code 322 = .ok (.aload_n 0, 1) := by decide +kernel
theorem d3_323 : decode prog_66_method_1_code 323 = .ok (.iload 6, 2) := by decide +kernel
theorem d3_325 : decode prog_66_method_1_code 325 = .ok (.putfield 84, 3) := by decide +kernel
theorem d3_328 : decode prog_66_method_1_code 328 = .ok (.aload_n 0, 1) := by decide +kernel
theorem d3_329 : decode prog_66_method_1_code 329 = .ok (.aload 7, 2) := by decide +kernel
theorem d3_331 : decode prog_66_method_1_code 331 = .ok (.putfield 87, 3) := by decide +kernel
theorem d3_334 : decode prog_66_method_1_code 334 = .ok (.aload_n 0, 1) := by decide +kernel
theorem d3_335 : decode prog_66_method_1_code 335 = .ok (.iload 8, 2) := by decide +kernel
theorem d3_337 : decode prog_66_method_1_code 337 = .ok (.putfield 90, 3) := by decide +kernel
theorem d3_340 : decode prog_66_method_1_code 340 = .ok (.aload_n 0, 1) := by decide +kernel
theorem d3_341 : decode prog_66_method_1_code 341 = .ok (.aload 9, 2) := by decide +kernel
theorem d3_343 : decode prog_66_method_1_code 343 = .ok (.putfield 94, 3) := by decide +kernel
theorem d3_346 : decode prog_66_method_1_code 346 = .ok (.return_, 1) := by decide +kernel
theorem ef_3 (m : MethodId) (a1 : Addr) (p1 : Int32) (p2 : Int32) (q3 : Int64) (p5 : Int32) (w_EMPTY : Addr) : entryFrame m #[(.ref a1), (.int p1), (.int p2), (.long q3), (.int (0 : Int32)), (.int p5), (.ref w_EMPTY), (.int (0 : Int32)), (.ref w_EMPTY)] 13 = mkF m 0 #[.val (.ref a1), .val (.int p1), .val (.int p2), .val (.long q3), .second, .val (.int (0 : Int32)), .val (.int p5), .val (.ref w_EMPTY), .val (.int (0 : Int32)), .val (.ref w_EMPTY), .unset, .unset, .unset] [] := by first | (simp [entryFrame, mkF, argsToLocals, Value.category]; done) | rfl
def Q3 (Z : State) (a1 : Addr) (p1 : Int32) (p2 : Int32) (q3 : Int64) (p5 : Int32) (w_EMPTY : Addr) (h0 : Heap) (n0 : Nat) (v : Option Value) (h : Heap) (L : List Loc) : Prop := v = none ∧ Fr n0 L ∧ Keep h0 h [a1] ∧ Exa Z h a1 "com/example/strict_dht/strictdht/sim/Simulation$Scenario" ∧ Fld Z h a1 "com/example/strict_dht/strictdht/sim/Simulation$Scenario" "nodes" "I" (.int p1) ∧ Fld Z h a1 "com/example/strict_dht/strictdht/sim/Simulation$Scenario" "keys" "I" (.int p2) ∧ Fld Z h a1 "com/example/strict_dht/strictdht/sim/Simulation$Scenario" "seed" "J" (.long q3) ∧ Fld Z h a1 "com/example/strict_dht/strictdht/sim/Simulation$Scenario" "minutes" "I" (.int (0 : Int32)) ∧ Fld Z h a1 "com/example/strict_dht/strictdht/sim/Simulation$Scenario" "kill" "I" (.int p5) ∧ Fld Z h a1 "com/example/strict_dht/strictdht/sim/Simulation$Scenario" "searchEvery" "Ljava/util/OptionalInt;" (.ref w_EMPTY) ∧ Fld Z h a1 "com/example/strict_dht/strictdht/sim/Simulation$Scenario" "churn" "Z" (.int (0 : Int32)) ∧ Fld Z h a1 "com/example/strict_dht/strictdht/sim/Simulation$Scenario" "publishersLeave" "Ljava/util/OptionalInt;" (.ref w_EMPTY)
set_option maxRecDepth 65536 in
set_option maxHeartbeats 40000000 in
theorem rm3 (l : Launch) (Z : State) (a0 : Array Value) (hw : ∀ d ∈ tables_1, d.before a0 Z = true) (ws : List Jvm.Cond) (a1 : Addr) (p1 : Int32) (p2 : Int32) (q3 : Int64) (p5 : Int32) (w_EMPTY : Addr) (h0 : Heap) (n0 : Nat) (Z0 : n0 ≤ h0.size) (E_a1 : Exa Z h0 a1 "com/example/strict_dht/strictdht/sim/Simulation$Scenario") (F_nodes_a1 : Fld Z h0 a1 "com/example/strict_dht/strictdht/sim/Simulation$Scenario" "nodes" "I" (.int (0 : Int32))) (F_keys_a1 : Fld Z h0 a1 "com/example/strict_dht/strictdht/sim/Simulation$Scenario" "keys" "I" (.int (0 : Int32))) (F_seed_a1 : Fld Z h0 a1 "com/example/strict_dht/strictdht/sim/Simulation$Scenario" "seed" "J" (.long (0 : Int64))) (F_minutes_a1 : Fld Z h0 a1 "com/example/strict_dht/strictdht/sim/Simulation$Scenario" "minutes" "I" (.int (0 : Int32))) (F_kill_a1 : Fld Z h0 a1 "com/example/strict_dht/strictdht/sim/Simulation$Scenario" "kill" "I" (.int (0 : Int32))) (F_searchEvery_a1 : Fld Z h0 a1 "com/example/strict_dht/strictdht/sim/Simulation$Scenario" "searchEvery" "Ljava/util/OptionalInt;" .null) (F_churn_a1 : Fld Z h0 a1 "com/example/strict_dht/strictdht/sim/Simulation$Scenario" "churn" "Z" (.int (0 : Int32))) (F_publishersLeave_a1 : Fld Z h0 a1 "com/example/strict_dht/strictdht/sim/Simulation$Scenario" "publishersLeave" "Ljava/util/OptionalInt;" .null) (g_a1 : n0 ≤ a1) (E_EMPTY : Exa Z h0 w_EMPTY "java/util/OptionalInt") (F_EMPTY_isPresent : Fld Z h0 w_EMPTY "java/util/OptionalInt" "isPresent" "Z" (.int (0 : Int32))) (F_EMPTY_value : Fld Z h0 w_EMPTY "java/util/OptionalInt" "value" "I" (.int (0 : Int32))) (k1 : ¬ (16777214 : Int32) < p1) (k2 : ¬ p2 < (1 : Int32)) (k3 : p2 < p1) (k5 : ¬ p5 < (0 : Int32)) (k6 : ¬ (100 : Int32) < p5) (k7 : ¬ (if (0 : Int32) < (p1 - ((2 : Int32) * p2)) then (p1 - ((2 : Int32) * p2)) else (0 : Int32)) < ((((p1.toInt64) * (p5.toInt64)) / (100 : Int64)).toInt32)) :
    MetFree l (⟨"com/example/strict_dht/strictdht/sim/Simulation$Scenario", "<init>", "(IIJIILjava/util/OptionalInt;ZLjava/util/OptionalInt;)V"⟩ : MethodName) (head1 (Jvm.Cond.code (⟨"com/example/strict_dht/strictdht/sim/Simulation$Scenario", "<init>", "(IIJIILjava/util/OptionalInt;ZLjava/util/OptionalInt;)V"⟩ : MethodName) prog_66_method_1_code 13 none :: ws) ({ frames := 2, cells := 4, slots := 112, locals := 24 } : Room)) (fun a U => a = #[(.ref a1), (.int p1), (.int p2), (.long q3), (.int (0 : Int32)), (.int p5), (.ref w_EMPTY), (.int (0 : Int32)), (.ref w_EMPTY)] ∧ Z.Warmed39 U.vm ∧ U.heap = h0) (fun _ _ _ _ _ => True) (fun _ U o U' => ∃ v L, o = .returned v ∧ Q3 Z a1 p1 p2 q3 p5 w_EMPTY h0 n0 v U'.heap L ∧ ReturnedEndW U o U' L ({ frames := 2, cells := 4, slots := 112, locals := 24 } : Room).cells ({ frames := 2, cells := 4, slots := 112, locals := 24 } : Room).slots) := by
  refine MetFree.of_bodySF (plainFor_of_name pn_33) hisR ?_
  intro p e s m args below meth c s₁ Bd hml0 hP hK
  obtain ⟨rfl, hZ, hh⟩ := hP
  have hx := Bd.exec
  have hby := Bd.bytes
  have hml : c.maxLocals = 13 := hml0
  have hown : s.vm.findClass "com/example/strict_dht/strictdht/sim/Simulation$Scenario" = some m.cls := findClass_of_methodNamed Bd.named
  have hnm := (name_of_methodNamed Bd.named Bd.method).1
  have X0 : Stand p l e ({ frames := 2, cells := 4, slots := 112, locals := 24 } : Room) s m #[(.ref a1), (.int p1), (.int p2), (.long q3), (.int (0 : Int32)), (.int p5), (.ref w_EMPTY), (.int (0 : Int32)), (.ref w_EMPTY)] below meth c s₁ [] 0 0 := Stand.of_body Bd
  have e0 : s₁.heap = h0 := by rw [← hh, Bd.state]; rfl
  have N0 := Fr.nil n0
  refine own_go (B := s₁.setTop (mkF m 0 #[.val (.ref a1), .val (.int p1), .val (.int p2), .val (.long q3), .second, .val (.int (0 : Int32)), .val (.int p5), .val (.ref w_EMPTY), .val (.int (0 : Int32)), .val (.ref w_EMPTY), .unset, .unset, .unset] [])) (fun t k => castTop (ef_3 m a1 p1 p2 q3 p5 w_EMPTY) k) ?_
  refine own_go (B := s₁.setTop (mkF m 1 #[.val (.ref a1), .val (.int p1), .val (.int p2), .val (.long q3), .second, .val (.int (0 : Int32)), .val (.int p5), .val (.ref w_EMPTY), .val (.int (0 : Int32)), .val (.ref w_EMPTY), .unset, .unset, .unset] [(.ref a1)])) (fun t k => ?_) ?_
  · show Steps p.tables e below (s₁.setTop (mkF m 0 #[.val (.ref a1), .val (.int p1), .val (.int p2), .val (.long q3), .second, .val (.int (0 : Int32)), .val (.int p5), .val (.ref w_EMPTY), .val (.int (0 : Int32)), .val (.ref w_EMPTY), .unset, .unset, .unset] [])) _
    refine XS.aloadN X0.here hx rfl (hb hby d3_0) rfl rfl ?_
    show Steps p.tables e below (s₁.setTop (mkF m 1 #[.val (.ref a1), .val (.int p1), .val (.int p2), .val (.long q3), .second, .val (.int (0 : Int32)), .val (.int p5), .val (.ref w_EMPTY), .val (.int (0 : Int32)), .val (.ref w_EMPTY), .unset, .unset, .unset] [(.ref a1)])) _
    exact k
  obtain ⟨_, _, ⟨T12, L12, k12, n12⟩, -, X12, ⟨Lc12, hQ12, l12, y12, z12⟩, st12⟩ := X0.specialBack hx (y := (⟨"java/lang/Record", "<init>", "()V"⟩ : MethodName)) rfl hown (mvT hZ (hw _ (List.mem_of_getElem? (i := 16) rfl))) (mvT hZ (hw _ (List.mem_of_getElem? (i := 17) rfl))) (mvT hZ (hw _ (List.mem_of_getElem? (i := 20) rfl))) (by decide) (backOf (W := 0) (rm4 l Z a0 hw [] a1 h0 n0 Z0 ) hZ (hw _ (List.mem_of_getElem? (i := 20) rfl)) (hw _ (List.mem_of_getElem? (i := 19) rfl)) (by decide) (by decide)) (g := (mkF m 1 #[.val (.ref a1), .val (.int p1), .val (.int p2), .val (.long q3), .second, .val (.int (0 : Int32)), .val (.int p5), .val (.ref w_EMPTY), .val (.int (0 : Int32)), .val (.ref w_EMPTY), .unset, .unset, .unset] [(.ref a1)])) rfl (by rw [hml]; rfl) (Steps.refl _) (a := a1) (argsL := []) (rest := []) (lenOf pd_0 rfl) rfl (by show 2 * 0 + _ ≤ _; exact Nat.le_of_eq rfl) (hb hby d3_1) (fun _ _ => ⟨rfl, e0, (by decide : 0 + 0 ≤ _), (by decide : 0 + 0 ≤ _)⟩)
  dsimp only [Pt.U, Pt.locs, Pt.cells, Pt.slots] at X12 l12 y12 z12 st12 hQ12
  subst l12 y12 z12
  obtain ⟨rfl, M12, q12_0⟩ := hQ12
  have N12 := Fr.app N0 M12
  refine own_go (fun t k => st12.trans k) ?_
  refine own_go (B := T12.setTop (mkF m 6 #[.val (.ref a1), .val (.int p1), .val (.int p2), .val (.long q3), .second, .val (.int (0 : Int32)), .val (.int p5), .val (.ref w_EMPTY), .val (.int (0 : Int32)), .val (.ref w_EMPTY), .unset, .unset, .unset] [(.ref w_EMPTY)])) (fun t k => ?_) ?_
  · show Steps p.tables e below (T12.setTop (mkF m 4 #[.val (.ref a1), .val (.int p1), .val (.int p2), .val (.long q3), .second, .val (.int (0 : Int32)), .val (.int p5), .val (.ref w_EMPTY), .val (.int (0 : Int32)), .val (.ref w_EMPTY), .unset, .unset, .unset] [])) _
    refine XS.aload X12.here hx rfl (hb hby d3_4) rfl rfl ?_
    show Steps p.tables e below (T12.setTop (mkF m 6 #[.val (.ref a1), .val (.int p1), .val (.int p2), .val (.long q3), .second, .val (.int (0 : Int32)), .val (.int p5), .val (.ref w_EMPTY), .val (.int (0 : Int32)), .val (.ref w_EMPTY), .unset, .unset, .unset] [(.ref w_EMPTY)])) _
    exact k
  have hS13a : s.Since s.vm h0.size := own_since _ _
  obtain ⟨b13, T13, h13, kk13, X13, e13, E13, hS13, hk13, hZ13, ho13, st13⟩ := ldcS (s := s) (show Stand p l e _ (s.setVm s.vm) m _ below meth c _ _ _ _ from X12) hx hZ hown (hw _ (List.mem_of_getElem? (i := 24) rfl)) (own_strA hw) q12_0 hS13a (Nat.le_refl _) (g := (mkF m 6 #[.val (.ref a1), .val (.int p1), .val (.int p2), .val (.long q3), .second, .val (.int (0 : Int32)), .val (.int p5), .val (.ref w_EMPTY), .val (.int (0 : Int32)), .val (.ref w_EMPTY), .unset, .unset, .unset] [(.ref w_EMPTY)])) rfl (hb hby d3_6) (n := 44) (by decide) (by decide) (by decide) (by decide)
  refine own_go st13 ?_
  have K13 : Keep h0 h13 [a1] := Keep.ext (Keep.refl h0 [a1]) E13
  obtain ⟨_, _, ⟨T14, L14, k14, n14⟩, -, X14, ⟨Lc14, hQ14, l14, y14, z14⟩, st14⟩ := Jvm.LawKit.callS X13 hx (y := (⟨"java/util/Objects", "requireNonNull", "(Ljava/lang/Object;Ljava/lang/String;)Ljava/lang/Object;"⟩ : MethodName)) ho13 (mvT hZ13 (hw _ (List.mem_of_getElem? (i := 32) rfl))) (mvT hZ13 (hw _ (List.mem_of_getElem? (i := 33) rfl))) (mvT hZ13 (hw _ (List.mem_of_getElem? (i := 34) rfl))) (mvT hZ13 (hw _ (List.mem_of_getElem? (i := 35) rfl))) (by decide) (backOf (W := 0) (rm6 l Z a0 hw [] w_EMPTY b13 h13 n0 (Nat.le_trans Z0 E13.1) ) hZ13 (hw _ (List.mem_of_getElem? (i := 35) rfl)) (hw _ (List.mem_of_getElem? (i := 34) rfl)) (by decide) (by decide)) (g := (mkF m 8 #[.val (.ref a1), .val (.int p1), .val (.int p2), .val (.long q3), .second, .val (.int (0 : Int32)), .val (.int p5), .val (.ref w_EMPTY), .val (.int (0 : Int32)), .val (.ref w_EMPTY), .unset, .unset, .unset] [(.ref b13), (.ref w_EMPTY)])) rfl (by rw [hml]; rfl) (argsL := [(.ref w_EMPTY), (.ref b13)]) (rest := []) (lenOf pd_1 rfl) rfl (by show 2 * 0 + _ ≤ _; exact Nat.le_of_eq rfl) (hb hby d3_8) (fun _ _ => ⟨rfl, e13, (by decide : 2 + 0 ≤ _), (by decide : 48 + 0 ≤ _)⟩)
  dsimp only [Pt.U, Pt.locs, Pt.cells, Pt.slots] at X14 l14 y14 z14 st14 hQ14
  subst l14 y14 z14
  obtain ⟨rfl, M14, q14_0⟩ := hQ14
  have N14 := Fr.app N12 M14
  refine own_go st14 ?_
  refine own_go (B := T14.setTop (mkF m 14 #[.val (.ref a1), .val (.int p1), .val (.int p2), .val (.long q3), .second, .val (.int (0 : Int32)), .val (.int p5), .val (.ref w_EMPTY), .val (.int (0 : Int32)), .val (.ref w_EMPTY), .unset, .unset, .unset] [(.ref w_EMPTY)])) (fun t k => ?_) ?_
  · show Steps p.tables e below (T14.setTop (mkF m 11 #[.val (.ref a1), .val (.int p1), .val (.int p2), .val (.long q3), .second, .val (.int (0 : Int32)), .val (.int p5), .val (.ref w_EMPTY), .val (.int (0 : Int32)), .val (.ref w_EMPTY), .unset, .unset, .unset] [(.ref w_EMPTY)])) _
    refine XS.pop X14.here hx rfl (hb hby d3_11) rfl rfl ?_
    show Steps p.tables e below (T14.setTop (mkF m 12 #[.val (.ref a1), .val (.int p1), .val (.int p2), .val (.long q3), .second, .val (.int (0 : Int32)), .val (.int p5), .val (.ref w_EMPTY), .val (.int (0 : Int32)), .val (.ref w_EMPTY), .unset, .unset, .unset] [])) _
    refine XS.aload X14.here hx rfl (hb hby d3_12) rfl rfl ?_
    show Steps p.tables e below (T14.setTop (mkF m 14 #[.val (.ref a1), .val (.int p1), .val (.int p2), .val (.long q3), .second, .val (.int (0 : Int32)), .val (.int p5), .val (.ref w_EMPTY), .val (.int (0 : Int32)), .val (.ref w_EMPTY), .unset, .unset, .unset] [(.ref w_EMPTY)])) _
    exact k
  obtain ⟨b15, T15, h15, kk15, X15, e15, E15, hS15, hk15, hZ15, ho15, st15⟩ := ldcS (s := s) X14 hx hZ13 ho13 (hw _ (List.mem_of_getElem? (i := 36) rfl)) (own_strA hw) q14_0 hS13 hk13 (g := (mkF m 14 #[.val (.ref a1), .val (.int p1), .val (.int p2), .val (.long q3), .second, .val (.int (0 : Int32)), .val (.int p5), .val (.ref w_EMPTY), .val (.int (0 : Int32)), .val (.ref w_EMPTY), .unset, .unset, .unset] [(.ref w_EMPTY)])) rfl (hb hby d3_14) (n := 60) (by decide) (by decide) (by decide) (by decide)
  refine own_go st15 ?_
  have K15 : Keep h0 h15 [a1] := Keep.ext K13 E15
  have le17 : h0.size ≤ h15.size := (Nat.le_trans E13.1 E15.1)
  obtain ⟨_, _, ⟨T16, L16, k16, n16⟩, -, X16, ⟨Lc16, hQ16, l16, y16, z16⟩, st16⟩ := Jvm.LawKit.callS X15 hx (y := (⟨"java/util/Objects", "requireNonNull", "(Ljava/lang/Object;Ljava/lang/String;)Ljava/lang/Object;"⟩ : MethodName)) ho15 (mvT hZ15 (hw _ (List.mem_of_getElem? (i := 32) rfl))) (mvT hZ15 (hw _ (List.mem_of_getElem? (i := 33) rfl))) (mvT hZ15 (hw _ (List.mem_of_getElem? (i := 34) rfl))) (mvT hZ15 (hw _ (List.mem_of_getElem? (i := 35) rfl))) (by decide) (backOf (W := 0) (rm6 l Z a0 hw [] w_EMPTY b15 h15 n0 (Nat.le_trans Z0 le17) ) hZ15 (hw _ (List.mem_of_getElem? (i := 35) rfl)) (hw _ (List.mem_of_getElem? (i := 34) rfl)) (by decide) (by decide)) (g := (mkF m 16 #[.val (.ref a1), .val (.int p1), .val (.int p2), .val (.long q3), .second, .val (.int (0 : Int32)), .val (.int p5), .val (.ref w_EMPTY), .val (.int (0 : Int32)), .val (.ref w_EMPTY), .unset, .unset, .unset] [(.ref b15), (.ref w_EMPTY)])) rfl (by rw [hml]; rfl) (argsL := [(.ref w_EMPTY), (.ref b15)]) (rest := []) (lenOf pd_1 rfl) rfl (by show 2 * 0 + _ ≤ _; exact Nat.le_of_eq rfl) (hb hby d3_16) (fun _ _ => ⟨rfl, e15, (by decide : 4 + 0 ≤ _), (by decide : 112 + 0 ≤ _)⟩)
  dsimp only [Pt.U, Pt.locs, Pt.cells, Pt.slots] at X16 l16 y16 z16 st16 hQ16
  subst l16 y16 z16
  obtain ⟨rfl, M16, q16_0⟩ := hQ16
  have N16 := Fr.app N14 M16
  refine own_go st16 ?_
  refine own_go (B := T16.setTop (mkF m 136 #[.val (.ref a1), .val (.int p1), .val (.int p2), .val (.long q3), .second, .val (.int (0 : Int32)), .val (.int p5), .val (.ref w_EMPTY), .val (.int (0 : Int32)), .val (.ref w_EMPTY), .unset, .unset, .unset] [(.int p5), (.int p1)])) (fun t k => ?_) ?_
  · show Steps p.tables e below (T16.setTop (mkF m 19 #[.val (.ref a1), .val (.int p1), .val (.int p2), .val (.long q3), .second, .val (.int (0 : Int32)), .val (.int p5), .val (.ref w_EMPTY), .val (.int (0 : Int32)), .val (.ref w_EMPTY), .unset, .unset, .unset] [(.ref w_EMPTY)])) _
    refine XS.pop X16.here hx rfl (hb hby d3_19) rfl rfl ?_
    show Steps p.tables e below (T16.setTop (mkF m 20 #[.val (.ref a1), .val (.int p1), .val (.int p2), .val (.long q3), .second, .val (.int (0 : Int32)), .val (.int p5), .val (.ref w_EMPTY), .val (.int (0 : Int32)), .val (.ref w_EMPTY), .unset, .unset, .unset] [])) _
    refine XS.iloadN X16.here hx rfl (hb hby d3_20) rfl ?_
    show Steps p.tables e below (T16.setTop (mkF m 21 #[.val (.ref a1), .val (.int p1), .val (.int p2), .val (.long q3), .second, .val (.int (0 : Int32)), .val (.int p5), .val (.ref w_EMPTY), .val (.int (0 : Int32)), .val (.ref w_EMPTY), .unset, .unset, .unset] [(.int p1)])) _
    refine X16.ldcInt hx ho15 (mvT hZ15 (hw _ (List.mem_of_getElem? (i := 37) rfl))) (g := (mkF m 21 #[.val (.ref a1), .val (.int p1), .val (.int p2), .val (.long q3), .second, .val (.int (0 : Int32)), .val (.int p5), .val (.ref w_EMPTY), .val (.int (0 : Int32)), .val (.ref w_EMPTY), .unset, .unset, .unset] [(.int p1)])) rfl (hb hby d3_21) _ ?_
    show Steps p.tables e below (T16.setTop (mkF m 23 #[.val (.ref a1), .val (.int p1), .val (.int p2), .val (.long q3), .second, .val (.int (0 : Int32)), .val (.int p5), .val (.ref w_EMPTY), .val (.int (0 : Int32)), .val (.ref w_EMPTY), .unset, .unset, .unset] [(.int (16777214 : Int32)), (.int p1)])) _
    refine XS.icmpNo X16.here hx rfl (hb hby d3_23) rfl (flt (show ¬ ((16777214 : Int32) < p1) from k1)).2.2.1 ?_
    show Steps p.tables e below (T16.setTop (mkF m 26 #[.val (.ref a1), .val (.int p1), .val (.int p2), .val (.long q3), .second, .val (.int (0 : Int32)), .val (.int p5), .val (.ref w_EMPTY), .val (.int (0 : Int32)), .val (.ref w_EMPTY), .unset, .unset, .unset] [])) _
    refine XS.iloadN X16.here hx rfl (hb hby d3_26) rfl ?_
    show Steps p.tables e below (T16.setTop (mkF m 27 #[.val (.ref a1), .val (.int p1), .val (.int p2), .val (.long q3), .second, .val (.int (0 : Int32)), .val (.int p5), .val (.ref w_EMPTY), .val (.int (0 : Int32)), .val (.ref w_EMPTY), .unset, .unset, .unset] [(.int p2)])) _
    refine XS.iconst X16.here hx rfl (hb hby d3_27) ?_
    show Steps p.tables e below (T16.setTop (mkF m 28 #[.val (.ref a1), .val (.int p1), .val (.int p2), .val (.long q3), .second, .val (.int (0 : Int32)), .val (.int p5), .val (.ref w_EMPTY), .val (.int (0 : Int32)), .val (.ref w_EMPTY), .unset, .unset, .unset] [(.int (1 : Int32)), (.int p2)])) _
    refine XS.icmpNo X16.here hx rfl (hb hby d3_28) rfl (flt (show ¬ (p2 < (1 : Int32)) from k2)).1 ?_
    show Steps p.tables e below (T16.setTop (mkF m 31 #[.val (.ref a1), .val (.int p1), .val (.int p2), .val (.long q3), .second, .val (.int (0 : Int32)), .val (.int p5), .val (.ref w_EMPTY), .val (.int (0 : Int32)), .val (.ref w_EMPTY), .unset, .unset, .unset] [])) _
    refine XS.iloadN X16.here hx rfl (hb hby d3_31) rfl ?_
    show Steps p.tables e below (T16.setTop (mkF m 32 #[.val (.ref a1), .val (.int p1), .val (.int p2), .val (.long q3), .second, .val (.int (0 : Int32)), .val (.int p5), .val (.ref w_EMPTY), .val (.int (0 : Int32)), .val (.ref w_EMPTY), .unset, .unset, .unset] [(.int p2)])) _
    refine XS.iloadN X16.here hx rfl (hb hby d3_32) rfl ?_
    show Steps p.tables e below (T16.setTop (mkF m 33 #[.val (.ref a1), .val (.int p1), .val (.int p2), .val (.long q3), .second, .val (.int (0 : Int32)), .val (.int p5), .val (.ref w_EMPTY), .val (.int (0 : Int32)), .val (.ref w_EMPTY), .unset, .unset, .unset] [(.int p1), (.int p2)])) _
    refine XS.icmpYes X16.here hx rfl (pc0 := 33) (pc' := 79) rfl (hb hby d3_33) rfl (tlt (show p2 < p1 from k3)).1 (by decide) (by decide) ?_
    show Steps p.tables e below (T16.setTop (mkF m 79 #[.val (.ref a1), .val (.int p1), .val (.int p2), .val (.long q3), .second, .val (.int (0 : Int32)), .val (.int p5), .val (.ref w_EMPTY), .val (.int (0 : Int32)), .val (.ref w_EMPTY), .unset, .unset, .unset] [])) _
    refine XS.iload X16.here hx rfl (hb hby d3_79) rfl ?_
    show Steps p.tables e below (T16.setTop (mkF m 81 #[.val (.ref a1), .val (.int p1), .val (.int p2), .val (.long q3), .second, .val (.int (0 : Int32)), .val (.int p5), .val (.ref w_EMPTY), .val (.int (0 : Int32)), .val (.ref w_EMPTY), .unset, .unset, .unset] [(.int (0 : Int32))])) _
    refine XS.ifNo X16.here hx rfl (hb hby d3_81) rfl ((if0 _ _).trans (flt (by decide : ¬ ((0 : Int32) < (0 : Int32)))).1) ?_
    show Steps p.tables e below (T16.setTop (mkF m 84 #[.val (.ref a1), .val (.int p1), .val (.int p2), .val (.long q3), .second, .val (.int (0 : Int32)), .val (.int p5), .val (.ref w_EMPTY), .val (.int (0 : Int32)), .val (.ref w_EMPTY), .unset, .unset, .unset] [])) _
    refine XS.iload X16.here hx rfl (hb hby d3_84) rfl ?_
    show Steps p.tables e below (T16.setTop (mkF m 86 #[.val (.ref a1), .val (.int p1), .val (.int p2), .val (.long q3), .second, .val (.int (0 : Int32)), .val (.int p5), .val (.ref w_EMPTY), .val (.int (0 : Int32)), .val (.ref w_EMPTY), .unset, .unset, .unset] [(.int p5)])) _
    refine XS.ifNo X16.here hx rfl (hb hby d3_86) rfl ((if0 _ _).trans (flt (show ¬ (p5 < (0 : Int32)) from k5)).1) ?_
    show Steps p.tables e below (T16.setTop (mkF m 89 #[.val (.ref a1), .val (.int p1), .val (.int p2), .val (.long q3), .second, .val (.int (0 : Int32)), .val (.int p5), .val (.ref w_EMPTY), .val (.int (0 : Int32)), .val (.ref w_EMPTY), .unset, .unset, .unset] [])) _
    refine XS.iload X16.here hx rfl (hb hby d3_89) rfl ?_
    show Steps p.tables e below (T16.setTop (mkF m 91 #[.val (.ref a1), .val (.int p1), .val (.int p2), .val (.long q3), .second, .val (.int (0 : Int32)), .val (.int p5), .val (.ref w_EMPTY), .val (.int (0 : Int32)), .val (.ref w_EMPTY), .unset, .unset, .unset] [(.int p5)])) _
    refine XS.bipush X16.here hx rfl (hb hby d3_91) ?_
    show Steps p.tables e below (T16.setTop (mkF m 93 #[.val (.ref a1), .val (.int p1), .val (.int p2), .val (.long q3), .second, .val (.int (0 : Int32)), .val (.int p5), .val (.ref w_EMPTY), .val (.int (0 : Int32)), .val (.ref w_EMPTY), .unset, .unset, .unset] [(.int (100 : Int32)), (.int p5)])) _
    refine XS.icmpYes X16.here hx rfl (pc0 := 93) (pc' := 133) rfl (hb hby d3_93) rfl (flt (show ¬ ((100 : Int32) < p5) from k6)).2.2.2 (by decide) (by decide) ?_
    show Steps p.tables e below (T16.setTop (mkF m 133 #[.val (.ref a1), .val (.int p1), .val (.int p2), .val (.long q3), .second, .val (.int (0 : Int32)), .val (.int p5), .val (.ref w_EMPTY), .val (.int (0 : Int32)), .val (.ref w_EMPTY), .unset, .unset, .unset] [])) _
    refine XS.iloadN X16.here hx rfl (hb hby d3_133) rfl ?_
    show Steps p.tables e below (T16.setTop (mkF m 134 #[.val (.ref a1), .val (.int p1), .val (.int p2), .val (.long q3), .second, .val (.int (0 : Int32)), .val (.int p5), .val (.ref w_EMPTY), .val (.int (0 : Int32)), .val (.ref w_EMPTY), .unset, .unset, .unset] [(.int p1)])) _
    refine XS.iload X16.here hx rfl (hb hby d3_134) rfl ?_
    show Steps p.tables e below (T16.setTop (mkF m 136 #[.val (.ref a1), .val (.int p1), .val (.int p2), .val (.long q3), .second, .val (.int (0 : Int32)), .val (.int p5), .val (.ref w_EMPTY), .val (.int (0 : Int32)), .val (.ref w_EMPTY), .unset, .unset, .unset] [(.int p5), (.int p1)])) _
    exact k
  obtain ⟨_, _, ⟨T18, L18, k18, n18⟩, -, X18, ⟨Lc18, hQ18, l18, y18, z18⟩, st18⟩ := Jvm.LawKit.callS X16 hx (y := (⟨"com/example/strict_dht/strictdht/sim/Simulation$Scenario", "stopping", "(II)I"⟩ : MethodName)) ho15 (mvT hZ15 (hw _ (List.mem_of_getElem? (i := 38) rfl))) (mvT hZ15 (hw _ (List.mem_of_getElem? (i := 39) rfl))) (mvT hZ15 (hw _ (List.mem_of_getElem? (i := 4) rfl))) (mvT hZ15 (hw _ (List.mem_of_getElem? (i := 40) rfl))) (by decide) (backOf (W := 0) (rm7 l Z a0 hw [] p1 p5 h15 n0 (Nat.le_trans Z0 le17) ) hZ15 (hw _ (List.mem_of_getElem? (i := 40) rfl)) (hw _ (List.mem_of_getElem? (i := 4) rfl)) (by decide) (by decide)) (g := (mkF m 136 #[.val (.ref a1), .val (.int p1), .val (.int p2), .val (.long q3), .second, .val (.int (0 : Int32)), .val (.int p5), .val (.ref w_EMPTY), .val (.int (0 : Int32)), .val (.ref w_EMPTY), .unset, .unset, .unset] [(.int p5), (.int p1)])) rfl (by rw [hml]; rfl) (argsL := [(.int p1), (.int p5)]) (rest := []) (lenOf pd_2 rfl) rfl (by show 2 * 0 + _ ≤ _; exact Nat.le_of_eq rfl) (hb hby d3_136) (fun _ _ => ⟨rfl, q16_0, (by decide : 4 + 0 ≤ _), (by decide : 112 + 0 ≤ _)⟩)
  dsimp only [Pt.U, Pt.locs, Pt.cells, Pt.slots] at X18 l18 y18 z18 st18 hQ18
  subst l18 y18 z18
  obtain ⟨rfl, M18, q18_0⟩ := hQ18
  have N18 := Fr.app N16 M18
  refine own_go st18 ?_
  refine own_go (B := T18.setTop (mkF m 147 #[.val (.ref a1), .val (.int p1), .val (.int p2), .val (.long q3), .second, .val (.int (0 : Int32)), .val (.int p5), .val (.ref w_EMPTY), .val (.int (0 : Int32)), .val (.ref w_EMPTY), .val (.int ((((p1.toInt64) * (p5.toInt64)) / (100 : Int64)).toInt32)), .unset, .unset] [(.int (p1 - ((2 : Int32) * p2))), (.int (0 : Int32))])) (fun t k => ?_) ?_
  · show Steps p.tables e below (T18.setTop (mkF m 139 #[.val (.ref a1), .val (.int p1), .val (.int p2), .val (.long q3), .second, .val (.int (0 : Int32)), .val (.int p5), .val (.ref w_EMPTY), .val (.int (0 : Int32)), .val (.ref w_EMPTY), .unset, .unset, .unset] [(.int ((((p1.toInt64) * (p5.toInt64)) / (100 : Int64)).toInt32))])) _
    refine XS.istore X18.here hx rfl (hb hby d3_139) rfl (l' := #[.val (.ref a1), .val (.int p1), .val (.int p2), .val (.long q3), .second, .val (.int (0 : Int32)), .val (.int p5), .val (.ref w_EMPTY), .val (.int (0 : Int32)), .val (.ref w_EMPTY), .val (.int ((((p1.toInt64) * (p5.toInt64)) / (100 : Int64)).toInt32)), .unset, .unset]) rfl ?_
    show Steps p.tables e below (T18.setTop (mkF m 141 #[.val (.ref a1), .val (.int p1), .val (.int p2), .val (.long q3), .second, .val (.int (0 : Int32)), .val (.int p5), .val (.ref w_EMPTY), .val (.int (0 : Int32)), .val (.ref w_EMPTY), .val (.int ((((p1.toInt64) * (p5.toInt64)) / (100 : Int64)).toInt32)), .unset, .unset] [])) _
    refine XS.iconst X18.here hx rfl (hb hby d3_141) ?_
    show Steps p.tables e below (T18.setTop (mkF m 142 #[.val (.ref a1), .val (.int p1), .val (.int p2), .val (.long q3), .second, .val (.int (0 : Int32)), .val (.int p5), .val (.ref w_EMPTY), .val (.int (0 : Int32)), .val (.ref w_EMPTY), .val (.int ((((p1.toInt64) * (p5.toInt64)) / (100 : Int64)).toInt32)), .unset, .unset] [(.int (0 : Int32))])) _
    refine XS.iloadN X18.here hx rfl (hb hby d3_142) rfl ?_
    show Steps p.tables e below (T18.setTop (mkF m 143 #[.val (.ref a1), .val (.int p1), .val (.int p2), .val (.long q3), .second, .val (.int (0 : Int32)), .val (.int p5), .val (.ref w_EMPTY), .val (.int (0 : Int32)), .val (.ref w_EMPTY), .val (.int ((((p1.toInt64) * (p5.toInt64)) / (100 : Int64)).toInt32)), .unset, .unset] [(.int p1), (.int (0 : Int32))])) _
    refine XS.iconst X18.here hx rfl (hb hby d3_143) ?_
    show Steps p.tables e below (T18.setTop (mkF m 144 #[.val (.ref a1), .val (.int p1), .val (.int p2), .val (.long q3), .second, .val (.int (0 : Int32)), .val (.int p5), .val (.ref w_EMPTY), .val (.int (0 : Int32)), .val (.ref w_EMPTY), .val (.int ((((p1.toInt64) * (p5.toInt64)) / (100 : Int64)).toInt32)), .unset, .unset] [(.int (2 : Int32)), (.int p1), (.int (0 : Int32))])) _
    refine XS.iloadN X18.here hx rfl (hb hby d3_144) rfl ?_
    show Steps p.tables e below (T18.setTop (mkF m 145 #[.val (.ref a1), .val (.int p1), .val (.int p2), .val (.long q3), .second, .val (.int (0 : Int32)), .val (.int p5), .val (.ref w_EMPTY), .val (.int (0 : Int32)), .val (.ref w_EMPTY), .val (.int ((((p1.toInt64) * (p5.toInt64)) / (100 : Int64)).toInt32)), .unset, .unset] [(.int p2), (.int (2 : Int32)), (.int p1), (.int (0 : Int32))])) _
    refine XS.imul X18.here hx rfl (hb hby d3_145) rfl ?_
    show Steps p.tables e below (T18.setTop (mkF m 146 #[.val (.ref a1), .val (.int p1), .val (.int p2), .val (.long q3), .second, .val (.int (0 : Int32)), .val (.int p5), .val (.ref w_EMPTY), .val (.int (0 : Int32)), .val (.ref w_EMPTY), .val (.int ((((p1.toInt64) * (p5.toInt64)) / (100 : Int64)).toInt32)), .unset, .unset] [(.int ((2 : Int32) * p2)), (.int p1), (.int (0 : Int32))])) _
    refine XS.isub X18.here hx rfl (hb hby d3_146) rfl ?_
    show Steps p.tables e below (T18.setTop (mkF m 147 #[.val (.ref a1), .val (.int p1), .val (.int p2), .val (.long q3), .second, .val (.int (0 : Int32)), .val (.int p5), .val (.ref w_EMPTY), .val (.int (0 : Int32)), .val (.ref w_EMPTY), .val (.int ((((p1.toInt64) * (p5.toInt64)) / (100 : Int64)).toInt32)), .unset, .unset] [(.int (p1 - ((2 : Int32) * p2))), (.int (0 : Int32))])) _
    exact k
  obtain ⟨_, _, ⟨T19, L19, k19, n19⟩, -, X19, ⟨Lc19, hQ19, l19, y19, z19⟩, st19⟩ := Jvm.LawKit.callS X18 hx (y := (⟨"java/lang/Math", "max", "(II)I"⟩ : MethodName)) ho15 (mvT hZ15 (hw _ (List.mem_of_getElem? (i := 42) rfl))) (mvT hZ15 (hw _ (List.mem_of_getElem? (i := 43) rfl))) (mvT hZ15 (hw _ (List.mem_of_getElem? (i := 44) rfl))) (mvT hZ15 (hw _ (List.mem_of_getElem? (i := 45) rfl))) (by decide) (backOf (W := 0) (rm8 l Z a0 hw [] (0 : Int32) (p1 - ((2 : Int32) * p2)) h15 n0 (Nat.le_trans Z0 le17) ) hZ15 (hw _ (List.mem_of_getElem? (i := 45) rfl)) (hw _ (List.mem_of_getElem? (i := 44) rfl)) (by decide) (by decide)) (g := (mkF m 147 #[.val (.ref a1), .val (.int p1), .val (.int p2), .val (.long q3), .second, .val (.int (0 : Int32)), .val (.int p5), .val (.ref w_EMPTY), .val (.int (0 : Int32)), .val (.ref w_EMPTY), .val (.int ((((p1.toInt64) * (p5.toInt64)) / (100 : Int64)).toInt32)), .unset, .unset] [(.int (p1 - ((2 : Int32) * p2))), (.int (0 : Int32))])) rfl (by rw [hml]; rfl) (argsL := [(.int (0 : Int32)), (.int (p1 - ((2 : Int32) * p2)))]) (rest := []) (lenOf pd_2 rfl) rfl (by show 2 * 0 + _ ≤ _; exact Nat.le_of_eq rfl) (hb hby d3_147) (fun _ _ => ⟨rfl, q18_0, (by decide : 4 + 0 ≤ _), (by decide : 112 + 0 ≤ _)⟩)
  dsimp only [Pt.U, Pt.locs, Pt.cells, Pt.slots] at X19 l19 y19 z19 st19 hQ19
  subst l19 y19 z19
  obtain ⟨rfl, M19, q19_0⟩ := hQ19
  have N19 := Fr.app N18 M19
  refine own_go st19 ?_
  refine own_go (B := T19.setTop (mkF m 221 #[.val (.ref a1), .val (.int p1), .val (.int p2), .val (.long q3), .second, .val (.int (0 : Int32)), .val (.int p5), .val (.ref w_EMPTY), .val (.int (0 : Int32)), .val (.ref w_EMPTY), .val (.int ((((p1.toInt64) * (p5.toInt64)) / (100 : Int64)).toInt32)), .val (.int (if (0 : Int32) < (p1 - ((2 : Int32) * p2)) then (p1 - ((2 : Int32) * p2)) else (0 : Int32))), .unset] [(.int (1 : Int32)), (.ref w_EMPTY)])) (fun t k => ?_) ?_
  · show Steps p.tables e below (T19.setTop (mkF m 150 #[.val (.ref a1), .val (.int p1), .val (.int p2), .val (.long q3), .second, .val (.int (0 : Int32)), .val (.int p5), .val (.ref w_EMPTY), .val (.int (0 : Int32)), .val (.ref w_EMPTY), .val (.int ((((p1.toInt64) * (p5.toInt64)) / (100 : Int64)).toInt32)), .unset, .unset] [(.int (if (0 : Int32) < (p1 - ((2 : Int32) * p2)) then (p1 - ((2 : Int32) * p2)) else (0 : Int32)))])) _
    refine XS.istore X19.here hx rfl (hb hby d3_150) rfl (l' := #[.val (.ref a1), .val (.int p1), .val (.int p2), .val (.long q3), .second, .val (.int (0 : Int32)), .val (.int p5), .val (.ref w_EMPTY), .val (.int (0 : Int32)), .val (.ref w_EMPTY), .val (.int ((((p1.toInt64) * (p5.toInt64)) / (100 : Int64)).toInt32)), .val (.int (if (0 : Int32) < (p1 - ((2 : Int32) * p2)) then (p1 - ((2 : Int32) * p2)) else (0 : Int32))), .unset]) rfl ?_
    show Steps p.tables e below (T19.setTop (mkF m 152 #[.val (.ref a1), .val (.int p1), .val (.int p2), .val (.long q3), .second, .val (.int (0 : Int32)), .val (.int p5), .val (.ref w_EMPTY), .val (.int (0 : Int32)), .val (.ref w_EMPTY), .val (.int ((((p1.toInt64) * (p5.toInt64)) / (100 : Int64)).toInt32)), .val (.int (if (0 : Int32) < (p1 - ((2 : Int32) * p2)) then (p1 - ((2 : Int32) * p2)) else (0 : Int32))), .unset] [])) _
    refine XS.iload X19.here hx rfl (hb hby d3_152) rfl ?_
    show Steps p.tables e below (T19.setTop (mkF m 154 #[.val (.ref a1), .val (.int p1), .val (.int p2), .val (.long q3), .second, .val (.int (0 : Int32)), .val (.int p5), .val (.ref w_EMPTY), .val (.int (0 : Int32)), .val (.ref w_EMPTY), .val (.int ((((p1.toInt64) * (p5.toInt64)) / (100 : Int64)).toInt32)), .val (.int (if (0 : Int32) < (p1 - ((2 : Int32) * p2)) then (p1 - ((2 : Int32) * p2)) else (0 : Int32))), .unset] [(.int ((((p1.toInt64) * (p5.toInt64)) / (100 : Int64)).toInt32))])) _
    refine XS.iload X19.here hx rfl (hb hby d3_154) rfl ?_
    show Steps p.tables e below (T19.setTop (mkF m 156 #[.val (.ref a1), .val (.int p1), .val (.int p2), .val (.long q3), .second, .val (.int (0 : Int32)), .val (.int p5), .val (.ref w_EMPTY), .val (.int (0 : Int32)), .val (.ref w_EMPTY), .val (.int ((((p1.toInt64) * (p5.toInt64)) / (100 : Int64)).toInt32)), .val (.int (if (0 : Int32) < (p1 - ((2 : Int32) * p2)) then (p1 - ((2 : Int32) * p2)) else (0 : Int32))), .unset] [(.int (if (0 : Int32) < (p1 - ((2 : Int32) * p2)) then (p1 - ((2 : Int32) * p2)) else (0 : Int32))), (.int ((((p1.toInt64) * (p5.toInt64)) / (100 : Int64)).toInt32))])) _
    refine XS.icmpYes X19.here hx rfl (pc0 := 156) (pc' := 218) rfl (hb hby d3_156) rfl (flt (show ¬ ((if (0 : Int32) < (p1 - ((2 : Int32) * p2)) then (p1 - ((2 : Int32) * p2)) else (0 : Int32)) < ((((p1.toInt64) * (p5.toInt64)) / (100 : Int64)).toInt32)) from k7)).2.2.2 (by decide) (by decide) ?_
    show Steps p.tables e below (T19.setTop (mkF m 218 #[.val (.ref a1), .val (.int p1), .val (.int p2), .val (.long q3), .second, .val (.int (0 : Int32)), .val (.int p5), .val (.ref w_EMPTY), .val (.int (0 : Int32)), .val (.ref w_EMPTY), .val (.int ((((p1.toInt64) * (p5.toInt64)) / (100 : Int64)).toInt32)), .val (.int (if (0 : Int32) < (p1 - ((2 : Int32) * p2)) then (p1 - ((2 : Int32) * p2)) else (0 : Int32))), .unset] [])) _
    refine XS.aload X19.here hx rfl (hb hby d3_218) rfl rfl ?_
    show Steps p.tables e below (T19.setTop (mkF m 220 #[.val (.ref a1), .val (.int p1), .val (.int p2), .val (.long q3), .second, .val (.int (0 : Int32)), .val (.int p5), .val (.ref w_EMPTY), .val (.int (0 : Int32)), .val (.ref w_EMPTY), .val (.int ((((p1.toInt64) * (p5.toInt64)) / (100 : Int64)).toInt32)), .val (.int (if (0 : Int32) < (p1 - ((2 : Int32) * p2)) then (p1 - ((2 : Int32) * p2)) else (0 : Int32))), .unset] [(.ref w_EMPTY)])) _
    refine XS.iconst X19.here hx rfl (hb hby d3_220) ?_
    show Steps p.tables e below (T19.setTop (mkF m 221 #[.val (.ref a1), .val (.int p1), .val (.int p2), .val (.long q3), .second, .val (.int (0 : Int32)), .val (.int p5), .val (.ref w_EMPTY), .val (.int (0 : Int32)), .val (.ref w_EMPTY), .val (.int ((((p1.toInt64) * (p5.toInt64)) / (100 : Int64)).toInt32)), .val (.int (if (0 : Int32) < (p1 - ((2 : Int32) * p2)) then (p1 - ((2 : Int32) * p2)) else (0 : Int32))), .unset] [(.int (1 : Int32)), (.ref w_EMPTY)])) _
    exact k
  have f21 : Fld Z h15 w_EMPTY "java/util/OptionalInt" "isPresent" "Z" (.int (0 : Int32)) := ((F_EMPTY_isPresent.ext E13).ext E15)
  have f22 : Exa Z h15 w_EMPTY "java/util/OptionalInt" := ((E_EMPTY.ext E13).ext E15)
  obtain ⟨cq20, kq20, q20a, q20b, q20c⟩ := isOf hZ15 q19_0 f22
  obtain ⟨_, _, ⟨T20, L20, k20, n20⟩, -, X20, ⟨Lc20, hQ20, l20, y20, z20⟩, st20⟩ := X19.virtualBack hx (y := (⟨"java/util/OptionalInt", "orElse", "(I)I"⟩ : MethodName)) (z := (⟨"java/util/OptionalInt", "orElse", "(I)I"⟩ : MethodName)) ho15 (mvT hZ15 (hw _ (List.mem_of_getElem? (i := 46) rfl))) (mvT hZ15 (hw _ (List.mem_of_getElem? (i := 47) rfl))) (notFace_of_selects (args := #[]) (mvT hZ15 (hw _ (List.mem_of_getElem? (i := 49) rfl)))) (mvT hZ15 (hw _ (List.mem_of_getElem? (i := 49) rfl))) (mvT hZ15 (hw _ (List.mem_of_getElem? (i := 48) rfl))) (by decide) (backOf (W := 0) (rm9 l Z a0 hw [] w_EMPTY (1 : Int32) h15 n0 (Nat.le_trans Z0 le17) f21) hZ15 (hw _ (List.mem_of_getElem? (i := 50) rfl)) (hw _ (List.mem_of_getElem? (i := 10) rfl)) (by decide) (by decide)) q20a q20c (g := (mkF m 221 #[.val (.ref a1), .val (.int p1), .val (.int p2), .val (.long q3), .second, .val (.int (0 : Int32)), .val (.int p5), .val (.ref w_EMPTY), .val (.int (0 : Int32)), .val (.ref w_EMPTY), .val (.int ((((p1.toInt64) * (p5.toInt64)) / (100 : Int64)).toInt32)), .val (.int (if (0 : Int32) < (p1 - ((2 : Int32) * p2)) then (p1 - ((2 : Int32) * p2)) else (0 : Int32))), .unset] [(.int (1 : Int32)), (.ref w_EMPTY)])) rfl (by rw [hml]; rfl) (Steps.refl _) (argsL := [(.int (1 : Int32))]) (rest := []) (lenOf pd_3 rfl) rfl (by show 2 * 0 + _ ≤ _; exact Nat.le_of_eq rfl) (hb hby d3_221) (fun _ _ => ⟨rfl, q19_0, (by decide : 4 + 0 ≤ _), (by decide : 112 + 0 ≤ _)⟩)
  dsimp only [Pt.U, Pt.locs, Pt.cells, Pt.slots] at X20 l20 y20 z20 st20 hQ20
  subst l20 y20 z20
  obtain ⟨rfl, M20, q20_0⟩ := hQ20
  have N20 := Fr.app N19 M20
  refine own_go (fun t k => st20.trans k) ?_
  refine own_go (B := T20.setTop (mkF m 263 #[.val (.ref a1), .val (.int p1), .val (.int p2), .val (.long q3), .second, .val (.int (0 : Int32)), .val (.int p5), .val (.ref w_EMPTY), .val (.int (0 : Int32)), .val (.ref w_EMPTY), .val (.int ((((p1.toInt64) * (p5.toInt64)) / (100 : Int64)).toInt32)), .val (.int (if (0 : Int32) < (p1 - ((2 : Int32) * p2)) then (p1 - ((2 : Int32) * p2)) else (0 : Int32))), .unset] [(.int (0 : Int32)), (.ref w_EMPTY)])) (fun t k => ?_) ?_
  · show Steps p.tables e below (T20.setTop (mkF m 224 #[.val (.ref a1), .val (.int p1), .val (.int p2), .val (.long q3), .second, .val (.int (0 : Int32)), .val (.int p5), .val (.ref w_EMPTY), .val (.int (0 : Int32)), .val (.ref w_EMPTY), .val (.int ((((p1.toInt64) * (p5.toInt64)) / (100 : Int64)).toInt32)), .val (.int (if (0 : Int32) < (p1 - ((2 : Int32) * p2)) then (p1 - ((2 : Int32) * p2)) else (0 : Int32))), .unset] [(.int (1 : Int32))])) _
    refine XS.iconst X20.here hx rfl (hb hby d3_224) ?_
    show Steps p.tables e below (T20.setTop (mkF m 225 #[.val (.ref a1), .val (.int p1), .val (.int p2), .val (.long q3), .second, .val (.int (0 : Int32)), .val (.int p5), .val (.ref w_EMPTY), .val (.int (0 : Int32)), .val (.ref w_EMPTY), .val (.int ((((p1.toInt64) * (p5.toInt64)) / (100 : Int64)).toInt32)), .val (.int (if (0 : Int32) < (p1 - ((2 : Int32) * p2)) then (p1 - ((2 : Int32) * p2)) else (0 : Int32))), .unset] [(.int (1 : Int32)), (.int (1 : Int32))])) _
    refine XS.icmpYes X20.here hx rfl (pc0 := 225) (pc' := 260) rfl (hb hby d3_225) rfl (flt (by decide : ¬ ((1 : Int32) < (1 : Int32)))).2.1 (by decide) (by decide) ?_
    show Steps p.tables e below (T20.setTop (mkF m 260 #[.val (.ref a1), .val (.int p1), .val (.int p2), .val (.long q3), .second, .val (.int (0 : Int32)), .val (.int p5), .val (.ref w_EMPTY), .val (.int (0 : Int32)), .val (.ref w_EMPTY), .val (.int ((((p1.toInt64) * (p5.toInt64)) / (100 : Int64)).toInt32)), .val (.int (if (0 : Int32) < (p1 - ((2 : Int32) * p2)) then (p1 - ((2 : Int32) * p2)) else (0 : Int32))), .unset] [])) _
    refine XS.aload X20.here hx rfl (hb hby d3_260) rfl rfl ?_
    show Steps p.tables e below (T20.setTop (mkF m 262 #[.val (.ref a1), .val (.int p1), .val (.int p2), .val (.long q3), .second, .val (.int (0 : Int32)), .val (.int p5), .val (.ref w_EMPTY), .val (.int (0 : Int32)), .val (.ref w_EMPTY), .val (.int ((((p1.toInt64) * (p5.toInt64)) / (100 : Int64)).toInt32)), .val (.int (if (0 : Int32) < (p1 - ((2 : Int32) * p2)) then (p1 - ((2 : Int32) * p2)) else (0 : Int32))), .unset] [(.ref w_EMPTY)])) _
    refine XS.iconst X20.here hx rfl (hb hby d3_262) ?_
    show Steps p.tables e below (T20.setTop (mkF m 263 #[.val (.ref a1), .val (.int p1), .val (.int p2), .val (.long q3), .second, .val (.int (0 : Int32)), .val (.int p5), .val (.ref w_EMPTY), .val (.int (0 : Int32)), .val (.ref w_EMPTY), .val (.int ((((p1.toInt64) * (p5.toInt64)) / (100 : Int64)).toInt32)), .val (.int (if (0 : Int32) < (p1 - ((2 : Int32) * p2)) then (p1 - ((2 : Int32) * p2)) else (0 : Int32))), .unset] [(.int (0 : Int32)), (.ref w_EMPTY)])) _
    exact k
  obtain ⟨cq23, kq23, q23a, q23b, q23c⟩ := isOf hZ15 q20_0 f22
  obtain ⟨_, _, ⟨T23, L23, k23, n23⟩, -, X23, ⟨Lc23, hQ23, l23, y23, z23⟩, st23⟩ := X20.virtualBack hx (y := (⟨"java/util/OptionalInt", "orElse", "(I)I"⟩ : MethodName)) (z := (⟨"java/util/OptionalInt", "orElse", "(I)I"⟩ : MethodName)) ho15 (mvT hZ15 (hw _ (List.mem_of_getElem? (i := 46) rfl))) (mvT hZ15 (hw _ (List.mem_of_getElem? (i := 47) rfl))) (notFace_of_selects (args := #[]) (mvT hZ15 (hw _ (List.mem_of_getElem? (i := 49) rfl)))) (mvT hZ15 (hw _ (List.mem_of_getElem? (i := 49) rfl))) (mvT hZ15 (hw _ (List.mem_of_getElem? (i := 48) rfl))) (by decide) (backOf (W := 0) (rm9 l Z a0 hw [] w_EMPTY (0 : Int32) h15 n0 (Nat.le_trans Z0 le17) f21) hZ15 (hw _ (List.mem_of_getElem? (i := 50) rfl)) (hw _ (List.mem_of_getElem? (i := 10) rfl)) (by decide) (by decide)) q23a q23c (g := (mkF m 263 #[.val (.ref a1), .val (.int p1), .val (.int p2), .val (.long q3), .second, .val (.int (0 : Int32)), .val (.int p5), .val (.ref w_EMPTY), .val (.int (0 : Int32)), .val (.ref w_EMPTY), .val (.int ((((p1.toInt64) * (p5.toInt64)) / (100 : Int64)).toInt32)), .val (.int (if (0 : Int32) < (p1 - ((2 : Int32) * p2)) then (p1 - ((2 : Int32) * p2)) else (0 : Int32))), .unset] [(.int (0 : Int32)), (.ref w_EMPTY)])) rfl (by rw [hml]; rfl) (Steps.refl _) (argsL := [(.int (0 : Int32))]) (rest := []) (lenOf pd_3 rfl) rfl (by show 2 * 0 + _ ≤ _; exact Nat.le_of_eq rfl) (hb hby d3_263) (fun _ _ => ⟨rfl, q20_0, (by decide : 4 + 0 ≤ _), (by decide : 112 + 0 ≤ _)⟩)
  dsimp only [Pt.U, Pt.locs, Pt.cells, Pt.slots] at X23 l23 y23 z23 st23 hQ23
  subst l23 y23 z23
  obtain ⟨rfl, M23, q23_0⟩ := hQ23
  have N23 := Fr.app N20 M23
  refine own_go (fun t k => st23.trans k) ?_
  refine own_go (B := T23.setTop (mkF m 303 #[.val (.ref a1), .val (.int p1), .val (.int p2), .val (.long q3), .second, .val (.int (0 : Int32)), .val (.int p5), .val (.ref w_EMPTY), .val (.int (0 : Int32)), .val (.ref w_EMPTY), .val (.int ((((p1.toInt64) * (p5.toInt64)) / (100 : Int64)).toInt32)), .val (.int (if (0 : Int32) < (p1 - ((2 : Int32) * p2)) then (p1 - ((2 : Int32) * p2)) else (0 : Int32))), .unset] [(.int p1), (.ref a1)])) (fun t k => ?_) ?_
  · show Steps p.tables e below (T23.setTop (mkF m 266 #[.val (.ref a1), .val (.int p1), .val (.int p2), .val (.long q3), .second, .val (.int (0 : Int32)), .val (.int p5), .val (.ref w_EMPTY), .val (.int (0 : Int32)), .val (.ref w_EMPTY), .val (.int ((((p1.toInt64) * (p5.toInt64)) / (100 : Int64)).toInt32)), .val (.int (if (0 : Int32) < (p1 - ((2 : Int32) * p2)) then (p1 - ((2 : Int32) * p2)) else (0 : Int32))), .unset] [(.int (0 : Int32))])) _
    refine XS.ifYes X23.here hx rfl (pc0 := 266) (pc' := 301) rfl (hb hby d3_266) rfl ((if0 _ _).trans (flt (by decide : ¬ ((0 : Int32) < (0 : Int32)))).2.1) (by decide) (by decide) ?_
    show Steps p.tables e below (T23.setTop (mkF m 301 #[.val (.ref a1), .val (.int p1), .val (.int p2), .val (.long q3), .second, .val (.int (0 : Int32)), .val (.int p5), .val (.ref w_EMPTY), .val (.int (0 : Int32)), .val (.ref w_EMPTY), .val (.int ((((p1.toInt64) * (p5.toInt64)) / (100 : Int64)).toInt32)), .val (.int (if (0 : Int32) < (p1 - ((2 : Int32) * p2)) then (p1 - ((2 : Int32) * p2)) else (0 : Int32))), .unset] [])) _
    refine XS.aloadN X23.here hx rfl (hb hby d3_301) rfl rfl ?_
    show Steps p.tables e below (T23.setTop (mkF m 302 #[.val (.ref a1), .val (.int p1), .val (.int p2), .val (.long q3), .second, .val (.int (0 : Int32)), .val (.int p5), .val (.ref w_EMPTY), .val (.int (0 : Int32)), .val (.ref w_EMPTY), .val (.int ((((p1.toInt64) * (p5.toInt64)) / (100 : Int64)).toInt32)), .val (.int (if (0 : Int32) < (p1 - ((2 : Int32) * p2)) then (p1 - ((2 : Int32) * p2)) else (0 : Int32))), .unset] [(.ref a1)])) _
    refine XS.iloadN X23.here hx rfl (hb hby d3_302) rfl ?_
    show Steps p.tables e below (T23.setTop (mkF m 303 #[.val (.ref a1), .val (.int p1), .val (.int p2), .val (.long q3), .second, .val (.int (0 : Int32)), .val (.int p5), .val (.ref w_EMPTY), .val (.int (0 : Int32)), .val (.ref w_EMPTY), .val (.int ((((p1.toInt64) * (p5.toInt64)) / (100 : Int64)).toInt32)), .val (.int (if (0 : Int32) < (p1 - ((2 : Int32) * p2)) then (p1 - ((2 : Int32) * p2)) else (0 : Int32))), .unset] [(.int p1), (.ref a1)])) _
    exact k
  have f25 : Exa Z h15 a1 "com/example/strict_dht/strictdht/sim/Simulation$Scenario" := ((E_a1.ext E13).ext E15)
  have f26 : Fld Z h15 a1 "com/example/strict_dht/strictdht/sim/Simulation$Scenario" "nodes" "I" (.int (0 : Int32)) := ((F_nodes_a1.ext E13).ext E15)
  obtain ⟨T24, h24, X24, e24, W24, st24⟩ := putF X23 hx hZ15 ho15 (host := "") (Or.inl (hw _ (List.mem_of_getElem? (i := 53) rfl))) Via.refl q23_0 f26 f25 (Or.inr ⟨(hw _ (List.mem_of_getElem? (i := 54) rfl)), rfl, hnm⟩) (hw _ (List.mem_of_getElem? (i := 3) rfl)) (ty := .int) (by decide) rfl rfl (g := (mkF m 303 #[.val (.ref a1), .val (.int p1), .val (.int p2), .val (.long q3), .second, .val (.int (0 : Int32)), .val (.int p5), .val (.ref w_EMPTY), .val (.int (0 : Int32)), .val (.ref w_EMPTY), .val (.int ((((p1.toInt64) * (p5.toInt64)) / (100 : Int64)).toInt32)), .val (.int (if (0 : Int32) < (p1 - ((2 : Int32) * p2)) then (p1 - ((2 : Int32) * p2)) else (0 : Int32))), .unset] [(.int p1), (.ref a1)])) rfl rfl (hb hby d3_303)
  refine own_go st24 ?_
  have F24 : Fld Z h24 a1 "com/example/strict_dht/strictdht/sim/Simulation$Scenario" "nodes" "I" (.int p1) := f26.same W24
  have K24 : Keep h0 h24 [a1] := Keep.wr K15 W24 (Or.inl (List.mem_of_getElem? (i := 0) rfl))
  have N24 := Fr.snoc X24 N23 g_a1
  refine own_go (B := T24.setTop (mkF m 308 #[.val (.ref a1), .val (.int p1), .val (.int p2), .val (.long q3), .second, .val (.int (0 : Int32)), .val (.int p5), .val (.ref w_EMPTY), .val (.int (0 : Int32)), .val (.ref w_EMPTY), .val (.int ((((p1.toInt64) * (p5.toInt64)) / (100 : Int64)).toInt32)), .val (.int (if (0 : Int32) < (p1 - ((2 : Int32) * p2)) then (p1 - ((2 : Int32) * p2)) else (0 : Int32))), .unset] [(.int p2), (.ref a1)])) (fun t k => ?_) ?_
  · show Steps p.tables e below (T24.setTop (mkF m 306 #[.val (.ref a1), .val (.int p1), .val (.int p2), .val (.long q3), .second, .val (.int (0 : Int32)), .val (.int p5), .val (.ref w_EMPTY), .val (.int (0 : Int32)), .val (.ref w_EMPTY), .val (.int ((((p1.toInt64) * (p5.toInt64)) / (100 : Int64)).toInt32)), .val (.int (if (0 : Int32) < (p1 - ((2 : Int32) * p2)) then (p1 - ((2 : Int32) * p2)) else (0 : Int32))), .unset] [])) _
    refine XS.aloadN X24.here hx rfl (hb hby d3_306) rfl rfl ?_
    show Steps p.tables e below (T24.setTop (mkF m 307 #[.val (.ref a1), .val (.int p1), .val (.int p2), .val (.long q3), .second, .val (.int (0 : Int32)), .val (.int p5), .val (.ref w_EMPTY), .val (.int (0 : Int32)), .val (.ref w_EMPTY), .val (.int ((((p1.toInt64) * (p5.toInt64)) / (100 : Int64)).toInt32)), .val (.int (if (0 : Int32) < (p1 - ((2 : Int32) * p2)) then (p1 - ((2 : Int32) * p2)) else (0 : Int32))), .unset] [(.ref a1)])) _
    refine XS.iloadN X24.here hx rfl (hb hby d3_307) rfl ?_
    show Steps p.tables e below (T24.setTop (mkF m 308 #[.val (.ref a1), .val (.int p1), .val (.int p2), .val (.long q3), .second, .val (.int (0 : Int32)), .val (.int p5), .val (.ref w_EMPTY), .val (.int (0 : Int32)), .val (.ref w_EMPTY), .val (.int ((((p1.toInt64) * (p5.toInt64)) / (100 : Int64)).toInt32)), .val (.int (if (0 : Int32) < (p1 - ((2 : Int32) * p2)) then (p1 - ((2 : Int32) * p2)) else (0 : Int32))), .unset] [(.int p2), (.ref a1)])) _
    exact k
  have f28 : Exa Z h24 a1 "com/example/strict_dht/strictdht/sim/Simulation$Scenario" := (f25.wr W24)
  have f29 : Fld Z h24 a1 "com/example/strict_dht/strictdht/sim/Simulation$Scenario" "keys" "I" (.int (0 : Int32)) := (((F_keys_a1.ext E13).ext E15).other W24 (Or.inr (slot_ne (Or.inr (hw _ (List.mem_of_getElem? (i := 56) rfl))) (Or.inr (hw _ (List.mem_of_getElem? (i := 54) rfl))) (by decide) (t := .int) (t' := .int) (by decide) (by decide))))
  obtain ⟨T27, h27, X27, e27, W27, st27⟩ := putF X24 hx hZ15 ho15 (host := "") (Or.inl (hw _ (List.mem_of_getElem? (i := 55) rfl))) Via.refl e24 f29 f28 (Or.inr ⟨(hw _ (List.mem_of_getElem? (i := 56) rfl)), rfl, hnm⟩) (hw _ (List.mem_of_getElem? (i := 3) rfl)) (ty := .int) (by decide) rfl rfl (g := (mkF m 308 #[.val (.ref a1), .val (.int p1), .val (.int p2), .val (.long q3), .second, .val (.int (0 : Int32)), .val (.int p5), .val (.ref w_EMPTY), .val (.int (0 : Int32)), .val (.ref w_EMPTY), .val (.int ((((p1.toInt64) * (p5.toInt64)) / (100 : Int64)).toInt32)), .val (.int (if (0 : Int32) < (p1 - ((2 : Int32) * p2)) then (p1 - ((2 : Int32) * p2)) else (0 : Int32))), .unset] [(.int p2), (.ref a1)])) rfl rfl (hb hby d3_308)
  refine own_go st27 ?_
  have F27 : Fld Z h27 a1 "com/example/strict_dht/strictdht/sim/Simulation$Scenario" "keys" "I" (.int p2) := f29.same W27
  have K27 : Keep h0 h27 [a1] := Keep.wr K24 W27 (Or.inl (List.mem_of_getElem? (i := 0) rfl))
  have N27 := Fr.snoc X27 N24 g_a1
  refine own_go (B := T27.setTop (mkF m 313 #[.val (.ref a1), .val (.int p1), .val (.int p2), .val (.long q3), .second, .val (.int (0 : Int32)), .val (.int p5), .val (.ref w_EMPTY), .val (.int (0 : Int32)), .val (.ref w_EMPTY), .val (.int ((((p1.toInt64) * (p5.toInt64)) / (100 : Int64)).toInt32)), .val (.int (if (0 : Int32) < (p1 - ((2 : Int32) * p2)) then (p1 - ((2 : Int32) * p2)) else (0 : Int32))), .unset] [(.long q3), (.ref a1)])) (fun t k => ?_) ?_
  · show Steps p.tables e below (T27.setTop (mkF m 311 #[.val (.ref a1), .val (.int p1), .val (.int p2), .val (.long q3), .second, .val (.int (0 : Int32)), .val (.int p5), .val (.ref w_EMPTY), .val (.int (0 : Int32)), .val (.ref w_EMPTY), .val (.int ((((p1.toInt64) * (p5.toInt64)) / (100 : Int64)).toInt32)), .val (.int (if (0 : Int32) < (p1 - ((2 : Int32) * p2)) then (p1 - ((2 : Int32) * p2)) else (0 : Int32))), .unset] [])) _
    refine XS.aloadN X27.here hx rfl (hb hby d3_311) rfl rfl ?_
    show Steps p.tables e below (T27.setTop (mkF m 312 #[.val (.ref a1), .val (.int p1), .val (.int p2), .val (.long q3), .second, .val (.int (0 : Int32)), .val (.int p5), .val (.ref w_EMPTY), .val (.int (0 : Int32)), .val (.ref w_EMPTY), .val (.int ((((p1.toInt64) * (p5.toInt64)) / (100 : Int64)).toInt32)), .val (.int (if (0 : Int32) < (p1 - ((2 : Int32) * p2)) then (p1 - ((2 : Int32) * p2)) else (0 : Int32))), .unset] [(.ref a1)])) _
    refine XS.lloadN X27.here hx rfl (hb hby d3_312) rfl ?_
    show Steps p.tables e below (T27.setTop (mkF m 313 #[.val (.ref a1), .val (.int p1), .val (.int p2), .val (.long q3), .second, .val (.int (0 : Int32)), .val (.int p5), .val (.ref w_EMPTY), .val (.int (0 : Int32)), .val (.ref w_EMPTY), .val (.int ((((p1.toInt64) * (p5.toInt64)) / (100 : Int64)).toInt32)), .val (.int (if (0 : Int32) < (p1 - ((2 : Int32) * p2)) then (p1 - ((2 : Int32) * p2)) else (0 : Int32))), .unset] [(.long q3), (.ref a1)])) _
    exact k
  have f31 : Exa Z h27 a1 "com/example/strict_dht/strictdht/sim/Simulation$Scenario" := (f28.wr W27)
  have f32 : Fld Z h27 a1 "com/example/strict_dht/strictdht/sim/Simulation$Scenario" "seed" "J" (.long (0 : Int64)) := ((((F_seed_a1.ext E13).ext E15).other W24 (Or.inr (slot_ne (Or.inr (hw _ (List.mem_of_getElem? (i := 58) rfl))) (Or.inr (hw _ (List.mem_of_getElem? (i := 54) rfl))) (by decide) (t := .long) (t' := .int) (by decide) (by decide)))).other W27 (Or.inr (slot_ne (Or.inr (hw _ (List.mem_of_getElem? (i := 58) rfl))) (Or.inr (hw _ (List.mem_of_getElem? (i := 56) rfl))) (by decide) (t := .long) (t' := .int) (by decide) (by decide))))
  obtain ⟨T30, h30, X30, e30, W30, st30⟩ := putF X27 hx hZ15 ho15 (host := "") (Or.inl (hw _ (List.mem_of_getElem? (i := 57) rfl))) Via.refl e27 f32 f31 (Or.inr ⟨(hw _ (List.mem_of_getElem? (i := 58) rfl)), rfl, hnm⟩) (hw _ (List.mem_of_getElem? (i := 3) rfl)) (ty := .long) (by decide) rfl rfl (g := (mkF m 313 #[.val (.ref a1), .val (.int p1), .val (.int p2), .val (.long q3), .second, .val (.int (0 : Int32)), .val (.int p5), .val (.ref w_EMPTY), .val (.int (0 : Int32)), .val (.ref w_EMPTY), .val (.int ((((p1.toInt64) * (p5.toInt64)) / (100 : Int64)).toInt32)), .val (.int (if (0 : Int32) < (p1 - ((2 : Int32) * p2)) then (p1 - ((2 : Int32) * p2)) else (0 : Int32))), .unset] [(.long q3), (.ref a1)])) rfl rfl (hb hby d3_313)
  refine own_go st30 ?_
  have F30 : Fld Z h30 a1 "com/example/strict_dht/strictdht/sim/Simulation$Scenario" "seed" "J" (.long q3) := f32.same W30
  have K30 : Keep h0 h30 [a1] := Keep.wr K27 W30 (Or.inl (List.mem_of_getElem? (i := 0) rfl))
  have N30 := Fr.snoc X30 N27 g_a1
  refine own_go (B := T30.setTop (mkF m 319 #[.val (.ref a1), .val (.int p1), .val (.int p2), .val (.long q3), .second, .val (.int (0 : Int32)), .val (.int p5), .val (.ref w_EMPTY), .val (.int (0 : Int32)), .val (.ref w_EMPTY), .val (.int ((((p1.toInt64) * (p5.toInt64)) / (100 : Int64)).toInt32)), .val (.int (if (0 : Int32) < (p1 - ((2 : Int32) * p2)) then (p1 - ((2 : Int32) * p2)) else (0 : Int32))), .unset] [(.int (0 : Int32)), (.ref a1)])) (fun t k => ?_) ?_
  · show Steps p.tables e below (T30.setTop (mkF m 316 #[.val (.ref a1), .val (.int p1), .val (.int p2), .val (.long q3), .second, .val (.int (0 : Int32)), .val (.int p5), .val (.ref w_EMPTY), .val (.int (0 : Int32)), .val (.ref w_EMPTY), .val (.int ((((p1.toInt64) * (p5.toInt64)) / (100 : Int64)).toInt32)), .val (.int (if (0 : Int32) < (p1 - ((2 : Int32) * p2)) then (p1 - ((2 : Int32) * p2)) else (0 : Int32))), .unset] [])) _
    refine XS.aloadN X30.here hx rfl (hb hby d3_316) rfl rfl ?_
    show Steps p.tables e below (T30.setTop (mkF m 317 #[.val (.ref a1), .val (.int p1), .val (.int p2), .val (.long q3), .second, .val (.int (0 : Int32)), .val (.int p5), .val (.ref w_EMPTY), .val (.int (0 : Int32)), .val (.ref w_EMPTY), .val (.int ((((p1.toInt64) * (p5.toInt64)) / (100 : Int64)).toInt32)), .val (.int (if (0 : Int32) < (p1 - ((2 : Int32) * p2)) then (p1 - ((2 : Int32) * p2)) else (0 : Int32))), .unset] [(.ref a1)])) _
    refine XS.iload X30.here hx rfl (hb hby d3_317) rfl ?_
    show Steps p.tables e below (T30.setTop (mkF m 319 #[.val (.ref a1), .val (.int p1), .val (.int p2), .val (.long q3), .second, .val (.int (0 : Int32)), .val (.int p5), .val (.ref w_EMPTY), .val (.int (0 : Int32)), .val (.ref w_EMPTY), .val (.int ((((p1.toInt64) * (p5.toInt64)) / (100 : Int64)).toInt32)), .val (.int (if (0 : Int32) < (p1 - ((2 : Int32) * p2)) then (p1 - ((2 : Int32) * p2)) else (0 : Int32))), .unset] [(.int (0 : Int32)), (.ref a1)])) _
    exact k
  have f34 : Exa Z h30 a1 "com/example/strict_dht/strictdht/sim/Simulation$Scenario" := (f31.wr W30)
  have f35 : Fld Z h30 a1 "com/example/strict_dht/strictdht/sim/Simulation$Scenario" "minutes" "I" (.int (0 : Int32)) := (((((F_minutes_a1.ext E13).ext E15).other W24 (Or.inr (slot_ne (Or.inr (hw _ (List.mem_of_getElem? (i := 60) rfl))) (Or.inr (hw _ (List.mem_of_getElem? (i := 54) rfl))) (by decide) (t := .int) (t' := .int) (by decide) (by decide)))).other W27 (Or.inr (slot_ne (Or.inr (hw _ (List.mem_of_getElem? (i := 60) rfl))) (Or.inr (hw _ (List.mem_of_getElem? (i := 56) rfl))) (by decide) (t := .int) (t' := .int) (by decide) (by decide)))).other W30 (Or.inr (slot_ne (Or.inr (hw _ (List.mem_of_getElem? (i := 60) rfl))) (Or.inr (hw _ (List.mem_of_getElem? (i := 58) rfl))) (by decide) (t := .int) (t' := .long) (by decide) (by decide))))
  obtain ⟨T33, h33, X33, e33, W33, st33⟩ := putF X30 hx hZ15 ho15 (host := "") (Or.inl (hw _ (List.mem_of_getElem? (i := 59) rfl))) Via.refl e30 f35 f34 (Or.inr ⟨(hw _ (List.mem_of_getElem? (i := 60) rfl)), rfl, hnm⟩) (hw _ (List.mem_of_getElem? (i := 3) rfl)) (ty := .int) (by decide) rfl rfl (g := (mkF m 319 #[.val (.ref a1), .val (.int p1), .val (.int p2), .val (.long q3), .second, .val (.int (0 : Int32)), .val (.int p5), .val (.ref w_EMPTY), .val (.int (0 : Int32)), .val (.ref w_EMPTY), .val (.int ((((p1.toInt64) * (p5.toInt64)) / (100 : Int64)).toInt32)), .val (.int (if (0 : Int32) < (p1 - ((2 : Int32) * p2)) then (p1 - ((2 : Int32) * p2)) else (0 : Int32))), .unset] [(.int (0 : Int32)), (.ref a1)])) rfl rfl (hb hby d3_319)
  refine own_go st33 ?_
  have F33 : Fld Z h33 a1 "com/example/strict_dht/strictdht/sim/Simulation$Scenario" "minutes" "I" (.int (0 : Int32)) := f35.same W33
  have K33 : Keep h0 h33 [a1] := Keep.wr K30 W33 (Or.inl (List.mem_of_getElem? (i := 0) rfl))
  have N33 := Fr.snoc X33 N30 g_a1
  refine own_go (B := T33.setTop (mkF m 325 #[.val (.ref a1), .val (.int p1), .val (.int p2), .val (.long q3), .second, .val (.int (0 : Int32)), .val (.int p5), .val (.ref w_EMPTY), .val (.int (0 : Int32)), .val (.ref w_EMPTY), .val (.int ((((p1.toInt64) * (p5.toInt64)) / (100 : Int64)).toInt32)), .val (.int (if (0 : Int32) < (p1 - ((2 : Int32) * p2)) then (p1 - ((2 : Int32) * p2)) else (0 : Int32))), .unset] [(.int p5), (.ref a1)])) (fun t k => ?_) ?_
  · show Steps p.tables e below (T33.setTop (mkF m 322 #[.val (.ref a1), .val (.int p1), .val (.int p2), .val (.long q3), .second, .val (.int (0 : Int32)), .val (.int p5), .val (.ref w_EMPTY), .val (.int (0 : Int32)), .val (.ref w_EMPTY), .val (.int ((((p1.toInt64) * (p5.toInt64)) / (100 : Int64)).toInt32)), .val (.int (if (0 : Int32) < (p1 - ((2 : Int32) * p2)) then (p1 - ((2 : Int32) * p2)) else (0 : Int32))), .unset] [])) _
    refine XS.aloadN X33.here hx rfl (hb hby d3_322) rfl rfl ?_
    show Steps p.tables e below (T33.setTop (mkF m 323 #[.val (.ref a1), .val (.int p1), .val (.int p2), .val (.long q3), .second, .val (.int (0 : Int32)), .val (.int p5), .val (.ref w_EMPTY), .val (.int (0 : Int32)), .val (.ref w_EMPTY), .val (.int ((((p1.toInt64) * (p5.toInt64)) / (100 : Int64)).toInt32)), .val (.int (if (0 : Int32) < (p1 - ((2 : Int32) * p2)) then (p1 - ((2 : Int32) * p2)) else (0 : Int32))), .unset] [(.ref a1)])) _
    refine XS.iload X33.here hx rfl (hb hby d3_323) rfl ?_
    show Steps p.tables e below (T33.setTop (mkF m 325 #[.val (.ref a1), .val (.int p1), .val (.int p2), .val (.long q3), .second, .val (.int (0 : Int32)), .val (.int p5), .val (.ref w_EMPTY), .val (.int (0 : Int32)), .val (.ref w_EMPTY), .val (.int ((((p1.toInt64) * (p5.toInt64)) / (100 : Int64)).toInt32)), .val (.int (if (0 : Int32) < (p1 - ((2 : Int32) * p2)) then (p1 - ((2 : Int32) * p2)) else (0 : Int32))), .unset] [(.int p5), (.ref a1)])) _
    exact k
  have f37 : Exa Z h33 a1 "com/example/strict_dht/strictdht/sim/Simulation$Scenario" := (f34.wr W33)
  have f38 : Fld Z h33 a1 "com/example/strict_dht/strictdht/sim/Simulation$Scenario" "kill" "I" (.int (0 : Int32)) := ((((((F_kill_a1.ext E13).ext E15).other W24 (Or.inr (slot_ne (Or.inr (hw _ (List.mem_of_getElem? (i := 62) rfl))) (Or.inr (hw _ (List.mem_of_getElem? (i := 54) rfl))) (by decide) (t := .int) (t' := .int) (by decide) (by decide)))).other W27 (Or.inr (slot_ne (Or.inr (hw _ (List.mem_of_getElem? (i := 62) rfl))) (Or.inr (hw _ (List.mem_of_getElem? (i := 56) rfl))) (by decide) (t := .int) (t' := .int) (by decide) (by decide)))).other W30 (Or.inr (slot_ne (Or.inr (hw _ (List.mem_of_getElem? (i := 62) rfl))) (Or.inr (hw _ (List.mem_of_getElem? (i := 58) rfl))) (by decide) (t := .int) (t' := .long) (by decide) (by decide)))).other W33 (Or.inr (slot_ne (Or.inr (hw _ (List.mem_of_getElem? (i := 62) rfl))) (Or.inr (hw _ (List.mem_of_getElem? (i := 60) rfl))) (by decide) (t := .int) (t' := .int) (by decide) (by decide))))
  obtain ⟨T36, h36, X36, e36, W36, st36⟩ := putF X33 hx hZ15 ho15 (host := "") (Or.inl (hw _ (List.mem_of_getElem? (i := 61) rfl))) Via.refl e33 f38 f37 (Or.inr ⟨(hw _ (List.mem_of_getElem? (i := 62) rfl)), rfl, hnm⟩) (hw _ (List.mem_of_getElem? (i := 3) rfl)) (ty := .int) (by decide) rfl rfl (g := (mkF m 325 #[.val (.ref a1), .val (.int p1), .val (.int p2), .val (.long q3), .second, .val (.int (0 : Int32)), .val (.int p5), .val (.ref w_EMPTY), .val (.int (0 : Int32)), .val (.ref w_EMPTY), .val (.int ((((p1.toInt64) * (p5.toInt64)) / (100 : Int64)).toInt32)), .val (.int (if (0 : Int32) < (p1 - ((2 : Int32) * p2)) then (p1 - ((2 : Int32) * p2)) else (0 : Int32))), .unset] [(.int p5), (.ref a1)])) rfl rfl (hb hby d3_325)
  refine own_go st36 ?_
  have F36 : Fld Z h36 a1 "com/example/strict_dht/strictdht/sim/Simulation$Scenario" "kill" "I" (.int p5) := f38.same W36
  have K36 : Keep h0 h36 [a1] := Keep.wr K33 W36 (Or.inl (List.mem_of_getElem? (i := 0) rfl))
  have N36 := Fr.snoc X36 N33 g_a1
  refine own_go (B := T36.setTop (mkF m 331 #[.val (.ref a1), .val (.int p1), .val (.int p2), .val (.long q3), .second, .val (.int (0 : Int32)), .val (.int p5), .val (.ref w_EMPTY), .val (.int (0 : Int32)), .val (.ref w_EMPTY), .val (.int ((((p1.toInt64) * (p5.toInt64)) / (100 : Int64)).toInt32)), .val (.int (if (0 : Int32) < (p1 - ((2 : Int32) * p2)) then (p1 - ((2 : Int32) * p2)) else (0 : Int32))), .unset] [(.ref w_EMPTY), (.ref a1)])) (fun t k => ?_) ?_
  · show Steps p.tables e below (T36.setTop (mkF m 328 #[.val (.ref a1), .val (.int p1), .val (.int p2), .val (.long q3), .second, .val (.int (0 : Int32)), .val (.int p5), .val (.ref w_EMPTY), .val (.int (0 : Int32)), .val (.ref w_EMPTY), .val (.int ((((p1.toInt64) * (p5.toInt64)) / (100 : Int64)).toInt32)), .val (.int (if (0 : Int32) < (p1 - ((2 : Int32) * p2)) then (p1 - ((2 : Int32) * p2)) else (0 : Int32))), .unset] [])) _
    refine XS.aloadN X36.here hx rfl (hb hby d3_328) rfl rfl ?_
    show Steps p.tables e below (T36.setTop (mkF m 329 #[.val (.ref a1), .val (.int p1), .val (.int p2), .val (.long q3), .second, .val (.int (0 : Int32)), .val (.int p5), .val (.ref w_EMPTY), .val (.int (0 : Int32)), .val (.ref w_EMPTY), .val (.int ((((p1.toInt64) * (p5.toInt64)) / (100 : Int64)).toInt32)), .val (.int (if (0 : Int32) < (p1 - ((2 : Int32) * p2)) then (p1 - ((2 : Int32) * p2)) else (0 : Int32))), .unset] [(.ref a1)])) _
    refine XS.aload X36.here hx rfl (hb hby d3_329) rfl rfl ?_
    show Steps p.tables e below (T36.setTop (mkF m 331 #[.val (.ref a1), .val (.int p1), .val (.int p2), .val (.long q3), .second, .val (.int (0 : Int32)), .val (.int p5), .val (.ref w_EMPTY), .val (.int (0 : Int32)), .val (.ref w_EMPTY), .val (.int ((((p1.toInt64) * (p5.toInt64)) / (100 : Int64)).toInt32)), .val (.int (if (0 : Int32) < (p1 - ((2 : Int32) * p2)) then (p1 - ((2 : Int32) * p2)) else (0 : Int32))), .unset] [(.ref w_EMPTY), (.ref a1)])) _
    exact k
  have f40 : Exa Z h36 a1 "com/example/strict_dht/strictdht/sim/Simulation$Scenario" := (f37.wr W36)
  have f41 : Fld Z h36 a1 "com/example/strict_dht/strictdht/sim/Simulation$Scenario" "searchEvery" "Ljava/util/OptionalInt;" .null := (((((((F_searchEvery_a1.ext E13).ext E15).other W24 (Or.inr (slot_ne (Or.inr (hw _ (List.mem_of_getElem? (i := 64) rfl))) (Or.inr (hw _ (List.mem_of_getElem? (i := 54) rfl))) (by decide) (t := (.object "java/util/OptionalInt")) (t' := .int) (by decide) (by decide)))).other W27 (Or.inr (slot_ne (Or.inr (hw _ (List.mem_of_getElem? (i := 64) rfl))) (Or.inr (hw _ (List.mem_of_getElem? (i := 56) rfl))) (by decide) (t := (.object "java/util/OptionalInt")) (t' := .int) (by decide) (by decide)))).other W30 (Or.inr (slot_ne (Or.inr (hw _ (List.mem_of_getElem? (i := 64) rfl))) (Or.inr (hw _ (List.mem_of_getElem? (i := 58) rfl))) (by decide) (t := (.object "java/util/OptionalInt")) (t' := .long) (by decide) (by decide)))).other W33 (Or.inr (slot_ne (Or.inr (hw _ (List.mem_of_getElem? (i := 64) rfl))) (Or.inr (hw _ (List.mem_of_getElem? (i := 60) rfl))) (by decide) (t := (.object "java/util/OptionalInt")) (t' := .int) (by decide) (by decide)))).other W36 (Or.inr (slot_ne (Or.inr (hw _ (List.mem_of_getElem? (i := 64) rfl))) (Or.inr (hw _ (List.mem_of_getElem? (i := 62) rfl))) (by decide) (t := (.object "java/util/OptionalInt")) (t' := .int) (by decide) (by decide))))
  obtain ⟨T39, h39, X39, e39, W39, st39⟩ := putF X36 hx hZ15 ho15 (host := "") (Or.inl (hw _ (List.mem_of_getElem? (i := 63) rfl))) Via.refl e36 f41 f40 (Or.inr ⟨(hw _ (List.mem_of_getElem? (i := 64) rfl)), rfl, hnm⟩) (hw _ (List.mem_of_getElem? (i := 3) rfl)) (ty := (.object "java/util/OptionalInt")) (by decide) rfl rfl (g := (mkF m 331 #[.val (.ref a1), .val (.int p1), .val (.int p2), .val (.long q3), .second, .val (.int (0 : Int32)), .val (.int p5), .val (.ref w_EMPTY), .val (.int (0 : Int32)), .val (.ref w_EMPTY), .val (.int ((((p1.toInt64) * (p5.toInt64)) / (100 : Int64)).toInt32)), .val (.int (if (0 : Int32) < (p1 - ((2 : Int32) * p2)) then (p1 - ((2 : Int32) * p2)) else (0 : Int32))), .unset] [(.ref w_EMPTY), (.ref a1)])) rfl rfl (hb hby d3_331)
  refine own_go st39 ?_
  have F39 : Fld Z h39 a1 "com/example/strict_dht/strictdht/sim/Simulation$Scenario" "searchEvery" "Ljava/util/OptionalInt;" (.ref w_EMPTY) := f41.same W39
  have K39 : Keep h0 h39 [a1] := Keep.wr K36 W39 (Or.inl (List.mem_of_getElem? (i := 0) rfl))
  have N39 := Fr.snoc X39 N36 g_a1
  refine own_go (B := T39.setTop (mkF m 337 #[.val (.ref a1), .val (.int p1), .val (.int p2), .val (.long q3), .second, .val (.int (0 : Int32)), .val (.int p5), .val (.ref w_EMPTY), .val (.int (0 : Int32)), .val (.ref w_EMPTY), .val (.int ((((p1.toInt64) * (p5.toInt64)) / (100 : Int64)).toInt32)), .val (.int (if (0 : Int32) < (p1 - ((2 : Int32) * p2)) then (p1 - ((2 : Int32) * p2)) else (0 : Int32))), .unset] [(.int (0 : Int32)), (.ref a1)])) (fun t k => ?_) ?_
  · show Steps p.tables e below (T39.setTop (mkF m 334 #[.val (.ref a1), .val (.int p1), .val (.int p2), .val (.long q3), .second, .val (.int (0 : Int32)), .val (.int p5), .val (.ref w_EMPTY), .val (.int (0 : Int32)), .val (.ref w_EMPTY), .val (.int ((((p1.toInt64) * (p5.toInt64)) / (100 : Int64)).toInt32)), .val (.int (if (0 : Int32) < (p1 - ((2 : Int32) * p2)) then (p1 - ((2 : Int32) * p2)) else (0 : Int32))), .unset] [])) _
    refine XS.aloadN X39.here hx rfl (hb hby d3_334) rfl rfl ?_
    show Steps p.tables e below (T39.setTop (mkF m 335 #[.val (.ref a1), .val (.int p1), .val (.int p2), .val (.long q3), .second, .val (.int (0 : Int32)), .val (.int p5), .val (.ref w_EMPTY), .val (.int (0 : Int32)), .val (.ref w_EMPTY), .val (.int ((((p1.toInt64) * (p5.toInt64)) / (100 : Int64)).toInt32)), .val (.int (if (0 : Int32) < (p1 - ((2 : Int32) * p2)) then (p1 - ((2 : Int32) * p2)) else (0 : Int32))), .unset] [(.ref a1)])) _
    refine XS.iload X39.here hx rfl (hb hby d3_335) rfl ?_
    show Steps p.tables e below (T39.setTop (mkF m 337 #[.val (.ref a1), .val (.int p1), .val (.int p2), .val (.long q3), .second, .val (.int (0 : Int32)), .val (.int p5), .val (.ref w_EMPTY), .val (.int (0 : Int32)), .val (.ref w_EMPTY), .val (.int ((((p1.toInt64) * (p5.toInt64)) / (100 : Int64)).toInt32)), .val (.int (if (0 : Int32) < (p1 - ((2 : Int32) * p2)) then (p1 - ((2 : Int32) * p2)) else (0 : Int32))), .unset] [(.int (0 : Int32)), (.ref a1)])) _
    exact k
  have f43 : Exa Z h39 a1 "com/example/strict_dht/strictdht/sim/Simulation$Scenario" := (f40.wr W39)
  have f44 : Fld Z h39 a1 "com/example/strict_dht/strictdht/sim/Simulation$Scenario" "churn" "Z" (.int (0 : Int32)) := ((((((((F_churn_a1.ext E13).ext E15).other W24 (Or.inr (slot_ne (Or.inr (hw _ (List.mem_of_getElem? (i := 66) rfl))) (Or.inr (hw _ (List.mem_of_getElem? (i := 54) rfl))) (by decide) (t := .boolean) (t' := .int) (by decide) (by decide)))).other W27 (Or.inr (slot_ne (Or.inr (hw _ (List.mem_of_getElem? (i := 66) rfl))) (Or.inr (hw _ (List.mem_of_getElem? (i := 56) rfl))) (by decide) (t := .boolean) (t' := .int) (by decide) (by decide)))).other W30 (Or.inr (slot_ne (Or.inr (hw _ (List.mem_of_getElem? (i := 66) rfl))) (Or.inr (hw _ (List.mem_of_getElem? (i := 58) rfl))) (by decide) (t := .boolean) (t' := .long) (by decide) (by decide)))).other W33 (Or.inr (slot_ne (Or.inr (hw _ (List.mem_of_getElem? (i := 66) rfl))) (Or.inr (hw _ (List.mem_of_getElem? (i := 60) rfl))) (by decide) (t := .boolean) (t' := .int) (by decide) (by decide)))).other W36 (Or.inr (slot_ne (Or.inr (hw _ (List.mem_of_getElem? (i := 66) rfl))) (Or.inr (hw _ (List.mem_of_getElem? (i := 62) rfl))) (by decide) (t := .boolean) (t' := .int) (by decide) (by decide)))).other W39 (Or.inr (slot_ne (Or.inr (hw _ (List.mem_of_getElem? (i := 66) rfl))) (Or.inr (hw _ (List.mem_of_getElem? (i := 64) rfl))) (by decide) (t := .boolean) (t' := (.object "java/util/OptionalInt")) (by decide) (by decide))))
  obtain ⟨T42, h42, X42, e42, W42, st42⟩ := putFN X39 hx hZ15 ho15 (hw _ (List.mem_of_getElem? (i := 65) rfl)) Via.refl e39 f44 f43 (Or.inr ⟨(hw _ (List.mem_of_getElem? (i := 66) rfl)), rfl, hnm⟩) (hw _ (List.mem_of_getElem? (i := 3) rfl)) (ty := .boolean) (v' := (.int (0 : Int32))) (by decide) rfl (by decide) (g := (mkF m 337 #[.val (.ref a1), .val (.int p1), .val (.int p2), .val (.long q3), .second, .val (.int (0 : Int32)), .val (.int p5), .val (.ref w_EMPTY), .val (.int (0 : Int32)), .val (.ref w_EMPTY), .val (.int ((((p1.toInt64) * (p5.toInt64)) / (100 : Int64)).toInt32)), .val (.int (if (0 : Int32) < (p1 - ((2 : Int32) * p2)) then (p1 - ((2 : Int32) * p2)) else (0 : Int32))), .unset] [(.int (0 : Int32)), (.ref a1)])) rfl rfl (hb hby d3_337)
  refine own_go st42 ?_
  have F42 : Fld Z h42 a1 "com/example/strict_dht/strictdht/sim/Simulation$Scenario" "churn" "Z" (.int (0 : Int32)) := f44.same W42
  have K42 : Keep h0 h42 [a1] := Keep.wr K39 W42 (Or.inl (List.mem_of_getElem? (i := 0) rfl))
  have N42 := Fr.snoc X42 N39 g_a1
  refine own_go (B := T42.setTop (mkF m 343 #[.val (.ref a1), .val (.int p1), .val (.int p2), .val (.long q3), .second, .val (.int (0 : Int32)), .val (.int p5), .val (.ref w_EMPTY), .val (.int (0 : Int32)), .val (.ref w_EMPTY), .val (.int ((((p1.toInt64) * (p5.toInt64)) / (100 : Int64)).toInt32)), .val (.int (if (0 : Int32) < (p1 - ((2 : Int32) * p2)) then (p1 - ((2 : Int32) * p2)) else (0 : Int32))), .unset] [(.ref w_EMPTY), (.ref a1)])) (fun t k => ?_) ?_
  · show Steps p.tables e below (T42.setTop (mkF m 340 #[.val (.ref a1), .val (.int p1), .val (.int p2), .val (.long q3), .second, .val (.int (0 : Int32)), .val (.int p5), .val (.ref w_EMPTY), .val (.int (0 : Int32)), .val (.ref w_EMPTY), .val (.int ((((p1.toInt64) * (p5.toInt64)) / (100 : Int64)).toInt32)), .val (.int (if (0 : Int32) < (p1 - ((2 : Int32) * p2)) then (p1 - ((2 : Int32) * p2)) else (0 : Int32))), .unset] [])) _
    refine XS.aloadN X42.here hx rfl (hb hby d3_340) rfl rfl ?_
    show Steps p.tables e below (T42.setTop (mkF m 341 #[.val (.ref a1), .val (.int p1), .val (.int p2), .val (.long q3), .second, .val (.int (0 : Int32)), .val (.int p5), .val (.ref w_EMPTY), .val (.int (0 : Int32)), .val (.ref w_EMPTY), .val (.int ((((p1.toInt64) * (p5.toInt64)) / (100 : Int64)).toInt32)), .val (.int (if (0 : Int32) < (p1 - ((2 : Int32) * p2)) then (p1 - ((2 : Int32) * p2)) else (0 : Int32))), .unset] [(.ref a1)])) _
    refine XS.aload X42.here hx rfl (hb hby d3_341) rfl rfl ?_
    show Steps p.tables e below (T42.setTop (mkF m 343 #[.val (.ref a1), .val (.int p1), .val (.int p2), .val (.long q3), .second, .val (.int (0 : Int32)), .val (.int p5), .val (.ref w_EMPTY), .val (.int (0 : Int32)), .val (.ref w_EMPTY), .val (.int ((((p1.toInt64) * (p5.toInt64)) / (100 : Int64)).toInt32)), .val (.int (if (0 : Int32) < (p1 - ((2 : Int32) * p2)) then (p1 - ((2 : Int32) * p2)) else (0 : Int32))), .unset] [(.ref w_EMPTY), (.ref a1)])) _
    exact k
  have f46 : Exa Z h42 a1 "com/example/strict_dht/strictdht/sim/Simulation$Scenario" := (f43.wr W42)
  have f47 : Fld Z h42 a1 "com/example/strict_dht/strictdht/sim/Simulation$Scenario" "publishersLeave" "Ljava/util/OptionalInt;" .null := (((((((((F_publishersLeave_a1.ext E13).ext E15).other W24 (Or.inr (slot_ne (Or.inr (hw _ (List.mem_of_getElem? (i := 68) rfl))) (Or.inr (hw _ (List.mem_of_getElem? (i := 54) rfl))) (by decide) (t := (.object "java/util/OptionalInt")) (t' := .int) (by decide) (by decide)))).other W27 (Or.inr (slot_ne (Or.inr (hw _ (List.mem_of_getElem? (i := 68) rfl))) (Or.inr (hw _ (List.mem_of_getElem? (i := 56) rfl))) (by decide) (t := (.object "java/util/OptionalInt")) (t' := .int) (by decide) (by decide)))).other W30 (Or.inr (slot_ne (Or.inr (hw _ (List.mem_of_getElem? (i := 68) rfl))) (Or.inr (hw _ (List.mem_of_getElem? (i := 58) rfl))) (by decide) (t := (.object "java/util/OptionalInt")) (t' := .long) (by decide) (by decide)))).other W33 (Or.inr (slot_ne (Or.inr (hw _ (List.mem_of_getElem? (i := 68) rfl))) (Or.inr (hw _ (List.mem_of_getElem? (i := 60) rfl))) (by decide) (t := (.object "java/util/OptionalInt")) (t' := .int) (by decide) (by decide)))).other W36 (Or.inr (slot_ne (Or.inr (hw _ (List.mem_of_getElem? (i := 68) rfl))) (Or.inr (hw _ (List.mem_of_getElem? (i := 62) rfl))) (by decide) (t := (.object "java/util/OptionalInt")) (t' := .int) (by decide) (by decide)))).other W39 (Or.inr (slot_ne (Or.inr (hw _ (List.mem_of_getElem? (i := 68) rfl))) (Or.inr (hw _ (List.mem_of_getElem? (i := 64) rfl))) (by decide) (t := (.object "java/util/OptionalInt")) (t' := (.object "java/util/OptionalInt")) (by decide) (by decide)))).other W42 (Or.inr (slot_ne (Or.inr (hw _ (List.mem_of_getElem? (i := 68) rfl))) (Or.inr (hw _ (List.mem_of_getElem? (i := 66) rfl))) (by decide) (t := (.object "java/util/OptionalInt")) (t' := .boolean) (by decide) (by decide))))
  obtain ⟨T45, h45, X45, e45, W45, st45⟩ := putF X42 hx hZ15 ho15 (host := "") (Or.inl (hw _ (List.mem_of_getElem? (i := 67) rfl))) Via.refl e42 f47 f46 (Or.inr ⟨(hw _ (List.mem_of_getElem? (i := 68) rfl)), rfl, hnm⟩) (hw _ (List.mem_of_getElem? (i := 3) rfl)) (ty := (.object "java/util/OptionalInt")) (by decide) rfl rfl (g := (mkF m 343 #[.val (.ref a1), .val (.int p1), .val (.int p2), .val (.long q3), .second, .val (.int (0 : Int32)), .val (.int p5), .val (.ref w_EMPTY), .val (.int (0 : Int32)), .val (.ref w_EMPTY), .val (.int ((((p1.toInt64) * (p5.toInt64)) / (100 : Int64)).toInt32)), .val (.int (if (0 : Int32) < (p1 - ((2 : Int32) * p2)) then (p1 - ((2 : Int32) * p2)) else (0 : Int32))), .unset] [(.ref w_EMPTY), (.ref a1)])) rfl rfl (hb hby d3_343)
  refine own_go st45 ?_
  have F45 : Fld Z h45 a1 "com/example/strict_dht/strictdht/sim/Simulation$Scenario" "publishersLeave" "Ljava/util/OptionalInt;" (.ref w_EMPTY) := f47.same W45
  have K45 : Keep h0 h45 [a1] := Keep.wr K42 W45 (Or.inl (List.mem_of_getElem? (i := 0) rfl))
  have N45 := Fr.snoc X45 N42 g_a1
  have le49 : h15.size ≤ h45.size := (Nat.le_trans (Nat.le_trans (Nat.le_trans (Nat.le_trans (Nat.le_trans (Nat.le_trans (Nat.le_trans (Nat.le_of_eq (Wr.size W24).symm) (Nat.le_of_eq (Wr.size W27).symm)) (Nat.le_of_eq (Wr.size W30).symm)) (Nat.le_of_eq (Wr.size W33).symm)) (Nat.le_of_eq (Wr.size W36).symm)) (Nat.le_of_eq (Wr.size W39).symm)) (Nat.le_of_eq (Wr.size W42).symm)) (Nat.le_of_eq (Wr.size W45).symm))
  obtain ⟨fs, hr, hrun, hended, hW⟩ := X45.leaveW hS15 (show _ ≤ T45.heap.size by rw [e45]; exact (Nat.le_trans hk15 le49)) (v := none) (fun _ => rfl)
  refine ⟨_, _, ?_, hrun, hended, _, _, rfl, ?_, ⟨hW.1, hW.2.1, hW.2.2.1, hW.2.2.2.mono (by decide) (by decide)⟩⟩
  · exact X45.returnOut hx Bd.returns (hb hby d3_346) hr
  · show Q3 Z a1 p1 p2 q3 p5 w_EMPTY h0 n0 _ T45.heap _
    rw [e45]
    have f50 : Exa Z h45 a1 "com/example/strict_dht/strictdht/sim/Simulation$Scenario" := (f46.wr W45)
    have f51 : Fld Z h45 a1 "com/example/strict_dht/strictdht/sim/Simulation$Scenario" "nodes" "I" (.int p1) := (((((((F24.other W27 (Or.inr (slot_ne (Or.inr (hw _ (List.mem_of_getElem? (i := 54) rfl))) (Or.inr (hw _ (List.mem_of_getElem? (i := 56) rfl))) (by decide) (t := .int) (t' := .int) (by decide) (by decide)))).other W30 (Or.inr (slot_ne (Or.inr (hw _ (List.mem_of_getElem? (i := 54) rfl))) (Or.inr (hw _ (List.mem_of_getElem? (i := 58) rfl))) (by decide) (t := .int) (t' := .long) (by decide) (by decide)))).other W33 (Or.inr (slot_ne (Or.inr (hw _ (List.mem_of_getElem? (i := 54) rfl))) (Or.inr (hw _ (List.mem_of_getElem? (i := 60) rfl))) (by decide) (t := .int) (t' := .int) (by decide) (by decide)))).other W36 (Or.inr (slot_ne (Or.inr (hw _ (List.mem_of_getElem? (i := 54) rfl))) (Or.inr (hw _ (List.mem_of_getElem? (i := 62) rfl))) (by decide) (t := .int) (t' := .int) (by decide) (by decide)))).other W39 (Or.inr (slot_ne (Or.inr (hw _ (List.mem_of_getElem? (i := 54) rfl))) (Or.inr (hw _ (List.mem_of_getElem? (i := 64) rfl))) (by decide) (t := .int) (t' := (.object "java/util/OptionalInt")) (by decide) (by decide)))).other W42 (Or.inr (slot_ne (Or.inr (hw _ (List.mem_of_getElem? (i := 54) rfl))) (Or.inr (hw _ (List.mem_of_getElem? (i := 66) rfl))) (by decide) (t := .int) (t' := .boolean) (by decide) (by decide)))).other W45 (Or.inr (slot_ne (Or.inr (hw _ (List.mem_of_getElem? (i := 54) rfl))) (Or.inr (hw _ (List.mem_of_getElem? (i := 68) rfl))) (by decide) (t := .int) (t' := (.object "java/util/OptionalInt")) (by decide) (by decide))))
    have f52 : Fld Z h45 a1 "com/example/strict_dht/strictdht/sim/Simulation$Scenario" "keys" "I" (.int p2) := ((((((F27.other W30 (Or.inr (slot_ne (Or.inr (hw _ (List.mem_of_getElem? (i := 56) rfl))) (Or.inr (hw _ (List.mem_of_getElem? (i := 58) rfl))) (by decide) (t := .int) (t' := .long) (by decide) (by decide)))).other W33 (Or.inr (slot_ne (Or.inr (hw _ (List.mem_of_getElem? (i := 56) rfl))) (Or.inr (hw _ (List.mem_of_getElem? (i := 60) rfl))) (by decide) (t := .int) (t' := .int) (by decide) (by decide)))).other W36 (Or.inr (slot_ne (Or.inr (hw _ (List.mem_of_getElem? (i := 56) rfl))) (Or.inr (hw _ (List.mem_of_getElem? (i := 62) rfl))) (by decide) (t := .int) (t' := .int) (by decide) (by decide)))).other W39 (Or.inr (slot_ne (Or.inr (hw _ (List.mem_of_getElem? (i := 56) rfl))) (Or.inr (hw _ (List.mem_of_getElem? (i := 64) rfl))) (by decide) (t := .int) (t' := (.object "java/util/OptionalInt")) (by decide) (by decide)))).other W42 (Or.inr (slot_ne (Or.inr (hw _ (List.mem_of_getElem? (i := 56) rfl))) (Or.inr (hw _ (List.mem_of_getElem? (i := 66) rfl))) (by decide) (t := .int) (t' := .boolean) (by decide) (by decide)))).other W45 (Or.inr (slot_ne (Or.inr (hw _ (List.mem_of_getElem? (i := 56) rfl))) (Or.inr (hw _ (List.mem_of_getElem? (i := 68) rfl))) (by decide) (t := .int) (t' := (.object "java/util/OptionalInt")) (by decide) (by decide))))
    have f53 : Fld Z h45 a1 "com/example/strict_dht/strictdht/sim/Simulation$Scenario" "seed" "J" (.long q3) := (((((F30.other W33 (Or.inr (slot_ne (Or.inr (hw _ (List.mem_of_getElem? (i := 58) rfl))) (Or.inr (hw _ (List.mem_of_getElem? (i := 60) rfl))) (by decide) (t := .long) (t' := .int) (by decide) (by decide)))).other W36 (Or.inr (slot_ne (Or.inr (hw _ (List.mem_of_getElem? (i := 58) rfl))) (Or.inr (hw _ (List.mem_of_getElem? (i := 62) rfl))) (by decide) (t := .long) (t' := .int) (by decide) (by decide)))).other W39 (Or.inr (slot_ne (Or.inr (hw _ (List.mem_of_getElem? (i := 58) rfl))) (Or.inr (hw _ (List.mem_of_getElem? (i := 64) rfl))) (by decide) (t := .long) (t' := (.object "java/util/OptionalInt")) (by decide) (by decide)))).other W42 (Or.inr (slot_ne (Or.inr (hw _ (List.mem_of_getElem? (i := 58) rfl))) (Or.inr (hw _ (List.mem_of_getElem? (i := 66) rfl))) (by decide) (t := .long) (t' := .boolean) (by decide) (by decide)))).other W45 (Or.inr (slot_ne (Or.inr (hw _ (List.mem_of_getElem? (i := 58) rfl))) (Or.inr (hw _ (List.mem_of_getElem? (i := 68) rfl))) (by decide) (t := .long) (t' := (.object "java/util/OptionalInt")) (by decide) (by decide))))
    have f54 : Fld Z h45 a1 "com/example/strict_dht/strictdht/sim/Simulation$Scenario" "minutes" "I" (.int (0 : Int32)) := ((((F33.other W36 (Or.inr (slot_ne (Or.inr (hw _ (List.mem_of_getElem? (i := 60) rfl))) (Or.inr (hw _ (List.mem_of_getElem? (i := 62) rfl))) (by decide) (t := .int) (t' := .int) (by decide) (by decide)))).other W39 (Or.inr (slot_ne (Or.inr (hw _ (List.mem_of_getElem? (i := 60) rfl))) (Or.inr (hw _ (List.mem_of_getElem? (i := 64) rfl))) (by decide) (t := .int) (t' := (.object "java/util/OptionalInt")) (by decide) (by decide)))).other W42 (Or.inr (slot_ne (Or.inr (hw _ (List.mem_of_getElem? (i := 60) rfl))) (Or.inr (hw _ (List.mem_of_getElem? (i := 66) rfl))) (by decide) (t := .int) (t' := .boolean) (by decide) (by decide)))).other W45 (Or.inr (slot_ne (Or.inr (hw _ (List.mem_of_getElem? (i := 60) rfl))) (Or.inr (hw _ (List.mem_of_getElem? (i := 68) rfl))) (by decide) (t := .int) (t' := (.object "java/util/OptionalInt")) (by decide) (by decide))))
    have f55 : Fld Z h45 a1 "com/example/strict_dht/strictdht/sim/Simulation$Scenario" "kill" "I" (.int p5) := (((F36.other W39 (Or.inr (slot_ne (Or.inr (hw _ (List.mem_of_getElem? (i := 62) rfl))) (Or.inr (hw _ (List.mem_of_getElem? (i := 64) rfl))) (by decide) (t := .int) (t' := (.object "java/util/OptionalInt")) (by decide) (by decide)))).other W42 (Or.inr (slot_ne (Or.inr (hw _ (List.mem_of_getElem? (i := 62) rfl))) (Or.inr (hw _ (List.mem_of_getElem? (i := 66) rfl))) (by decide) (t := .int) (t' := .boolean) (by decide) (by decide)))).other W45 (Or.inr (slot_ne (Or.inr (hw _ (List.mem_of_getElem? (i := 62) rfl))) (Or.inr (hw _ (List.mem_of_getElem? (i := 68) rfl))) (by decide) (t := .int) (t' := (.object "java/util/OptionalInt")) (by decide) (by decide))))
    have f56 : Fld Z h45 a1 "com/example/strict_dht/strictdht/sim/Simulation$Scenario" "searchEvery" "Ljava/util/OptionalInt;" (.ref w_EMPTY) := ((F39.other W42 (Or.inr (slot_ne (Or.inr (hw _ (List.mem_of_getElem? (i := 64) rfl))) (Or.inr (hw _ (List.mem_of_getElem? (i := 66) rfl))) (by decide) (t := (.object "java/util/OptionalInt")) (t' := .boolean) (by decide) (by decide)))).other W45 (Or.inr (slot_ne (Or.inr (hw _ (List.mem_of_getElem? (i := 64) rfl))) (Or.inr (hw _ (List.mem_of_getElem? (i := 68) rfl))) (by decide) (t := (.object "java/util/OptionalInt")) (t' := (.object "java/util/OptionalInt")) (by decide) (by decide))))
    have f57 : Fld Z h45 a1 "com/example/strict_dht/strictdht/sim/Simulation$Scenario" "churn" "Z" (.int (0 : Int32)) := (F42.other W45 (Or.inr (slot_ne (Or.inr (hw _ (List.mem_of_getElem? (i := 66) rfl))) (Or.inr (hw _ (List.mem_of_getElem? (i := 68) rfl))) (by decide) (t := .boolean) (t' := (.object "java/util/OptionalInt")) (by decide) (by decide))))
    exact ⟨rfl, N45, K45, f50, f51, f52, f53, f54, f55, f56, f57, F45⟩
theorem pd_4 : parseMethodDescriptor "()Ljava/util/OptionalInt;" = some ⟨[], some (.object "java/util/OptionalInt")⟩ := by decide +kernel
theorem pd_5 : parseMethodDescriptor "(IIJIILjava/util/OptionalInt;ZLjava/util/OptionalInt;)V" = some ⟨[.int, .int, .long, .int, .int, (.object "java/util/OptionalInt"), .boolean, (.object "java/util/OptionalInt")], none⟩ := by decide +kernel
theorem d1_0 : decode prog_66_method_2_code 0 = .ok (.aload_n 0, 1) := by decide +kernel
theorem d1_1 : decode prog_66_method_2_code 1 = .ok (.iload_n 1, 1) := by decide +kernel
theorem d1_2 : decode prog_66_method_2_code 2 = .ok (.iload_n 2, 1) := by decide +kernel
theorem d1_3 : decode prog_66_method_2_code 3 = .ok (.lload_n 3, 1) := by decide +kernel
theorem d1_4 : decode prog_66_method_2_code 4 = .ok (.iconst 0, 1) := by decide +kernel
theorem d1_5 : decode prog_66_method_2_code 5 = .ok (.iconst 0, 1) := by decide +kernel
theorem d1_6 : decode prog_66_method_2_code 6 = .ok (.invokestatic 96, 3) := by decide +kernel
theorem d1_9 : decode prog_66_method_2_code 9 = .ok (.iconst 0, 1) := by decide +kernel
theorem d1_10 : decode prog_66_method_2_code 10 = .ok (.invokestatic 96, 3) := by decide +kernel
theorem d1_13 : decode prog_66_method_2_code 13 = .ok (.invokespecial 100, 3) := by decide +kernel
theorem d1_16 : decode prog_66_method_2_code 16 = .ok (.return_, 1) := by decide +kernel
theorem ef_1 (m : MethodId) (a1 : Addr) (p1 : Int32) (p2 : Int32) (q3 : Int64) : entryFrame m #[(.ref a1), (.int p1), (.int p2), (.long q3)] 5 = mkF m 0 #[.val (.ref a1), .val (.int p1), .val (.int p2), .val (.long q3), .second] [] := by first | (simp [entryFrame, mkF, argsToLocals, Value.category]; done) | rfl
def Q1 (Z : State) (a1 : Addr) (p1 : Int32) (p2 : Int32) (q3 : Int64) (w_EMPTY : Addr) (h0 : Heap) (n0 : Nat) (v : Option Value) (h : Heap) (L : List Loc) : Prop := v = none ∧ Fr n0 L ∧ Keep h0 h [a1] ∧ Exa Z h a1 "com/example/strict_dht/strictdht/sim/Simulation$Scenario" ∧ Fld Z h a1 "com/example/strict_dht/strictdht/sim/Simulation$Scenario" "nodes" "I" (.int p1) ∧ Fld Z h a1 "com/example/strict_dht/strictdht/sim/Simulation$Scenario" "keys" "I" (.int p2) ∧ Fld Z h a1 "com/example/strict_dht/strictdht/sim/Simulation$Scenario" "seed" "J" (.long q3) ∧ Fld Z h a1 "com/example/strict_dht/strictdht/sim/Simulation$Scenario" "minutes" "I" (.int (0 : Int32)) ∧ Fld Z h a1 "com/example/strict_dht/strictdht/sim/Simulation$Scenario" "kill" "I" (.int (0 : Int32)) ∧ Fld Z h a1 "com/example/strict_dht/strictdht/sim/Simulation$Scenario" "searchEvery" "Ljava/util/OptionalInt;" (.ref w_EMPTY) ∧ Fld Z h a1 "com/example/strict_dht/strictdht/sim/Simulation$Scenario" "churn" "Z" (.int (0 : Int32)) ∧ Fld Z h a1 "com/example/strict_dht/strictdht/sim/Simulation$Scenario" "publishersLeave" "Ljava/util/OptionalInt;" (.ref w_EMPTY)
set_option maxRecDepth 65536 in
set_option maxHeartbeats 40000000 in
theorem rm1 (l : Launch) (Z : State) (a0 : Array Value) (hw : ∀ d ∈ tables_1, d.before a0 Z = true) (ws : List Jvm.Cond) (a1 : Addr) (p1 : Int32) (p2 : Int32) (q3 : Int64) (w_EMPTY : Addr) (h0 : Heap) (n0 : Nat) (Z0 : n0 ≤ h0.size) (E_a1 : Exa Z h0 a1 "com/example/strict_dht/strictdht/sim/Simulation$Scenario") (F_nodes_a1 : Fld Z h0 a1 "com/example/strict_dht/strictdht/sim/Simulation$Scenario" "nodes" "I" (.int (0 : Int32))) (F_keys_a1 : Fld Z h0 a1 "com/example/strict_dht/strictdht/sim/Simulation$Scenario" "keys" "I" (.int (0 : Int32))) (F_seed_a1 : Fld Z h0 a1 "com/example/strict_dht/strictdht/sim/Simulation$Scenario" "seed" "J" (.long (0 : Int64))) (F_minutes_a1 : Fld Z h0 a1 "com/example/strict_dht/strictdht/sim/Simulation$Scenario" "minutes" "I" (.int (0 : Int32))) (F_kill_a1 : Fld Z h0 a1 "com/example/strict_dht/strictdht/sim/Simulation$Scenario" "kill" "I" (.int (0 : Int32))) (F_searchEvery_a1 : Fld Z h0 a1 "com/example/strict_dht/strictdht/sim/Simulation$Scenario" "searchEvery" "Ljava/util/OptionalInt;" .null) (F_churn_a1 : Fld Z h0 a1 "com/example/strict_dht/strictdht/sim/Simulation$Scenario" "churn" "Z" (.int (0 : Int32))) (F_publishersLeave_a1 : Fld Z h0 a1 "com/example/strict_dht/strictdht/sim/Simulation$Scenario" "publishersLeave" "Ljava/util/OptionalInt;" .null) (g_a1 : n0 ≤ a1) (S_EMPTY : Sta Z h0 "java/util/OptionalInt" "EMPTY" "Ljava/util/OptionalInt;" (.ref w_EMPTY)) (E_EMPTY : Exa Z h0 w_EMPTY "java/util/OptionalInt") (F_EMPTY_isPresent : Fld Z h0 w_EMPTY "java/util/OptionalInt" "isPresent" "Z" (.int (0 : Int32))) (F_EMPTY_value : Fld Z h0 w_EMPTY "java/util/OptionalInt" "value" "I" (.int (0 : Int32))) (k1 : ¬ (16777214 : Int32) < p1) (k2 : ¬ p2 < (1 : Int32)) (k3 : p2 < p1) :
    MetFree l (⟨"com/example/strict_dht/strictdht/sim/Simulation$Scenario", "<init>", "(IIJ)V"⟩ : MethodName) (head1 (Jvm.Cond.code (⟨"com/example/strict_dht/strictdht/sim/Simulation$Scenario", "<init>", "(IIJ)V"⟩ : MethodName) prog_66_method_2_code 5 none :: ws) ({ frames := 3, cells := 4, slots := 112, locals := 48 } : Room)) (fun a U => a = #[(.ref a1), (.int p1), (.int p2), (.long q3)] ∧ Z.Warmed39 U.vm ∧ U.heap = h0) (fun _ _ _ _ _ => True) (fun _ U o U' => ∃ v L, o = .returned v ∧ Q1 Z a1 p1 p2 q3 w_EMPTY h0 n0 v U'.heap L ∧ ReturnedEndW U o U' L ({ frames := 3, cells := 4, slots := 112, locals := 48 } : Room).cells ({ frames := 3, cells := 4, slots := 112, locals := 48 } : Room).slots) := by
  refine MetFree.of_bodySF (plainFor_of_name pn_33) hisR ?_
  intro p e s m args below meth c s₁ Bd hml0 hP hK
  obtain ⟨rfl, hZ, hh⟩ := hP
  have hx := Bd.exec
  have hby := Bd.bytes
  have hml : c.maxLocals = 5 := hml0
  have hown : s.vm.findClass "com/example/strict_dht/strictdht/sim/Simulation$Scenario" = some m.cls := findClass_of_methodNamed Bd.named
  have hnm := (name_of_methodNamed Bd.named Bd.method).1
  have X0 : Stand p l e ({ frames := 3, cells := 4, slots := 112, locals := 48 } : Room) s m #[(.ref a1), (.int p1), (.int p2), (.long q3)] below meth c s₁ [] 0 0 := Stand.of_body Bd
  have e0 : s₁.heap = h0 := by rw [← hh, Bd.state]; rfl
  have N0 := Fr.nil n0
  refine own_go (B := s₁.setTop (mkF m 0 #[.val (.ref a1), .val (.int p1), .val (.int p2), .val (.long q3), .second] [])) (fun t k => castTop (ef_1 m a1 p1 p2 q3) k) ?_
  refine own_go (B := s₁.setTop (mkF m 6 #[.val (.ref a1), .val (.int p1), .val (.int p2), .val (.long q3), .second] [(.int (0 : Int32)), (.int (0 : Int32)), (.long q3), (.int p2), (.int p1), (.ref a1)])) (fun t k => ?_) ?_
  · show Steps p.tables e below (s₁.setTop (mkF m 0 #[.val (.ref a1), .val (.int p1), .val (.int p2), .val (.long q3), .second] [])) _
    refine XS.aloadN X0.here hx rfl (hb hby d1_0) rfl rfl ?_
    show Steps p.tables e below (s₁.setTop (mkF m 1 #[.val (.ref a1), .val (.int p1), .val (.int p2), .val (.long q3), .second] [(.ref a1)])) _
    refine XS.iloadN X0.here hx rfl (hb hby d1_1) rfl ?_
    show Steps p.tables e below (s₁.setTop (mkF m 2 #[.val (.ref a1), .val (.int p1), .val (.int p2), .val (.long q3), .second] [(.int p1), (.ref a1)])) _
    refine XS.iloadN X0.here hx rfl (hb hby d1_2) rfl ?_
    show Steps p.tables e below (s₁.setTop (mkF m 3 #[.val (.ref a1), .val (.int p1), .val (.int p2), .val (.long q3), .second] [(.int p2), (.int p1), (.ref a1)])) _
    refine XS.lloadN X0.here hx rfl (hb hby d1_3) rfl ?_
    show Steps p.tables e below (s₁.setTop (mkF m 4 #[.val (.ref a1), .val (.int p1), .val (.int p2), .val (.long q3), .second] [(.long q3), (.int p2), (.int p1), (.ref a1)])) _
    refine XS.iconst X0.here hx rfl (hb hby d1_4) ?_
    show Steps p.tables e below (s₁.setTop (mkF m 5 #[.val (.ref a1), .val (.int p1), .val (.int p2), .val (.long q3), .second] [(.int (0 : Int32)), (.long q3), (.int p2), (.int p1), (.ref a1)])) _
    refine XS.iconst X0.here hx rfl (hb hby d1_5) ?_
    show Steps p.tables e below (s₁.setTop (mkF m 6 #[.val (.ref a1), .val (.int p1), .val (.int p2), .val (.long q3), .second] [(.int (0 : Int32)), (.int (0 : Int32)), (.long q3), (.int p2), (.int p1), (.ref a1)])) _
    exact k
  obtain ⟨_, _, ⟨T58, L58, k58, n58⟩, -, X58, ⟨Lc58, hQ58, l58, y58, z58⟩, st58⟩ := Jvm.LawKit.callS X0 hx (y := (⟨"java/util/OptionalInt", "empty", "()Ljava/util/OptionalInt;"⟩ : MethodName)) hown (mvT hZ (hw _ (List.mem_of_getElem? (i := 8) rfl))) (mvT hZ (hw _ (List.mem_of_getElem? (i := 9) rfl))) (mvT hZ (hw _ (List.mem_of_getElem? (i := 10) rfl))) (mvT hZ (hw _ (List.mem_of_getElem? (i := 11) rfl))) (by decide) (backOf (W := 7) (rm2 l Z a0 hw [] w_EMPTY h0 n0 Z0 S_EMPTY) hZ (hw _ (List.mem_of_getElem? (i := 11) rfl)) (hw _ (List.mem_of_getElem? (i := 10) rfl)) (by decide) (by decide)) (g := (mkF m 6 #[.val (.ref a1), .val (.int p1), .val (.int p2), .val (.long q3), .second] [(.int (0 : Int32)), (.int (0 : Int32)), (.long q3), (.int p2), (.int p1), (.ref a1)])) rfl (by rw [hml]; rfl) (argsL := []) (rest := [(.int (0 : Int32)), (.int (0 : Int32)), (.long q3), (.int p2), (.int p1), (.ref a1)]) (lenOf pd_4 rfl) rfl (by show 2 * 0 + _ ≤ _; exact Nat.le_of_eq rfl) (hb hby d1_6) (fun _ _ => ⟨rfl, e0, (by decide : 0 + 0 ≤ _), (by decide : 0 + 0 ≤ _)⟩)
  dsimp only [Pt.U, Pt.locs, Pt.cells, Pt.slots] at X58 l58 y58 z58 st58 hQ58
  subst l58 y58 z58
  obtain ⟨rfl, M58, q58_0⟩ := hQ58
  have N58 := Fr.app N0 M58
  refine own_go st58 ?_
  refine own_go (B := T58.setTop (mkF m 10 #[.val (.ref a1), .val (.int p1), .val (.int p2), .val (.long q3), .second] [(.int (0 : Int32)), (.ref w_EMPTY), (.int (0 : Int32)), (.int (0 : Int32)), (.long q3), (.int p2), (.int p1), (.ref a1)])) (fun t k => ?_) ?_
  · show Steps p.tables e below (T58.setTop (mkF m 9 #[.val (.ref a1), .val (.int p1), .val (.int p2), .val (.long q3), .second] [(.ref w_EMPTY), (.int (0 : Int32)), (.int (0 : Int32)), (.long q3), (.int p2), (.int p1), (.ref a1)])) _
    refine XS.iconst X58.here hx rfl (hb hby d1_9) ?_
    show Steps p.tables e below (T58.setTop (mkF m 10 #[.val (.ref a1), .val (.int p1), .val (.int p2), .val (.long q3), .second] [(.int (0 : Int32)), (.ref w_EMPTY), (.int (0 : Int32)), (.int (0 : Int32)), (.long q3), (.int p2), (.int p1), (.ref a1)])) _
    exact k
  obtain ⟨_, _, ⟨T59, L59, k59, n59⟩, -, X59, ⟨Lc59, hQ59, l59, y59, z59⟩, st59⟩ := Jvm.LawKit.callS X58 hx (y := (⟨"java/util/OptionalInt", "empty", "()Ljava/util/OptionalInt;"⟩ : MethodName)) hown (mvT hZ (hw _ (List.mem_of_getElem? (i := 8) rfl))) (mvT hZ (hw _ (List.mem_of_getElem? (i := 9) rfl))) (mvT hZ (hw _ (List.mem_of_getElem? (i := 10) rfl))) (mvT hZ (hw _ (List.mem_of_getElem? (i := 11) rfl))) (by decide) (backOf (W := 9) (rm2 l Z a0 hw [] w_EMPTY h0 n0 Z0 S_EMPTY) hZ (hw _ (List.mem_of_getElem? (i := 11) rfl)) (hw _ (List.mem_of_getElem? (i := 10) rfl)) (by decide) (by decide)) (g := (mkF m 10 #[.val (.ref a1), .val (.int p1), .val (.int p2), .val (.long q3), .second] [(.int (0 : Int32)), (.ref w_EMPTY), (.int (0 : Int32)), (.int (0 : Int32)), (.long q3), (.int p2), (.int p1), (.ref a1)])) rfl (by rw [hml]; rfl) (argsL := []) (rest := [(.int (0 : Int32)), (.ref w_EMPTY), (.int (0 : Int32)), (.int (0 : Int32)), (.long q3), (.int p2), (.int p1), (.ref a1)]) (lenOf pd_4 rfl) rfl (by show 2 * 0 + _ ≤ _; exact Nat.le_of_eq rfl) (hb hby d1_10) (fun _ _ => ⟨rfl, q58_0, (by decide : 0 + 0 ≤ _), (by decide : 0 + 0 ≤ _)⟩)
  dsimp only [Pt.U, Pt.locs, Pt.cells, Pt.slots] at X59 l59 y59 z59 st59 hQ59
  subst l59 y59 z59
  obtain ⟨rfl, M59, q59_0⟩ := hQ59
  have N59 := Fr.app N58 M59
  refine own_go st59 ?_
  obtain ⟨_, _, ⟨T60, L60, k60, n60⟩, -, X60, S60, G60, ⟨Lc60, hQ60, l60, y60, z60⟩, st60⟩ := X59.specialBackS hx (y := (⟨"com/example/strict_dht/strictdht/sim/Simulation$Scenario", "<init>", "(IIJIILjava/util/OptionalInt;ZLjava/util/OptionalInt;)V"⟩ : MethodName)) rfl hown (mvT hZ (hw _ (List.mem_of_getElem? (i := 13) rfl))) (mvT hZ (hw _ (List.mem_of_getElem? (i := 14) rfl))) (mvT hZ (hw _ (List.mem_of_getElem? (i := 15) rfl))) (by decide) (backOfS (W := 0) (rm3 l Z a0 hw [] a1 p1 p2 q3 (0 : Int32) w_EMPTY h0 n0 Z0 E_a1 F_nodes_a1 F_keys_a1 F_seed_a1 F_minutes_a1 F_kill_a1 F_searchEvery_a1 F_churn_a1 F_publishersLeave_a1 g_a1 E_EMPTY F_EMPTY_isPresent F_EMPTY_value (by first | assumption | decide) (by first | assumption | decide) (by first | assumption | decide) (by decide) (by decide) (own_k7 p1 p2)) hZ (hw _ (List.mem_of_getElem? (i := 15) rfl)) (hw _ (List.mem_of_getElem? (i := 4) rfl)) (by decide) (by decide)) (g := (mkF m 13 #[.val (.ref a1), .val (.int p1), .val (.int p2), .val (.long q3), .second] [(.ref w_EMPTY), (.int (0 : Int32)), (.ref w_EMPTY), (.int (0 : Int32)), (.int (0 : Int32)), (.long q3), (.int p2), (.int p1), (.ref a1)])) rfl (by rw [hml]; rfl) (Steps.refl _) (a := a1) (argsL := [(.int p1), (.int p2), (.long q3), (.int (0 : Int32)), (.int (0 : Int32)), (.ref w_EMPTY), (.int (0 : Int32)), (.ref w_EMPTY)]) (rest := []) (lenOf pd_5 rfl) rfl (by show 2 * 0 + _ ≤ _; exact Nat.le_of_eq rfl) (hb hby d1_13) (fun _ _ => ⟨rfl, q59_0, (by decide : 0 + 4 ≤ _), (by decide : 0 + 112 ≤ _)⟩)
  dsimp only [Pt.U, Pt.locs, Pt.cells, Pt.slots] at X60 S60 G60 l60 y60 z60 st60 hQ60
  subst l60 y60 z60
  obtain ⟨rfl, M60, q60_0, q60_1, q60_2, q60_3, q60_4, q60_5, q60_6, q60_7, q60_8, q60_9⟩ := hQ60
  have N60 := Fr.app N59 M60
  have hS60 : s.Since T60.vm T60.heap.size := S60
  have hZ60 : Z.Warmed39 (s.setVm T60.vm).vm := State.Warmed39.trans (t := s) hZ S60.1
  have ho60 : (s.setVm T60.vm).vm.findClass "com/example/strict_dht/strictdht/sim/Simulation$Scenario" = some m.cls := by rw [show (s.setVm T60.vm).vm = T60.vm from rfl, S60.1.alike.findClass]; exact hown
  replace X60 : Stand p l e _ (s.setVm T60.vm) m _ below meth c T60 _ _ _ := X60
  have K60 : Keep h0 T60.heap [a1] := Keep.trans (Keep.refl h0 [a1]) q60_0 (allS (Or.inl (List.mem_of_getElem? (i := 0) rfl)) all0)
  refine own_go (fun t k => st60.trans k) ?_
  obtain ⟨fs, hr, hrun, hended, hW⟩ := X60.leaveW hS60 (show _ ≤ T60.heap.size by exact (Nat.le_refl _)) (v := none) (fun _ => rfl)
  refine ⟨_, _, ?_, hrun, hended, _, _, rfl, ?_, ⟨hW.1, hW.2.1, hW.2.2.1, hW.2.2.2.mono (by decide) (by decide)⟩⟩
  · exact X60.returnOut hx Bd.returns (hb hby d1_16) hr
  · show Q1 Z a1 p1 p2 q3 w_EMPTY h0 n0 _ T60.heap _
    exact ⟨rfl, N60, K60, q60_1, q60_2, q60_3, q60_4, q60_5, q60_6, q60_7, q60_8, q60_9⟩
theorem d10_0 : decode prog_66_method_8_code 0 = .ok (.aload_n 0, 1) := by decide +kernel
theorem d10_1 : decode prog_66_method_8_code 1 = .ok (.getfield 70, 3) := by decide +kernel
theorem d10_4 : decode prog_66_method_8_code 4 = .ok (.aload_n 0, 1) := by decide +kernel
theorem d10_5 : decode prog_66_method_8_code 5 = .ok (.getfield 84, 3) := by decide +kernel
theorem d10_8 : decode prog_66_method_8_code 8 = .ok (.invokestatic 43, 3) := by decide +kernel
theorem d10_11 : decode prog_66_method_8_code 11 = .ok (.ireturn, 1) := by decide +kernel
theorem ef_10 (m : MethodId) (a1 : Addr) : entryFrame m #[(.ref a1)] 1 = mkF m 0 #[.val (.ref a1)] [] := by first | (simp [entryFrame, mkF, argsToLocals, Value.category]; done) | rfl
def Q10 (Z : State) (a1 : Addr) (p1 : Int32) (p5 : Int32) (h0 : Heap) (n0 : Nat) (v : Option Value) (h : Heap) (L : List Loc) : Prop := v = some (.int ((((p1.toInt64) * (p5.toInt64)) / (100 : Int64)).toInt32)) ∧ Fr n0 L ∧ h = h0
set_option maxRecDepth 65536 in
set_option maxHeartbeats 40000000 in
theorem rm10 (l : Launch) (Z : State) (a0 : Array Value) (hw : ∀ d ∈ tables_1, d.before a0 Z = true) (ws : List Jvm.Cond) (a1 : Addr) (p1 : Int32) (p5 : Int32) (h0 : Heap) (n0 : Nat) (Z0 : n0 ≤ h0.size) (F_nodes_a1 : Fld Z h0 a1 "com/example/strict_dht/strictdht/sim/Simulation$Scenario" "nodes" "I" (.int p1)) (F_kill_a1 : Fld Z h0 a1 "com/example/strict_dht/strictdht/sim/Simulation$Scenario" "kill" "I" (.int p5)) :
    MetFree l (⟨"com/example/strict_dht/strictdht/sim/Simulation$Scenario", "stopping", "()I"⟩ : MethodName) (head1 (Jvm.Cond.code (⟨"com/example/strict_dht/strictdht/sim/Simulation$Scenario", "stopping", "()I"⟩ : MethodName) prog_66_method_8_code 1 (some .int) :: ws) ({ frames := 1, cells := 0, slots := 0, locals := 13 } : Room)) (fun a U => a = #[(.ref a1)] ∧ Z.Warmed39 U.vm ∧ U.heap = h0) (fun _ _ _ _ _ => True) (fun _ U o U' => ∃ v L, o = .returned v ∧ Q10 Z a1 p1 p5 h0 n0 v U'.heap L ∧ FrameEnd U o U' L ({ frames := 1, cells := 0, slots := 0, locals := 13 } : Room).cells ({ frames := 1, cells := 0, slots := 0, locals := 13 } : Room).slots) := by
  refine MetFree.of_bodySF (plainFor_of_name pn_33) hisR ?_
  intro p e s m args below meth c s₁ Bd hml0 hP hK
  obtain ⟨rfl, hZ, hh⟩ := hP
  have hx := Bd.exec
  have hby := Bd.bytes
  have hml : c.maxLocals = 1 := hml0
  have hown : s.vm.findClass "com/example/strict_dht/strictdht/sim/Simulation$Scenario" = some m.cls := findClass_of_methodNamed Bd.named
  have hnm := (name_of_methodNamed Bd.named Bd.method).1
  have X0 : Stand p l e ({ frames := 1, cells := 0, slots := 0, locals := 13 } : Room) s m #[(.ref a1)] below meth c s₁ [] 0 0 := Stand.of_body Bd
  have e0 : s₁.heap = h0 := by rw [← hh, Bd.state]; rfl
  have N0 := Fr.nil n0
  refine own_go (B := s₁.setTop (mkF m 0 #[.val (.ref a1)] [])) (fun t k => castTop (ef_10 m a1) k) ?_
  refine own_go (B := s₁.setTop (mkF m 1 #[.val (.ref a1)] [(.ref a1)])) (fun t k => ?_) ?_
  · show Steps p.tables e below (s₁.setTop (mkF m 0 #[.val (.ref a1)] [])) _
    refine XS.aloadN X0.here hx rfl (hb hby d10_0) rfl rfl ?_
    show Steps p.tables e below (s₁.setTop (mkF m 1 #[.val (.ref a1)] [(.ref a1)])) _
    exact k
  obtain ⟨T62, X62, e62, st62⟩ := getF X0 hx hZ hown (host := "") (Or.inl (hw _ (List.mem_of_getElem? (i := 53) rfl))) Via.refl e0 F_nodes_a1 (g := (mkF m 1 #[.val (.ref a1)] [(.ref a1)])) rfl rfl (hb hby d10_1)
  refine own_go st62 ?_
  refine own_go (B := T62.setTop (mkF m 5 #[.val (.ref a1)] [(.ref a1), (.int p1)])) (fun t k => ?_) ?_
  · show Steps p.tables e below (T62.setTop (mkF m 4 #[.val (.ref a1)] [(.int p1)])) _
    refine XS.aloadN X62.here hx rfl (hb hby d10_4) rfl rfl ?_
    show Steps p.tables e below (T62.setTop (mkF m 5 #[.val (.ref a1)] [(.ref a1), (.int p1)])) _
    exact k
  obtain ⟨T63, X63, e63, st63⟩ := getF X62 hx hZ hown (host := "") (Or.inl (hw _ (List.mem_of_getElem? (i := 61) rfl))) Via.refl e62 F_kill_a1 (g := (mkF m 5 #[.val (.ref a1)] [(.ref a1), (.int p1)])) rfl rfl (hb hby d10_5)
  refine own_go st63 ?_
  obtain ⟨_, _, ⟨T64, L64, k64, n64⟩, -, X64, ⟨Lc64, hQ64, l64, y64, z64⟩, st64⟩ := Jvm.LawKit.callS X63 hx (y := (⟨"com/example/strict_dht/strictdht/sim/Simulation$Scenario", "stopping", "(II)I"⟩ : MethodName)) hown (mvT hZ (hw _ (List.mem_of_getElem? (i := 38) rfl))) (mvT hZ (hw _ (List.mem_of_getElem? (i := 39) rfl))) (mvT hZ (hw _ (List.mem_of_getElem? (i := 4) rfl))) (mvT hZ (hw _ (List.mem_of_getElem? (i := 40) rfl))) (by decide) (backOf (W := 0) (rm7 l Z a0 hw [] p1 p5 h0 n0 Z0 ) hZ (hw _ (List.mem_of_getElem? (i := 40) rfl)) (hw _ (List.mem_of_getElem? (i := 4) rfl)) (by decide) (by decide)) (g := (mkF m 8 #[.val (.ref a1)] [(.int p5), (.int p1)])) rfl (by rw [hml]; rfl) (argsL := [(.int p1), (.int p5)]) (rest := []) (lenOf pd_2 rfl) rfl (by show 2 * 0 + _ ≤ _; exact Nat.le_of_eq rfl) (hb hby d10_8) (fun _ _ => ⟨rfl, e63, (by decide : 0 + 0 ≤ _), (by decide : 0 + 0 ≤ _)⟩)
  dsimp only [Pt.U, Pt.locs, Pt.cells, Pt.slots] at X64 l64 y64 z64 st64 hQ64
  subst l64 y64 z64
  obtain ⟨rfl, M64, q64_0⟩ := hQ64
  have N64 := Fr.app N0 M64
  refine own_go st64 ?_
  obtain ⟨fs, hr, hrun, hended, hW, hsame⟩ := X64.leave (v := some (.int ((((p1.toInt64) * (p5.toInt64)) / (100 : Int64)).toInt32))) (fun h => by rw [Bd.returns] at h; cases h)
  refine ⟨_, _, ?_, hrun, hended, _, _, rfl, ?_, ⟨_, rfl⟩, hW, hsame.mono (by decide) (by decide)⟩
  · exact retI X64 hx Bd.returns (hb hby d10_11) hr
  · show Q10 Z a1 p1 p5 h0 n0 _ T64.heap _
    rw [q64_0]
    exact ⟨rfl, N64, rfl⟩
theorem d11_0 : decode prog_66_method_4_code 0 = .ok (.new 44, 3) := by decide +kernel
theorem d11_3 : decode prog_66_method_4_code 3 = .ok (.dup, 1) := by decide +kernel
theorem d11_4 : decode prog_66_method_4_code 4 = .ok (.aload_n 0, 1) := by decide +kernel
theorem d11_5 : decode prog_66_method_4_code 5 = .ok (.getfield 70, 3) := by decide +kernel
theorem d11_8 : decode prog_66_method_4_code 8 = .ok (.aload_n 0, 1) := by decide +kernel
theorem d11_9 : decode prog_66_method_4_code 9 = .ok (.getfield 74, 3) := by decide +kernel
theorem d11_12 : decode prog_66_method_4_code 12 = .ok (.aload_n 0, 1) := by decide +kernel
theorem d11_13 : decode prog_66_method_4_code 13 = .ok (.getfield 77, 3) := by decide +kernel
theorem d11_16 : decode prog_66_method_4_code 16 = .ok (.aload_n 0, 1) := by decide +kernel
theorem d11_17 : decode prog_66_method_4_code 17 = .ok (.getfield 81, 3) := by decide +kernel
theorem d11_20 : decode prog_66_method_4_code 20 = .ok (.iload_n 1, 1) := by decide +kernel
theorem d11_21 : decode prog_66_method_4_code 21 = .ok (.aload_n 0, 1) := by decide +kernel
theorem d11_22 : decode prog_66_method_4_code 22 = .ok (.getfield 87, 3) := by decide +kernel
theorem d11_25 : decode prog_66_method_4_code 25 = .ok (.aload_n 0, 1) := by decide +kernel
theorem d11_26 : decode prog_66_method_4_code 26 = .ok (.getfield 90, 3) := by decide +kernel
theorem d11_29 : decode prog_66_method_4_code 29 = .ok (.aload_n 0, 1) := by decide +kernel
theorem d11_30 : decode prog_66_method_4_code 30 = .ok (.getfield 94, 3) := by decide +kernel
theorem d11_33 : decode prog_66_method_4_code 33 = .ok (.invokespecial 100, 3) := by decide +kernel
theorem d11_36 : decode prog_66_method_4_code 36 = .ok (.areturn, 1) := by decide +kernel
theorem ef_11 (m : MethodId) (a1 : Addr) (p6 : Int32) : entryFrame m #[(.ref a1), (.int p6)] 2 = mkF m 0 #[.val (.ref a1), .val (.int p6)] [] := by first | (simp [entryFrame, mkF, argsToLocals, Value.category]; done) | rfl
def Q11 (Z : State) (a1 : Addr) (p6 : Int32) (p1 : Int32) (p2 : Int32) (q3 : Int64) (p5 : Int32) (w_EMPTY : Addr) (h0 : Heap) (n0 : Nat) (v : Option Value) (h : Heap) (L : List Loc) : Prop := ∃ (bn : Addr), v = some (.ref bn) ∧ Fr n0 L ∧ Keep h0 h [] ∧ h0.size ≤ bn ∧ Exa Z h bn "com/example/strict_dht/strictdht/sim/Simulation$Scenario" ∧ Fld Z h bn "com/example/strict_dht/strictdht/sim/Simulation$Scenario" "nodes" "I" (.int p1) ∧ Fld Z h bn "com/example/strict_dht/strictdht/sim/Simulation$Scenario" "keys" "I" (.int p2) ∧ Fld Z h bn "com/example/strict_dht/strictdht/sim/Simulation$Scenario" "seed" "J" (.long q3) ∧ Fld Z h bn "com/example/strict_dht/strictdht/sim/Simulation$Scenario" "minutes" "I" (.int (0 : Int32)) ∧ Fld Z h bn "com/example/strict_dht/strictdht/sim/Simulation$Scenario" "kill" "I" (.int p6) ∧ Fld Z h bn "com/example/strict_dht/strictdht/sim/Simulation$Scenario" "searchEvery" "Ljava/util/OptionalInt;" (.ref w_EMPTY) ∧ Fld Z h bn "com/example/strict_dht/strictdht/sim/Simulation$Scenario" "churn" "Z" (.int (0 : Int32)) ∧ Fld Z h bn "com/example/strict_dht/strictdht/sim/Simulation$Scenario" "publishersLeave" "Ljava/util/OptionalInt;" (.ref w_EMPTY)
set_option maxRecDepth 65536 in
set_option maxHeartbeats 40000000 in
theorem rm11 (l : Launch) (Z : State) (a0 : Array Value) (hw : ∀ d ∈ tables_1, d.before a0 Z = true) (ws : List Jvm.Cond) (a1 : Addr) (p6 : Int32) (p1 : Int32) (p2 : Int32) (q3 : Int64) (p5 : Int32) (w_EMPTY : Addr) (h0 : Heap) (n0 : Nat) (Z0 : n0 ≤ h0.size) (E_a1 : Exa Z h0 a1 "com/example/strict_dht/strictdht/sim/Simulation$Scenario") (F_nodes_a1 : Fld Z h0 a1 "com/example/strict_dht/strictdht/sim/Simulation$Scenario" "nodes" "I" (.int p1)) (F_keys_a1 : Fld Z h0 a1 "com/example/strict_dht/strictdht/sim/Simulation$Scenario" "keys" "I" (.int p2)) (F_seed_a1 : Fld Z h0 a1 "com/example/strict_dht/strictdht/sim/Simulation$Scenario" "seed" "J" (.long q3)) (F_minutes_a1 : Fld Z h0 a1 "com/example/strict_dht/strictdht/sim/Simulation$Scenario" "minutes" "I" (.int (0 : Int32))) (F_kill_a1 : Fld Z h0 a1 "com/example/strict_dht/strictdht/sim/Simulation$Scenario" "kill" "I" (.int p5)) (F_searchEvery_a1 : Fld Z h0 a1 "com/example/strict_dht/strictdht/sim/Simulation$Scenario" "searchEvery" "Ljava/util/OptionalInt;" (.ref w_EMPTY)) (F_churn_a1 : Fld Z h0 a1 "com/example/strict_dht/strictdht/sim/Simulation$Scenario" "churn" "Z" (.int (0 : Int32))) (F_publishersLeave_a1 : Fld Z h0 a1 "com/example/strict_dht/strictdht/sim/Simulation$Scenario" "publishersLeave" "Ljava/util/OptionalInt;" (.ref w_EMPTY)) (E_EMPTY : Exa Z h0 w_EMPTY "java/util/OptionalInt") (F_EMPTY_isPresent : Fld Z h0 w_EMPTY "java/util/OptionalInt" "isPresent" "Z" (.int (0 : Int32))) (F_EMPTY_value : Fld Z h0 w_EMPTY "java/util/OptionalInt" "value" "I" (.int (0 : Int32))) (k1 : ¬ (16777214 : Int32) < p1) (k2 : ¬ p2 < (1 : Int32)) (k3 : p2 < p1) (k5 : ¬ p6 < (0 : Int32)) (k6 : ¬ (100 : Int32) < p6) (k7 : ¬ (if (0 : Int32) < (p1 - ((2 : Int32) * p2)) then (p1 - ((2 : Int32) * p2)) else (0 : Int32)) < ((((p1.toInt64) * (p6.toInt64)) / (100 : Int64)).toInt32)) :
    MetFree l (⟨"com/example/strict_dht/strictdht/sim/Simulation$Scenario", "withKill", "(I)Lcom/example/strict_dht/strictdht/sim/Simulation$Scenario;"⟩ : MethodName) (head1 (Jvm.Cond.code (⟨"com/example/strict_dht/strictdht/sim/Simulation$Scenario", "withKill", "(I)Lcom/example/strict_dht/strictdht/sim/Simulation$Scenario;"⟩ : MethodName) prog_66_method_4_code 2 (some (.object "com/example/strict_dht/strictdht/sim/Simulation$Scenario")) :: ws) ({ frames := 3, cells := 5, slots := 120, locals := 49 } : Room)) (fun a U => a = #[(.ref a1), (.int p6)] ∧ Z.Warmed39 U.vm ∧ U.heap = h0) (fun _ _ _ _ _ => True) (fun _ U o U' => ∃ v L, o = .returned v ∧ Q11 Z a1 p6 p1 p2 q3 p5 w_EMPTY h0 n0 v U'.heap L ∧ ReturnedEndW U o U' L ({ frames := 3, cells := 5, slots := 120, locals := 49 } : Room).cells ({ frames := 3, cells := 5, slots := 120, locals := 49 } : Room).slots) := by
  refine MetFree.of_bodySF (plainFor_of_name pn_33) hisR ?_
  intro p e s m args below meth c s₁ Bd hml0 hP hK
  obtain ⟨rfl, hZ, hh⟩ := hP
  have hx := Bd.exec
  have hby := Bd.bytes
  have hml : c.maxLocals = 2 := hml0
  have hown : s.vm.findClass "com/example/strict_dht/strictdht/sim/Simulation$Scenario" = some m.cls := findClass_of_methodNamed Bd.named
  have hnm := (name_of_methodNamed Bd.named Bd.method).1
  have X0 : Stand p l e ({ frames := 3, cells := 5, slots := 120, locals := 49 } : Room) s m #[(.ref a1), (.int p6)] below meth c s₁ [] 0 0 := Stand.of_body Bd
  have e0 : s₁.heap = h0 := by rw [← hh, Bd.state]; rfl
  have N0 := Fr.nil n0
  refine own_go (B := s₁.setTop (mkF m 0 #[.val (.ref a1), .val (.int p6)] [])) (fun t k => castTop (ef_11 m a1 p6) k) ?_
  obtain ⟨T66, h66, X66, e66, E66, A66, D66, -, st66⟩ := newO X0 hx hZ hown (hw _ (List.mem_of_getElem? (i := 81) rfl)) (hw _ (List.mem_of_getElem? (i := 3) rfl)) (hw _ (List.mem_of_getElem? (i := 4) rfl)) e0 (g := (mkF m 0 #[.val (.ref a1), .val (.int p6)] [])) rfl (hb hby d11_0) (by decide) (by decide)
  obtain ⟨b66, g66⟩ : ∃ z, z = h0.size := ⟨_, rfl⟩
  rw [← g66] at A66 D66 st66
  refine own_go st66 ?_
  have K66 : Keep h0 h66 [] := Keep.ext (Keep.refl h0 []) E66
  have F66_54 : Fld Z h66 b66 "com/example/strict_dht/strictdht/sim/Simulation$Scenario" "nodes" "I" (.int (0 : Int32)) := D66 (Or.inr (hw _ (List.mem_of_getElem? (i := 54) rfl))) (ty := .int) (by decide)
  have F66_56 : Fld Z h66 b66 "com/example/strict_dht/strictdht/sim/Simulation$Scenario" "keys" "I" (.int (0 : Int32)) := D66 (Or.inr (hw _ (List.mem_of_getElem? (i := 56) rfl))) (ty := .int) (by decide)
  have F66_58 : Fld Z h66 b66 "com/example/strict_dht/strictdht/sim/Simulation$Scenario" "seed" "J" (.long (0 : Int64)) := D66 (Or.inr (hw _ (List.mem_of_getElem? (i := 58) rfl))) (ty := .long) (by decide)
  have F66_60 : Fld Z h66 b66 "com/example/strict_dht/strictdht/sim/Simulation$Scenario" "minutes" "I" (.int (0 : Int32)) := D66 (Or.inr (hw _ (List.mem_of_getElem? (i := 60) rfl))) (ty := .int) (by decide)
  have F66_62 : Fld Z h66 b66 "com/example/strict_dht/strictdht/sim/Simulation$Scenario" "kill" "I" (.int (0 : Int32)) := D66 (Or.inr (hw _ (List.mem_of_getElem? (i := 62) rfl))) (ty := .int) (by decide)
  have F66_64 : Fld Z h66 b66 "com/example/strict_dht/strictdht/sim/Simulation$Scenario" "searchEvery" "Ljava/util/OptionalInt;" .null := D66 (Or.inr (hw _ (List.mem_of_getElem? (i := 64) rfl))) (ty := (.object "java/util/OptionalInt")) (by decide)
  have F66_66 : Fld Z h66 b66 "com/example/strict_dht/strictdht/sim/Simulation$Scenario" "churn" "Z" (.int (0 : Int32)) := D66 (Or.inr (hw _ (List.mem_of_getElem? (i := 66) rfl))) (ty := .boolean) (by decide)
  have F66_68 : Fld Z h66 b66 "com/example/strict_dht/strictdht/sim/Simulation$Scenario" "publishersLeave" "Ljava/util/OptionalInt;" .null := D66 (Or.inr (hw _ (List.mem_of_getElem? (i := 68) rfl))) (ty := (.object "java/util/OptionalInt")) (by decide)
  refine own_go (B := T66.setTop (mkF m 5 #[.val (.ref a1), .val (.int p6)] [(.ref a1), (.ref b66), (.ref b66)])) (fun t k => ?_) ?_
  · show Steps p.tables e below (T66.setTop (mkF m 3 #[.val (.ref a1), .val (.int p6)] [(.ref b66)])) _
    refine XS.dup X66.here hx rfl (hb hby d11_3) rfl rfl ?_
    show Steps p.tables e below (T66.setTop (mkF m 4 #[.val (.ref a1), .val (.int p6)] [(.ref b66), (.ref b66)])) _
    refine XS.aloadN X66.here hx rfl (hb hby d11_4) rfl rfl ?_
    show Steps p.tables e below (T66.setTop (mkF m 5 #[.val (.ref a1), .val (.int p6)] [(.ref a1), (.ref b66), (.ref b66)])) _
    exact k
  have f68 : Fld Z h66 a1 "com/example/strict_dht/strictdht/sim/Simulation$Scenario" "nodes" "I" (.int p1) := (F_nodes_a1.ext E66)
  obtain ⟨T67, X67, e67, st67⟩ := getF X66 hx hZ hown (host := "") (Or.inl (hw _ (List.mem_of_getElem? (i := 53) rfl))) Via.refl e66 f68 (g := (mkF m 5 #[.val (.ref a1), .val (.int p6)] [(.ref a1), (.ref b66), (.ref b66)])) rfl rfl (hb hby d11_5)
  refine own_go st67 ?_
  refine own_go (B := T67.setTop (mkF m 9 #[.val (.ref a1), .val (.int p6)] [(.ref a1), (.int p1), (.ref b66), (.ref b66)])) (fun t k => ?_) ?_
  · show Steps p.tables e below (T67.setTop (mkF m 8 #[.val (.ref a1), .val (.int p6)] [(.int p1), (.ref b66), (.ref b66)])) _
    refine XS.aloadN X67.here hx rfl (hb hby d11_8) rfl rfl ?_
    show Steps p.tables e below (T67.setTop (mkF m 9 #[.val (.ref a1), .val (.int p6)] [(.ref a1), (.int p1), (.ref b66), (.ref b66)])) _
    exact k
  have f70 : Fld Z h66 a1 "com/example/strict_dht/strictdht/sim/Simulation$Scenario" "keys" "I" (.int p2) := (F_keys_a1.ext E66)
  obtain ⟨T69, X69, e69, st69⟩ := getF X67 hx hZ hown (host := "") (Or.inl (hw _ (List.mem_of_getElem? (i := 55) rfl))) Via.refl e67 f70 (g := (mkF m 9 #[.val (.ref a1), .val (.int p6)] [(.ref a1), (.int p1), (.ref b66), (.ref b66)])) rfl rfl (hb hby d11_9)
  refine own_go st69 ?_
  refine own_go (B := T69.setTop (mkF m 13 #[.val (.ref a1), .val (.int p6)] [(.ref a1), (.int p2), (.int p1), (.ref b66), (.ref b66)])) (fun t k => ?_) ?_
  · show Steps p.tables e below (T69.setTop (mkF m 12 #[.val (.ref a1), .val (.int p6)] [(.int p2), (.int p1), (.ref b66), (.ref b66)])) _
    refine XS.aloadN X69.here hx rfl (hb hby d11_12) rfl rfl ?_
    show Steps p.tables e below (T69.setTop (mkF m 13 #[.val (.ref a1), .val (.int p6)] [(.ref a1), (.int p2), (.int p1), (.ref b66), (.ref b66)])) _
    exact k
  have f72 : Fld Z h66 a1 "com/example/strict_dht/strictdht/sim/Simulation$Scenario" "seed" "J" (.long q3) := (F_seed_a1.ext E66)
  obtain ⟨T71, X71, e71, st71⟩ := getF X69 hx hZ hown (host := "") (Or.inl (hw _ (List.mem_of_getElem? (i := 57) rfl))) Via.refl e69 f72 (g := (mkF m 13 #[.val (.ref a1), .val (.int p6)] [(.ref a1), (.int p2), (.int p1), (.ref b66), (.ref b66)])) rfl rfl (hb hby d11_13)
  refine own_go st71 ?_
  refine own_go (B := T71.setTop (mkF m 17 #[.val (.ref a1), .val (.int p6)] [(.ref a1), (.long q3), (.int p2), (.int p1), (.ref b66), (.ref b66)])) (fun t k => ?_) ?_
  · show Steps p.tables e below (T71.setTop (mkF m 16 #[.val (.ref a1), .val (.int p6)] [(.long q3), (.int p2), (.int p1), (.ref b66), (.ref b66)])) _
    refine XS.aloadN X71.here hx rfl (hb hby d11_16) rfl rfl ?_
    show Steps p.tables e below (T71.setTop (mkF m 17 #[.val (.ref a1), .val (.int p6)] [(.ref a1), (.long q3), (.int p2), (.int p1), (.ref b66), (.ref b66)])) _
    exact k
  have f74 : Fld Z h66 a1 "com/example/strict_dht/strictdht/sim/Simulation$Scenario" "minutes" "I" (.int (0 : Int32)) := (F_minutes_a1.ext E66)
  obtain ⟨T73, X73, e73, st73⟩ := getF X71 hx hZ hown (host := "") (Or.inl (hw _ (List.mem_of_getElem? (i := 59) rfl))) Via.refl e71 f74 (g := (mkF m 17 #[.val (.ref a1), .val (.int p6)] [(.ref a1), (.long q3), (.int p2), (.int p1), (.ref b66), (.ref b66)])) rfl rfl (hb hby d11_17)
  refine own_go st73 ?_
  refine own_go (B := T73.setTop (mkF m 22 #[.val (.ref a1), .val (.int p6)] [(.ref a1), (.int p6), (.int (0 : Int32)), (.long q3), (.int p2), (.int p1), (.ref b66), (.ref b66)])) (fun t k => ?_) ?_
  · show Steps p.tables e below (T73.setTop (mkF m 20 #[.val (.ref a1), .val (.int p6)] [(.int (0 : Int32)), (.long q3), (.int p2), (.int p1), (.ref b66), (.ref b66)])) _
    refine XS.iloadN X73.here hx rfl (hb hby d11_20) rfl ?_
    show Steps p.tables e below (T73.setTop (mkF m 21 #[.val (.ref a1), .val (.int p6)] [(.int p6), (.int (0 : Int32)), (.long q3), (.int p2), (.int p1), (.ref b66), (.ref b66)])) _
    refine XS.aloadN X73.here hx rfl (hb hby d11_21) rfl rfl ?_
    show Steps p.tables e below (T73.setTop (mkF m 22 #[.val (.ref a1), .val (.int p6)] [(.ref a1), (.int p6), (.int (0 : Int32)), (.long q3), (.int p2), (.int p1), (.ref b66), (.ref b66)])) _
    exact k
  have f76 : Fld Z h66 a1 "com/example/strict_dht/strictdht/sim/Simulation$Scenario" "searchEvery" "Ljava/util/OptionalInt;" (.ref w_EMPTY) := (F_searchEvery_a1.ext E66)
  obtain ⟨T75, X75, e75, st75⟩ := getF X73 hx hZ hown (host := "") (Or.inl (hw _ (List.mem_of_getElem? (i := 63) rfl))) Via.refl e73 f76 (g := (mkF m 22 #[.val (.ref a1), .val (.int p6)] [(.ref a1), (.int p6), (.int (0 : Int32)), (.long q3), (.int p2), (.int p1), (.ref b66), (.ref b66)])) rfl rfl (hb hby d11_22)
  refine own_go st75 ?_
  refine own_go (B := T75.setTop (mkF m 26 #[.val (.ref a1), .val (.int p6)] [(.ref a1), (.ref w_EMPTY), (.int p6), (.int (0 : Int32)), (.long q3), (.int p2), (.int p1), (.ref b66), (.ref b66)])) (fun t k => ?_) ?_
  · show Steps p.tables e below (T75.setTop (mkF m 25 #[.val (.ref a1), .val (.int p6)] [(.ref w_EMPTY), (.int p6), (.int (0 : Int32)), (.long q3), (.int p2), (.int p1), (.ref b66), (.ref b66)])) _
    refine XS.aloadN X75.here hx rfl (hb hby d11_25) rfl rfl ?_
    show Steps p.tables e below (T75.setTop (mkF m 26 #[.val (.ref a1), .val (.int p6)] [(.ref a1), (.ref w_EMPTY), (.int p6), (.int (0 : Int32)), (.long q3), (.int p2), (.int p1), (.ref b66), (.ref b66)])) _
    exact k
  have f78 : Fld Z h66 a1 "com/example/strict_dht/strictdht/sim/Simulation$Scenario" "churn" "Z" (.int (0 : Int32)) := (F_churn_a1.ext E66)
  obtain ⟨T77, X77, e77, st77⟩ := getF X75 hx hZ hown (host := "") (Or.inl (hw _ (List.mem_of_getElem? (i := 65) rfl))) Via.refl e75 f78 (g := (mkF m 26 #[.val (.ref a1), .val (.int p6)] [(.ref a1), (.ref w_EMPTY), (.int p6), (.int (0 : Int32)), (.long q3), (.int p2), (.int p1), (.ref b66), (.ref b66)])) rfl rfl (hb hby d11_26)
  refine own_go st77 ?_
  refine own_go (B := T77.setTop (mkF m 30 #[.val (.ref a1), .val (.int p6)] [(.ref a1), (.int (0 : Int32)), (.ref w_EMPTY), (.int p6), (.int (0 : Int32)), (.long q3), (.int p2), (.int p1), (.ref b66), (.ref b66)])) (fun t k => ?_) ?_
  · show Steps p.tables e below (T77.setTop (mkF m 29 #[.val (.ref a1), .val (.int p6)] [(.int (0 : Int32)), (.ref w_EMPTY), (.int p6), (.int (0 : Int32)), (.long q3), (.int p2), (.int p1), (.ref b66), (.ref b66)])) _
    refine XS.aloadN X77.here hx rfl (hb hby d11_29) rfl rfl ?_
    show Steps p.tables e below (T77.setTop (mkF m 30 #[.val (.ref a1), .val (.int p6)] [(.ref a1), (.int (0 : Int32)), (.ref w_EMPTY), (.int p6), (.int (0 : Int32)), (.long q3), (.int p2), (.int p1), (.ref b66), (.ref b66)])) _
    exact k
  have f80 : Fld Z h66 a1 "com/example/strict_dht/strictdht/sim/Simulation$Scenario" "publishersLeave" "Ljava/util/OptionalInt;" (.ref w_EMPTY) := (F_publishersLeave_a1.ext E66)
  obtain ⟨T79, X79, e79, st79⟩ := getF X77 hx hZ hown (host := "") (Or.inl (hw _ (List.mem_of_getElem? (i := 67) rfl))) Via.refl e77 f80 (g := (mkF m 30 #[.val (.ref a1), .val (.int p6)] [(.ref a1), (.int (0 : Int32)), (.ref w_EMPTY), (.int p6), (.int (0 : Int32)), (.long q3), (.int p2), (.int p1), (.ref b66), (.ref b66)])) rfl rfl (hb hby d11_30)
  refine own_go st79 ?_
  have f82 : Exa Z h66 w_EMPTY "java/util/OptionalInt" := (E_EMPTY.ext E66)
  have f83 : Fld Z h66 w_EMPTY "java/util/OptionalInt" "isPresent" "Z" (.int (0 : Int32)) := (F_EMPTY_isPresent.ext E66)
  have f84 : Fld Z h66 w_EMPTY "java/util/OptionalInt" "value" "I" (.int (0 : Int32)) := (F_EMPTY_value.ext E66)
  obtain ⟨_, _, ⟨T81, L81, k81, n81⟩, -, X81, S81, G81, ⟨Lc81, hQ81, l81, y81, z81⟩, st81⟩ := X79.specialBackS hx (y := (⟨"com/example/strict_dht/strictdht/sim/Simulation$Scenario", "<init>", "(IIJIILjava/util/OptionalInt;ZLjava/util/OptionalInt;)V"⟩ : MethodName)) rfl hown (mvT hZ (hw _ (List.mem_of_getElem? (i := 13) rfl))) (mvT hZ (hw _ (List.mem_of_getElem? (i := 14) rfl))) (mvT hZ (hw _ (List.mem_of_getElem? (i := 15) rfl))) (by decide) (backOfS (W := 1) (rm3 l Z a0 hw [] b66 p1 p2 q3 p6 w_EMPTY h66 n0 (Nat.le_trans Z0 E66.1) A66 F66_54 F66_56 F66_58 F66_60 F66_62 F66_64 F66_66 F66_68 (Nat.le_trans Z0 (Nat.le_of_eq g66.symm)) f82 f83 f84 (k1) (k2) (k3) (k5) (k6) (k7)) hZ (hw _ (List.mem_of_getElem? (i := 15) rfl)) (hw _ (List.mem_of_getElem? (i := 4) rfl)) (by decide) (by decide)) (g := (mkF m 33 #[.val (.ref a1), .val (.int p6)] [(.ref w_EMPTY), (.int (0 : Int32)), (.ref w_EMPTY), (.int p6), (.int (0 : Int32)), (.long q3), (.int p2), (.int p1), (.ref b66), (.ref b66)])) rfl (by rw [hml]; rfl) (Steps.refl _) (a := b66) (argsL := [(.int p1), (.int p2), (.long q3), (.int (0 : Int32)), (.int p6), (.ref w_EMPTY), (.int (0 : Int32)), (.ref w_EMPTY)]) (rest := [(.ref b66)]) (lenOf pd_5 rfl) rfl (by show 2 * 0 + _ ≤ _; exact Nat.le_of_eq rfl) (hb hby d11_33) (fun _ _ => ⟨rfl, e79, (by decide : 1 + 4 ≤ _), (by decide : 8 + 112 ≤ _)⟩)
  dsimp only [Pt.U, Pt.locs, Pt.cells, Pt.slots] at X81 S81 G81 l81 y81 z81 st81 hQ81
  subst l81 y81 z81
  obtain ⟨rfl, M81, q81_0, q81_1, q81_2, q81_3, q81_4, q81_5, q81_6, q81_7, q81_8, q81_9⟩ := hQ81
  have N81 := Fr.app N0 M81
  have hS81 : s.Since T81.vm T81.heap.size := S81
  have hZ81 : Z.Warmed39 (s.setVm T81.vm).vm := State.Warmed39.trans (t := s) hZ S81.1
  have ho81 : (s.setVm T81.vm).vm.findClass "com/example/strict_dht/strictdht/sim/Simulation$Scenario" = some m.cls := by rw [show (s.setVm T81.vm).vm = T81.vm from rfl, S81.1.alike.findClass]; exact hown
  replace X81 : Stand p l e _ (s.setVm T81.vm) m _ below meth c T81 _ _ _ := X81
  have K81 : Keep h0 T81.heap [] := Keep.trans K66 q81_0 (allS (Or.inr (Nat.le_of_eq g66.symm)) all0)
  refine own_go (fun t k => st81.trans k) ?_
  obtain ⟨fs, hr, hrun, hended, hW⟩ := X81.leaveW hS81 (show _ ≤ T81.heap.size by exact (Nat.le_refl _)) (v := some (.ref b66)) (fun h => by rw [Bd.returns] at h; cases h)
  refine ⟨_, _, ?_, hrun, hended, _, _, rfl, ?_, ⟨hW.1, hW.2.1, hW.2.2.1, hW.2.2.2.mono (by decide) (by decide)⟩⟩
  · exact own_retR X81 hx Bd.returns rfl rfl (hb hby d11_36) hr
  · show Q11 Z a1 p6 p1 p2 q3 p5 w_EMPTY h0 n0 _ T81.heap _
    exact ⟨b66, rfl, N81, K81, (Nat.le_of_eq g66.symm), q81_1, q81_2, q81_3, q81_4, q81_5, q81_6, q81_7, q81_8, q81_9⟩
theorem pd_6 : parseMethodDescriptor "(IIJ)V" = some ⟨[.int, .int, .long], none⟩ := by decide +kernel
theorem pd_7 : parseMethodDescriptor "()I" = some ⟨[], some .int⟩ := by decide +kernel
theorem pd_8 : parseMethodDescriptor "(I)Lcom/example/strict_dht/strictdht/sim/Simulation$Scenario;" = some ⟨[.int], some (.object "com/example/strict_dht/strictdht/sim/Simulation$Scenario")⟩ := by decide +kernel
theorem pn_145 : plainName "com/example/strict_dht/strictdht/sim/ScenarioStoppingPinLaw" = true := by first | (simp [plainName, overriddenIn]; done) | decide +kernel
theorem ef_0 (m : MethodId) (p1 : Int32) (p2 : Int32) (p3 : Int32) (p4 : Int32) (q5 : Int64) : entryFrame m #[(.int p1), (.int p2), (.int p3), (.int p4), (.long q5)] maxLocals = mkF m 0 #[.val (.int p1), .val (.int p2), .val (.int p3), .val (.int p4), .val (.long q5), .second, .unset, .unset, .unset, .unset, .unset, .unset, .unset, .unset, .unset, .unset] [] := by first | (simp [entryFrame, mkF, argsToLocals, Value.category, maxLocals]; done) | rfl
def Q0 (Z : State) (p1 : Int32) (p2 : Int32) (p3 : Int32) (p4 : Int32) (q5 : Int64) (w_EMPTY : Addr) (h0 : Heap) (n0 : Nat) (v : Option Value) (h : Heap) (L : List Loc) : Prop := v = some (.int (1 : Int32)) ∧ Fr n0 L
set_option maxRecDepth 65536 in
set_option maxHeartbeats 40000000 in
theorem rm0 (l : Launch) (Z : State) (a0 : Array Value) (hw : ∀ d ∈ tables_1, d.before a0 Z = true) (ws : List Jvm.Cond) (p1 : Int32) (p2 : Int32) (p3 : Int32) (p4 : Int32) (q5 : Int64) (w_EMPTY : Addr) (h0 : Heap) (n0 : Nat) (Z0 : n0 ≤ h0.size) (S_EMPTY : Sta Z h0 "java/util/OptionalInt" "EMPTY" "Ljava/util/OptionalInt;" (.ref w_EMPTY)) (E_EMPTY : Exa Z h0 w_EMPTY "java/util/OptionalInt") (F_EMPTY_isPresent : Fld Z h0 w_EMPTY "java/util/OptionalInt" "isPresent" "Z" (.int (0 : Int32))) (F_EMPTY_value : Fld Z h0 w_EMPTY "java/util/OptionalInt" "value" "I" (.int (0 : Int32))) :
    MetFree l x (head1 (Jvm.Cond.code x code maxLocals ret :: ws) room_1) (fun a U => a = #[(.int p1), (.int p2), (.int p3), (.int p4), (.long q5)] ∧ Z.Warmed39 U.vm ∧ U.heap = h0) (fun _ _ _ _ _ => True) (fun _ U o U' => ∃ v L, o = .returned v ∧ Q0 Z p1 p2 p3 p4 q5 w_EMPTY h0 n0 v U'.heap L ∧ ReturnedEndW U o U' L room_1.cells room_1.slots) := by
  refine MetFree.of_bodySF (plainFor_of_name pn_145) hisR ?_
  intro p e s m args below meth c s₁ Bd hml0 hP hK
  obtain ⟨rfl, hZ, hh⟩ := hP
  have hx := Bd.exec
  have hby := Bd.bytes
  have hml : c.maxLocals = 16 := hml0
  have hown : s.vm.findClass "com/example/strict_dht/strictdht/sim/ScenarioStoppingPinLaw" = some m.cls := findClass_of_methodNamed Bd.named
  have hnm := (name_of_methodNamed Bd.named Bd.method).1
  have X0 : Stand p l e room_1 s m #[(.int p1), (.int p2), (.int p3), (.int p4), (.long q5)] below meth c s₁ [] 0 0 := Stand.of_body Bd
  have e0 : s₁.heap = h0 := by rw [← hh, Bd.state]; rfl
  have N0 := Fr.nil n0
  refine own_go (B := s₁.setTop (mkF m 0 #[.val (.int p1), .val (.int p2), .val (.int p3), .val (.int p4), .val (.long q5), .second, .unset, .unset, .unset, .unset, .unset, .unset, .unset, .unset, .unset, .unset] [])) (fun t k => castTop (ef_0 m p1 p2 p3 p4 q5) k) ?_
  refine own_go (B := s₁.setTop (mkF m 11 #[.val (.int p1), .val (.int p2), .val (.int p3), .val (.int p4), .val (.long q5), .second, .val (.int ((2 : Int32) + ((p1 &&& (2147483647 : Int32)) % (16777213 : Int32)))), .unset, .unset, .unset, .unset, .unset, .unset, .unset, .unset, .unset] [])) (fun t k => ?_) ?_
  · show Steps p.tables e below (s₁.setTop (mkF m 0 #[.val (.int p1), .val (.int p2), .val (.int p3), .val (.int p4), .val (.long q5), .second, .unset, .unset, .unset, .unset, .unset, .unset, .unset, .unset, .unset, .unset] [])) _
    refine XS.iconst X0.here hx rfl (hb hby at_0) ?_
    show Steps p.tables e below (s₁.setTop (mkF m 1 #[.val (.int p1), .val (.int p2), .val (.int p3), .val (.int p4), .val (.long q5), .second, .unset, .unset, .unset, .unset, .unset, .unset, .unset, .unset, .unset, .unset] [(.int (2 : Int32))])) _
    refine XS.iloadN X0.here hx rfl (hb hby at_1) rfl ?_
    show Steps p.tables e below (s₁.setTop (mkF m 2 #[.val (.int p1), .val (.int p2), .val (.int p3), .val (.int p4), .val (.long q5), .second, .unset, .unset, .unset, .unset, .unset, .unset, .unset, .unset, .unset, .unset] [(.int p1), (.int (2 : Int32))])) _
    refine X0.ldcInt hx hown (mvT hZ (hw _ (List.mem_of_getElem? (i := 0) rfl))) (g := (mkF m 2 #[.val (.int p1), .val (.int p2), .val (.int p3), .val (.int p4), .val (.long q5), .second, .unset, .unset, .unset, .unset, .unset, .unset, .unset, .unset, .unset, .unset] [(.int p1), (.int (2 : Int32))])) rfl (hb hby at_2) _ ?_
    show Steps p.tables e below (s₁.setTop (mkF m 4 #[.val (.int p1), .val (.int p2), .val (.int p3), .val (.int p4), .val (.long q5), .second, .unset, .unset, .unset, .unset, .unset, .unset, .unset, .unset, .unset, .unset] [(.int (2147483647 : Int32)), (.int p1), (.int (2 : Int32))])) _
    refine XS.iand X0.here hx rfl (hb hby at_4) rfl ?_
    show Steps p.tables e below (s₁.setTop (mkF m 5 #[.val (.int p1), .val (.int p2), .val (.int p3), .val (.int p4), .val (.long q5), .second, .unset, .unset, .unset, .unset, .unset, .unset, .unset, .unset, .unset, .unset] [(.int (p1 &&& (2147483647 : Int32))), (.int (2 : Int32))])) _
    refine X0.ldcInt hx hown (mvT hZ (hw _ (List.mem_of_getElem? (i := 1) rfl))) (g := (mkF m 5 #[.val (.int p1), .val (.int p2), .val (.int p3), .val (.int p4), .val (.long q5), .second, .unset, .unset, .unset, .unset, .unset, .unset, .unset, .unset, .unset, .unset] [(.int (p1 &&& (2147483647 : Int32))), (.int (2 : Int32))])) rfl (hb hby at_5) _ ?_
    show Steps p.tables e below (s₁.setTop (mkF m 7 #[.val (.int p1), .val (.int p2), .val (.int p3), .val (.int p4), .val (.long q5), .second, .unset, .unset, .unset, .unset, .unset, .unset, .unset, .unset, .unset, .unset] [(.int (16777213 : Int32)), (.int (p1 &&& (2147483647 : Int32))), (.int (2 : Int32))])) _
    refine iremM X0 hx rfl (hb hby at_7) rfl (by decide) ?_
    show Steps p.tables e below (s₁.setTop (mkF m 8 #[.val (.int p1), .val (.int p2), .val (.int p3), .val (.int p4), .val (.long q5), .second, .unset, .unset, .unset, .unset, .unset, .unset, .unset, .unset, .unset, .unset] [(.int ((p1 &&& (2147483647 : Int32)) % (16777213 : Int32))), (.int (2 : Int32))])) _
    refine XS.iadd X0.here hx rfl (hb hby at_8) rfl ?_
    show Steps p.tables e below (s₁.setTop (mkF m 9 #[.val (.int p1), .val (.int p2), .val (.int p3), .val (.int p4), .val (.long q5), .second, .unset, .unset, .unset, .unset, .unset, .unset, .unset, .unset, .unset, .unset] [(.int ((2 : Int32) + ((p1 &&& (2147483647 : Int32)) % (16777213 : Int32))))])) _
    refine XS.istore X0.here hx rfl (hb hby at_9) rfl (l' := #[.val (.int p1), .val (.int p2), .val (.int p3), .val (.int p4), .val (.long q5), .second, .val (.int ((2 : Int32) + ((p1 &&& (2147483647 : Int32)) % (16777213 : Int32)))), .unset, .unset, .unset, .unset, .unset, .unset, .unset, .unset, .unset]) rfl ?_
    show Steps p.tables e below (s₁.setTop (mkF m 11 #[.val (.int p1), .val (.int p2), .val (.int p3), .val (.int p4), .val (.long q5), .second, .val (.int ((2 : Int32) + ((p1 &&& (2147483647 : Int32)) % (16777213 : Int32)))), .unset, .unset, .unset, .unset, .unset, .unset, .unset, .unset, .unset] [])) _
    exact k
  obtain ⟨nd, e_nd⟩ : ∃ z, z = ((2 : Int32) + ((p1 &&& (2147483647 : Int32)) % (16777213 : Int32))) := ⟨_, rfl⟩
  rw [← e_nd]
  have hnd : 2 ≤ nd.toInt ∧ nd.toInt ≤ 16777214 := by rw [e_nd]; exact own_nd p1
  refine own_go (B := s₁.setTop (mkF m 14 #[.val (.int p1), .val (.int p2), .val (.int p3), .val (.int p4), .val (.long q5), .second, .val (.int nd), .val (.int (1 : Int32)), .unset, .unset, .unset, .unset, .unset, .unset, .unset, .unset] [])) (fun t k => ?_) ?_
  · show Steps p.tables e below (s₁.setTop (mkF m 11 #[.val (.int p1), .val (.int p2), .val (.int p3), .val (.int p4), .val (.long q5), .second, .val (.int nd), .unset, .unset, .unset, .unset, .unset, .unset, .unset, .unset, .unset] [])) _
    refine XS.iconst X0.here hx rfl (hb hby at_11) ?_
    show Steps p.tables e below (s₁.setTop (mkF m 12 #[.val (.int p1), .val (.int p2), .val (.int p3), .val (.int p4), .val (.long q5), .second, .val (.int nd), .unset, .unset, .unset, .unset, .unset, .unset, .unset, .unset, .unset] [(.int (1 : Int32))])) _
    refine XS.istore X0.here hx rfl (hb hby at_12) rfl (l' := #[.val (.int p1), .val (.int p2), .val (.int p3), .val (.int p4), .val (.long q5), .second, .val (.int nd), .val (.int (1 : Int32)), .unset, .unset, .unset, .unset, .unset, .unset, .unset, .unset]) rfl ?_
    show Steps p.tables e below (s₁.setTop (mkF m 14 #[.val (.int p1), .val (.int p2), .val (.int p3), .val (.int p4), .val (.long q5), .second, .val (.int nd), .val (.int (1 : Int32)), .unset, .unset, .unset, .unset, .unset, .unset, .unset, .unset] [])) _
    exact k
  refine own_cut (C := fun (ky : Int32) => ¬ ky < (1 : Int32) ∧ ky < nd) (B := fun ky => s₁.setTop (mkF m 33 #[.val (.int p1), .val (.int p2), .val (.int p3), .val (.int p4), .val (.long q5), .second, .val (.int nd), .val (.int ky), .unset, .unset, .unset, .unset, .unset, .unset, .unset, .unset] [])) (fun ky hcut => ?_) (fun tail => ?_)
  · show ∃ s₂ o, Steps p.tables e below (s₁.setTop (mkF m 33 #[.val (.int p1), .val (.int p2), .val (.int p3), .val (.int p4), .val (.long q5), .second, .val (.int nd), .val (.int ky), .unset, .unset, .unset, .unset, .unset, .unset, .unset, .unset] [])) s₂ ∧ _
    have hky := hcut
    refine own_go (B := s₁.setTop (mkF m 42 #[.val (.int p1), .val (.int p2), .val (.int p3), .val (.int p4), .val (.long q5), .second, .val (.int nd), .val (.int ky), .val (.int ((p3 &&& (2147483647 : Int32)) % (101 : Int32))), .unset, .unset, .unset, .unset, .unset, .unset, .unset] [])) (fun t k => ?_) ?_
    · show Steps p.tables e below (s₁.setTop (mkF m 33 #[.val (.int p1), .val (.int p2), .val (.int p3), .val (.int p4), .val (.long q5), .second, .val (.int nd), .val (.int ky), .unset, .unset, .unset, .unset, .unset, .unset, .unset, .unset] [])) _
      refine XS.iloadN X0.here hx rfl (hb hby at_33) rfl ?_
      show Steps p.tables e below (s₁.setTop (mkF m 34 #[.val (.int p1), .val (.int p2), .val (.int p3), .val (.int p4), .val (.long q5), .second, .val (.int nd), .val (.int ky), .unset, .unset, .unset, .unset, .unset, .unset, .unset, .unset] [(.int p3)])) _
      refine X0.ldcInt hx hown (mvT hZ (hw _ (List.mem_of_getElem? (i := 0) rfl))) (g := (mkF m 34 #[.val (.int p1), .val (.int p2), .val (.int p3), .val (.int p4), .val (.long q5), .second, .val (.int nd), .val (.int ky), .unset, .unset, .unset, .unset, .unset, .unset, .unset, .unset] [(.int p3)])) rfl (hb hby at_34) _ ?_
      show Steps p.tables e below (s₁.setTop (mkF m 36 #[.val (.int p1), .val (.int p2), .val (.int p3), .val (.int p4), .val (.long q5), .second, .val (.int nd), .val (.int ky), .unset, .unset, .unset, .unset, .unset, .unset, .unset, .unset] [(.int (2147483647 : Int32)), (.int p3)])) _
      refine XS.iand X0.here hx rfl (hb hby at_36) rfl ?_
      show Steps p.tables e below (s₁.setTop (mkF m 37 #[.val (.int p1), .val (.int p2), .val (.int p3), .val (.int p4), .val (.long q5), .second, .val (.int nd), .val (.int ky), .unset, .unset, .unset, .unset, .unset, .unset, .unset, .unset] [(.int (p3 &&& (2147483647 : Int32)))])) _
      refine XS.bipush X0.here hx rfl (hb hby at_37) ?_
      show Steps p.tables e below (s₁.setTop (mkF m 39 #[.val (.int p1), .val (.int p2), .val (.int p3), .val (.int p4), .val (.long q5), .second, .val (.int nd), .val (.int ky), .unset, .unset, .unset, .unset, .unset, .unset, .unset, .unset] [(.int (101 : Int32)), (.int (p3 &&& (2147483647 : Int32)))])) _
      refine iremM X0 hx rfl (hb hby at_39) rfl (by decide) ?_
      show Steps p.tables e below (s₁.setTop (mkF m 40 #[.val (.int p1), .val (.int p2), .val (.int p3), .val (.int p4), .val (.long q5), .second, .val (.int nd), .val (.int ky), .unset, .unset, .unset, .unset, .unset, .unset, .unset, .unset] [(.int ((p3 &&& (2147483647 : Int32)) % (101 : Int32)))])) _
      refine XS.istore X0.here hx rfl (hb hby at_40) rfl (l' := #[.val (.int p1), .val (.int p2), .val (.int p3), .val (.int p4), .val (.long q5), .second, .val (.int nd), .val (.int ky), .val (.int ((p3 &&& (2147483647 : Int32)) % (101 : Int32))), .unset, .unset, .unset, .unset, .unset, .unset, .unset]) rfl ?_
      show Steps p.tables e below (s₁.setTop (mkF m 42 #[.val (.int p1), .val (.int p2), .val (.int p3), .val (.int p4), .val (.long q5), .second, .val (.int nd), .val (.int ky), .val (.int ((p3 &&& (2147483647 : Int32)) % (101 : Int32))), .unset, .unset, .unset, .unset, .unset, .unset, .unset] [])) _
      exact k
    obtain ⟨kl, e_kl⟩ : ∃ z, z = ((p3 &&& (2147483647 : Int32)) % (101 : Int32)) := ⟨_, rfl⟩
    rw [← e_kl]
    have hkl : 0 ≤ kl.toInt ∧ kl.toInt ≤ 100 := by rw [e_kl]; exact own_kl p3
    have k1 : ¬ (16777214 : Int32) < nd := by rw [Int32.lt_iff_toInt_lt, show (16777214 : Int32).toInt = 16777214 from by decide]; omega
    obtain ⟨T86, h86, X86, e86, E86, A86, D86, -, st86⟩ := newO X0 hx hZ hown (hw _ (List.mem_of_getElem? (i := 2) rfl)) (hw _ (List.mem_of_getElem? (i := 3) rfl)) (hw _ (List.mem_of_getElem? (i := 4) rfl)) e0 (g := (mkF m 42 #[.val (.int p1), .val (.int p2), .val (.int p3), .val (.int p4), .val (.long q5), .second, .val (.int nd), .val (.int ky), .val (.int kl), .unset, .unset, .unset, .unset, .unset, .unset, .unset] [])) rfl (hb hby at_42) (by decide) (by decide)
    obtain ⟨b86, g86⟩ : ∃ z, z = h0.size := ⟨_, rfl⟩
    rw [← g86] at A86 D86 st86
    refine own_go st86 ?_
    have K86 : Keep h0 h86 [] := Keep.ext (Keep.refl h0 []) E86
    have F86_54 : Fld Z h86 b86 "com/example/strict_dht/strictdht/sim/Simulation$Scenario" "nodes" "I" (.int (0 : Int32)) := D86 (Or.inr (hw _ (List.mem_of_getElem? (i := 54) rfl))) (ty := .int) (by decide)
    have F86_56 : Fld Z h86 b86 "com/example/strict_dht/strictdht/sim/Simulation$Scenario" "keys" "I" (.int (0 : Int32)) := D86 (Or.inr (hw _ (List.mem_of_getElem? (i := 56) rfl))) (ty := .int) (by decide)
    have F86_58 : Fld Z h86 b86 "com/example/strict_dht/strictdht/sim/Simulation$Scenario" "seed" "J" (.long (0 : Int64)) := D86 (Or.inr (hw _ (List.mem_of_getElem? (i := 58) rfl))) (ty := .long) (by decide)
    have F86_60 : Fld Z h86 b86 "com/example/strict_dht/strictdht/sim/Simulation$Scenario" "minutes" "I" (.int (0 : Int32)) := D86 (Or.inr (hw _ (List.mem_of_getElem? (i := 60) rfl))) (ty := .int) (by decide)
    have F86_62 : Fld Z h86 b86 "com/example/strict_dht/strictdht/sim/Simulation$Scenario" "kill" "I" (.int (0 : Int32)) := D86 (Or.inr (hw _ (List.mem_of_getElem? (i := 62) rfl))) (ty := .int) (by decide)
    have F86_64 : Fld Z h86 b86 "com/example/strict_dht/strictdht/sim/Simulation$Scenario" "searchEvery" "Ljava/util/OptionalInt;" .null := D86 (Or.inr (hw _ (List.mem_of_getElem? (i := 64) rfl))) (ty := (.object "java/util/OptionalInt")) (by decide)
    have F86_66 : Fld Z h86 b86 "com/example/strict_dht/strictdht/sim/Simulation$Scenario" "churn" "Z" (.int (0 : Int32)) := D86 (Or.inr (hw _ (List.mem_of_getElem? (i := 66) rfl))) (ty := .boolean) (by decide)
    have F86_68 : Fld Z h86 b86 "com/example/strict_dht/strictdht/sim/Simulation$Scenario" "publishersLeave" "Ljava/util/OptionalInt;" .null := D86 (Or.inr (hw _ (List.mem_of_getElem? (i := 68) rfl))) (ty := (.object "java/util/OptionalInt")) (by decide)
    refine own_go (B := T86.setTop (mkF m 52 #[.val (.int p1), .val (.int p2), .val (.int p3), .val (.int p4), .val (.long q5), .second, .val (.int nd), .val (.int ky), .val (.int kl), .unset, .unset, .unset, .unset, .unset, .unset, .unset] [(.long q5), (.int ky), (.int nd), (.ref b86), (.ref b86)])) (fun t k => ?_) ?_
    · show Steps p.tables e below (T86.setTop (mkF m 45 #[.val (.int p1), .val (.int p2), .val (.int p3), .val (.int p4), .val (.long q5), .second, .val (.int nd), .val (.int ky), .val (.int kl), .unset, .unset, .unset, .unset, .unset, .unset, .unset] [(.ref b86)])) _
      refine XS.dup X86.here hx rfl (hb hby at_45) rfl rfl ?_
      show Steps p.tables e below (T86.setTop (mkF m 46 #[.val (.int p1), .val (.int p2), .val (.int p3), .val (.int p4), .val (.long q5), .second, .val (.int nd), .val (.int ky), .val (.int kl), .unset, .unset, .unset, .unset, .unset, .unset, .unset] [(.ref b86), (.ref b86)])) _
      refine XS.iload X86.here hx rfl (hb hby at_46) rfl ?_
      show Steps p.tables e below (T86.setTop (mkF m 48 #[.val (.int p1), .val (.int p2), .val (.int p3), .val (.int p4), .val (.long q5), .second, .val (.int nd), .val (.int ky), .val (.int kl), .unset, .unset, .unset, .unset, .unset, .unset, .unset] [(.int nd), (.ref b86), (.ref b86)])) _
      refine XS.iload X86.here hx rfl (hb hby at_48) rfl ?_
      show Steps p.tables e below (T86.setTop (mkF m 50 #[.val (.int p1), .val (.int p2), .val (.int p3), .val (.int p4), .val (.long q5), .second, .val (.int nd), .val (.int ky), .val (.int kl), .unset, .unset, .unset, .unset, .unset, .unset, .unset] [(.int ky), (.int nd), (.ref b86), (.ref b86)])) _
      refine XS.lload X86.here hx rfl (hb hby at_50) rfl ?_
      show Steps p.tables e below (T86.setTop (mkF m 52 #[.val (.int p1), .val (.int p2), .val (.int p3), .val (.int p4), .val (.long q5), .second, .val (.int nd), .val (.int ky), .val (.int kl), .unset, .unset, .unset, .unset, .unset, .unset, .unset] [(.long q5), (.int ky), (.int nd), (.ref b86), (.ref b86)])) _
      exact k
    have f88 : Sta Z h86 "java/util/OptionalInt" "EMPTY" "Ljava/util/OptionalInt;" (.ref w_EMPTY) := (S_EMPTY.ext E86)
    have f89 : Exa Z h86 w_EMPTY "java/util/OptionalInt" := (E_EMPTY.ext E86)
    have f90 : Fld Z h86 w_EMPTY "java/util/OptionalInt" "isPresent" "Z" (.int (0 : Int32)) := (F_EMPTY_isPresent.ext E86)
    have f91 : Fld Z h86 w_EMPTY "java/util/OptionalInt" "value" "I" (.int (0 : Int32)) := (F_EMPTY_value.ext E86)
    obtain ⟨_, _, ⟨T87, L87, k87, n87⟩, -, X87, S87, G87, ⟨Lc87, hQ87, l87, y87, z87⟩, st87⟩ := X86.specialBackS hx (y := (⟨"com/example/strict_dht/strictdht/sim/Simulation$Scenario", "<init>", "(IIJ)V"⟩ : MethodName)) rfl hown (mvT hZ (hw _ (List.mem_of_getElem? (i := 5) rfl))) (mvT hZ (hw _ (List.mem_of_getElem? (i := 6) rfl))) (mvT hZ (hw _ (List.mem_of_getElem? (i := 7) rfl))) (by decide) (backOfS (W := 1) (rm1 l Z a0 hw [] b86 nd ky q5 w_EMPTY h86 n0 (Nat.le_trans Z0 E86.1) A86 F86_54 F86_56 F86_58 F86_60 F86_62 F86_64 F86_66 F86_68 (Nat.le_trans Z0 (Nat.le_of_eq g86.symm)) f88 f89 f90 f91 (k1) (hky.1) (hky.2)) hZ (hw _ (List.mem_of_getElem? (i := 7) rfl)) (hw _ (List.mem_of_getElem? (i := 4) rfl)) (by decide) (by decide)) (g := (mkF m 52 #[.val (.int p1), .val (.int p2), .val (.int p3), .val (.int p4), .val (.long q5), .second, .val (.int nd), .val (.int ky), .val (.int kl), .unset, .unset, .unset, .unset, .unset, .unset, .unset] [(.long q5), (.int ky), (.int nd), (.ref b86), (.ref b86)])) rfl (by rw [hml]; rfl) (Steps.refl _) (a := b86) (argsL := [(.int nd), (.int ky), (.long q5)]) (rest := [(.ref b86)]) (lenOf pd_6 rfl) rfl (by show 2 * 0 + _ ≤ _; exact Nat.le_of_eq rfl) (hb hby at_52) (fun _ _ => ⟨rfl, e86, (by decide : 1 + 4 ≤ _), (by decide : 8 + 112 ≤ _)⟩)
    dsimp only [Pt.U, Pt.locs, Pt.cells, Pt.slots] at X87 S87 G87 l87 y87 z87 st87 hQ87
    subst l87 y87 z87
    obtain ⟨rfl, M87, q87_0, q87_1, q87_2, q87_3, q87_4, q87_5, q87_6, q87_7, q87_8, q87_9⟩ := hQ87
    have N87 := Fr.app N0 M87
    have hS87 : s.Since T87.vm T87.heap.size := S87
    have hZ87 : Z.Warmed39 (s.setVm T87.vm).vm := State.Warmed39.trans (t := s) hZ S87.1
    have ho87 : (s.setVm T87.vm).vm.findClass "com/example/strict_dht/strictdht/sim/ScenarioStoppingPinLaw" = some m.cls := by rw [show (s.setVm T87.vm).vm = T87.vm from rfl, S87.1.alike.findClass]; exact hown
    replace X87 : Stand p l e _ (s.setVm T87.vm) m _ below meth c T87 _ _ _ := X87
    have K87 : Keep h0 T87.heap [] := Keep.trans K86 q87_0 (allS (Or.inr (Nat.le_of_eq g86.symm)) all0)
    refine own_go (fun t k => st87.trans k) ?_
    refine own_go (B := T87.setTop (mkF m 59 #[.val (.int p1), .val (.int p2), .val (.int p3), .val (.int p4), .val (.long q5), .second, .val (.int nd), .val (.int ky), .val (.int kl), .val (.ref b86), .unset, .unset, .unset, .unset, .unset, .unset] [(.ref b86)])) (fun t k => ?_) ?_
    · show Steps p.tables e below (T87.setTop (mkF m 55 #[.val (.int p1), .val (.int p2), .val (.int p3), .val (.int p4), .val (.long q5), .second, .val (.int nd), .val (.int ky), .val (.int kl), .unset, .unset, .unset, .unset, .unset, .unset, .unset] [(.ref b86)])) _
      refine XS.astore X87.here hx rfl (hb hby at_55) rfl rfl (l' := #[.val (.int p1), .val (.int p2), .val (.int p3), .val (.int p4), .val (.long q5), .second, .val (.int nd), .val (.int ky), .val (.int kl), .val (.ref b86), .unset, .unset, .unset, .unset, .unset, .unset]) rfl ?_
      show Steps p.tables e below (T87.setTop (mkF m 57 #[.val (.int p1), .val (.int p2), .val (.int p3), .val (.int p4), .val (.long q5), .second, .val (.int nd), .val (.int ky), .val (.int kl), .val (.ref b86), .unset, .unset, .unset, .unset, .unset, .unset] [])) _
      refine XS.aload X87.here hx rfl (hb hby at_57) rfl rfl ?_
      show Steps p.tables e below (T87.setTop (mkF m 59 #[.val (.int p1), .val (.int p2), .val (.int p3), .val (.int p4), .val (.long q5), .second, .val (.int nd), .val (.int ky), .val (.int kl), .val (.ref b86), .unset, .unset, .unset, .unset, .unset, .unset] [(.ref b86)])) _
      exact k
    have le93 : h0.size ≤ T87.heap.size := (Nat.le_trans E86.1 q87_0.1)
    obtain ⟨cq92, kq92, q92a, q92b, q92c⟩ := isOf hZ87 rfl q87_1
    obtain ⟨_, _, ⟨T92, L92, k92, n92⟩, -, X92, ⟨Lc92, hQ92, l92, y92, z92⟩, st92⟩ := X87.virtualBack hx (y := (⟨"com/example/strict_dht/strictdht/sim/Simulation$Scenario", "stopping", "()I"⟩ : MethodName)) (z := (⟨"com/example/strict_dht/strictdht/sim/Simulation$Scenario", "stopping", "()I"⟩ : MethodName)) ho87 (mvT hZ87 (hw _ (List.mem_of_getElem? (i := 69) rfl))) (mvT hZ87 (hw _ (List.mem_of_getElem? (i := 70) rfl))) (notFace_of_selects (args := #[]) (mvT hZ87 (hw _ (List.mem_of_getElem? (i := 72) rfl)))) (mvT hZ87 (hw _ (List.mem_of_getElem? (i := 72) rfl))) (mvT hZ87 (hw _ (List.mem_of_getElem? (i := 71) rfl))) (by decide) (backOf (W := 0) (rm10 l Z a0 hw [] b86 nd (0 : Int32) T87.heap n0 (Nat.le_trans Z0 le93) q87_2 q87_6) hZ87 (hw _ (List.mem_of_getElem? (i := 73) rfl)) (hw _ (List.mem_of_getElem? (i := 4) rfl)) (by decide) (by decide)) q92a q92c (g := (mkF m 59 #[.val (.int p1), .val (.int p2), .val (.int p3), .val (.int p4), .val (.long q5), .second, .val (.int nd), .val (.int ky), .val (.int kl), .val (.ref b86), .unset, .unset, .unset, .unset, .unset, .unset] [(.ref b86)])) rfl (by rw [hml]; rfl) (Steps.refl _) (argsL := []) (rest := []) (lenOf pd_7 rfl) rfl (by show 2 * 0 + _ ≤ _; exact Nat.le_of_eq rfl) (hb hby at_59) (fun _ _ => ⟨rfl, rfl, (by decide : 5 + 0 ≤ _), (by decide : 120 + 0 ≤ _)⟩)
    dsimp only [Pt.U, Pt.locs, Pt.cells, Pt.slots] at X92 l92 y92 z92 st92 hQ92
    subst l92 y92 z92
    obtain ⟨rfl, M92, q92_0⟩ := hQ92
    have N92 := Fr.app N87 M92
    refine own_go (fun t k => st92.trans k) ?_
    refine own_go (B := T92.setTop (mkF m 75 #[.val (.int p1), .val (.int p2), .val (.int p3), .val (.int p4), .val (.long q5), .second, .val (.int nd), .val (.int ky), .val (.int kl), .val (.ref b86), .unset, .unset, .unset, .unset, .unset, .unset] [(.int (nd - ((2 : Int32) * ky))), (.int (0 : Int32))])) (fun t k => ?_) ?_
    · show Steps p.tables e below (T92.setTop (mkF m 62 #[.val (.int p1), .val (.int p2), .val (.int p3), .val (.int p4), .val (.long q5), .second, .val (.int nd), .val (.int ky), .val (.int kl), .val (.ref b86), .unset, .unset, .unset, .unset, .unset, .unset] [(.int ((((nd.toInt64) * ((0 : Int32).toInt64)) / (100 : Int64)).toInt32))])) _
      refine XS.ifYes X92.here hx rfl (pc0 := 62) (pc' := 67) rfl (hb hby at_62) rfl ((if0 _ _).trans (teq (show ((((nd.toInt64) * ((0 : Int32).toInt64)) / (100 : Int64)).toInt32) = (0 : Int32) from (own_s0 nd))).1) (by decide) (by decide) ?_
      show Steps p.tables e below (T92.setTop (mkF m 67 #[.val (.int p1), .val (.int p2), .val (.int p3), .val (.int p4), .val (.long q5), .second, .val (.int nd), .val (.int ky), .val (.int kl), .val (.ref b86), .unset, .unset, .unset, .unset, .unset, .unset] [])) _
      refine XS.iconst X92.here hx rfl (hb hby at_67) ?_
      show Steps p.tables e below (T92.setTop (mkF m 68 #[.val (.int p1), .val (.int p2), .val (.int p3), .val (.int p4), .val (.long q5), .second, .val (.int nd), .val (.int ky), .val (.int kl), .val (.ref b86), .unset, .unset, .unset, .unset, .unset, .unset] [(.int (0 : Int32))])) _
      refine XS.iload X92.here hx rfl (hb hby at_68) rfl ?_
      show Steps p.tables e below (T92.setTop (mkF m 70 #[.val (.int p1), .val (.int p2), .val (.int p3), .val (.int p4), .val (.long q5), .second, .val (.int nd), .val (.int ky), .val (.int kl), .val (.ref b86), .unset, .unset, .unset, .unset, .unset, .unset] [(.int nd), (.int (0 : Int32))])) _
      refine XS.iconst X92.here hx rfl (hb hby at_70) ?_
      show Steps p.tables e below (T92.setTop (mkF m 71 #[.val (.int p1), .val (.int p2), .val (.int p3), .val (.int p4), .val (.long q5), .second, .val (.int nd), .val (.int ky), .val (.int kl), .val (.ref b86), .unset, .unset, .unset, .unset, .unset, .unset] [(.int (2 : Int32)), (.int nd), (.int (0 : Int32))])) _
      refine XS.iload X92.here hx rfl (hb hby at_71) rfl ?_
      show Steps p.tables e below (T92.setTop (mkF m 73 #[.val (.int p1), .val (.int p2), .val (.int p3), .val (.int p4), .val (.long q5), .second, .val (.int nd), .val (.int ky), .val (.int kl), .val (.ref b86), .unset, .unset, .unset, .unset, .unset, .unset] [(.int ky), (.int (2 : Int32)), (.int nd), (.int (0 : Int32))])) _
      refine XS.imul X92.here hx rfl (hb hby at_73) rfl ?_
      show Steps p.tables e below (T92.setTop (mkF m 74 #[.val (.int p1), .val (.int p2), .val (.int p3), .val (.int p4), .val (.long q5), .second, .val (.int nd), .val (.int ky), .val (.int kl), .val (.ref b86), .unset, .unset, .unset, .unset, .unset, .unset] [(.int ((2 : Int32) * ky)), (.int nd), (.int (0 : Int32))])) _
      refine XS.isub X92.here hx rfl (hb hby at_74) rfl ?_
      show Steps p.tables e below (T92.setTop (mkF m 75 #[.val (.int p1), .val (.int p2), .val (.int p3), .val (.int p4), .val (.long q5), .second, .val (.int nd), .val (.int ky), .val (.int kl), .val (.ref b86), .unset, .unset, .unset, .unset, .unset, .unset] [(.int (nd - ((2 : Int32) * ky))), (.int (0 : Int32))])) _
      exact k
    obtain ⟨_, _, ⟨T94, L94, k94, n94⟩, -, X94, ⟨Lc94, hQ94, l94, y94, z94⟩, st94⟩ := Jvm.LawKit.callS X92 hx (y := (⟨"java/lang/Math", "max", "(II)I"⟩ : MethodName)) ho87 (mvT hZ87 (hw _ (List.mem_of_getElem? (i := 74) rfl))) (mvT hZ87 (hw _ (List.mem_of_getElem? (i := 43) rfl))) (mvT hZ87 (hw _ (List.mem_of_getElem? (i := 44) rfl))) (mvT hZ87 (hw _ (List.mem_of_getElem? (i := 45) rfl))) (by decide) (backOf (W := 0) (rm8 l Z a0 hw [] (0 : Int32) (nd - ((2 : Int32) * ky)) T87.heap n0 (Nat.le_trans Z0 le93) ) hZ87 (hw _ (List.mem_of_getElem? (i := 45) rfl)) (hw _ (List.mem_of_getElem? (i := 44) rfl)) (by decide) (by decide)) (g := (mkF m 75 #[.val (.int p1), .val (.int p2), .val (.int p3), .val (.int p4), .val (.long q5), .second, .val (.int nd), .val (.int ky), .val (.int kl), .val (.ref b86), .unset, .unset, .unset, .unset, .unset, .unset] [(.int (nd - ((2 : Int32) * ky))), (.int (0 : Int32))])) rfl (by rw [hml]; rfl) (argsL := [(.int (0 : Int32)), (.int (nd - ((2 : Int32) * ky)))]) (rest := []) (lenOf pd_2 rfl) rfl (by show 2 * 0 + _ ≤ _; exact Nat.le_of_eq rfl) (hb hby at_75) (fun _ _ => ⟨rfl, q92_0, (by decide : 5 + 0 ≤ _), (by decide : 120 + 0 ≤ _)⟩)
    dsimp only [Pt.U, Pt.locs, Pt.cells, Pt.slots] at X94 l94 y94 z94 st94 hQ94
    subst l94 y94 z94
    obtain ⟨rfl, M94, q94_0⟩ := hQ94
    have N94 := Fr.app N92 M94
    refine own_go st94 ?_
    refine own_go (B := T94.setTop (mkF m 80 #[.val (.int p1), .val (.int p2), .val (.int p3), .val (.int p4), .val (.long q5), .second, .val (.int nd), .val (.int ky), .val (.int kl), .val (.ref b86), .val (.int (if (0 : Int32) < (nd - ((2 : Int32) * ky)) then (nd - ((2 : Int32) * ky)) else (0 : Int32))), .unset, .unset, .unset, .unset, .unset] [])) (fun t k => ?_) ?_
    · show Steps p.tables e below (T94.setTop (mkF m 78 #[.val (.int p1), .val (.int p2), .val (.int p3), .val (.int p4), .val (.long q5), .second, .val (.int nd), .val (.int ky), .val (.int kl), .val (.ref b86), .unset, .unset, .unset, .unset, .unset, .unset] [(.int (if (0 : Int32) < (nd - ((2 : Int32) * ky)) then (nd - ((2 : Int32) * ky)) else (0 : Int32)))])) _
      refine XS.istore X94.here hx rfl (hb hby at_78) rfl (l' := #[.val (.int p1), .val (.int p2), .val (.int p3), .val (.int p4), .val (.long q5), .second, .val (.int nd), .val (.int ky), .val (.int kl), .val (.ref b86), .val (.int (if (0 : Int32) < (nd - ((2 : Int32) * ky)) then (nd - ((2 : Int32) * ky)) else (0 : Int32))), .unset, .unset, .unset, .unset, .unset]) rfl ?_
      show Steps p.tables e below (T94.setTop (mkF m 80 #[.val (.int p1), .val (.int p2), .val (.int p3), .val (.int p4), .val (.long q5), .second, .val (.int nd), .val (.int ky), .val (.int kl), .val (.ref b86), .val (.int (if (0 : Int32) < (nd - ((2 : Int32) * ky)) then (nd - ((2 : Int32) * ky)) else (0 : Int32))), .unset, .unset, .unset, .unset, .unset] [])) _
      exact k
    obtain ⟨idl, e_idl⟩ : ∃ z, z = (if (0 : Int32) < (nd - ((2 : Int32) * ky)) then (nd - ((2 : Int32) * ky)) else (0 : Int32)) := ⟨_, rfl⟩
    rw [← e_idl]
    have hidl : 0 ≤ idl.toInt ∧ idl.toInt ≤ 16777214 := by rw [e_idl]; exact own_idl nd ky hnd.1 hnd.2 hky
    refine own_go (B := T94.setTop (mkF m 89 #[.val (.int p1), .val (.int p2), .val (.int p3), .val (.int p4), .val (.long q5), .second, .val (.int nd), .val (.int ky), .val (.int kl), .val (.ref b86), .val (.int idl), .val (.long ((nd.toInt64) * (kl.toInt64))), .second, .unset, .unset, .unset] [])) (fun t k => ?_) ?_
    · show Steps p.tables e below (T94.setTop (mkF m 80 #[.val (.int p1), .val (.int p2), .val (.int p3), .val (.int p4), .val (.long q5), .second, .val (.int nd), .val (.int ky), .val (.int kl), .val (.ref b86), .val (.int idl), .unset, .unset, .unset, .unset, .unset] [])) _
      refine XS.iload X94.here hx rfl (hb hby at_80) rfl ?_
      show Steps p.tables e below (T94.setTop (mkF m 82 #[.val (.int p1), .val (.int p2), .val (.int p3), .val (.int p4), .val (.long q5), .second, .val (.int nd), .val (.int ky), .val (.int kl), .val (.ref b86), .val (.int idl), .unset, .unset, .unset, .unset, .unset] [(.int nd)])) _
      refine XS.i2l X94.here hx rfl (hb hby at_82) rfl ?_
      show Steps p.tables e below (T94.setTop (mkF m 83 #[.val (.int p1), .val (.int p2), .val (.int p3), .val (.int p4), .val (.long q5), .second, .val (.int nd), .val (.int ky), .val (.int kl), .val (.ref b86), .val (.int idl), .unset, .unset, .unset, .unset, .unset] [(.long (nd.toInt64))])) _
      refine XS.iload X94.here hx rfl (hb hby at_83) rfl ?_
      show Steps p.tables e below (T94.setTop (mkF m 85 #[.val (.int p1), .val (.int p2), .val (.int p3), .val (.int p4), .val (.long q5), .second, .val (.int nd), .val (.int ky), .val (.int kl), .val (.ref b86), .val (.int idl), .unset, .unset, .unset, .unset, .unset] [(.int kl), (.long (nd.toInt64))])) _
      refine XS.i2l X94.here hx rfl (hb hby at_85) rfl ?_
      show Steps p.tables e below (T94.setTop (mkF m 86 #[.val (.int p1), .val (.int p2), .val (.int p3), .val (.int p4), .val (.long q5), .second, .val (.int nd), .val (.int ky), .val (.int kl), .val (.ref b86), .val (.int idl), .unset, .unset, .unset, .unset, .unset] [(.long (kl.toInt64)), (.long (nd.toInt64))])) _
      refine XS.lmul X94.here hx rfl (hb hby at_86) rfl ?_
      show Steps p.tables e below (T94.setTop (mkF m 87 #[.val (.int p1), .val (.int p2), .val (.int p3), .val (.int p4), .val (.long q5), .second, .val (.int nd), .val (.int ky), .val (.int kl), .val (.ref b86), .val (.int idl), .unset, .unset, .unset, .unset, .unset] [(.long ((nd.toInt64) * (kl.toInt64)))])) _
      refine XS.lstore X94.here hx rfl (hb hby at_87) rfl (l' := #[.val (.int p1), .val (.int p2), .val (.int p3), .val (.int p4), .val (.long q5), .second, .val (.int nd), .val (.int ky), .val (.int kl), .val (.ref b86), .val (.int idl), .val (.long ((nd.toInt64) * (kl.toInt64))), .second, .unset, .unset, .unset]) rfl ?_
      show Steps p.tables e below (T94.setTop (mkF m 89 #[.val (.int p1), .val (.int p2), .val (.int p3), .val (.int p4), .val (.long q5), .second, .val (.int nd), .val (.int ky), .val (.int kl), .val (.ref b86), .val (.int idl), .val (.long ((nd.toInt64) * (kl.toInt64))), .second, .unset, .unset, .unset] [])) _
      exact k
    obtain ⟨pr, e_pr⟩ : ∃ z, z = ((nd.toInt64) * (kl.toInt64)) := ⟨_, rfl⟩
    rw [← e_pr]
    have hpr : 0 ≤ pr.toInt ∧ pr.toInt ≤ 1677721400 := by rw [e_pr]; exact own_pr nd kl hnd.1 hnd.2 hkl.1 hkl.2
    refine own_go (B := T94.setTop (mkF m 101 #[.val (.int p1), .val (.int p2), .val (.int p3), .val (.int p4), .val (.long q5), .second, .val (.int nd), .val (.int ky), .val (.int kl), .val (.ref b86), .val (.int idl), .val (.long pr), .second, .unset, .unset, .unset] [(.int (lcmpW pr ((100 : Int64) * ((idl + (1 : Int32)).toInt64))))])) (fun t k => ?_) ?_
    · show Steps p.tables e below (T94.setTop (mkF m 89 #[.val (.int p1), .val (.int p2), .val (.int p3), .val (.int p4), .val (.long q5), .second, .val (.int nd), .val (.int ky), .val (.int kl), .val (.ref b86), .val (.int idl), .val (.long pr), .second, .unset, .unset, .unset] [])) _
      refine XS.lload X94.here hx rfl (hb hby at_89) rfl ?_
      show Steps p.tables e below (T94.setTop (mkF m 91 #[.val (.int p1), .val (.int p2), .val (.int p3), .val (.int p4), .val (.long q5), .second, .val (.int nd), .val (.int ky), .val (.int kl), .val (.ref b86), .val (.int idl), .val (.long pr), .second, .unset, .unset, .unset] [(.long pr)])) _
      refine X94.ldc2Long hx ho87 (mvT hZ87 (hw _ (List.mem_of_getElem? (i := 75) rfl))) (g := (mkF m 91 #[.val (.int p1), .val (.int p2), .val (.int p3), .val (.int p4), .val (.long q5), .second, .val (.int nd), .val (.int ky), .val (.int kl), .val (.ref b86), .val (.int idl), .val (.long pr), .second, .unset, .unset, .unset] [(.long pr)])) rfl (hb hby at_91) _ ?_
      show Steps p.tables e below (T94.setTop (mkF m 94 #[.val (.int p1), .val (.int p2), .val (.int p3), .val (.int p4), .val (.long q5), .second, .val (.int nd), .val (.int ky), .val (.int kl), .val (.ref b86), .val (.int idl), .val (.long pr), .second, .unset, .unset, .unset] [(.long (100 : Int64)), (.long pr)])) _
      refine XS.iload X94.here hx rfl (hb hby at_94) rfl ?_
      show Steps p.tables e below (T94.setTop (mkF m 96 #[.val (.int p1), .val (.int p2), .val (.int p3), .val (.int p4), .val (.long q5), .second, .val (.int nd), .val (.int ky), .val (.int kl), .val (.ref b86), .val (.int idl), .val (.long pr), .second, .unset, .unset, .unset] [(.int idl), (.long (100 : Int64)), (.long pr)])) _
      refine XS.iconst X94.here hx rfl (hb hby at_96) ?_
      show Steps p.tables e below (T94.setTop (mkF m 97 #[.val (.int p1), .val (.int p2), .val (.int p3), .val (.int p4), .val (.long q5), .second, .val (.int nd), .val (.int ky), .val (.int kl), .val (.ref b86), .val (.int idl), .val (.long pr), .second, .unset, .unset, .unset] [(.int (1 : Int32)), (.int idl), (.long (100 : Int64)), (.long pr)])) _
      refine XS.iadd X94.here hx rfl (hb hby at_97) rfl ?_
      show Steps p.tables e below (T94.setTop (mkF m 98 #[.val (.int p1), .val (.int p2), .val (.int p3), .val (.int p4), .val (.long q5), .second, .val (.int nd), .val (.int ky), .val (.int kl), .val (.ref b86), .val (.int idl), .val (.long pr), .second, .unset, .unset, .unset] [(.int (idl + (1 : Int32))), (.long (100 : Int64)), (.long pr)])) _
      refine XS.i2l X94.here hx rfl (hb hby at_98) rfl ?_
      show Steps p.tables e below (T94.setTop (mkF m 99 #[.val (.int p1), .val (.int p2), .val (.int p3), .val (.int p4), .val (.long q5), .second, .val (.int nd), .val (.int ky), .val (.int kl), .val (.ref b86), .val (.int idl), .val (.long pr), .second, .unset, .unset, .unset] [(.long ((idl + (1 : Int32)).toInt64)), (.long (100 : Int64)), (.long pr)])) _
      refine XS.lmul X94.here hx rfl (hb hby at_99) rfl ?_
      show Steps p.tables e below (T94.setTop (mkF m 100 #[.val (.int p1), .val (.int p2), .val (.int p3), .val (.int p4), .val (.long q5), .second, .val (.int nd), .val (.int ky), .val (.int kl), .val (.ref b86), .val (.int idl), .val (.long pr), .second, .unset, .unset, .unset] [(.long ((100 : Int64) * ((idl + (1 : Int32)).toInt64))), (.long pr)])) _
      refine XS.lcmp X94.here hx rfl (hb hby at_100) rfl ?_
      show Steps p.tables e below (T94.setTop (mkF m 101 #[.val (.int p1), .val (.int p2), .val (.int p3), .val (.int p4), .val (.long q5), .second, .val (.int nd), .val (.int ky), .val (.int kl), .val (.ref b86), .val (.int idl), .val (.long pr), .second, .unset, .unset, .unset] [(.int (lcmpW pr ((100 : Int64) * ((idl + (1 : Int32)).toInt64))))])) _
      exact k
    by_cases hl95 : pr < ((100 : Int64) * ((idl + (1 : Int32)).toInt64))
    · refine own_go (B := T94.setTop (mkF m 110 #[.val (.int p1), .val (.int p2), .val (.int p3), .val (.int p4), .val (.long q5), .second, .val (.int nd), .val (.int ky), .val (.int kl), .val (.ref b86), .val (.int idl), .val (.long pr), .second, .unset, .unset, .unset] [(.int kl), (.ref b86)])) (fun t k => ?_) ?_
      · show Steps p.tables e below (T94.setTop (mkF m 101 #[.val (.int p1), .val (.int p2), .val (.int p3), .val (.int p4), .val (.long q5), .second, .val (.int nd), .val (.int ky), .val (.int kl), .val (.ref b86), .val (.int idl), .val (.long pr), .second, .unset, .unset, .unset] [(.int (lcmpW pr ((100 : Int64) * ((idl + (1 : Int32)).toInt64))))])) _
        refine XS.ifYes X94.here hx rfl (pc0 := 101) (pc' := 106) rfl (hb hby at_101) rfl ((if0 _ _).trans (tlt (show (lcmpW pr ((100 : Int64) * ((idl + (1 : Int32)).toInt64))) < (0 : Int32) from ((lw_lt pr ((100 : Int64) * ((idl + (1 : Int32)).toInt64))).mpr hl95))).1) (by decide) (by decide) ?_
        show Steps p.tables e below (T94.setTop (mkF m 106 #[.val (.int p1), .val (.int p2), .val (.int p3), .val (.int p4), .val (.long q5), .second, .val (.int nd), .val (.int ky), .val (.int kl), .val (.ref b86), .val (.int idl), .val (.long pr), .second, .unset, .unset, .unset] [])) _
        refine XS.aload X94.here hx rfl (hb hby at_106) rfl rfl ?_
        show Steps p.tables e below (T94.setTop (mkF m 108 #[.val (.int p1), .val (.int p2), .val (.int p3), .val (.int p4), .val (.long q5), .second, .val (.int nd), .val (.int ky), .val (.int kl), .val (.ref b86), .val (.int idl), .val (.long pr), .second, .unset, .unset, .unset] [(.ref b86)])) _
        refine XS.iload X94.here hx rfl (hb hby at_108) rfl ?_
        show Steps p.tables e below (T94.setTop (mkF m 110 #[.val (.int p1), .val (.int p2), .val (.int p3), .val (.int p4), .val (.long q5), .second, .val (.int nd), .val (.int ky), .val (.int kl), .val (.ref b86), .val (.int idl), .val (.long pr), .second, .unset, .unset, .unset] [(.int kl), (.ref b86)])) _
        exact k
      have hst : ¬ (if (0 : Int32) < (nd - ((2 : Int32) * ky)) then (nd - ((2 : Int32) * ky)) else (0 : Int32)) < ((((nd.toInt64) * (kl.toInt64)) / (100 : Int64)).toInt32) := by
        rw [← e_idl, ← e_pr, Int32.lt_iff_toInt_lt, own_st pr hpr.1 hpr.2]
        have q := hl95
        rw [Int64.lt_iff_toInt_lt, own_hun idl hidl.1 hidl.2] at q
        omega
      have f97 : Exa Z T87.heap w_EMPTY "java/util/OptionalInt" := (f89.keep q87_0)
      have ne98 : w_EMPTY ≠ b86 := (Nat.ne_of_lt (Nat.lt_of_lt_of_le E_EMPTY.lt (Nat.le_of_eq g86.symm)))
      have f99 : Fld Z T87.heap w_EMPTY "java/util/OptionalInt" "isPresent" "Z" (.int (0 : Int32)) := (f90.keep q87_0 (ninS ne98 nin0))
      have f100 : Fld Z T87.heap w_EMPTY "java/util/OptionalInt" "value" "I" (.int (0 : Int32)) := (f91.keep q87_0 (ninS ne98 nin0))
      obtain ⟨cq96, kq96, q96a, q96b, q96c⟩ := isOf hZ87 q94_0 q87_1
      obtain ⟨_, _, ⟨T96, L96, k96, n96⟩, -, X96, S96, G96, ⟨Lc96, hQ96, l96, y96, z96⟩, st96⟩ := X94.virtualBackS hx (y := (⟨"com/example/strict_dht/strictdht/sim/Simulation$Scenario", "withKill", "(I)Lcom/example/strict_dht/strictdht/sim/Simulation$Scenario;"⟩ : MethodName)) (z := (⟨"com/example/strict_dht/strictdht/sim/Simulation$Scenario", "withKill", "(I)Lcom/example/strict_dht/strictdht/sim/Simulation$Scenario;"⟩ : MethodName)) ho87 (mvT hZ87 (hw _ (List.mem_of_getElem? (i := 76) rfl))) (mvT hZ87 (hw _ (List.mem_of_getElem? (i := 77) rfl))) (notFace_of_selects (args := #[]) (mvT hZ87 (hw _ (List.mem_of_getElem? (i := 79) rfl)))) (mvT hZ87 (hw _ (List.mem_of_getElem? (i := 79) rfl))) (mvT hZ87 (hw _ (List.mem_of_getElem? (i := 78) rfl))) (by decide) (backOfS (W := 0) (rm11 l Z a0 hw [] b86 kl nd ky q5 (0 : Int32) w_EMPTY T87.heap n0 (Nat.le_trans Z0 le93) q87_1 q87_2 q87_3 q87_4 q87_5 q87_6 q87_7 q87_8 q87_9 f97 f99 f100 (k1) (hky.1) (hky.2) (by rw [Int32.lt_iff_toInt_lt, show (0 : Int32).toInt = 0 from by decide]; omega) (by rw [Int32.lt_iff_toInt_lt, show (100 : Int32).toInt = 100 from by decide]; omega) (hst)) hZ87 (hw _ (List.mem_of_getElem? (i := 80) rfl)) (hw _ (List.mem_of_getElem? (i := 4) rfl)) (by decide) (by decide)) q96a q96c (g := (mkF m 110 #[.val (.int p1), .val (.int p2), .val (.int p3), .val (.int p4), .val (.long q5), .second, .val (.int nd), .val (.int ky), .val (.int kl), .val (.ref b86), .val (.int idl), .val (.long pr), .second, .unset, .unset, .unset] [(.int kl), (.ref b86)])) rfl (by rw [hml]; rfl) (Steps.refl _) (argsL := [(.int kl)]) (rest := []) (lenOf pd_8 rfl) rfl (by show 2 * 0 + _ ≤ _; exact Nat.le_of_eq rfl) (hb hby at_110) (fun _ _ => ⟨rfl, q94_0, (by decide : 5 + 5 ≤ _), (by decide : 120 + 120 ≤ _)⟩)
      dsimp only [Pt.U, Pt.locs, Pt.cells, Pt.slots] at X96 S96 G96 l96 y96 z96 st96 hQ96
      subst l96 y96 z96
      obtain ⟨bn_96, rfl, M96, q96_0, q96_1, q96_2, q96_3, q96_4, q96_5, q96_6, q96_7, q96_8, q96_9, q96_10⟩ := hQ96
      have N96 := Fr.app N94 M96
      have hS96 : s.Since T96.vm T96.heap.size := hS87.trans S96 (Nat.le_trans (Nat.le_refl _) (Nat.le_trans (Nat.le_of_eq (congrArg Array.size q94_0.symm)) G96))
      have hZ96 : Z.Warmed39 (s.setVm T96.vm).vm := State.Warmed39.trans (t := (s.setVm T87.vm)) hZ87 S96.1
      have ho96 : (s.setVm T96.vm).vm.findClass "com/example/strict_dht/strictdht/sim/ScenarioStoppingPinLaw" = some m.cls := by rw [show (s.setVm T96.vm).vm = T96.vm from rfl, S96.1.alike.findClass]; exact ho87
      replace X96 : Stand p l e _ (s.setVm T96.vm) m _ below meth c T96 _ _ _ := X96
      have K96 : Keep h0 T96.heap [] := Keep.trans K87 q96_0 all0
      refine own_go (fun t k => st96.trans k) ?_
      refine own_go (B := T96.setTop (mkF m 117 #[.val (.int p1), .val (.int p2), .val (.int p3), .val (.int p4), .val (.long q5), .second, .val (.int nd), .val (.int ky), .val (.int kl), .val (.ref b86), .val (.int idl), .val (.long pr), .second, .val (.ref bn_96), .unset, .unset] [(.ref bn_96)])) (fun t k => ?_) ?_
      · show Steps p.tables e below (T96.setTop (mkF m 113 #[.val (.int p1), .val (.int p2), .val (.int p3), .val (.int p4), .val (.long q5), .second, .val (.int nd), .val (.int ky), .val (.int kl), .val (.ref b86), .val (.int idl), .val (.long pr), .second, .unset, .unset, .unset] [(.ref bn_96)])) _
        refine XS.astore X96.here hx rfl (hb hby at_113) rfl rfl (l' := #[.val (.int p1), .val (.int p2), .val (.int p3), .val (.int p4), .val (.long q5), .second, .val (.int nd), .val (.int ky), .val (.int kl), .val (.ref b86), .val (.int idl), .val (.long pr), .second, .val (.ref bn_96), .unset, .unset]) rfl ?_
        show Steps p.tables e below (T96.setTop (mkF m 115 #[.val (.int p1), .val (.int p2), .val (.int p3), .val (.int p4), .val (.long q5), .second, .val (.int nd), .val (.int ky), .val (.int kl), .val (.ref b86), .val (.int idl), .val (.long pr), .second, .val (.ref bn_96), .unset, .unset] [])) _
        refine XS.aload X96.here hx rfl (hb hby at_115) rfl rfl ?_
        show Steps p.tables e below (T96.setTop (mkF m 117 #[.val (.int p1), .val (.int p2), .val (.int p3), .val (.int p4), .val (.long q5), .second, .val (.int nd), .val (.int ky), .val (.int kl), .val (.ref b86), .val (.int idl), .val (.long pr), .second, .val (.ref bn_96), .unset, .unset] [(.ref bn_96)])) _
        exact k
      have le102 : h0.size ≤ T96.heap.size := (Nat.le_trans (Nat.le_trans E86.1 q87_0.1) q96_0.1)
      obtain ⟨cq101, kq101, q101a, q101b, q101c⟩ := isOf hZ96 rfl q96_2
      obtain ⟨_, _, ⟨T101, L101, k101, n101⟩, -, X101, ⟨Lc101, hQ101, l101, y101, z101⟩, st101⟩ := X96.virtualBack hx (y := (⟨"com/example/strict_dht/strictdht/sim/Simulation$Scenario", "stopping", "()I"⟩ : MethodName)) (z := (⟨"com/example/strict_dht/strictdht/sim/Simulation$Scenario", "stopping", "()I"⟩ : MethodName)) ho96 (mvT hZ96 (hw _ (List.mem_of_getElem? (i := 69) rfl))) (mvT hZ96 (hw _ (List.mem_of_getElem? (i := 70) rfl))) (notFace_of_selects (args := #[]) (mvT hZ96 (hw _ (List.mem_of_getElem? (i := 72) rfl)))) (mvT hZ96 (hw _ (List.mem_of_getElem? (i := 72) rfl))) (mvT hZ96 (hw _ (List.mem_of_getElem? (i := 71) rfl))) (by decide) (backOf (W := 0) (rm10 l Z a0 hw [] bn_96 nd kl T96.heap n0 (Nat.le_trans Z0 le102) q96_3 q96_7) hZ96 (hw _ (List.mem_of_getElem? (i := 73) rfl)) (hw _ (List.mem_of_getElem? (i := 4) rfl)) (by decide) (by decide)) q101a q101c (g := (mkF m 117 #[.val (.int p1), .val (.int p2), .val (.int p3), .val (.int p4), .val (.long q5), .second, .val (.int nd), .val (.int ky), .val (.int kl), .val (.ref b86), .val (.int idl), .val (.long pr), .second, .val (.ref bn_96), .unset, .unset] [(.ref bn_96)])) rfl (by rw [hml]; rfl) (Steps.refl _) (argsL := []) (rest := []) (lenOf pd_7 rfl) rfl (by show 2 * 0 + _ ≤ _; exact Nat.le_of_eq rfl) (hb hby at_117) (fun _ _ => ⟨rfl, rfl, (by decide : 10 + 0 ≤ _), (by decide : 240 + 0 ≤ _)⟩)
      dsimp only [Pt.U, Pt.locs, Pt.cells, Pt.slots] at X101 l101 y101 z101 st101 hQ101
      subst l101 y101 z101
      obtain ⟨rfl, M101, q101_0⟩ := hQ101
      have N101 := Fr.app N96 M101
      refine own_go (fun t k => st101.trans k) ?_
      refine own_go (B := T101.setTop (mkF m 123 #[.val (.int p1), .val (.int p2), .val (.int p3), .val (.int p4), .val (.long q5), .second, .val (.int nd), .val (.int ky), .val (.int kl), .val (.ref b86), .val (.int idl), .val (.long pr), .second, .val (.ref bn_96), .val (.long (((((nd.toInt64) * (kl.toInt64)) / (100 : Int64)).toInt32).toInt64)), .second] [])) (fun t k => ?_) ?_
      · show Steps p.tables e below (T101.setTop (mkF m 120 #[.val (.int p1), .val (.int p2), .val (.int p3), .val (.int p4), .val (.long q5), .second, .val (.int nd), .val (.int ky), .val (.int kl), .val (.ref b86), .val (.int idl), .val (.long pr), .second, .val (.ref bn_96), .unset, .unset] [(.int ((((nd.toInt64) * (kl.toInt64)) / (100 : Int64)).toInt32))])) _
        refine XS.i2l X101.here hx rfl (hb hby at_120) rfl ?_
        show Steps p.tables e below (T101.setTop (mkF m 121 #[.val (.int p1), .val (.int p2), .val (.int p3), .val (.int p4), .val (.long q5), .second, .val (.int nd), .val (.int ky), .val (.int kl), .val (.ref b86), .val (.int idl), .val (.long pr), .second, .val (.ref bn_96), .unset, .unset] [(.long (((((nd.toInt64) * (kl.toInt64)) / (100 : Int64)).toInt32).toInt64))])) _
        refine XS.lstore X101.here hx rfl (hb hby at_121) rfl (l' := #[.val (.int p1), .val (.int p2), .val (.int p3), .val (.int p4), .val (.long q5), .second, .val (.int nd), .val (.int ky), .val (.int kl), .val (.ref b86), .val (.int idl), .val (.long pr), .second, .val (.ref bn_96), .val (.long (((((nd.toInt64) * (kl.toInt64)) / (100 : Int64)).toInt32).toInt64)), .second]) rfl ?_
        show Steps p.tables e below (T101.setTop (mkF m 123 #[.val (.int p1), .val (.int p2), .val (.int p3), .val (.int p4), .val (.long q5), .second, .val (.int nd), .val (.int ky), .val (.int kl), .val (.ref b86), .val (.int idl), .val (.long pr), .second, .val (.ref bn_96), .val (.long (((((nd.toInt64) * (kl.toInt64)) / (100 : Int64)).toInt32).toInt64)), .second] [])) _
        exact k
      obtain ⟨sv, e_sv⟩ : ∃ z, z = (((((nd.toInt64) * (kl.toInt64)) / (100 : Int64)).toInt32).toInt64) := ⟨_, rfl⟩
      rw [← e_sv]
      have hsv : sv.toInt = pr.toInt / 100 := by rw [e_sv, c_i2l, ← e_pr]; exact own_st pr hpr.1 hpr.2
      have z0 : (0 : Int64).toInt = 0 := by decide
      have z1 : (1 : Int64).toInt = 1 := by decide
      have z2 : (100 : Int64).toInt = 100 := by decide
      have m1 := c_lmul 100 sv
      have m2 := c_lmul 100 (sv + 1)
      have m3 := c_ladd sv 1
      have m4 := rng64 ((100 : Int64) * sv)
      have m5 := rng64 ((100 : Int64) * (sv + 1))
      have m6 := rng64 (sv + 1)
      rw [z2] at m1 m2
      refine own_go (B := T101.setTop (mkF m 161 #[.val (.int p1), .val (.int p2), .val (.int p3), .val (.int p4), .val (.long q5), .second, .val (.int nd), .val (.int ky), .val (.int kl), .val (.ref b86), .val (.int idl), .val (.long pr), .second, .val (.ref bn_96), .val (.long sv), .second] [(.int (1 : Int32))])) (fun t k => ?_) ?_
      · show Steps p.tables e below (T101.setTop (mkF m 123 #[.val (.int p1), .val (.int p2), .val (.int p3), .val (.int p4), .val (.long q5), .second, .val (.int nd), .val (.int ky), .val (.int kl), .val (.ref b86), .val (.int idl), .val (.long pr), .second, .val (.ref bn_96), .val (.long sv), .second] [])) _
        refine XS.lload X101.here hx rfl (hb hby at_123) rfl ?_
        show Steps p.tables e below (T101.setTop (mkF m 125 #[.val (.int p1), .val (.int p2), .val (.int p3), .val (.int p4), .val (.long q5), .second, .val (.int nd), .val (.int ky), .val (.int kl), .val (.ref b86), .val (.int idl), .val (.long pr), .second, .val (.ref bn_96), .val (.long sv), .second] [(.long sv)])) _
        refine XS.lconst X101.here hx rfl (hb hby at_125) ?_
        show Steps p.tables e below (T101.setTop (mkF m 126 #[.val (.int p1), .val (.int p2), .val (.int p3), .val (.int p4), .val (.long q5), .second, .val (.int nd), .val (.int ky), .val (.int kl), .val (.ref b86), .val (.int idl), .val (.long pr), .second, .val (.ref bn_96), .val (.long sv), .second] [(.long (0 : Int64)), (.long sv)])) _
        refine XS.lcmp X101.here hx rfl (hb hby at_126) rfl ?_
        show Steps p.tables e below (T101.setTop (mkF m 127 #[.val (.int p1), .val (.int p2), .val (.int p3), .val (.int p4), .val (.long q5), .second, .val (.int nd), .val (.int ky), .val (.int kl), .val (.ref b86), .val (.int idl), .val (.long pr), .second, .val (.ref bn_96), .val (.long sv), .second] [(.int (lcmpW sv (0 : Int64)))])) _
        refine XS.ifNo X101.here hx rfl (hb hby at_127) rfl ((if0 _ _).trans (flt (show ¬ ((lcmpW sv (0 : Int64)) < (0 : Int32)) from (fun q => (show ¬ (sv < (0 : Int64)) from (by rw [Int64.lt_iff_toInt_lt]; omega)) ((lw_lt sv (0 : Int64)).mp q)))).1) ?_
        show Steps p.tables e below (T101.setTop (mkF m 130 #[.val (.int p1), .val (.int p2), .val (.int p3), .val (.int p4), .val (.long q5), .second, .val (.int nd), .val (.int ky), .val (.int kl), .val (.ref b86), .val (.int idl), .val (.long pr), .second, .val (.ref bn_96), .val (.long sv), .second] [])) _
        refine X101.ldc2Long hx ho96 (mvT hZ96 (hw _ (List.mem_of_getElem? (i := 75) rfl))) (g := (mkF m 130 #[.val (.int p1), .val (.int p2), .val (.int p3), .val (.int p4), .val (.long q5), .second, .val (.int nd), .val (.int ky), .val (.int kl), .val (.ref b86), .val (.int idl), .val (.long pr), .second, .val (.ref bn_96), .val (.long sv), .second] [])) rfl (hb hby at_130) _ ?_
        show Steps p.tables e below (T101.setTop (mkF m 133 #[.val (.int p1), .val (.int p2), .val (.int p3), .val (.int p4), .val (.long q5), .second, .val (.int nd), .val (.int ky), .val (.int kl), .val (.ref b86), .val (.int idl), .val (.long pr), .second, .val (.ref bn_96), .val (.long sv), .second] [(.long (100 : Int64))])) _
        refine XS.lload X101.here hx rfl (hb hby at_133) rfl ?_
        show Steps p.tables e below (T101.setTop (mkF m 135 #[.val (.int p1), .val (.int p2), .val (.int p3), .val (.int p4), .val (.long q5), .second, .val (.int nd), .val (.int ky), .val (.int kl), .val (.ref b86), .val (.int idl), .val (.long pr), .second, .val (.ref bn_96), .val (.long sv), .second] [(.long sv), (.long (100 : Int64))])) _
        refine XS.lmul X101.here hx rfl (hb hby at_135) rfl ?_
        show Steps p.tables e below (T101.setTop (mkF m 136 #[.val (.int p1), .val (.int p2), .val (.int p3), .val (.int p4), .val (.long q5), .second, .val (.int nd), .val (.int ky), .val (.int kl), .val (.ref b86), .val (.int idl), .val (.long pr), .second, .val (.ref bn_96), .val (.long sv), .second] [(.long ((100 : Int64) * sv))])) _
        refine XS.lload X101.here hx rfl (hb hby at_136) rfl ?_
        show Steps p.tables e below (T101.setTop (mkF m 138 #[.val (.int p1), .val (.int p2), .val (.int p3), .val (.int p4), .val (.long q5), .second, .val (.int nd), .val (.int ky), .val (.int kl), .val (.ref b86), .val (.int idl), .val (.long pr), .second, .val (.ref bn_96), .val (.long sv), .second] [(.long pr), (.long ((100 : Int64) * sv))])) _
        refine XS.lcmp X101.here hx rfl (hb hby at_138) rfl ?_
        show Steps p.tables e below (T101.setTop (mkF m 139 #[.val (.int p1), .val (.int p2), .val (.int p3), .val (.int p4), .val (.long q5), .second, .val (.int nd), .val (.int ky), .val (.int kl), .val (.ref b86), .val (.int idl), .val (.long pr), .second, .val (.ref bn_96), .val (.long sv), .second] [(.int (lcmpW ((100 : Int64) * sv) pr))])) _
        refine XS.ifNo X101.here hx rfl (hb hby at_139) rfl ((if0 _ _).trans (flt (show ¬ ((0 : Int32) < (lcmpW ((100 : Int64) * sv) pr)) from (fun q => (show ¬ (pr < ((100 : Int64) * sv)) from (by rw [Int64.lt_iff_toInt_lt]; omega)) ((lw_gt ((100 : Int64) * sv) pr).mp q)))).2.2.1) ?_
        show Steps p.tables e below (T101.setTop (mkF m 142 #[.val (.int p1), .val (.int p2), .val (.int p3), .val (.int p4), .val (.long q5), .second, .val (.int nd), .val (.int ky), .val (.int kl), .val (.ref b86), .val (.int idl), .val (.long pr), .second, .val (.ref bn_96), .val (.long sv), .second] [])) _
        refine XS.lload X101.here hx rfl (hb hby at_142) rfl ?_
        show Steps p.tables e below (T101.setTop (mkF m 144 #[.val (.int p1), .val (.int p2), .val (.int p3), .val (.int p4), .val (.long q5), .second, .val (.int nd), .val (.int ky), .val (.int kl), .val (.ref b86), .val (.int idl), .val (.long pr), .second, .val (.ref bn_96), .val (.long sv), .second] [(.long pr)])) _
        refine X101.ldc2Long hx ho96 (mvT hZ96 (hw _ (List.mem_of_getElem? (i := 75) rfl))) (g := (mkF m 144 #[.val (.int p1), .val (.int p2), .val (.int p3), .val (.int p4), .val (.long q5), .second, .val (.int nd), .val (.int ky), .val (.int kl), .val (.ref b86), .val (.int idl), .val (.long pr), .second, .val (.ref bn_96), .val (.long sv), .second] [(.long pr)])) rfl (hb hby at_144) _ ?_
        show Steps p.tables e below (T101.setTop (mkF m 147 #[.val (.int p1), .val (.int p2), .val (.int p3), .val (.int p4), .val (.long q5), .second, .val (.int nd), .val (.int ky), .val (.int kl), .val (.ref b86), .val (.int idl), .val (.long pr), .second, .val (.ref bn_96), .val (.long sv), .second] [(.long (100 : Int64)), (.long pr)])) _
        refine XS.lload X101.here hx rfl (hb hby at_147) rfl ?_
        show Steps p.tables e below (T101.setTop (mkF m 149 #[.val (.int p1), .val (.int p2), .val (.int p3), .val (.int p4), .val (.long q5), .second, .val (.int nd), .val (.int ky), .val (.int kl), .val (.ref b86), .val (.int idl), .val (.long pr), .second, .val (.ref bn_96), .val (.long sv), .second] [(.long sv), (.long (100 : Int64)), (.long pr)])) _
        refine XS.lconst X101.here hx rfl (hb hby at_149) ?_
        show Steps p.tables e below (T101.setTop (mkF m 150 #[.val (.int p1), .val (.int p2), .val (.int p3), .val (.int p4), .val (.long q5), .second, .val (.int nd), .val (.int ky), .val (.int kl), .val (.ref b86), .val (.int idl), .val (.long pr), .second, .val (.ref bn_96), .val (.long sv), .second] [(.long (1 : Int64)), (.long sv), (.long (100 : Int64)), (.long pr)])) _
        refine XS.ladd X101.here hx rfl (hb hby at_150) rfl ?_
        show Steps p.tables e below (T101.setTop (mkF m 151 #[.val (.int p1), .val (.int p2), .val (.int p3), .val (.int p4), .val (.long q5), .second, .val (.int nd), .val (.int ky), .val (.int kl), .val (.ref b86), .val (.int idl), .val (.long pr), .second, .val (.ref bn_96), .val (.long sv), .second] [(.long (sv + (1 : Int64))), (.long (100 : Int64)), (.long pr)])) _
        refine XS.lmul X101.here hx rfl (hb hby at_151) rfl ?_
        show Steps p.tables e below (T101.setTop (mkF m 152 #[.val (.int p1), .val (.int p2), .val (.int p3), .val (.int p4), .val (.long q5), .second, .val (.int nd), .val (.int ky), .val (.int kl), .val (.ref b86), .val (.int idl), .val (.long pr), .second, .val (.ref bn_96), .val (.long sv), .second] [(.long ((100 : Int64) * (sv + (1 : Int64)))), (.long pr)])) _
        refine XS.lcmp X101.here hx rfl (hb hby at_152) rfl ?_
        show Steps p.tables e below (T101.setTop (mkF m 153 #[.val (.int p1), .val (.int p2), .val (.int p3), .val (.int p4), .val (.long q5), .second, .val (.int nd), .val (.int ky), .val (.int kl), .val (.ref b86), .val (.int idl), .val (.long pr), .second, .val (.ref bn_96), .val (.long sv), .second] [(.int (lcmpW pr ((100 : Int64) * (sv + (1 : Int64)))))])) _
        refine XS.ifNo X101.here hx rfl (hb hby at_153) rfl ((if0 _ _).trans (tlt (show (lcmpW pr ((100 : Int64) * (sv + (1 : Int64)))) < (0 : Int32) from ((lw_lt pr ((100 : Int64) * (sv + (1 : Int64)))).mpr (show pr < ((100 : Int64) * (sv + (1 : Int64))) from (by rw [Int64.lt_iff_toInt_lt]; omega))))).2.1) ?_
        show Steps p.tables e below (T101.setTop (mkF m 156 #[.val (.int p1), .val (.int p2), .val (.int p3), .val (.int p4), .val (.long q5), .second, .val (.int nd), .val (.int ky), .val (.int kl), .val (.ref b86), .val (.int idl), .val (.long pr), .second, .val (.ref bn_96), .val (.long sv), .second] [])) _
        refine XS.iconst X101.here hx rfl (hb hby at_156) ?_
        show Steps p.tables e below (T101.setTop (mkF m 157 #[.val (.int p1), .val (.int p2), .val (.int p3), .val (.int p4), .val (.long q5), .second, .val (.int nd), .val (.int ky), .val (.int kl), .val (.ref b86), .val (.int idl), .val (.long pr), .second, .val (.ref bn_96), .val (.long sv), .second] [(.int (1 : Int32))])) _
        refine XS.goto X101.here hx rfl (pc0 := 157) (pc' := 161) rfl (hb hby at_157) (by decide) (by decide) ?_
        show Steps p.tables e below (T101.setTop (mkF m 161 #[.val (.int p1), .val (.int p2), .val (.int p3), .val (.int p4), .val (.long q5), .second, .val (.int nd), .val (.int ky), .val (.int kl), .val (.ref b86), .val (.int idl), .val (.long pr), .second, .val (.ref bn_96), .val (.long sv), .second] [(.int (1 : Int32))])) _
        exact k
      obtain ⟨fs, hr, hrun, hended, hW⟩ := X101.leaveW hS96 (show _ ≤ T101.heap.size by rw [q101_0]; exact (Nat.le_refl _)) (v := some (.int (1 : Int32))) (fun h => by rw [Bd.returns] at h; cases h)
      refine ⟨_, _, ?_, hrun, hended, _, _, rfl, ?_, ⟨hW.1, hW.2.1, hW.2.2.1, hW.2.2.2.mono (by decide) (by decide)⟩⟩
      · exact retN X101 hx (t := .boolean) Bd.returns (by simp) (hb hby at_161) hr
      · show Q0 Z p1 p2 p3 p4 q5 w_EMPTY h0 n0 _ T101.heap _
        rw [q101_0]
        exact ⟨rfl, N101⟩
    · refine own_go (B := T94.setTop (mkF m 105 #[.val (.int p1), .val (.int p2), .val (.int p3), .val (.int p4), .val (.long q5), .second, .val (.int nd), .val (.int ky), .val (.int kl), .val (.ref b86), .val (.int idl), .val (.long pr), .second, .unset, .unset, .unset] [(.int (1 : Int32))])) (fun t k => ?_) ?_
      · show Steps p.tables e below (T94.setTop (mkF m 101 #[.val (.int p1), .val (.int p2), .val (.int p3), .val (.int p4), .val (.long q5), .second, .val (.int nd), .val (.int ky), .val (.int kl), .val (.ref b86), .val (.int idl), .val (.long pr), .second, .unset, .unset, .unset] [(.int (lcmpW pr ((100 : Int64) * ((idl + (1 : Int32)).toInt64))))])) _
        refine XS.ifNo X94.here hx rfl (hb hby at_101) rfl ((if0 _ _).trans (flt (show ¬ ((lcmpW pr ((100 : Int64) * ((idl + (1 : Int32)).toInt64))) < (0 : Int32)) from (fun q => hl95 ((lw_lt pr ((100 : Int64) * ((idl + (1 : Int32)).toInt64))).mp q)))).1) ?_
        show Steps p.tables e below (T94.setTop (mkF m 104 #[.val (.int p1), .val (.int p2), .val (.int p3), .val (.int p4), .val (.long q5), .second, .val (.int nd), .val (.int ky), .val (.int kl), .val (.ref b86), .val (.int idl), .val (.long pr), .second, .unset, .unset, .unset] [])) _
        refine XS.iconst X94.here hx rfl (hb hby at_104) ?_
        show Steps p.tables e below (T94.setTop (mkF m 105 #[.val (.int p1), .val (.int p2), .val (.int p3), .val (.int p4), .val (.long q5), .second, .val (.int nd), .val (.int ky), .val (.int kl), .val (.ref b86), .val (.int idl), .val (.long pr), .second, .unset, .unset, .unset] [(.int (1 : Int32))])) _
        exact k
      obtain ⟨fs, hr, hrun, hended, hW⟩ := X94.leaveW hS87 (show _ ≤ T94.heap.size by rw [q94_0]; exact (Nat.le_refl _)) (v := some (.int (1 : Int32))) (fun h => by rw [Bd.returns] at h; cases h)
      refine ⟨_, _, ?_, hrun, hended, _, _, rfl, ?_, ⟨hW.1, hW.2.1, hW.2.2.1, hW.2.2.2.mono (by decide) (by decide)⟩⟩
      · exact retN X94 hx (t := .boolean) Bd.returns (by simp) (hb hby at_105) hr
      · show Q0 Z p1 p2 p3 p4 q5 w_EMPTY h0 n0 _ T94.heap _
        rw [q94_0]
        exact ⟨rfl, N94⟩
  refine own_go (B := s₁.setTop (mkF m 17 #[.val (.int p1), .val (.int p2), .val (.int p3), .val (.int p4), .val (.long q5), .second, .val (.int nd), .val (.int (1 : Int32)), .unset, .unset, .unset, .unset, .unset, .unset, .unset, .unset] [(.int (p4 &&& (1 : Int32)))])) (fun t k => ?_) ?_
  · show Steps p.tables e below (s₁.setTop (mkF m 14 #[.val (.int p1), .val (.int p2), .val (.int p3), .val (.int p4), .val (.long q5), .second, .val (.int nd), .val (.int (1 : Int32)), .unset, .unset, .unset, .unset, .unset, .unset, .unset, .unset] [])) _
    refine XS.iloadN X0.here hx rfl (hb hby at_14) rfl ?_
    show Steps p.tables e below (s₁.setTop (mkF m 15 #[.val (.int p1), .val (.int p2), .val (.int p3), .val (.int p4), .val (.long q5), .second, .val (.int nd), .val (.int (1 : Int32)), .unset, .unset, .unset, .unset, .unset, .unset, .unset, .unset] [(.int p4)])) _
    refine XS.iconst X0.here hx rfl (hb hby at_15) ?_
    show Steps p.tables e below (s₁.setTop (mkF m 16 #[.val (.int p1), .val (.int p2), .val (.int p3), .val (.int p4), .val (.long q5), .second, .val (.int nd), .val (.int (1 : Int32)), .unset, .unset, .unset, .unset, .unset, .unset, .unset, .unset] [(.int (1 : Int32)), (.int p4)])) _
    refine XS.iand X0.here hx rfl (hb hby at_16) rfl ?_
    show Steps p.tables e below (s₁.setTop (mkF m 17 #[.val (.int p1), .val (.int p2), .val (.int p3), .val (.int p4), .val (.long q5), .second, .val (.int nd), .val (.int (1 : Int32)), .unset, .unset, .unset, .unset, .unset, .unset, .unset, .unset] [(.int (p4 &&& (1 : Int32)))])) _
    exact k
  by_cases hc105 : (p4 &&& (1 : Int32)) = (0 : Int32)
  · refine own_go (B := s₁.setTop (mkF m 33 #[.val (.int p1), .val (.int p2), .val (.int p3), .val (.int p4), .val (.long q5), .second, .val (.int nd), .val (.int (1 : Int32)), .unset, .unset, .unset, .unset, .unset, .unset, .unset, .unset] [])) (fun t k => ?_) ?_
    · show Steps p.tables e below (s₁.setTop (mkF m 17 #[.val (.int p1), .val (.int p2), .val (.int p3), .val (.int p4), .val (.long q5), .second, .val (.int nd), .val (.int (1 : Int32)), .unset, .unset, .unset, .unset, .unset, .unset, .unset, .unset] [(.int (p4 &&& (1 : Int32)))])) _
      refine XS.ifYes X0.here hx rfl (pc0 := 17) (pc' := 33) rfl (hb hby at_17) rfl ((if0 _ _).trans (teq hc105).1) (by decide) (by decide) ?_
      show Steps p.tables e below (s₁.setTop (mkF m 33 #[.val (.int p1), .val (.int p2), .val (.int p3), .val (.int p4), .val (.long q5), .second, .val (.int nd), .val (.int (1 : Int32)), .unset, .unset, .unset, .unset, .unset, .unset, .unset, .unset] [])) _
      exact k
    exact tail (1 : Int32) (own_ky1 nd hnd.1)
  · refine own_go (B := s₁.setTop (mkF m 33 #[.val (.int p1), .val (.int p2), .val (.int p3), .val (.int p4), .val (.long q5), .second, .val (.int nd), .val (.int ((1 : Int32) + ((p2 &&& (2147483647 : Int32)) % (nd - (1 : Int32))))), .unset, .unset, .unset, .unset, .unset, .unset, .unset, .unset] [])) (fun t k => ?_) ?_
    · show Steps p.tables e below (s₁.setTop (mkF m 17 #[.val (.int p1), .val (.int p2), .val (.int p3), .val (.int p4), .val (.long q5), .second, .val (.int nd), .val (.int (1 : Int32)), .unset, .unset, .unset, .unset, .unset, .unset, .unset, .unset] [(.int (p4 &&& (1 : Int32)))])) _
      refine XS.ifNo X0.here hx rfl (hb hby at_17) rfl ((if0 _ _).trans (feq hc105).1) ?_
      show Steps p.tables e below (s₁.setTop (mkF m 20 #[.val (.int p1), .val (.int p2), .val (.int p3), .val (.int p4), .val (.long q5), .second, .val (.int nd), .val (.int (1 : Int32)), .unset, .unset, .unset, .unset, .unset, .unset, .unset, .unset] [])) _
      refine XS.iconst X0.here hx rfl (hb hby at_20) ?_
      show Steps p.tables e below (s₁.setTop (mkF m 21 #[.val (.int p1), .val (.int p2), .val (.int p3), .val (.int p4), .val (.long q5), .second, .val (.int nd), .val (.int (1 : Int32)), .unset, .unset, .unset, .unset, .unset, .unset, .unset, .unset] [(.int (1 : Int32))])) _
      refine XS.iloadN X0.here hx rfl (hb hby at_21) rfl ?_
      show Steps p.tables e below (s₁.setTop (mkF m 22 #[.val (.int p1), .val (.int p2), .val (.int p3), .val (.int p4), .val (.long q5), .second, .val (.int nd), .val (.int (1 : Int32)), .unset, .unset, .unset, .unset, .unset, .unset, .unset, .unset] [(.int p2), (.int (1 : Int32))])) _
      refine X0.ldcInt hx hown (mvT hZ (hw _ (List.mem_of_getElem? (i := 0) rfl))) (g := (mkF m 22 #[.val (.int p1), .val (.int p2), .val (.int p3), .val (.int p4), .val (.long q5), .second, .val (.int nd), .val (.int (1 : Int32)), .unset, .unset, .unset, .unset, .unset, .unset, .unset, .unset] [(.int p2), (.int (1 : Int32))])) rfl (hb hby at_22) _ ?_
      show Steps p.tables e below (s₁.setTop (mkF m 24 #[.val (.int p1), .val (.int p2), .val (.int p3), .val (.int p4), .val (.long q5), .second, .val (.int nd), .val (.int (1 : Int32)), .unset, .unset, .unset, .unset, .unset, .unset, .unset, .unset] [(.int (2147483647 : Int32)), (.int p2), (.int (1 : Int32))])) _
      refine XS.iand X0.here hx rfl (hb hby at_24) rfl ?_
      show Steps p.tables e below (s₁.setTop (mkF m 25 #[.val (.int p1), .val (.int p2), .val (.int p3), .val (.int p4), .val (.long q5), .second, .val (.int nd), .val (.int (1 : Int32)), .unset, .unset, .unset, .unset, .unset, .unset, .unset, .unset] [(.int (p2 &&& (2147483647 : Int32))), (.int (1 : Int32))])) _
      refine XS.iload X0.here hx rfl (hb hby at_25) rfl ?_
      show Steps p.tables e below (s₁.setTop (mkF m 27 #[.val (.int p1), .val (.int p2), .val (.int p3), .val (.int p4), .val (.long q5), .second, .val (.int nd), .val (.int (1 : Int32)), .unset, .unset, .unset, .unset, .unset, .unset, .unset, .unset] [(.int nd), (.int (p2 &&& (2147483647 : Int32))), (.int (1 : Int32))])) _
      refine XS.iconst X0.here hx rfl (hb hby at_27) ?_
      show Steps p.tables e below (s₁.setTop (mkF m 28 #[.val (.int p1), .val (.int p2), .val (.int p3), .val (.int p4), .val (.long q5), .second, .val (.int nd), .val (.int (1 : Int32)), .unset, .unset, .unset, .unset, .unset, .unset, .unset, .unset] [(.int (1 : Int32)), (.int nd), (.int (p2 &&& (2147483647 : Int32))), (.int (1 : Int32))])) _
      refine XS.isub X0.here hx rfl (hb hby at_28) rfl ?_
      show Steps p.tables e below (s₁.setTop (mkF m 29 #[.val (.int p1), .val (.int p2), .val (.int p3), .val (.int p4), .val (.long q5), .second, .val (.int nd), .val (.int (1 : Int32)), .unset, .unset, .unset, .unset, .unset, .unset, .unset, .unset] [(.int (nd - (1 : Int32))), (.int (p2 &&& (2147483647 : Int32))), (.int (1 : Int32))])) _
      refine iremM X0 hx rfl (hb hby at_29) rfl (own_nz nd hnd.1) ?_
      show Steps p.tables e below (s₁.setTop (mkF m 30 #[.val (.int p1), .val (.int p2), .val (.int p3), .val (.int p4), .val (.long q5), .second, .val (.int nd), .val (.int (1 : Int32)), .unset, .unset, .unset, .unset, .unset, .unset, .unset, .unset] [(.int ((p2 &&& (2147483647 : Int32)) % (nd - (1 : Int32)))), (.int (1 : Int32))])) _
      refine XS.iadd X0.here hx rfl (hb hby at_30) rfl ?_
      show Steps p.tables e below (s₁.setTop (mkF m 31 #[.val (.int p1), .val (.int p2), .val (.int p3), .val (.int p4), .val (.long q5), .second, .val (.int nd), .val (.int (1 : Int32)), .unset, .unset, .unset, .unset, .unset, .unset, .unset, .unset] [(.int ((1 : Int32) + ((p2 &&& (2147483647 : Int32)) % (nd - (1 : Int32)))))])) _
      refine XS.istore X0.here hx rfl (hb hby at_31) rfl (l' := #[.val (.int p1), .val (.int p2), .val (.int p3), .val (.int p4), .val (.long q5), .second, .val (.int nd), .val (.int ((1 : Int32) + ((p2 &&& (2147483647 : Int32)) % (nd - (1 : Int32))))), .unset, .unset, .unset, .unset, .unset, .unset, .unset, .unset]) rfl ?_
      show Steps p.tables e below (s₁.setTop (mkF m 33 #[.val (.int p1), .val (.int p2), .val (.int p3), .val (.int p4), .val (.long q5), .second, .val (.int nd), .val (.int ((1 : Int32) + ((p2 &&& (2147483647 : Int32)) % (nd - (1 : Int32))))), .unset, .unset, .unset, .unset, .unset, .unset, .unset, .unset] [])) _
      exact k
    exact tail ((1 : Int32) + ((p2 &&& (2147483647 : Int32)) % (nd - (1 : Int32)))) (own_ky p2 nd hnd.1 hnd.2)
set_option maxRecDepth 65536 in
set_option maxHeartbeats 40000000 in
theorem comes_1 {Post : Tables → Env → Array Value → State → Outcome → State → Prop} (hpost : ∀ tb e args s v u, (limb_1_1.after args s (.returned v) u = true ∧ limb_1_2.after args s (.returned v) u = true ∧ True) → ReturnedEndW s (.returned v) u (Jvm.fieldLocs frame_1_writes args s ++ Jvm.arrayLocs frame_1_arrays args s ++ Jvm.staticLocs frame_1_statics s) 16 2176 → Post tb e args s (.returned v) u) :
    ArmFor flags0 classFile x code maxLocals ret World_1 tables_1 room_1 Calls_1 rest_1 Pre_1 Post := by
  intro l hfl _ _ p e ha hc hk s m args below hf hA hF happ hP
  obtain ⟨hcalls, hrest, hpre⟩ := hP
  obtain ⟨-, -, -, hnamed, -, -, -, hat⟩ := (Spec.applies_iff hf).mp happ
  obtain ⟨hg, hn⟩ := and_e (Cond.before_iff.mp (show (Jvm.Cond.and given_1 narrow_1).before args s = true from hpre))
  obtain ⟨g0, hg0⟩ := and_e hg
  obtain ⟨g1, hg1⟩ := and_e hg0
  obtain ⟨g2, hg2⟩ := and_e hg1
  obtain ⟨g3, hg3⟩ := and_e hg2
  obtain ⟨g4, hg4⟩ := and_e hg3
  obtain ⟨w0, w1, w2, w3, w4, rfl⟩ : ∃ w0 w1 w2 w3 w4 : Value, args = #[w0, w1, w2, w3, w4] := by
    have hs : args.size = 5 := by simpa [Cond.value, given_1] using g0
    obtain ⟨L⟩ := args
    match L, hs with
    | [w0, w1, w2, w3, w4], _ => exact ⟨w0, w1, w2, w3, w4, rfl⟩
  have hw := fun d (hd : d ∈ tables_1) => atoms_spec (ws := Jvm.Cond.code x code maxLocals ret :: tables_1) hat d (List.mem_cons_of_mem _ hd)
  obtain ⟨hsets, hown0⟩ := atoms_of _ (rest_1_c_eq ▸ (show rest_1_c.before _ s = true from hrest))
  obtain ⟨i0, ei0⟩ := is_v g1
  obtain rfl : w0 = (.int i0) := Option.some.inj ei0
  obtain ⟨i1, ei1⟩ := is_v g2
  obtain rfl : w1 = (.int i1) := Option.some.inj ei1
  obtain ⟨i2, ei2⟩ := is_v g3
  obtain rfl : w2 = (.int i2) := Option.some.inj ei2
  obtain ⟨i3, ei3⟩ := is_v g4
  obtain rfl : w3 = (.int i3) := Option.some.inj ei3
  obtain ⟨i4, ei4⟩ := isL_v hg4
  obtain rfl : w4 = (.long i4) := Option.some.inj ei4
  obtain ⟨w_EMPTY, ev_EMPTY⟩ := exa_v (Cond.before_iff.mp (hsets _ (List.mem_of_getElem? (i := 2) rfl)))
  have E_EMPTY := Exa.start ev_EMPTY (Cond.before_iff.mp (hsets _ (List.mem_of_getElem? (i := 2) rfl)))
  have F_EMPTY_isPresent := own_fldStart ev_EMPTY (Cond.before_iff.mp (hsets _ (List.mem_of_getElem? (i := 3) rfl)))
  have F_EMPTY_value := own_fldStart ev_EMPTY (Cond.before_iff.mp (hsets _ (List.mem_of_getElem? (i := 4) rfl)))
  have S_EMPTY := Sta.start ev_EMPTY (Or.inl (hsets _ (List.mem_of_getElem? (i := 1) rfl)))
  obtain ⟨n, o, h1, h2, h3, _, L, rfl, ⟨rfl, N⟩, hq⟩ := rm0 l s _ hw tables_1 i0 i1 i2 i3 i4 w_EMPTY s.heap s.heap.size (Nat.le_refl _) S_EMPTY E_EMPTY F_EMPTY_isPresent F_EMPTY_value p e ha hc hk s m _ below hf ((Spec.applies_iff_loose hf).mp happ).1 ⟨rfl, State.Warmed39.refl s, rfl⟩ trivial
  refine ⟨n, _, h1, h2, h3, hpost _ _ _ _ _ _ ⟨Cond.after_iff.mpr rfl, Cond.after_iff.mpr (eq_i res_at (Term.int_eval (1)) rfl), trivial⟩ ⟨hq.1, hq.2.1, hq.2.2.1, (hq.2.2.2.sift fun y hy => Or.inr (N y hy)).mono (by decide) (by decide)⟩⟩
theorem main_1_1 : Claimed_1_1 := comes_1 fun _ _ _ _ _ _ h hF => ⟨h.1, hF⟩
theorem main_1_2 : Claimed_1_2 := comes_1 fun _ _ _ _ _ _ h hF => ⟨h.2.1, hF⟩
end Jvm.Pilot.@@N@@
namespace Jvm.Pilot.@@N@@
open Jvm Jvm.ClassFile Sem Op Lib Jvm.Free Jvm.Stand Jvm.Pilot.@@N@@.Jvm.D
/-! MADE BY PROGRAM (witnessworld.py) out of the Statement's table words and the real class files: 18 classes; the members and pool entries that the words name. The judged class is class 1, her method 1. -/
namespace start1
open Jvm.ClassFile
def u (s : String) : CpInfo := .utf8 (stringToUtf16 s)
/-- a pool by its gaps: so many unusable entries, then the entry; so many at the end -/
def gap : Nat → List CpInfo → List CpInfo
  | 0, r => r
  | n + 1, r => .unusable :: gap n r
def poolList (es : List (Nat × CpInfo)) (last : Nat) : List CpInfo := es.foldr (fun e r => gap e.1 (e.2 :: r)) (gap last [])
def pool (es : List (Nat × CpInfo)) (last : Nat) : Array CpInfo := ⟨poolList es last⟩
def fileOf (pool : Array CpInfo) (this : Nat) (attrs : Array Attribute := #[]) (ms : Array MethodInfo := #[]) (fl : Nat := 33) (sup : Nat := 0) (ifs : Array Nat := #[]) (fds : Array FieldInfo := #[]) : ClassFile where
  minorVersion := 0
  majorVersion := 65
  constantPool := pool
  accessFlags := fl
  thisClass := this
  superClass := sup
  interfaces := ifs
  fields := fds
  methods := ms
  attributes := attrs
def plain (name : String) (sup : Option ClassId) : Class where
  name := name
  kind := .ordinary
  loader := none
  accessFlags := 33
  super := sup
  interfaces := #[]
  cf := none
  fields := #[]
  methods := #[]
  instanceTypes := #[]
  staticTypes := #[]
  resolved := #[]
  callSites := []
  init := .initialized
  statics := none
  mirror := none

def pool0 : Array CpInfo := pool [(5, u "<init>"), (0, u "()V"), (1, .class_ 10), (1, u "java/lang/Object")] 113

def k0c0 : Code := { maxStack := 0, maxLocals := 1, code := object_method_1_code, exceptionTable := #[], attributes := #[] }
def k0m0 : Method := { name := "<init>", desc := "()V", sig := { parameters := [], returnType := none }, accessFlags := 1, code := some k0c0 }
/-- java/lang/Object -/
def k0 : Class := { plain "java/lang/Object" none with
  accessFlags := 33
  interfaces := #[]
  cf := some (fileOf pool0 8 #[] #[{ accessFlags := 1, nameIndex := 5, descriptorIndex := 6, attributes := #[] }] 33 0 #[] #[])
  fields := #[]
  methods := #[k0m0]
  instanceTypes := #[]
  staticTypes := #[]
  resolved := Array.replicate 124 none
  statics := none }

def pool1 : Array CpInfo := pool [(2, .class_ 4), (1, u "java/lang/Object"), (0, u "<init>"), (0, u "()V"), (0, .integer 2147483647), (2, .integer 16777213), (0, .class_ 12), (0, u "com/example/strict_dht/strictdht/sim/Simulation$Scenario"), (0, .methodref 11 14), (0, .nameAndType 5 15), (0, u "(IIJ)V"), (0, .methodref 11 17), (0, .nameAndType 18 19), (0, u "stopping"), (0, u "()I"), (0, .methodref 21 22), (0, .class_ 23), (0, .nameAndType 24 25), (0, u "java/lang/Math"), (0, u "max"), (0, u "(II)I"), (0, .long 100), (1, .methodref 11 29), (0, .nameAndType 30 31), (0, u "withKill"), (0, u "(I)Lcom/example/strict_dht/strictdht/sim/Simulation$Scenario;"), (0, .class_ 33), (0, u "com/example/strict_dht/strictdht/sim/ScenarioStoppingPinLaw"), (2, u "law"), (0, u "(IIIIJ)Z")] 5

def k1m0 : Method := { name := "<init>", desc := "()V", sig := { parameters := [], returnType := none }, accessFlags := 2, code := none }
def k1c1 : Code := { maxStack := 8, maxLocals := 16, code := code, exceptionTable := #[], attributes := #[] }
def k1m1 : Method := { name := "law", desc := "(IIIIJ)Z", sig := { parameters := [.int, .int, .int, .int, .long], returnType := some .boolean }, accessFlags := 9, code := some k1c1 }
/-- com/example/strict_dht/strictdht/sim/ScenarioStoppingPinLaw -/
def k1 : Class := { plain "com/example/strict_dht/strictdht/sim/ScenarioStoppingPinLaw" (some 0) with
  accessFlags := 49
  interfaces := #[]
  cf := some (fileOf pool1 32 #[] #[{ accessFlags := 2, nameIndex := 5, descriptorIndex := 6, attributes := #[] }, { accessFlags := 9, nameIndex := 36, descriptorIndex := 37, attributes := #[] }] 49 2 #[] #[])
  fields := #[]
  methods := #[k1m0, k1m1]
  instanceTypes := #[]
  staticTypes := #[]
  resolved := Array.replicate 43 none
  statics := none }

def pool2 : Array CpInfo := pool [(1, .methodref 2 3), (0, .class_ 4), (0, .nameAndType 5 6), (0, u "java/lang/Object"), (0, u "<init>"), (0, u "()V"), (0, .class_ 8), (0, u "java/lang/Record")] 13

def k2c0 : Code := { maxStack := 1, maxLocals := 1, code := jdk_30_method_1_code, exceptionTable := #[], attributes := #[] }
def k2m0 : Method := { name := "<init>", desc := "()V", sig := { parameters := [], returnType := none }, accessFlags := 4, code := some k2c0 }
/-- java/lang/Record -/
def k2 : Class := { plain "java/lang/Record" (some 0) with
  accessFlags := 1057
  interfaces := #[]
  cf := some (fileOf pool2 7 #[] #[{ accessFlags := 4, nameIndex := 5, descriptorIndex := 6, attributes := #[] }] 1057 2 #[] #[])
  fields := #[]
  methods := #[k2m0]
  instanceTypes := #[]
  staticTypes := #[]
  resolved := Array.replicate 22 none
  statics := none }

def pool3 : Array CpInfo := pool [(1, .class_ 2), (0, u "com/example/strict_dht/strictdht/sim/Simulation"), (0, .methodref 4 5), (0, .class_ 6), (0, .nameAndType 7 8), (0, u "java/lang/Record"), (0, u "<init>"), (0, u "()V"), (0, .string 10), (0, u "searchEvery"), (0, .methodref 12 13), (0, .class_ 14), (0, .nameAndType 15 16), (0, u "java/util/Objects"), (0, u "requireNonNull"), (0, u "(Ljava/lang/Object;Ljava/lang/String;)Ljava/lang/Object;"), (0, .string 18), (0, u "publishersLeave"), (0, .integer 16777214), (23, .methodref 44 45), (0, .class_ 46), (0, .nameAndType 47 48), (0, u "com/example/strict_dht/strictdht/sim/Simulation$Scenario"), (0, u "stopping"), (0, u "(II)I"), (0, .methodref 50 51), (0, .class_ 52), (0, .nameAndType 53 48), (0, u "java/lang/Math"), (0, u "max"), (2, .methodref 57 58), (0, .class_ 59), (0, .nameAndType 60 61), (0, u "java/util/OptionalInt"), (0, u "orElse"), (0, u "(I)I"), (5, u "()I"), (2, .fieldref 44 71), (0, .nameAndType 72 73), (0, u "nodes"), (0, u "I"), (0, .fieldref 44 75), (0, .nameAndType 76 73), (0, u "keys"), (0, .fieldref 44 78), (0, .nameAndType 79 80), (0, u "seed"), (0, u "J"), (0, .fieldref 44 82), (0, .nameAndType 83 73), (0, u "minutes"), (0, .fieldref 44 85), (0, .nameAndType 86 73), (0, u "kill"), (0, .fieldref 44 88), (0, .nameAndType 10 89), (0, u "Ljava/util/OptionalInt;"), (0, .fieldref 44 91), (0, .nameAndType 92 93), (0, u "churn"), (0, u "Z"), (0, .fieldref 44 95), (0, .nameAndType 18 89), (0, .methodref 57 97), (0, .nameAndType 98 99), (0, u "empty"), (0, u "()Ljava/util/OptionalInt;"), (0, .methodref 44 101), (0, .nameAndType 7 102), (0, u "(IIJIILjava/util/OptionalInt;ZLjava/util/OptionalInt;)V"), (4, .long 100), (17, u "(IIJ)V"), (1, u "(I)Lcom/example/strict_dht/strictdht/sim/Simulation$Scenario;"), (0, u "withKill")] 38

def k3c0 : Code := { maxStack := 7, maxLocals := 13, code := prog_66_method_1_code, exceptionTable := #[], attributes := #[] }
def k3m0 : Method := { name := "<init>", desc := "(IIJIILjava/util/OptionalInt;ZLjava/util/OptionalInt;)V", sig := { parameters := [.int, .int, .long, .int, .int, (.object "java/util/OptionalInt"), .boolean, (.object "java/util/OptionalInt")], returnType := none }, accessFlags := 1, code := some k3c0 }
def k3c1 : Code := { maxStack := 10, maxLocals := 5, code := prog_66_method_2_code, exceptionTable := #[], attributes := #[] }
def k3m1 : Method := { name := "<init>", desc := "(IIJ)V", sig := { parameters := [.int, .int, .long], returnType := none }, accessFlags := 1, code := some k3c1 }
def k3c2 : Code := { maxStack := 11, maxLocals := 2, code := prog_66_method_4_code, exceptionTable := #[], attributes := #[] }
def k3m2 : Method := { name := "withKill", desc := "(I)Lcom/example/strict_dht/strictdht/sim/Simulation$Scenario;", sig := { parameters := [.int], returnType := some (.object "com/example/strict_dht/strictdht/sim/Simulation$Scenario") }, accessFlags := 1, code := some k3c2 }
def k3c3 : Code := { maxStack := 2, maxLocals := 1, code := prog_66_method_8_code, exceptionTable := #[], attributes := #[] }
def k3m3 : Method := { name := "stopping", desc := "()I", sig := { parameters := [], returnType := some .int }, accessFlags := 1, code := some k3c3 }
def k3c4 : Code := { maxStack := 4, maxLocals := 2, code := prog_66_method_10_code, exceptionTable := #[], attributes := #[] }
def k3m4 : Method := { name := "stopping", desc := "(II)I", sig := { parameters := [.int, .int], returnType := some .int }, accessFlags := 10, code := some k3c4 }
/-- com/example/strict_dht/strictdht/sim/Simulation$Scenario -/
def k3 : Class := { plain "com/example/strict_dht/strictdht/sim/Simulation$Scenario" (some 2) with
  accessFlags := 49
  interfaces := #[]
  cf := some (fileOf pool3 44 #[.nestHost 1] #[{ accessFlags := 1, nameIndex := 7, descriptorIndex := 102, attributes := #[] }, { accessFlags := 1, nameIndex := 7, descriptorIndex := 125, attributes := #[] }, { accessFlags := 1, nameIndex := 128, descriptorIndex := 127, attributes := #[] }, { accessFlags := 1, nameIndex := 47, descriptorIndex := 67, attributes := #[] }, { accessFlags := 10, nameIndex := 47, descriptorIndex := 48, attributes := #[] }] 49 4 #[] #[{ accessFlags := 18, nameIndex := 72, descriptorIndex := 73, attributes := #[] }, { accessFlags := 18, nameIndex := 76, descriptorIndex := 73, attributes := #[] }, { accessFlags := 18, nameIndex := 79, descriptorIndex := 80, attributes := #[] }, { accessFlags := 18, nameIndex := 83, descriptorIndex := 73, attributes := #[] }, { accessFlags := 18, nameIndex := 86, descriptorIndex := 73, attributes := #[] }, { accessFlags := 18, nameIndex := 10, descriptorIndex := 89, attributes := #[] }, { accessFlags := 18, nameIndex := 92, descriptorIndex := 93, attributes := #[] }, { accessFlags := 18, nameIndex := 18, descriptorIndex := 89, attributes := #[] }])
  fields := #[{ name := "nodes", type := .int, accessFlags := 18, slot := 0, constantValue := 0 }, { name := "keys", type := .int, accessFlags := 18, slot := 1, constantValue := 0 }, { name := "seed", type := .long, accessFlags := 18, slot := 2, constantValue := 0 }, { name := "minutes", type := .int, accessFlags := 18, slot := 3, constantValue := 0 }, { name := "kill", type := .int, accessFlags := 18, slot := 4, constantValue := 0 }, { name := "searchEvery", type := (.object "java/util/OptionalInt"), accessFlags := 18, slot := 5, constantValue := 0 }, { name := "churn", type := .boolean, accessFlags := 18, slot := 6, constantValue := 0 }, { name := "publishersLeave", type := (.object "java/util/OptionalInt"), accessFlags := 18, slot := 7, constantValue := 0 }]
  methods := #[k3m0, k3m1, k3m2, k3m3, k3m4]
  instanceTypes := #[.int, .int, .long, .int, .int, (.object "java/util/OptionalInt"), .boolean, (.object "java/util/OptionalInt")]
  staticTypes := #[]
  resolved := Array.replicate 167 none
  statics := none }

def pool4 : Array CpInfo := pool [(2, .class_ 4), (1, u "java/lang/Object"), (0, u "<init>"), (0, u "()V"), (0, .fieldref 8 9), (0, .class_ 10), (0, .nameAndType 11 12), (0, u "java/util/OptionalInt"), (0, u "isPresent"), (0, u "Z"), (2, u "value"), (0, u "I"), (0, .fieldref 8 18), (0, .nameAndType 19 20), (0, u "EMPTY"), (0, u "Ljava/util/OptionalInt;"), (28, u "empty"), (20, u "(I)I"), (25, u "()Ljava/util/OptionalInt;"), (13, u "orElse")] 25

def k4m0 : Method := { name := "<init>", desc := "()V", sig := { parameters := [], returnType := none }, accessFlags := 2, code := none }
def k4c1 : Code := { maxStack := 1, maxLocals := 0, code := jdk_2649_method_2_code, exceptionTable := #[], attributes := #[] }
def k4m1 : Method := { name := "empty", desc := "()Ljava/util/OptionalInt;", sig := { parameters := [], returnType := some (.object "java/util/OptionalInt") }, accessFlags := 9, code := some k4c1 }
def k4c2 : Code := { maxStack := 1, maxLocals := 2, code := jdk_2649_method_11_code, exceptionTable := #[], attributes := #[] }
def k4m2 : Method := { name := "orElse", desc := "(I)I", sig := { parameters := [.int], returnType := some .int }, accessFlags := 1, code := some k4c2 }
/-- java/util/OptionalInt -/
def k4 : Class := { plain "java/util/OptionalInt" (some 0) with
  accessFlags := 49
  interfaces := #[]
  cf := some (fileOf pool4 8 #[] #[{ accessFlags := 2, nameIndex := 5, descriptorIndex := 6, attributes := #[] }, { accessFlags := 9, nameIndex := 49, descriptorIndex := 96, attributes := #[] }, { accessFlags := 1, nameIndex := 110, descriptorIndex := 70, attributes := #[] }] 49 2 #[] #[{ accessFlags := 26, nameIndex := 19, descriptorIndex := 20, attributes := #[] }, { accessFlags := 18, nameIndex := 11, descriptorIndex := 12, attributes := #[] }, { accessFlags := 18, nameIndex := 15, descriptorIndex := 16, attributes := #[] }])
  fields := #[{ name := "EMPTY", type := (.object "java/util/OptionalInt"), accessFlags := 26, slot := 0, constantValue := 0 }, { name := "isPresent", type := .boolean, accessFlags := 18, slot := 0, constantValue := 0 }, { name := "value", type := .int, accessFlags := 18, slot := 1, constantValue := 0 }]
  methods := #[k4m0, k4m1, k4m2]
  instanceTypes := #[.boolean, .int]
  staticTypes := #[(.object "java/util/OptionalInt")]
  resolved := Array.replicate 136 none
  statics := some 0 }

def pool5 : Array CpInfo := pool [(1, .class_ 2), (0, u "java/io/Serializable"), (0, .class_ 4), (0, u "java/lang/Object")] 2

/-- java/io/Serializable -/
def k5 : Class := { plain "java/io/Serializable" (some 0) with
  accessFlags := 1537
  interfaces := #[]
  cf := some (fileOf pool5 1 #[] #[] 1537 3 #[] #[])
  fields := #[]
  methods := #[]
  instanceTypes := #[]
  staticTypes := #[]
  resolved := Array.replicate 7 none
  statics := none }

def pool6 : Array CpInfo := pool [(1, .class_ 2), (0, u "java/lang/Comparable"), (0, .class_ 4), (0, u "java/lang/Object")] 7

/-- java/lang/Comparable -/
def k6 : Class := { plain "java/lang/Comparable" (some 0) with
  accessFlags := 1537
  interfaces := #[]
  cf := some (fileOf pool6 1 #[] #[] 1537 3 #[] #[])
  fields := #[]
  methods := #[]
  instanceTypes := #[]
  staticTypes := #[]
  resolved := Array.replicate 12 none
  statics := none }

def pool7 : Array CpInfo := pool [(2, .class_ 4), (1, u "java/lang/CharSequence"), (42, .class_ 48), (0, u "java/lang/CharSequence$1CodePointIterator"), (10, .class_ 60), (0, u "java/lang/CharSequence$1CharIterator"), (5, .class_ 67), (0, u "java/lang/Object")] 63

/-- java/lang/CharSequence -/
def k7 : Class := { plain "java/lang/CharSequence" (some 0) with
  accessFlags := 1537
  interfaces := #[]
  cf := some (fileOf pool7 2 #[.nestMembers #[47, 59]] #[] 1537 66 #[] #[])
  fields := #[]
  methods := #[]
  instanceTypes := #[]
  staticTypes := #[]
  resolved := Array.replicate 131 none
  statics := none }

def pool8 : Array CpInfo := pool [(1, .class_ 2), (0, u "java/lang/constant/Constable"), (0, .class_ 4), (0, u "java/lang/Object")] 6

/-- java/lang/constant/Constable -/
def k8 : Class := { plain "java/lang/constant/Constable" (some 0) with
  accessFlags := 1537
  interfaces := #[]
  cf := some (fileOf pool8 1 #[] #[] 1537 3 #[] #[])
  fields := #[]
  methods := #[]
  instanceTypes := #[]
  staticTypes := #[]
  resolved := Array.replicate 11 none
  statics := none }

def pool9 : Array CpInfo := pool [(1, .class_ 2), (0, u "java/lang/constant/ConstantDesc"), (0, .class_ 4), (0, u "java/lang/Object")] 32

/-- java/lang/constant/ConstantDesc -/
def k9 : Class := { plain "java/lang/constant/ConstantDesc" (some 0) with
  accessFlags := 1537
  interfaces := #[]
  cf := some (fileOf pool9 1 #[] #[] 1537 3 #[] #[])
  fields := #[]
  methods := #[]
  instanceTypes := #[]
  staticTypes := #[]
  resolved := Array.replicate 37 none
  statics := none }

def pool10 : Array CpInfo := pool [(2, .class_ 4), (1, u "java/lang/Object"), (0, u "<init>"), (0, u "()V"), (3, .class_ 12), (1, u "java/lang/String"), (0, u "value"), (0, u "[B"), (2, u "coder"), (0, u "B"), (2, u "hash"), (0, u "I"), (2, u "hashIsZero"), (0, u "Z"), (13, u "COMPACT_STRINGS"), (534, .class_ 576), (0, u "java/lang/CharSequence"), (22, u "CASE_INSENSITIVE_ORDER"), (0, u "Ljava/util/Comparator;"), (500, u "serialPersistentFields"), (0, u "[Ljava/io/ObjectStreamField;"), (0, .class_ 1104), (0, u "java/lang/String$CaseInsensitiveComparator"), (1, .class_ 1107), (0, u "java/io/Serializable"), (0, .class_ 1109), (0, u "java/lang/Comparable"), (0, .class_ 1111), (0, u "java/lang/constant/Constable"), (0, .class_ 1113), (0, u "java/lang/constant/ConstantDesc"), (2, u "serialVersionUID"), (0, u "J"), (3, u "REPL"), (0, u "C"), (2, u "LATIN1"), (1, u "UTF16")] 323

def k10m0 : Method := { name := "<init>", desc := "()V", sig := { parameters := [], returnType := none }, accessFlags := 1, code := none }
/-- java/lang/String -/
def k10 : Class := { plain "java/lang/String" (some 0) with
  accessFlags := 49
  interfaces := #[5, 6, 7, 8, 9]
  cf := some (fileOf pool10 10 #[.nestMembers #[1103]] #[{ accessFlags := 1, nameIndex := 5, descriptorIndex := 6, attributes := #[] }] 49 2 #[1106, 1108, 575, 1110, 1112] #[{ accessFlags := 18, nameIndex := 13, descriptorIndex := 14, attributes := #[] }, { accessFlags := 18, nameIndex := 17, descriptorIndex := 18, attributes := #[] }, { accessFlags := 2, nameIndex := 21, descriptorIndex := 22, attributes := #[] }, { accessFlags := 2, nameIndex := 25, descriptorIndex := 26, attributes := #[] }, { accessFlags := 26, nameIndex := 1116, descriptorIndex := 1117, attributes := #[] }, { accessFlags := 24, nameIndex := 40, descriptorIndex := 26, attributes := #[] }, { accessFlags := 26, nameIndex := 1101, descriptorIndex := 1102, attributes := #[] }, { accessFlags := 26, nameIndex := 1121, descriptorIndex := 1122, attributes := #[] }, { accessFlags := 25, nameIndex := 599, descriptorIndex := 600, attributes := #[] }, { accessFlags := 24, nameIndex := 1125, descriptorIndex := 18, attributes := #[] }, { accessFlags := 24, nameIndex := 1127, descriptorIndex := 18, attributes := #[] }])
  fields := #[{ name := "value", type := (.array .byte), accessFlags := 18, slot := 0, constantValue := 0 }, { name := "coder", type := .byte, accessFlags := 18, slot := 1, constantValue := 0 }, { name := "hash", type := .int, accessFlags := 2, slot := 2, constantValue := 0 }, { name := "hashIsZero", type := .boolean, accessFlags := 2, slot := 3, constantValue := 0 }, { name := "serialVersionUID", type := .long, accessFlags := 26, slot := 0, constantValue := 0 }, { name := "COMPACT_STRINGS", type := .boolean, accessFlags := 24, slot := 1, constantValue := 0 }, { name := "serialPersistentFields", type := (.array (.object "java/io/ObjectStreamField")), accessFlags := 26, slot := 2, constantValue := 0 }, { name := "REPL", type := .char, accessFlags := 26, slot := 3, constantValue := 0 }, { name := "CASE_INSENSITIVE_ORDER", type := (.object "java/util/Comparator"), accessFlags := 25, slot := 4, constantValue := 0 }, { name := "LATIN1", type := .byte, accessFlags := 24, slot := 5, constantValue := 0 }, { name := "UTF16", type := .byte, accessFlags := 24, slot := 6, constantValue := 0 }]
  methods := #[k10m0]
  instanceTypes := #[(.array .byte), .byte, .int, .boolean]
  staticTypes := #[.long, .boolean, (.array (.object "java/io/ObjectStreamField")), .char, (.object "java/util/Comparator"), .byte, .byte]
  resolved := Array.replicate 1451 none
  statics := none }

def pool11 : Array CpInfo := pool [(2, .class_ 4), (1, u "java/lang/Object"), (0, u "<init>"), (0, u "()V"), (35, .class_ 44), (1, u "java/util/Objects"), (0, u "requireNonNull"), (48, u "(Ljava/lang/Object;Ljava/lang/String;)Ljava/lang/Object;")] 89

def k11m0 : Method := { name := "<init>", desc := "()V", sig := { parameters := [], returnType := none }, accessFlags := 2, code := none }
def k11c1 : Code := { maxStack := 3, maxLocals := 2, code := jdk_31_method_11_code, exceptionTable := #[], attributes := #[] }
def k11m1 : Method := { name := "requireNonNull", desc := "(Ljava/lang/Object;Ljava/lang/String;)Ljava/lang/Object;", sig := { parameters := [(.object "java/lang/Object"), (.object "java/lang/String")], returnType := some (.object "java/lang/Object") }, accessFlags := 9, code := some k11c1 }
/-- java/util/Objects -/
def k11 : Class := { plain "java/util/Objects" (some 0) with
  accessFlags := 49
  interfaces := #[]
  cf := some (fileOf pool11 42 #[] #[{ accessFlags := 2, nameIndex := 5, descriptorIndex := 6, attributes := #[] }, { accessFlags := 9, nameIndex := 45, descriptorIndex := 94, attributes := #[] }] 49 2 #[] #[])
  fields := #[]
  methods := #[k11m0, k11m1]
  instanceTypes := #[]
  staticTypes := #[]
  resolved := Array.replicate 184 none
  statics := none }

def pool12 : Array CpInfo := pool [(1, .class_ 2), (0, u "java/lang/Math"), (1, .class_ 6), (1, u "java/lang/Object"), (0, u "<init>"), (0, u "()V"), (89, .class_ 100), (1, u "java/lang/Math$RandomNumberGeneratorHolder"), (71, u "negativeZeroFloatBits"), (0, u "J"), (2, u "negativeZeroDoubleBits"), (21, u "max"), (46, u "$assertionsDisabled"), (0, u "Z"), (88, u "(II)I"), (2, u "twoToTheDoubleScaleDown"), (0, u "D"), (4, u "twoToTheDoubleScaleUp"), (9, u "E"), (3, u "PI"), (2, u "TAU"), (2, u "DEGREES_TO_RADIANS"), (0, u "RADIANS_TO_DEGREES")] 94

def k12m0 : Method := { name := "<init>", desc := "()V", sig := { parameters := [], returnType := none }, accessFlags := 2, code := none }
def k12c1 : Code := { maxStack := 2, maxLocals := 2, code := jdk_29_method_65_code, exceptionTable := #[], attributes := #[] }
def k12m1 : Method := { name := "max", desc := "(II)I", sig := { parameters := [.int, .int], returnType := some .int }, accessFlags := 9, code := some k12c1 }
/-- java/lang/Math -/
def k12 : Class := { plain "java/lang/Math" (some 0) with
  accessFlags := 49
  interfaces := #[]
  cf := some (fileOf pool12 1 #[.nestMembers #[98]] #[{ accessFlags := 2, nameIndex := 7, descriptorIndex := 8, attributes := #[] }, { accessFlags := 9, nameIndex := 198, descriptorIndex := 335, attributes := #[] }] 49 4 #[] #[{ accessFlags := 25, nameIndex := 354, descriptorIndex := 339, attributes := #[] }, { accessFlags := 25, nameIndex := 358, descriptorIndex := 339, attributes := #[] }, { accessFlags := 25, nameIndex := 361, descriptorIndex := 339, attributes := #[] }, { accessFlags := 26, nameIndex := 364, descriptorIndex := 339, attributes := #[] }, { accessFlags := 26, nameIndex := 365, descriptorIndex := 339, attributes := #[] }, { accessFlags := 26, nameIndex := 172, descriptorIndex := 173, attributes := #[] }, { accessFlags := 26, nameIndex := 176, descriptorIndex := 173, attributes := #[] }, { accessFlags := 8, nameIndex := 344, descriptorIndex := 339, attributes := #[] }, { accessFlags := 8, nameIndex := 338, descriptorIndex := 339, attributes := #[] }, { accessFlags := 4120, nameIndex := 245, descriptorIndex := 246, attributes := #[] }])
  fields := #[{ name := "E", type := .double, accessFlags := 25, slot := 0, constantValue := 0 }, { name := "PI", type := .double, accessFlags := 25, slot := 1, constantValue := 0 }, { name := "TAU", type := .double, accessFlags := 25, slot := 2, constantValue := 0 }, { name := "DEGREES_TO_RADIANS", type := .double, accessFlags := 26, slot := 3, constantValue := 0 }, { name := "RADIANS_TO_DEGREES", type := .double, accessFlags := 26, slot := 4, constantValue := 0 }, { name := "negativeZeroFloatBits", type := .long, accessFlags := 26, slot := 5, constantValue := 0 }, { name := "negativeZeroDoubleBits", type := .long, accessFlags := 26, slot := 6, constantValue := 0 }, { name := "twoToTheDoubleScaleUp", type := .double, accessFlags := 8, slot := 7, constantValue := 0 }, { name := "twoToTheDoubleScaleDown", type := .double, accessFlags := 8, slot := 8, constantValue := 0 }, { name := "$assertionsDisabled", type := .boolean, accessFlags := 4120, slot := 9, constantValue := 0 }]
  methods := #[k12m0, k12m1]
  instanceTypes := #[]
  staticTypes := #[.double, .double, .double, .double, .double, .long, .long, .double, .double, .boolean]
  resolved := Array.replicate 460 none
  statics := none }

def pool13 : Array CpInfo := pool [(1, u "java/lang/Cloneable"), (0, .class_ 1), (0, u "java/lang/Object"), (0, .class_ 3)] 3

/-- java/lang/Cloneable -/
def k13 : Class := { plain "java/lang/Cloneable" (some 0) with
  accessFlags := 1537
  interfaces := #[]
  cf := some (fileOf pool13 2 #[] #[] 1537 4 #[] #[])
  fields := #[]
  methods := #[]
  instanceTypes := #[]
  staticTypes := #[]
  resolved := Array.replicate 8 none
  statics := none }

/-- the primitive byte -/
def k14 : Class := { plain "byte" none with kind := .primitive 'B', accessFlags := 0x411 }
/-- [B -/
def k15 : Class := { plain "[B" (some 0) with kind := .array 14 .byte, interfaces := #[13, 5], accessFlags := 1041 }

/-- the primitive int -/
def k16 : Class := { plain "int" none with kind := .primitive 'I', accessFlags := 0x411 }
/-- [I -/
def k17 : Class := { plain "[I" (some 0) with kind := .array 16 .int, interfaces := #[13, 5], accessFlags := 1041 }

def heap : Heap := #[{ cls := 4, slots := #[.ref 1], vm := .statics 4 },
  { cls := 4, slots := #[.int 0, .int 0], vm := .none }]
def classes : Array Class := #[k0, k1, k2, k3, k4, k5, k6, k7, k8, k9, k10, k11, k12, k13, k14, k15, k16, k17]
def interned : List (Array UInt16 × Addr) := []
def slotsUsed : Nat := 3
def theMethod : MethodId := ⟨1, 1⟩
def args0 : Array Value := #[.int 5, .int 7, .int 9, .int 1, .long 11]
def aboutOver (below : List Frame) : State where
  vm := { classes := classes, interned := interned.toArray }
  heap := heap
  slotsUsed := slotsUsed
  threads := #[{ frames := .invoking theMethod args0 :: below }]
def below0 : List Frame := [.native { method := ⟨0, 0⟩, args := #[] }]
def about1 : State := aboutOver below0
def p0 : Program := .bare "" "" ""
def e0 : Env := launch0.env 0 0 0
theorem w_frames : about1.frames = Frame.invoking theMethod args0 :: below0 := rfl
set_option maxRecDepth 65536 in
theorem w_args : argsFit about1.vm theMethod args0 = true := by decide +kernel
set_option maxRecDepth 65536 in
theorem w_heap : heapFits about1 = true := by decide +kernel
set_option maxRecDepth 65536 in
theorem w_runnable : about1.curStatus? = some .runnable := by decide +kernel
set_option maxRecDepth 65536 in
theorem w_alone : about1.alone = true := by decide +kernel
set_option maxRecDepth 65536 in
theorem w_named : about1.methodNamed? x = some theMethod := by decide +kernel
set_option maxRecDepth 65536 in
theorem w_hears : about1.hears theMethod below0 = true := by decide +kernel
set_option maxRecDepth 65536 in
theorem w_ripe : about1.ripe theMethod args0 below0 = true := by decide +kernel
theorem w_running : about1.status = .running := rfl
set_option maxRecDepth 65536 in
theorem w_room : about1.hasRoom e0.platform room_1 = true :=
  launch0.hasRoom_least _ room_1 (by decide +kernel) (by decide +kernel) (by decide +kernel) (by decide +kernel) (by decide +kernel) (by decide +kernel)
theorem allAtoms_all (ts : List Jvm.Cond) (a : Array Jvm.Value) (st : Jvm.State) : (allAtoms ts).before a st = ts.all (fun c => c.before a st) := by
  induction ts with
  | nil => rfl
  | cons c t ih =>
    show (Jvm.Cond.and c (allAtoms t)).before a st = _
    rw [Jvm.Cond.before_and, ih, List.all_cons]
def words1 : List Jvm.Cond := Jvm.Cond.code x code maxLocals ret :: tables_1
/-- a 'code' word, met by the world's own term for the bytes: nothing is compared byte by byte -/
theorem code_word {y : MethodName} {bytes : ByteArray} {mx : Nat} {rt : Option FieldType} {a : Array Value} {s : State} {m : MethodId} {meth : Method} {c : Code} (h1 : s.methodNamed? y = some m) (h2 : s.vm.method? m = some meth) (h3 : meth.code = some c) (h4 : c.code = bytes)
    (h5 : (c.maxLocals == mx && c.exceptionTable.isEmpty && decide (c.maxStack ≤ mostOperands) && decide (meth.sig.returnType = rt) && !meth.locks && decide (parseMethodDescriptor y.desc = some meth.sig)) = true) : (Jvm.Cond.code y bytes mx rt).before a s = true := by
  simp only [Bool.and_eq_true, beq_iff_eq, Bool.not_eq_true', decide_eq_true_eq] at h5
  obtain ⟨⟨⟨⟨⟨g1, g2⟩, g3⟩, g4⟩, g5⟩, g6⟩ := h5
  simp [Cond.before, Cond.holds, Cond.value, h1, h2, h3, h4, g1, g2, g3, g4, g5, g6]
def isCode : Jvm.Cond → Bool
  | .code _ _ _ _ => true
  | _ => false
theorem all_split {L : List Jvm.Cond} {P : Jvm.Cond → Bool} (h1 : L.all (fun c => isCode c || P c) = true) (h2 : ∀ c ∈ L.filter isCode, P c = true) : L.all P = true := by
  refine List.all_eq_true.mpr fun c hc => ?_
  have h := List.all_eq_true.mp h1 c hc
  rcases Bool.eq_false_or_eq_true (isCode c) with hi | hi
  · exact h2 c (List.mem_filter.mpr ⟨hc, hi⟩)
  · simpa [hi] using h
set_option maxRecDepth 65536 in
theorem w_c0 : (Jvm.Cond.code x code maxLocals ret).before args0 about1 = true := code_word (m := ⟨1, 1⟩) (meth := k1m1) (c := k1c1) (by decide +kernel) rfl rfl rfl (by decide +kernel)
set_option maxRecDepth 65536 in
theorem w_c1 : (Jvm.Cond.code ({ cls := "com/example/strict_dht/strictdht/sim/Simulation$Scenario", name := "<init>", desc := "(IIJ)V" } : Jvm.MethodName) prog_66_method_2_code (5 : Nat) (Option.none : Option Jvm.ClassFile.FieldType)).before args0 about1 = true := code_word (m := ⟨3, 1⟩) (meth := k3m1) (c := k3c1) (by decide +kernel) rfl rfl rfl (by decide +kernel)
set_option maxRecDepth 65536 in
theorem w_c2 : (Jvm.Cond.code ({ cls := "java/util/OptionalInt", name := "empty", desc := "()Ljava/util/OptionalInt;" } : Jvm.MethodName) jdk_2649_method_2_code (0 : Nat) (Option.some (Jvm.ClassFile.FieldType.object "java/util/OptionalInt"))).before args0 about1 = true := code_word (m := ⟨4, 1⟩) (meth := k4m1) (c := k4c1) (by decide +kernel) rfl rfl rfl (by decide +kernel)
set_option maxRecDepth 65536 in
theorem w_c3 : (Jvm.Cond.code ({ cls := "com/example/strict_dht/strictdht/sim/Simulation$Scenario", name := "<init>", desc := "(IIJIILjava/util/OptionalInt;ZLjava/util/OptionalInt;)V" } : Jvm.MethodName) prog_66_method_1_code (13 : Nat) (Option.none : Option Jvm.ClassFile.FieldType)).before args0 about1 = true := code_word (m := ⟨3, 0⟩) (meth := k3m0) (c := k3c0) (by decide +kernel) rfl rfl rfl (by decide +kernel)
set_option maxRecDepth 65536 in
theorem w_c4 : (Jvm.Cond.code ({ cls := "java/lang/Record", name := "<init>", desc := "()V" } : Jvm.MethodName) jdk_30_method_1_code (1 : Nat) (Option.none : Option Jvm.ClassFile.FieldType)).before args0 about1 = true := code_word (m := ⟨2, 0⟩) (meth := k2m0) (c := k2c0) (by decide +kernel) rfl rfl rfl (by decide +kernel)
set_option maxRecDepth 65536 in
theorem w_c5 : (Jvm.Cond.code ({ cls := "java/lang/Object", name := "<init>", desc := "()V" } : Jvm.MethodName) object_method_1_code (1 : Nat) (Option.none : Option Jvm.ClassFile.FieldType)).before args0 about1 = true := code_word (m := ⟨0, 0⟩) (meth := k0m0) (c := k0c0) (by decide +kernel) rfl rfl rfl (by decide +kernel)
set_option maxRecDepth 65536 in
theorem w_c6 : (Jvm.Cond.code ({ cls := "java/util/Objects", name := "requireNonNull", desc := "(Ljava/lang/Object;Ljava/lang/String;)Ljava/lang/Object;" } : Jvm.MethodName) jdk_31_method_11_code (2 : Nat) (Option.some (Jvm.ClassFile.FieldType.object "java/lang/Object"))).before args0 about1 = true := code_word (m := ⟨11, 1⟩) (meth := k11m1) (c := k11c1) (by decide +kernel) rfl rfl rfl (by decide +kernel)
set_option maxRecDepth 65536 in
theorem w_c7 : (Jvm.Cond.code ({ cls := "com/example/strict_dht/strictdht/sim/Simulation$Scenario", name := "stopping", desc := "(II)I" } : Jvm.MethodName) prog_66_method_10_code (2 : Nat) (Option.some Jvm.ClassFile.FieldType.int)).before args0 about1 = true := code_word (m := ⟨3, 4⟩) (meth := k3m4) (c := k3c4) (by decide +kernel) rfl rfl rfl (by decide +kernel)
set_option maxRecDepth 65536 in
theorem w_c8 : (Jvm.Cond.code ({ cls := "java/lang/Math", name := "max", desc := "(II)I" } : Jvm.MethodName) jdk_29_method_65_code (2 : Nat) (Option.some Jvm.ClassFile.FieldType.int)).before args0 about1 = true := code_word (m := ⟨12, 1⟩) (meth := k12m1) (c := k12c1) (by decide +kernel) rfl rfl rfl (by decide +kernel)
set_option maxRecDepth 65536 in
theorem w_c9 : (Jvm.Cond.code ({ cls := "java/util/OptionalInt", name := "orElse", desc := "(I)I" } : Jvm.MethodName) jdk_2649_method_11_code (2 : Nat) (Option.some Jvm.ClassFile.FieldType.int)).before args0 about1 = true := code_word (m := ⟨4, 2⟩) (meth := k4m2) (c := k4c2) (by decide +kernel) rfl rfl rfl (by decide +kernel)
set_option maxRecDepth 65536 in
theorem w_c10 : (Jvm.Cond.code ({ cls := "com/example/strict_dht/strictdht/sim/Simulation$Scenario", name := "stopping", desc := "()I" } : Jvm.MethodName) prog_66_method_8_code (1 : Nat) (Option.some Jvm.ClassFile.FieldType.int)).before args0 about1 = true := code_word (m := ⟨3, 3⟩) (meth := k3m3) (c := k3c3) (by decide +kernel) rfl rfl rfl (by decide +kernel)
set_option maxRecDepth 65536 in
theorem w_c11 : (Jvm.Cond.code ({ cls := "com/example/strict_dht/strictdht/sim/Simulation$Scenario", name := "withKill", desc := "(I)Lcom/example/strict_dht/strictdht/sim/Simulation$Scenario;" } : Jvm.MethodName) prog_66_method_4_code (2 : Nat) (Option.some (Jvm.ClassFile.FieldType.object "com/example/strict_dht/strictdht/sim/Simulation$Scenario"))).before args0 about1 = true := code_word (m := ⟨3, 2⟩) (meth := k3m2) (c := k3c2) (by decide +kernel) rfl rfl rfl (by decide +kernel)
def codes1 : List Jvm.Cond := [Jvm.Cond.code x code maxLocals ret, Jvm.Cond.code ({ cls := "com/example/strict_dht/strictdht/sim/Simulation$Scenario", name := "<init>", desc := "(IIJ)V" } : Jvm.MethodName) prog_66_method_2_code (5 : Nat) (Option.none : Option Jvm.ClassFile.FieldType), Jvm.Cond.code ({ cls := "java/util/OptionalInt", name := "empty", desc := "()Ljava/util/OptionalInt;" } : Jvm.MethodName) jdk_2649_method_2_code (0 : Nat) (Option.some (Jvm.ClassFile.FieldType.object "java/util/OptionalInt")), Jvm.Cond.code ({ cls := "com/example/strict_dht/strictdht/sim/Simulation$Scenario", name := "<init>", desc := "(IIJIILjava/util/OptionalInt;ZLjava/util/OptionalInt;)V" } : Jvm.MethodName) prog_66_method_1_code (13 : Nat) (Option.none : Option Jvm.ClassFile.FieldType), Jvm.Cond.code ({ cls := "java/lang/Record", name := "<init>", desc := "()V" } : Jvm.MethodName) jdk_30_method_1_code (1 : Nat) (Option.none : Option Jvm.ClassFile.FieldType), Jvm.Cond.code ({ cls := "java/lang/Object", name := "<init>", desc := "()V" } : Jvm.MethodName) object_method_1_code (1 : Nat) (Option.none : Option Jvm.ClassFile.FieldType), Jvm.Cond.code ({ cls := "java/util/Objects", name := "requireNonNull", desc := "(Ljava/lang/Object;Ljava/lang/String;)Ljava/lang/Object;" } : Jvm.MethodName) jdk_31_method_11_code (2 : Nat) (Option.some (Jvm.ClassFile.FieldType.object "java/lang/Object")), Jvm.Cond.code ({ cls := "com/example/strict_dht/strictdht/sim/Simulation$Scenario", name := "stopping", desc := "(II)I" } : Jvm.MethodName) prog_66_method_10_code (2 : Nat) (Option.some Jvm.ClassFile.FieldType.int), Jvm.Cond.code ({ cls := "java/lang/Math", name := "max", desc := "(II)I" } : Jvm.MethodName) jdk_29_method_65_code (2 : Nat) (Option.some Jvm.ClassFile.FieldType.int), Jvm.Cond.code ({ cls := "java/util/OptionalInt", name := "orElse", desc := "(I)I" } : Jvm.MethodName) jdk_2649_method_11_code (2 : Nat) (Option.some Jvm.ClassFile.FieldType.int), Jvm.Cond.code ({ cls := "com/example/strict_dht/strictdht/sim/Simulation$Scenario", name := "stopping", desc := "()I" } : Jvm.MethodName) prog_66_method_8_code (1 : Nat) (Option.some Jvm.ClassFile.FieldType.int), Jvm.Cond.code ({ cls := "com/example/strict_dht/strictdht/sim/Simulation$Scenario", name := "withKill", desc := "(I)Lcom/example/strict_dht/strictdht/sim/Simulation$Scenario;" } : Jvm.MethodName) prog_66_method_4_code (2 : Nat) (Option.some (Jvm.ClassFile.FieldType.object "com/example/strict_dht/strictdht/sim/Simulation$Scenario"))]
set_option maxRecDepth 65536 in
theorem codes_eq : words1.filter isCode = codes1 := rfl
theorem w_codes : ∀ c ∈ words1.filter isCode, c.before args0 about1 = true := by
  rw [codes_eq]
  intro c hc
  simp only [codes1, List.mem_cons, List.not_mem_nil, or_false] at hc
  rcases hc with rfl | rfl | rfl | rfl | rfl | rfl | rfl | rfl | rfl | rfl | rfl | rfl
  · exact w_c0
  · exact w_c1
  · exact w_c2
  · exact w_c3
  · exact w_c4
  · exact w_c5
  · exact w_c6
  · exact w_c7
  · exact w_c8
  · exact w_c9
  · exact w_c10
  · exact w_c11
set_option maxRecDepth 65536 in
theorem w_t1 : (words1.take 24).all (fun c => isCode c || c.before args0 about1) = true := by decide +kernel
set_option maxRecDepth 65536 in
theorem w_t2 : ((words1.drop 24).take 24).all (fun c => isCode c || c.before args0 about1) = true := by decide +kernel
set_option maxRecDepth 65536 in
theorem w_t3 : (((words1.drop 24).drop 24).take 24).all (fun c => isCode c || c.before args0 about1) = true := by decide +kernel
set_option maxRecDepth 65536 in
theorem w_t4 : (((words1.drop 24).drop 24).drop 24).all (fun c => isCode c || c.before args0 about1) = true := by decide +kernel
theorem w_tables : (allAtoms (Jvm.Cond.code x code maxLocals ret :: tables_1)).before args0 about1 = true := by
  rw [allAtoms_all]
  show words1.all (fun c => c.before args0 about1) = true
  refine all_split ?_ w_codes
  rw [← List.take_append_drop 24 words1, List.all_append, w_t1, ← List.take_append_drop 24 (words1.drop 24), List.all_append, w_t2, ← List.take_append_drop 24 ((words1.drop 24).drop 24), List.all_append, w_t3, w_t4]
  rfl
set_option maxRecDepth 65536 in
theorem w_rest : rest_1_c.before args0 about1 = true := by decide +kernel
set_option maxRecDepth 65536 in
theorem w_case : (Jvm.Cond.and given_1 narrow_1).before args0 about1 = true := by decide +kernel
theorem w_applies : (headSpec (Jvm.Cond.code x code maxLocals ret :: tables_1) room_1).applies x e0.platform about1 = true :=
  (Spec.applies_iff w_frames).mpr ⟨w_running, w_runnable, w_alone, w_named, w_hears, w_ripe, w_room, w_tables⟩
theorem atStart : AtStart classFile x code maxLocals ret World_1 tables_1 room_1 Calls_1 rest_1 Pre_1 launch0 p0 e0 about1 theMethod args0 below0 :=
  ⟨lists_1, trivial, launch0.admits_env _ _ _, launch0.least_env, fairChoices_fair.cas, fairChoices_fair.clock, w_frames, w_args, w_heap, w_applies, trivial, w_rest, w_case⟩
end start1
theorem witness_1 : WitnessClaimed_1 := ⟨start1.p0, start1.e0, start1.about1, start1.theMethod, start1.args0, start1.below0, start1.atStart⟩
end Jvm.Pilot.@@N@@
