import JvmDerived
import JvmDerived.Pilot.@@N@@Statement
import JvmDerived.Pilot.@@N@@Code
set_option linter.unusedVariables false
set_option linter.unusedSimpArgs false
namespace Jvm.RoadKit
open Sem ClassFile Op Lib Jvm.Stand Jvm.Free Jvm.LawKit
section New
variable {p : Program} {l : Launch} {e : Env} {R : Room} {s : State} {m : MethodId} {args : Array Value} {below : List Frame} {meth : Method} {c : Code} {T : State} {locs : List Loc} {cells slots : Nat}
theorem retI (X : Stand p l e R s m args below meth c T locs cells slots) (hx : p.tables.exec = Jvm.exec) {pc : Nat} {Ls : Array Slot} {z : Int32} {rest : List Value} (hret : meth.sig.returnType = some .int) (hd : decode c.code pc = .ok (.ireturn, 1)) {fs : List Frame}
    (hl : ∀ (f : JFrame) (acts : List Action), f.method = m → f.locked = none → f.entered = [] → (doReturn e (T.setTop f) acts (some (.int z))).1 = T.setFrames fs) : Steps p.tables e below (T.setTop (mkF m pc Ls (.int z :: rest))) (T.setFrames fs) := by
  have hm' : T.vm.method? m = some meth := X.method'
  have hn : narrow .int (.int z) = .int z := rfl
  show Steps p.tables e below (T.setTop { method := m, pc := pc, locals := Ls, stack := _ :: rest, locked := none }) _
  jvm_step X.here [X.here.top, hx, hd, hm', hret, hn]
  first | (intro acts; rw [hl _ acts rfl rfl rfl]) | rw [hl _ _ rfl rfl rfl]
  exact Steps.refl _
theorem own_retJ (X : Stand p l e R s m args below meth c T locs cells slots) (hx : p.tables.exec = Jvm.exec) {pc : Nat} {Ls : Array Slot} {z : Int64} {rest : List Value} (hret : meth.sig.returnType = some .long) (hd : decode c.code pc = .ok (.lreturn, 1)) {fs : List Frame}
    (hl : ∀ (f : JFrame) (acts : List Action), f.method = m → f.locked = none → f.entered = [] → (doReturn e (T.setTop f) acts (some (.long z))).1 = T.setFrames fs) : Steps p.tables e below (T.setTop (mkF m pc Ls (.long z :: rest))) (T.setFrames fs) :=
  retOut X hx hret rfl (Or.inr (Or.inl ⟨rfl, rfl, z, rfl⟩)) hd hl
theorem own_retR (X : Stand p l e R s m args below meth c T locs cells slots) (hx : p.tables.exec = Jvm.exec) {pc : Nat} {Ls : Array Slot} {w : Value} {t : FieldType} {rest : List Value} (hret : meth.sig.returnType = some t) (ht : t.isReference = true) (hw : w.isRef = true) (hd : decode c.code pc = .ok (.areturn, 1)) {fs : List Frame}
    (hl : ∀ (f : JFrame) (acts : List Action), f.method = m → f.locked = none → f.entered = [] → (doReturn e (T.setTop f) acts (some w)).1 = T.setFrames fs) : Steps p.tables e below (T.setTop (mkF m pc Ls (w :: rest))) (T.setFrames fs) :=
  retOut X hx hret (by cases t <;> first | rfl | cases ht) (Or.inr (Or.inr (Or.inr (Or.inr ⟨rfl, ht, hw⟩)))) hd hl
theorem own_lrem {tb : Tables} [Ours tb] {e : Env} {below : List Frame} {T target : State} {m : MethodId} {c : Code} {g : JFrame} (h : At T m c below) (hx : tb.exec = Jvm.exec) (hg : g.method = m) {x y : Int64} {rest : List Value} (hd : decode c.code g.pc = .ok (.lrem, 1)) (hs : g.stack = .long y :: .long x :: rest) (hy : y ≠ 0)
    (hr : Steps tb e below (T.setTop { g with pc := g.pc + 1, stack := .long (x % y) :: rest }) target) : Steps tb e below (T.setTop g) target :=
  XS.lrem h hx hg hd hs hy (by rw [lrem_mod]; exact hr)
theorem own_go {tb : Tables} {e : Env} {below : List Frame} {A B : State} {P : State → Outcome → Prop} (h : ∀ t, Steps tb e below B t → Steps tb e below A t) (k : ∃ s₂ o, Steps tb e below B s₂ ∧ P s₂ o) : ∃ s₂ o, Steps tb e below A s₂ ∧ P s₂ o := by
  obtain ⟨s₂, o, h1, h2⟩ := k
  exact ⟨s₂, o, h _ h1, h2⟩
theorem own_cut {α : Type} {C : α → Prop} {B : α → State} {tb : Tables} {e : Env} {below : List Frame} {A : State} {P : State → Outcome → Prop} (h : ∀ a, C a → ∃ s₂ o, Steps tb e below (B a) s₂ ∧ P s₂ o) (k : (∀ a, C a → ∃ s₂ o, Steps tb e below (B a) s₂ ∧ P s₂ o) → ∃ s₂ o, Steps tb e below A s₂ ∧ P s₂ o) : ∃ s₂ o, Steps tb e below A s₂ ∧ P s₂ o := k h
theorem own_narZ (P : Prop) [Decidable P] : narrow .boolean (.int (if P then (1 : Int32) else 0)) = .int (if P then (1 : Int32) else 0) := by split <;> rfl
theorem own_fitZ (P : Prop) [Decidable P] : fits .boolean (.int (if P then (1 : Int32) else 0)) = true := by split <;> rfl
theorem own_retZ (P : Prop) [Decidable P] : (some (.int (nar .boolean (if P then (1 : Int32) else 0))) : Option Value) = some (.int (if P then (1 : Int32) else 0)) := by split <;> rfl
theorem own_staKeep {Z : State} {h h' : Heap} {C n d : String} {v : Value} {ws : List Addr} (F : Sta Z h C n d v) (K : Keep h h' ws) (q : ∀ x ∈ ws, ∃ c : Cell, h[x]? = some c ∧ c.vm.isStatics = false) : Sta Z h' C n d v := by
  obtain ⟨cf, i, k, f, st, cell, h1, h2, h3, h4, h5, h6, h7⟩ := F
  refine ⟨cf, i, k, f, st, cell, h1, h2, h3, h4, K.2.1 _ _ h5 fun hm => ?_, h6, h7⟩
  obtain ⟨c', g1, g2⟩ := q _ hm
  cases h5.symm.trans g1
  rw [h6] at g2
  cases g2
theorem own_arrKeep {Z : State} {h h' : Heap} {a : Addr} {c : Cell} {ty : FieldType} {ws : List Addr} (F : Arr Z h a c ty) (K : Keep h h' ws) (q : a ∉ ws) : Arr Z h' a c ty := ⟨K.2.1 _ _ F.1 q, F.2⟩
theorem own_ns0 {h : Heap} : ∀ x ∈ ([] : List Addr), ∃ c : Cell, h[x]? = some c ∧ c.vm.isStatics = false := fun _ q => nomatch q
theorem own_nsS {h : Heap} {y : Addr} {L : List Addr} (q : ∃ c : Cell, h[y]? = some c ∧ c.vm.isStatics = false) (r : ∀ x ∈ L, ∃ c : Cell, h[x]? = some c ∧ c.vm.isStatics = false) : ∀ x ∈ y :: L, ∃ c : Cell, h[x]? = some c ∧ c.vm.isStatics = false := fun x z => (List.mem_cons.mp z).elim (fun u => u ▸ q) (r x)
theorem own_nsE {Z : State} {h : Heap} {a : Addr} {C : String} (F : Exa Z h a C) : ∃ c : Cell, h[a]? = some c ∧ c.vm.isStatics = false := by
  obtain ⟨c, k, h1, h2, h3, h4, h5⟩ := F
  exact ⟨c, h1, h4⟩
theorem own_nsV {Z : State} {h : Heap} {a : Addr} {k : ClassId} {ty : FieldType} {z : Int32} {vs : List Value} {d : Value} (F : Arv Z h a k ty z vs d) : ∃ c : Cell, h[a]? = some c ∧ c.vm.isStatics = false := by
  obtain ⟨c, A, r⟩ := F
  exact ⟨c, A.1, A.plain⟩
theorem own_since (s : State) (n : Nat) : s.Since s.vm n := ⟨State.Warmed39.refl s, fun j p hj hp => absurd (Array.getElem?_eq_some_iff.mp hp).1 (Nat.not_lt.mpr hj)⟩
end New
end Jvm.RoadKit
namespace Jvm.Pilot.@@N@@
open Jvm Jvm.ClassFile Sem Op Lib Jvm.Free Jvm.Stand Jvm.LawKit Jvm.RoadKit Bundle Jvm.Pilot.@@N@@.Jvm.D
theorem own_strA {Z : State} {a0 : Array Value} (hw : ∀ d ∈ tables_1, d.before a0 Z = true) : ∀ a ∈ Bundle.stringAtoms, a.before a0 Z = true := by
  intro d hd
  simp only [Bundle.stringAtoms, List.mem_cons, List.not_mem_nil, or_false] at hd
  rcases hd with rfl | rfl | rfl | rfl | rfl | rfl | rfl
  · exact hw _ (List.mem_of_getElem? (i := 6) rfl)
  · exact hw _ (List.mem_of_getElem? (i := 7) rfl)
  · exact hw _ (List.mem_of_getElem? (i := 8) rfl)
  · exact hw _ (List.mem_of_getElem? (i := 9) rfl)
  · exact hw _ (List.mem_of_getElem? (i := 10) rfl)
  · exact hw _ (List.mem_of_getElem? (i := 11) rfl)
  · exact hw _ (List.mem_of_getElem? (i := 12) rfl)
theorem own_a (q1 : Int64) : ¬ ((q1 &&& (9223372036854775807 : Int64)) % ((16000000 : Int64) + (1 : Int64))) < 0 ∧ ¬ (16000000 : Int64) < ((q1 &&& (9223372036854775807 : Int64)) % ((16000000 : Int64) + (1 : Int64))) := by
  have e1 := c_maskL q1 9223372036854775807 63 (by decide) (by decide)
  have e2 : ((16000000 : Int64) + (1 : Int64)).toInt = 16000001 := by decide
  have e3 : ((q1 &&& (9223372036854775807 : Int64)) % ((16000000 : Int64) + (1 : Int64))).toInt = (q1 &&& (9223372036854775807 : Int64)).toInt % 16000001 := by
    rw [Int64.toInt_mod, e2, Int.tmod_eq_emod_of_nonneg (by omega)]
  rw [Int64.lt_iff_toInt_lt, Int64.lt_iff_toInt_lt]
  have l0 : (0 : Int64).toInt = 0 := by decide
  have l1 : (1 : Int64).toInt = 1 := by decide
  have l2 : (16000000 : Int64).toInt = 16000000 := by decide
  omega
theorem own_bs (aa : Int64) (h : ¬ aa < 0 ∧ ¬ (16000000 : Int64) < aa) : (((16000000 : Int64) - aa) + (1 : Int64)).toInt = 16000001 - aa.toInt := by
  rw [Int64.lt_iff_toInt_lt, Int64.lt_iff_toInt_lt] at h
  have l0 : (0 : Int64).toInt = 0 := by decide
  have l1 : (1 : Int64).toInt = 1 := by decide
  have l2 : (16000000 : Int64).toInt = 16000000 := by decide
  have e1 := c_lsub 16000000 aa
  have e2 := c_ladd ((16000000 : Int64) - aa) 1
  have e3 := rng64 ((16000000 : Int64) - aa)
  have e4 := rng64 (((16000000 : Int64) - aa) + 1)
  omega
theorem own_bz (aa : Int64) (h : ¬ aa < 0 ∧ ¬ (16000000 : Int64) < aa) : (((16000000 : Int64) - aa) + (1 : Int64)) ≠ 0 := by
  intro q
  have e := own_bs aa h
  rw [q] at e
  rw [Int64.lt_iff_toInt_lt, Int64.lt_iff_toInt_lt] at h
  have l0 : (0 : Int64).toInt = 0 := by decide
  have l1 : (1 : Int64).toInt = 1 := by decide
  have l2 : (16000000 : Int64).toInt = 16000000 := by decide
  omega
theorem own_b (aa q2 : Int64) (h : ¬ aa < 0 ∧ ¬ (16000000 : Int64) < aa) : ¬ ((q2 &&& (9223372036854775807 : Int64)) % (((16000000 : Int64) - aa) + (1 : Int64))) < 0 ∧ ¬ (16000000 : Int64) < (aa + ((q2 &&& (9223372036854775807 : Int64)) % (((16000000 : Int64) - aa) + (1 : Int64)))) := by
  have e1 := c_maskL q2 9223372036854775807 63 (by decide) (by decide)
  have e2 := own_bs aa h
  rw [Int64.lt_iff_toInt_lt, Int64.lt_iff_toInt_lt] at h
  have l0 : (0 : Int64).toInt = 0 := by decide
  have l1 : (1 : Int64).toInt = 1 := by decide
  have l2 : (16000000 : Int64).toInt = 16000000 := by decide
  have e3 : ((q2 &&& (9223372036854775807 : Int64)) % (((16000000 : Int64) - aa) + (1 : Int64))).toInt = (q2 &&& (9223372036854775807 : Int64)).toInt % (16000001 - aa.toInt) := by
    rw [Int64.toInt_mod, e2, Int.tmod_eq_emod_of_nonneg (by omega)]
  have e4 := Int.emod_nonneg (q2 &&& (9223372036854775807 : Int64)).toInt (show 16000001 - aa.toInt ≠ 0 by omega)
  have e5 := Int.emod_lt_of_pos (q2 &&& (9223372036854775807 : Int64)).toInt (show 0 < 16000001 - aa.toInt by omega)
  have e6 := c_ladd aa ((q2 &&& (9223372036854775807 : Int64)) % (((16000000 : Int64) - aa) + (1 : Int64)))
  have e7 := rng64 (aa + ((q2 &&& (9223372036854775807 : Int64)) % (((16000000 : Int64) - aa) + (1 : Int64))))
  rw [Int64.lt_iff_toInt_lt, Int64.lt_iff_toInt_lt]
  omega
theorem own_b2 (aa : Int64) (h : ¬ aa < 0 ∧ ¬ (16000000 : Int64) < aa) : ¬ ((16000000 : Int64) - aa) < 0 ∧ ¬ (16000000 : Int64) < (aa + ((16000000 : Int64) - aa)) := by
  rw [Int64.lt_iff_toInt_lt, Int64.lt_iff_toInt_lt] at h
  have l0 : (0 : Int64).toInt = 0 := by decide
  have l1 : (1 : Int64).toInt = 1 := by decide
  have l2 : (16000000 : Int64).toInt = 16000000 := by decide
  have e1 := c_lsub 16000000 aa
  have e3 := rng64 ((16000000 : Int64) - aa)
  have e6 := c_ladd aa ((16000000 : Int64) - aa)
  have e7 := rng64 (aa + ((16000000 : Int64) - aa))
  rw [Int64.lt_iff_toInt_lt, Int64.lt_iff_toInt_lt]
  omega
theorem own_0 (aa : Int64) : ((0 : Int64) + aa) = aa := Int64.zero_add aa
theorem own_00 (aa : Int64) : (aa + (0 : Int64)) = aa := Int64.add_zero aa
theorem pn_9 : plainName "tributary/CharacterBound" = true := by first | (simp [plainName, overriddenIn]; done) | decide +kernel
theorem d1_0 : decode prog_3_method_2_code 0 = .ok (.aload_n 0, 1) := by decide +kernel
theorem d1_1 : decode prog_3_method_2_code 1 = .ok (.invokespecial 9, 3) := by decide +kernel
theorem d1_4 : decode prog_3_method_2_code 4 = .ok (.aload_n 0, 1) := by decide +kernel
theorem d1_5 : decode prog_3_method_2_code 5 = .ok (.aload_n 1, 1) := by decide +kernel
theorem d1_6 : decode prog_3_method_2_code 6 = .ok (.putfield 14, 3) := by decide +kernel
theorem d1_9 : decode prog_3_method_2_code 9 = .ok (.aload_n 0, 1) := by decide +kernel
theorem d1_10 : decode prog_3_method_2_code 10 = .ok (.aload_n 2, 1) := by decide +kernel
theorem d1_11 : decode prog_3_method_2_code 11 = .ok (.putfield 18, 3) := by decide +kernel
theorem d1_14 : decode prog_3_method_2_code 14 = .ok (.return_, 1) := by decide +kernel
theorem ef_1 (m : MethodId) (a1 : Addr) (a2 : Addr) (a3 : Addr) : entryFrame m #[(.ref a1), (.ref a2), (.ref a3)] 3 = mkF m 0 #[.val (.ref a1), .val (.ref a2), .val (.ref a3)] [] := by first | (simp [entryFrame, mkF, argsToLocals, Value.category]; done) | rfl
def Q1 (Z : State) (a1 : Addr) (a2 : Addr) (a3 : Addr) (h0 : Heap) (n0 : Nat) (v : Option Value) (h : Heap) (L : List Loc) : Prop := v = none ∧ Fr n0 L ∧ Keep h0 h [a1] ∧ Exa Z h a1 "tributary/CharacterBound" ∧ Fld Z h a1 "tributary/CharacterBound" "counted" "J" (.long (0 : Int64))
set_option maxRecDepth 65536 in
set_option maxHeartbeats 40000000 in
theorem rm1 (l : Launch) (Z : State) (a0 : Array Value) (hw : ∀ d ∈ tables_1, d.before a0 Z = true) (ws : List Jvm.Cond) (a1 : Addr) (a2 : Addr) (a3 : Addr) (h0 : Heap) (n0 : Nat) (Z0 : n0 ≤ h0.size) (E_a1 : Exa Z h0 a1 "tributary/CharacterBound") (F_countedIn_a1 : Fld Z h0 a1 "tributary/CharacterBound" "countedIn" "Ljava/lang/String;" .null) (F_limitOf_a1 : Fld Z h0 a1 "tributary/CharacterBound" "limitOf" "Ljava/lang/String;" .null) (F_counted_a1 : Fld Z h0 a1 "tributary/CharacterBound" "counted" "J" (.long (0 : Int64))) (g_a1 : n0 ≤ a1) :
    MetFree l (⟨"tributary/CharacterBound", "<init>", "(Ljava/lang/String;Ljava/lang/String;)V"⟩ : MethodName) (head1 (Jvm.Cond.code (⟨"tributary/CharacterBound", "<init>", "(Ljava/lang/String;Ljava/lang/String;)V"⟩ : MethodName) prog_3_method_2_code 3 none :: ws) ({ frames := 1, cells := 0, slots := 0, locals := 12 } : Room)) (fun a U => a = #[(.ref a1), (.ref a2), (.ref a3)] ∧ Z.Warmed39 U.vm ∧ U.heap = h0) (fun _ _ _ _ _ => True) (fun _ U o U' => ∃ v L, o = .returned v ∧ Q1 Z a1 a2 a3 h0 n0 v U'.heap L ∧ FrameEnd U o U' L ({ frames := 1, cells := 0, slots := 0, locals := 12 } : Room).cells ({ frames := 1, cells := 0, slots := 0, locals := 12 } : Room).slots) := by
  refine MetFree.of_bodySF (plainFor_of_name pn_9) hisR ?_
  intro p e s m args below meth c s₁ Bd hml0 hP hK
  obtain ⟨rfl, hZ, hh⟩ := hP
  have hx := Bd.exec
  have hby := Bd.bytes
  have hml : c.maxLocals = 3 := hml0
  have hown : s.vm.findClass "tributary/CharacterBound" = some m.cls := findClass_of_methodNamed Bd.named
  have hnm := (name_of_methodNamed Bd.named Bd.method).1
  have X0 : Stand p l e ({ frames := 1, cells := 0, slots := 0, locals := 12 } : Room) s m #[(.ref a1), (.ref a2), (.ref a3)] below meth c s₁ [] 0 0 := Stand.of_body Bd
  have e0 : s₁.heap = h0 := by rw [← hh, Bd.state]; rfl
  have N0 := Fr.nil n0
  refine own_go (B := s₁.setTop (mkF m 0 #[.val (.ref a1), .val (.ref a2), .val (.ref a3)] [])) (fun t k => castTop (ef_1 m a1 a2 a3) k) ?_
  refine own_go (B := s₁.setTop (mkF m 1 #[.val (.ref a1), .val (.ref a2), .val (.ref a3)] [(.ref a1)])) (fun t k => ?_) ?_
  · show Steps p.tables e below (s₁.setTop (mkF m 0 #[.val (.ref a1), .val (.ref a2), .val (.ref a3)] [])) _
    refine XS.aloadN X0.here hx rfl (hb hby d1_0) rfl rfl ?_
    show Steps p.tables e below (s₁.setTop (mkF m 1 #[.val (.ref a1), .val (.ref a2), .val (.ref a3)] [(.ref a1)])) _
    exact k
  obtain ⟨T1, X1, e1, st1⟩ := initO X0 hx hZ hown (hw _ (List.mem_of_getElem? (i := 17) rfl)) (hw _ (List.mem_of_getElem? (i := 18) rfl)) (hw _ (List.mem_of_getElem? (i := 19) rfl)) e0 (g := (mkF m 1 #[.val (.ref a1), .val (.ref a2), .val (.ref a3)] [(.ref a1)])) rfl (by rw [hml]; rfl) rfl (hb hby d1_1) (by decide) (W := 0) (by show 2 * 0 + _ ≤ _; exact Nat.le_of_eq rfl) (by decide)
  refine own_go st1 ?_
  refine own_go (B := T1.setTop (mkF m 6 #[.val (.ref a1), .val (.ref a2), .val (.ref a3)] [(.ref a2), (.ref a1)])) (fun t k => ?_) ?_
  · show Steps p.tables e below (T1.setTop (mkF m 4 #[.val (.ref a1), .val (.ref a2), .val (.ref a3)] [])) _
    refine XS.aloadN X1.here hx rfl (hb hby d1_4) rfl rfl ?_
    show Steps p.tables e below (T1.setTop (mkF m 5 #[.val (.ref a1), .val (.ref a2), .val (.ref a3)] [(.ref a1)])) _
    refine XS.aloadN X1.here hx rfl (hb hby d1_5) rfl rfl ?_
    show Steps p.tables e below (T1.setTop (mkF m 6 #[.val (.ref a1), .val (.ref a2), .val (.ref a3)] [(.ref a2), (.ref a1)])) _
    exact k
  obtain ⟨T2, h2, X2, e2, W2, st2⟩ := putF X1 hx hZ hown (host := "") (Or.inl (hw _ (List.mem_of_getElem? (i := 20) rfl))) Via.refl e1 F_countedIn_a1 E_a1 (Or.inr ⟨(hw _ (List.mem_of_getElem? (i := 21) rfl)), rfl, hnm⟩) (hw _ (List.mem_of_getElem? (i := 3) rfl)) (ty := (.object "java/lang/String")) (by decide) rfl rfl (g := (mkF m 6 #[.val (.ref a1), .val (.ref a2), .val (.ref a3)] [(.ref a2), (.ref a1)])) rfl rfl (hb hby d1_6)
  refine own_go st2 ?_
  have F2 : Fld Z h2 a1 "tributary/CharacterBound" "countedIn" "Ljava/lang/String;" (.ref a2) := F_countedIn_a1.same W2
  have K2 : Keep h0 h2 [a1] := Keep.wr (Keep.refl h0 [a1]) W2 (Or.inl (List.mem_of_getElem? (i := 0) rfl))
  have N2 := Fr.snoc X2 N0 g_a1
  refine own_go (B := T2.setTop (mkF m 11 #[.val (.ref a1), .val (.ref a2), .val (.ref a3)] [(.ref a3), (.ref a1)])) (fun t k => ?_) ?_
  · show Steps p.tables e below (T2.setTop (mkF m 9 #[.val (.ref a1), .val (.ref a2), .val (.ref a3)] [])) _
    refine XS.aloadN X2.here hx rfl (hb hby d1_9) rfl rfl ?_
    show Steps p.tables e below (T2.setTop (mkF m 10 #[.val (.ref a1), .val (.ref a2), .val (.ref a3)] [(.ref a1)])) _
    refine XS.aloadN X2.here hx rfl (hb hby d1_10) rfl rfl ?_
    show Steps p.tables e below (T2.setTop (mkF m 11 #[.val (.ref a1), .val (.ref a2), .val (.ref a3)] [(.ref a3), (.ref a1)])) _
    exact k
  have f4 : Exa Z h2 a1 "tributary/CharacterBound" := (E_a1.wr W2)
  have f5 : Fld Z h2 a1 "tributary/CharacterBound" "limitOf" "Ljava/lang/String;" .null := (F_limitOf_a1.other W2 (Or.inr (slot_ne (Or.inr (hw _ (List.mem_of_getElem? (i := 23) rfl))) (Or.inr (hw _ (List.mem_of_getElem? (i := 21) rfl))) (by decide) (t := (.object "java/lang/String")) (t' := (.object "java/lang/String")) (by decide) (by decide))))
  obtain ⟨T3, h3, X3, e3, W3, st3⟩ := putF X2 hx hZ hown (host := "") (Or.inl (hw _ (List.mem_of_getElem? (i := 22) rfl))) Via.refl e2 f5 f4 (Or.inr ⟨(hw _ (List.mem_of_getElem? (i := 23) rfl)), rfl, hnm⟩) (hw _ (List.mem_of_getElem? (i := 3) rfl)) (ty := (.object "java/lang/String")) (by decide) rfl rfl (g := (mkF m 11 #[.val (.ref a1), .val (.ref a2), .val (.ref a3)] [(.ref a3), (.ref a1)])) rfl rfl (hb hby d1_11)
  refine own_go st3 ?_
  have F3 : Fld Z h3 a1 "tributary/CharacterBound" "limitOf" "Ljava/lang/String;" (.ref a3) := f5.same W3
  have K3 : Keep h0 h3 [a1] := Keep.wr K2 W3 (Or.inl (List.mem_of_getElem? (i := 0) rfl))
  have N3 := Fr.snoc X3 N2 g_a1
  obtain ⟨fs, hr, hrun, hended, hW, hsame⟩ := X3.leave (v := none) (fun _ => rfl)
  refine ⟨_, _, ?_, hrun, hended, _, _, rfl, ?_, ⟨_, rfl⟩, hW, hsame.mono (by decide) (by decide)⟩
  · exact X3.returnOut hx Bd.returns (hb hby d1_14) hr
  · show Q1 Z a1 a2 a3 h0 n0 _ T3.heap _
    rw [e3]
    have f7 : Exa Z h3 a1 "tributary/CharacterBound" := (f4.wr W3)
    have f8 : Fld Z h3 a1 "tributary/CharacterBound" "counted" "J" (.long (0 : Int64)) := ((F_counted_a1.other W2 (Or.inr (slot_ne (Or.inl (hw _ (List.mem_of_getElem? (i := 30) rfl))) (Or.inr (hw _ (List.mem_of_getElem? (i := 21) rfl))) (by decide) (t := .long) (t' := (.object "java/lang/String")) (by decide) (by decide)))).other W3 (Or.inr (slot_ne (Or.inl (hw _ (List.mem_of_getElem? (i := 30) rfl))) (Or.inr (hw _ (List.mem_of_getElem? (i := 23) rfl))) (by decide) (t := .long) (t' := (.object "java/lang/String")) (by decide) (by decide))))
    exact ⟨rfl, N3, K3, f7, f8⟩
theorem d3_0 : decode prog_3_method_3_code 0 = .ok (.aload_n 0, 1) := by decide +kernel
theorem d3_1 : decode prog_3_method_3_code 1 = .ok (.dup, 1) := by decide +kernel
theorem d3_2 : decode prog_3_method_3_code 2 = .ok (.getfield 21, 3) := by decide +kernel
theorem d3_5 : decode prog_3_method_3_code 5 = .ok (.lload_n 1, 1) := by decide +kernel
theorem d3_6 : decode prog_3_method_3_code 6 = .ok (.ladd, 1) := by decide +kernel
theorem d3_7 : decode prog_3_method_3_code 7 = .ok (.putfield 21, 3) := by decide +kernel
theorem d3_10 : decode prog_3_method_3_code 10 = .ok (.aload_n 0, 1) := by decide +kernel
theorem d3_11 : decode prog_3_method_3_code 11 = .ok (.getfield 21, 3) := by decide +kernel
theorem d3_14 : decode prog_3_method_3_code 14 = .ok (.ldc2_w 25, 3) := by decide +kernel
theorem d3_17 : decode prog_3_method_3_code 17 = .ok (.lcmp, 1) := by decide +kernel
theorem d3_18 : decode prog_3_method_3_code 18 = .ok (.ifCond .le 24, 3) := by decide +kernel
theorem d3_42 : decode prog_3_method_3_code 42 = .ok (.return_, 1) := by decide +kernel
theorem ef_3 (m : MethodId) (a1 : Addr) (q1 : Int64) : entryFrame m #[(.ref a1), (.long q1)] 3 = mkF m 0 #[.val (.ref a1), .val (.long q1), .second] [] := by first | (simp [entryFrame, mkF, argsToLocals, Value.category]; done) | rfl
def Q3 (Z : State) (a1 : Addr) (q1 : Int64) (u1 : Int64) (h0 : Heap) (n0 : Nat) (v : Option Value) (h : Heap) (L : List Loc) : Prop := v = none ∧ Fr n0 L ∧ Keep h0 h [a1] ∧ Exa Z h a1 "tributary/CharacterBound" ∧ Fld Z h a1 "tributary/CharacterBound" "counted" "J" (.long (u1 + q1))
set_option maxRecDepth 65536 in
set_option maxHeartbeats 40000000 in
theorem rm3 (l : Launch) (Z : State) (a0 : Array Value) (hw : ∀ d ∈ tables_1, d.before a0 Z = true) (ws : List Jvm.Cond) (a1 : Addr) (q1 : Int64) (u1 : Int64) (h0 : Heap) (n0 : Nat) (Z0 : n0 ≤ h0.size) (E_a1 : Exa Z h0 a1 "tributary/CharacterBound") (F_c : Fld Z h0 a1 "tributary/CharacterBound" "counted" "J" (.long u1)) (g_a1 : n0 ≤ a1) (hle : ¬ (16000000 : Int64) < (u1 + q1)) :
    MetFree l (⟨"tributary/CharacterBound", "count", "(J)V"⟩ : MethodName) (head1 (Jvm.Cond.code (⟨"tributary/CharacterBound", "count", "(J)V"⟩ : MethodName) prog_3_method_3_code 3 none :: ws) ({ frames := 0, cells := 0, slots := 0, locals := 0 } : Room)) (fun a U => a = #[(.ref a1), (.long q1)] ∧ Z.Warmed39 U.vm ∧ U.heap = h0) (fun _ _ _ _ _ => True) (fun _ U o U' => ∃ v L, o = .returned v ∧ Q3 Z a1 q1 u1 h0 n0 v U'.heap L ∧ FrameEnd U o U' L ({ frames := 0, cells := 0, slots := 0, locals := 0 } : Room).cells ({ frames := 0, cells := 0, slots := 0, locals := 0 } : Room).slots) := by
  refine MetFree.of_bodySF (plainFor_of_name pn_9) hisR ?_
  intro p e s m args below meth c s₁ Bd hml0 hP hK
  obtain ⟨rfl, hZ, hh⟩ := hP
  have hx := Bd.exec
  have hby := Bd.bytes
  have hml : c.maxLocals = 3 := hml0
  have hown : s.vm.findClass "tributary/CharacterBound" = some m.cls := findClass_of_methodNamed Bd.named
  have hnm := (name_of_methodNamed Bd.named Bd.method).1
  have X0 : Stand p l e ({ frames := 0, cells := 0, slots := 0, locals := 0 } : Room) s m #[(.ref a1), (.long q1)] below meth c s₁ [] 0 0 := Stand.of_body Bd
  have e0 : s₁.heap = h0 := by rw [← hh, Bd.state]; rfl
  have N0 := Fr.nil n0
  refine own_go (B := s₁.setTop (mkF m 0 #[.val (.ref a1), .val (.long q1), .second] [])) (fun t k => castTop (ef_3 m a1 q1) k) ?_
  refine own_go (B := s₁.setTop (mkF m 2 #[.val (.ref a1), .val (.long q1), .second] [(.ref a1), (.ref a1)])) (fun t k => ?_) ?_
  · show Steps p.tables e below (s₁.setTop (mkF m 0 #[.val (.ref a1), .val (.long q1), .second] [])) _
    refine XS.aloadN X0.here hx rfl (hb hby d3_0) rfl rfl ?_
    show Steps p.tables e below (s₁.setTop (mkF m 1 #[.val (.ref a1), .val (.long q1), .second] [(.ref a1)])) _
    refine XS.dup X0.here hx rfl (hb hby d3_1) rfl rfl ?_
    show Steps p.tables e below (s₁.setTop (mkF m 2 #[.val (.ref a1), .val (.long q1), .second] [(.ref a1), (.ref a1)])) _
    exact k
  obtain ⟨T9, X9, e9, st9⟩ := getF X0 hx hZ hown (host := "") (Or.inl (hw _ (List.mem_of_getElem? (i := 29) rfl))) Via.refl e0 F_c (g := (mkF m 2 #[.val (.ref a1), .val (.long q1), .second] [(.ref a1), (.ref a1)])) rfl rfl (hb hby d3_2)
  refine own_go st9 ?_
  refine own_go (B := T9.setTop (mkF m 7 #[.val (.ref a1), .val (.long q1), .second] [(.long (u1 + q1)), (.ref a1)])) (fun t k => ?_) ?_
  · show Steps p.tables e below (T9.setTop (mkF m 5 #[.val (.ref a1), .val (.long q1), .second] [(.long u1), (.ref a1)])) _
    refine XS.lloadN X9.here hx rfl (hb hby d3_5) rfl ?_
    show Steps p.tables e below (T9.setTop (mkF m 6 #[.val (.ref a1), .val (.long q1), .second] [(.long q1), (.long u1), (.ref a1)])) _
    refine XS.ladd X9.here hx rfl (hb hby d3_6) rfl ?_
    show Steps p.tables e below (T9.setTop (mkF m 7 #[.val (.ref a1), .val (.long q1), .second] [(.long (u1 + q1)), (.ref a1)])) _
    exact k
  obtain ⟨T10, h10, X10, e10, W10, st10⟩ := putF X9 hx hZ hown (host := "") (Or.inl (hw _ (List.mem_of_getElem? (i := 29) rfl))) Via.refl e9 F_c E_a1 (Or.inl (hw _ (List.mem_of_getElem? (i := 30) rfl))) (hw _ (List.mem_of_getElem? (i := 3) rfl)) (ty := .long) (by decide) rfl rfl (g := (mkF m 7 #[.val (.ref a1), .val (.long q1), .second] [(.long (u1 + q1)), (.ref a1)])) rfl rfl (hb hby d3_7)
  refine own_go st10 ?_
  have F10 : Fld Z h10 a1 "tributary/CharacterBound" "counted" "J" (.long (u1 + q1)) := F_c.same W10
  have K10 : Keep h0 h10 [a1] := Keep.wr (Keep.refl h0 [a1]) W10 (Or.inl (List.mem_of_getElem? (i := 0) rfl))
  have N10 := Fr.snoc X10 N0 g_a1
  refine own_go (B := T10.setTop (mkF m 11 #[.val (.ref a1), .val (.long q1), .second] [(.ref a1)])) (fun t k => ?_) ?_
  · show Steps p.tables e below (T10.setTop (mkF m 10 #[.val (.ref a1), .val (.long q1), .second] [])) _
    refine XS.aloadN X10.here hx rfl (hb hby d3_10) rfl rfl ?_
    show Steps p.tables e below (T10.setTop (mkF m 11 #[.val (.ref a1), .val (.long q1), .second] [(.ref a1)])) _
    exact k
  obtain ⟨T11, X11, e11, st11⟩ := getF X10 hx hZ hown (host := "") (Or.inl (hw _ (List.mem_of_getElem? (i := 29) rfl))) Via.refl e10 F10 (g := (mkF m 11 #[.val (.ref a1), .val (.long q1), .second] [(.ref a1)])) rfl rfl (hb hby d3_11)
  refine own_go st11 ?_
  refine own_go (B := T11.setTop (mkF m 42 #[.val (.ref a1), .val (.long q1), .second] [])) (fun t k => ?_) ?_
  · show Steps p.tables e below (T11.setTop (mkF m 14 #[.val (.ref a1), .val (.long q1), .second] [(.long (u1 + q1))])) _
    refine X11.ldc2Long hx hown (mvT hZ (hw _ (List.mem_of_getElem? (i := 31) rfl))) (g := (mkF m 14 #[.val (.ref a1), .val (.long q1), .second] [(.long (u1 + q1))])) rfl (hb hby d3_14) _ ?_
    show Steps p.tables e below (T11.setTop (mkF m 17 #[.val (.ref a1), .val (.long q1), .second] [(.long (16000000 : Int64)), (.long (u1 + q1))])) _
    refine XS.lcmp X11.here hx rfl (hb hby d3_17) rfl ?_
    show Steps p.tables e below (T11.setTop (mkF m 18 #[.val (.ref a1), .val (.long q1), .second] [(.int (lcmpW (u1 + q1) (16000000 : Int64)))])) _
    refine XS.ifYes X11.here hx rfl (pc0 := 18) (pc' := 42) rfl (hb hby d3_18) rfl ((if0 _ _).trans (flt (show ¬ ((0 : Int32) < (lcmpW (u1 + q1) (16000000 : Int64))) from (fun q => (show ¬ ((16000000 : Int64) < (u1 + q1)) from hle) ((lw_gt (u1 + q1) (16000000 : Int64)).mp q)))).2.2.2) (by decide) (by decide) ?_
    show Steps p.tables e below (T11.setTop (mkF m 42 #[.val (.ref a1), .val (.long q1), .second] [])) _
    exact k
  obtain ⟨fs, hr, hrun, hended, hW, hsame⟩ := X11.leave (v := none) (fun _ => rfl)
  refine ⟨_, _, ?_, hrun, hended, _, _, rfl, ?_, ⟨_, rfl⟩, hW, hsame.mono (by decide) (by decide)⟩
  · exact X11.returnOut hx Bd.returns (hb hby d3_42) hr
  · show Q3 Z a1 q1 u1 h0 n0 _ T11.heap _
    rw [e11]
    have f13 : Exa Z h10 a1 "tributary/CharacterBound" := (E_a1.wr W10)
    exact ⟨rfl, N10, K10, f13, F10⟩
theorem d4_0 : decode prog_3_method_4_code 0 = .ok (.aload_n 0, 1) := by decide +kernel
theorem d4_1 : decode prog_3_method_4_code 1 = .ok (.getfield 21, 3) := by decide +kernel
theorem d4_4 : decode prog_3_method_4_code 4 = .ok (.lreturn, 1) := by decide +kernel
theorem ef_4 (m : MethodId) (a1 : Addr) : entryFrame m #[(.ref a1)] 1 = mkF m 0 #[.val (.ref a1)] [] := by first | (simp [entryFrame, mkF, argsToLocals, Value.category]; done) | rfl
def Q4 (Z : State) (a1 : Addr) (u1 : Int64) (h0 : Heap) (n0 : Nat) (v : Option Value) (h : Heap) (L : List Loc) : Prop := v = some (.long u1) ∧ Fr n0 L ∧ h = h0
set_option maxRecDepth 65536 in
set_option maxHeartbeats 40000000 in
theorem rm4 (l : Launch) (Z : State) (a0 : Array Value) (hw : ∀ d ∈ tables_1, d.before a0 Z = true) (ws : List Jvm.Cond) (a1 : Addr) (u1 : Int64) (h0 : Heap) (n0 : Nat) (Z0 : n0 ≤ h0.size) (F_c : Fld Z h0 a1 "tributary/CharacterBound" "counted" "J" (.long u1)) :
    MetFree l (⟨"tributary/CharacterBound", "counted", "()J"⟩ : MethodName) (head1 (Jvm.Cond.code (⟨"tributary/CharacterBound", "counted", "()J"⟩ : MethodName) prog_3_method_4_code 1 (some .long) :: ws) ({ frames := 0, cells := 0, slots := 0, locals := 0 } : Room)) (fun a U => a = #[(.ref a1)] ∧ Z.Warmed39 U.vm ∧ U.heap = h0) (fun _ _ _ _ _ => True) (fun _ U o U' => ∃ v L, o = .returned v ∧ Q4 Z a1 u1 h0 n0 v U'.heap L ∧ FrameEnd U o U' L ({ frames := 0, cells := 0, slots := 0, locals := 0 } : Room).cells ({ frames := 0, cells := 0, slots := 0, locals := 0 } : Room).slots) := by
  refine MetFree.of_bodySF (plainFor_of_name pn_9) hisR ?_
  intro p e s m args below meth c s₁ Bd hml0 hP hK
  obtain ⟨rfl, hZ, hh⟩ := hP
  have hx := Bd.exec
  have hby := Bd.bytes
  have hml : c.maxLocals = 1 := hml0
  have hown : s.vm.findClass "tributary/CharacterBound" = some m.cls := findClass_of_methodNamed Bd.named
  have hnm := (name_of_methodNamed Bd.named Bd.method).1
  have X0 : Stand p l e ({ frames := 0, cells := 0, slots := 0, locals := 0 } : Room) s m #[(.ref a1)] below meth c s₁ [] 0 0 := Stand.of_body Bd
  have e0 : s₁.heap = h0 := by rw [← hh, Bd.state]; rfl
  have N0 := Fr.nil n0
  refine own_go (B := s₁.setTop (mkF m 0 #[.val (.ref a1)] [])) (fun t k => castTop (ef_4 m a1) k) ?_
  refine own_go (B := s₁.setTop (mkF m 1 #[.val (.ref a1)] [(.ref a1)])) (fun t k => ?_) ?_
  · show Steps p.tables e below (s₁.setTop (mkF m 0 #[.val (.ref a1)] [])) _
    refine XS.aloadN X0.here hx rfl (hb hby d4_0) rfl rfl ?_
    show Steps p.tables e below (s₁.setTop (mkF m 1 #[.val (.ref a1)] [(.ref a1)])) _
    exact k
  obtain ⟨T14, X14, e14, st14⟩ := getF X0 hx hZ hown (host := "") (Or.inl (hw _ (List.mem_of_getElem? (i := 29) rfl))) Via.refl e0 F_c (g := (mkF m 1 #[.val (.ref a1)] [(.ref a1)])) rfl rfl (hb hby d4_1)
  refine own_go st14 ?_
  obtain ⟨fs, hr, hrun, hended, hW, hsame⟩ := X14.leave (v := some (.long u1)) (fun h => by rw [Bd.returns] at h; cases h)
  refine ⟨_, _, ?_, hrun, hended, _, _, rfl, ?_, ⟨_, rfl⟩, hW, hsame.mono (by decide) (by decide)⟩
  · exact own_retJ X14 hx Bd.returns (hb hby d4_4) hr
  · show Q4 Z a1 u1 h0 n0 _ T14.heap _
    rw [e14]
    exact ⟨rfl, N0, rfl⟩
theorem pd_0 : parseMethodDescriptor "(Ljava/lang/String;Ljava/lang/String;)V" = some ⟨[(.object "java/lang/String"), (.object "java/lang/String")], none⟩ := by decide +kernel
theorem pd_1 : parseMethodDescriptor "(J)V" = some ⟨[.long], none⟩ := by decide +kernel
theorem pd_2 : parseMethodDescriptor "()J" = some ⟨[], some .long⟩ := by decide +kernel
theorem pn_25 : plainName "tributary/CharacterBoundCountPinLaw" = true := by first | (simp [plainName, overriddenIn]; done) | decide +kernel
theorem ef_0 (m : MethodId) (q1 : Int64) (q2 : Int64) (p3 : Int32) : entryFrame m #[(.long q1), (.long q2), (.int p3)] maxLocals = mkF m 0 #[.val (.long q1), .second, .val (.long q2), .second, .val (.int p3), .unset, .unset, .unset, .unset, .unset, .unset, .unset, .unset, .unset, .unset] [] := by first | (simp [entryFrame, mkF, argsToLocals, Value.category, maxLocals]; done) | rfl
def Q0 (Z : State) (q1 : Int64) (q2 : Int64) (p3 : Int32) (h0 : Heap) (n0 : Nat) (v : Option Value) (h : Heap) (L : List Loc) : Prop := v = some (.int (1 : Int32)) ∧ Fr n0 L
set_option maxRecDepth 65536 in
set_option maxHeartbeats 40000000 in
theorem rm0 (l : Launch) (Z : State) (a0 : Array Value) (hw : ∀ d ∈ tables_1, d.before a0 Z = true) (ws : List Jvm.Cond) (q1 : Int64) (q2 : Int64) (p3 : Int32) (h0 : Heap) (n0 : Nat) (Z0 : n0 ≤ h0.size) :
    MetFree l x (head1 (Jvm.Cond.code x code maxLocals ret :: ws) room_1) (fun a U => a = #[(.long q1), (.long q2), (.int p3)] ∧ Z.Warmed39 U.vm ∧ U.heap = h0) (fun _ _ _ _ _ => True) (fun _ U o U' => ∃ v L, o = .returned v ∧ Q0 Z q1 q2 p3 h0 n0 v U'.heap L ∧ ReturnedEndW U o U' L room_1.cells room_1.slots) := by
  refine MetFree.of_bodySF (plainFor_of_name pn_25) hisR ?_
  intro p e s m args below meth c s₁ Bd hml0 hP hK
  obtain ⟨rfl, hZ, hh⟩ := hP
  have hx := Bd.exec
  have hby := Bd.bytes
  have hml : c.maxLocals = 15 := hml0
  have hown : s.vm.findClass "tributary/CharacterBoundCountPinLaw" = some m.cls := findClass_of_methodNamed Bd.named
  have hnm := (name_of_methodNamed Bd.named Bd.method).1
  have X0 : Stand p l e room_1 s m #[(.long q1), (.long q2), (.int p3)] below meth c s₁ [] 0 0 := Stand.of_body Bd
  have e0 : s₁.heap = h0 := by rw [← hh, Bd.state]; rfl
  have N0 := Fr.nil n0
  refine own_go (B := s₁.setTop (mkF m 0 #[.val (.long q1), .second, .val (.long q2), .second, .val (.int p3), .unset, .unset, .unset, .unset, .unset, .unset, .unset, .unset, .unset, .unset] [])) (fun t k => castTop (ef_0 m q1 q2 p3) k) ?_
  refine own_go (B := s₁.setTop (mkF m 5 #[.val (.long q1), .second, .val (.long q2), .second, .val (.int p3), .val (.long (16000000 : Int64)), .second, .unset, .unset, .unset, .unset, .unset, .unset, .unset, .unset] [])) (fun t k => ?_) ?_
  · show Steps p.tables e below (s₁.setTop (mkF m 0 #[.val (.long q1), .second, .val (.long q2), .second, .val (.int p3), .unset, .unset, .unset, .unset, .unset, .unset, .unset, .unset, .unset, .unset] [])) _
    refine X0.ldc2Long hx hown (mvT hZ (hw _ (List.mem_of_getElem? (i := 0) rfl))) (g := (mkF m 0 #[.val (.long q1), .second, .val (.long q2), .second, .val (.int p3), .unset, .unset, .unset, .unset, .unset, .unset, .unset, .unset, .unset, .unset] [])) rfl (hb hby at_0) _ ?_
    show Steps p.tables e below (s₁.setTop (mkF m 3 #[.val (.long q1), .second, .val (.long q2), .second, .val (.int p3), .unset, .unset, .unset, .unset, .unset, .unset, .unset, .unset, .unset, .unset] [(.long (16000000 : Int64))])) _
    refine XS.lstore X0.here hx rfl (hb hby at_3) rfl (l' := #[.val (.long q1), .second, .val (.long q2), .second, .val (.int p3), .val (.long (16000000 : Int64)), .second, .unset, .unset, .unset, .unset, .unset, .unset, .unset, .unset]) rfl ?_
    show Steps p.tables e below (s₁.setTop (mkF m 5 #[.val (.long q1), .second, .val (.long q2), .second, .val (.int p3), .val (.long (16000000 : Int64)), .second, .unset, .unset, .unset, .unset, .unset, .unset, .unset, .unset] [])) _
    exact k
  refine own_cut (C := fun (aa : Int64) => ¬ aa < 0 ∧ ¬ (16000000 : Int64) < aa) (B := fun aa => s₁.setTop (mkF m 29 #[.val (.long q1), .second, .val (.long q2), .second, .val (.int p3), .val (.long (16000000 : Int64)), .second, .val (.long aa), .second, .unset, .unset, .unset, .unset, .unset, .unset] [])) (fun aa hcut => ?_) (fun tailA => ?_)
  · show ∃ s₂ o, Steps p.tables e below (s₁.setTop (mkF m 29 #[.val (.long q1), .second, .val (.long q2), .second, .val (.int p3), .val (.long (16000000 : Int64)), .second, .val (.long aa), .second, .unset, .unset, .unset, .unset, .unset, .unset] [])) s₂ ∧ _
    have hca := hcut
    refine own_cut (C := fun (bb : Int64) => ¬ bb < 0 ∧ ¬ (16000000 : Int64) < (aa + bb)) (B := fun bb => s₁.setTop (mkF m 59 #[.val (.long q1), .second, .val (.long q2), .second, .val (.int p3), .val (.long (16000000 : Int64)), .second, .val (.long aa), .second, .val (.long bb), .second, .unset, .unset, .unset, .unset] [])) (fun bb hcut => ?_) (fun tailB => ?_)
    · show ∃ s₂ o, Steps p.tables e below (s₁.setTop (mkF m 59 #[.val (.long q1), .second, .val (.long q2), .second, .val (.int p3), .val (.long (16000000 : Int64)), .second, .val (.long aa), .second, .val (.long bb), .second, .unset, .unset, .unset, .unset] [])) s₂ ∧ _
      obtain ⟨T16, h16, X16, e16, E16, A16, D16, -, st16⟩ := newO X0 hx hZ hown (hw _ (List.mem_of_getElem? (i := 2) rfl)) (hw _ (List.mem_of_getElem? (i := 3) rfl)) (hw _ (List.mem_of_getElem? (i := 4) rfl)) e0 (g := (mkF m 59 #[.val (.long q1), .second, .val (.long q2), .second, .val (.int p3), .val (.long (16000000 : Int64)), .second, .val (.long aa), .second, .val (.long bb), .second, .unset, .unset, .unset, .unset] [])) rfl (hb hby at_59) (by decide) (by decide)
      obtain ⟨b16, g16⟩ : ∃ z, z = h0.size := ⟨_, rfl⟩
      rw [← g16] at A16 D16 st16
      refine own_go st16 ?_
      have K16 : Keep h0 h16 [] := Keep.ext (Keep.refl h0 []) E16
      have F16_21 : Fld Z h16 b16 "tributary/CharacterBound" "countedIn" "Ljava/lang/String;" .null := D16 (Or.inr (hw _ (List.mem_of_getElem? (i := 21) rfl))) (ty := (.object "java/lang/String")) (by decide)
      have F16_23 : Fld Z h16 b16 "tributary/CharacterBound" "limitOf" "Ljava/lang/String;" .null := D16 (Or.inr (hw _ (List.mem_of_getElem? (i := 23) rfl))) (ty := (.object "java/lang/String")) (by decide)
      have F16_30 : Fld Z h16 b16 "tributary/CharacterBound" "counted" "J" (.long (0 : Int64)) := D16 (Or.inl (hw _ (List.mem_of_getElem? (i := 30) rfl))) (ty := .long) (by decide)
      refine own_go (B := T16.setTop (mkF m 63 #[.val (.long q1), .second, .val (.long q2), .second, .val (.int p3), .val (.long (16000000 : Int64)), .second, .val (.long aa), .second, .val (.long bb), .second, .unset, .unset, .unset, .unset] [(.ref b16), (.ref b16)])) (fun t k => ?_) ?_
      · show Steps p.tables e below (T16.setTop (mkF m 62 #[.val (.long q1), .second, .val (.long q2), .second, .val (.int p3), .val (.long (16000000 : Int64)), .second, .val (.long aa), .second, .val (.long bb), .second, .unset, .unset, .unset, .unset] [(.ref b16)])) _
        refine XS.dup X16.here hx rfl (hb hby at_62) rfl rfl ?_
        show Steps p.tables e below (T16.setTop (mkF m 63 #[.val (.long q1), .second, .val (.long q2), .second, .val (.int p3), .val (.long (16000000 : Int64)), .second, .val (.long aa), .second, .val (.long bb), .second, .unset, .unset, .unset, .unset] [(.ref b16), (.ref b16)])) _
        exact k
      have hS17a : s.Since s.vm h0.size := own_since _ _
      obtain ⟨b17, T17, h17, kk17, X17, e17, E17, hS17, hk17, hZ17, ho17, st17⟩ := ldcS (s := s) (show Stand p l e _ (s.setVm s.vm) m _ below meth c _ _ _ _ from X16) hx hZ hown (hw _ (List.mem_of_getElem? (i := 5) rfl)) (own_strA hw) e16 hS17a E16.1 (g := (mkF m 63 #[.val (.long q1), .second, .val (.long q2), .second, .val (.int p3), .val (.long (16000000 : Int64)), .second, .val (.long aa), .second, .val (.long bb), .second, .unset, .unset, .unset, .unset] [(.ref b16), (.ref b16)])) rfl (hb hby at_63) (n := 84) (by decide) (by decide) (by decide) (by decide)
      refine own_go st17 ?_
      have K17 : Keep h0 h17 [] := Keep.ext K16 E17
      obtain ⟨b18, T18, h18, kk18, X18, e18, E18, hS18, hk18, hZ18, ho18, st18⟩ := ldcS (s := s) X17 hx hZ17 ho17 (hw _ (List.mem_of_getElem? (i := 13) rfl)) (own_strA hw) e17 hS17 hk17 (g := (mkF m 65 #[.val (.long q1), .second, .val (.long q2), .second, .val (.int p3), .val (.long (16000000 : Int64)), .second, .val (.long aa), .second, .val (.long bb), .second, .unset, .unset, .unset, .unset] [(.ref b17), (.ref b16), (.ref b16)])) rfl (hb hby at_65) (n := 32) (by decide) (by decide) (by decide) (by decide)
      refine own_go st18 ?_
      have K18 : Keep h0 h18 [] := Keep.ext K17 E18
      have f20 : Exa Z h18 b16 "tributary/CharacterBound" := ((A16.ext E17).ext E18)
      have f21 : Fld Z h18 b16 "tributary/CharacterBound" "countedIn" "Ljava/lang/String;" .null := ((F16_21.ext E17).ext E18)
      have f22 : Fld Z h18 b16 "tributary/CharacterBound" "limitOf" "Ljava/lang/String;" .null := ((F16_23.ext E17).ext E18)
      have f23 : Fld Z h18 b16 "tributary/CharacterBound" "counted" "J" (.long (0 : Int64)) := ((F16_30.ext E17).ext E18)
      have le24 : h0.size ≤ h18.size := (Nat.le_trans (Nat.le_trans E16.1 E17.1) E18.1)
      obtain ⟨_, _, ⟨T19, L19, k19, n19⟩, -, X19, ⟨Lc19, hQ19, l19, y19, z19⟩, st19⟩ := X18.specialBack hx (y := (⟨"tributary/CharacterBound", "<init>", "(Ljava/lang/String;Ljava/lang/String;)V"⟩ : MethodName)) rfl ho18 (mvT hZ18 (hw _ (List.mem_of_getElem? (i := 14) rfl))) (mvT hZ18 (hw _ (List.mem_of_getElem? (i := 15) rfl))) (mvT hZ18 (hw _ (List.mem_of_getElem? (i := 16) rfl))) (by decide) (backOf (W := 1) (rm1 l Z a0 hw [] b16 b17 b18 h18 n0 (Nat.le_trans Z0 le24) f20 f21 f22 f23 (Nat.le_trans Z0 (Nat.le_of_eq g16.symm))) hZ18 (hw _ (List.mem_of_getElem? (i := 16) rfl)) (hw _ (List.mem_of_getElem? (i := 4) rfl)) (by decide) (by decide)) (g := (mkF m 67 #[.val (.long q1), .second, .val (.long q2), .second, .val (.int p3), .val (.long (16000000 : Int64)), .second, .val (.long aa), .second, .val (.long bb), .second, .unset, .unset, .unset, .unset] [(.ref b18), (.ref b17), (.ref b16), (.ref b16)])) rfl (by rw [hml]; rfl) (Steps.refl _) (a := b16) (argsL := [(.ref b17), (.ref b18)]) (rest := [(.ref b16)]) (lenOf pd_0 rfl) rfl (by show 2 * 0 + _ ≤ _; exact Nat.le_of_eq rfl) (hb hby at_67) (fun _ _ => ⟨rfl, e18, (by decide : 5 + 0 ≤ _), (by decide : 127 + 0 ≤ _)⟩)
      dsimp only [Pt.U, Pt.locs, Pt.cells, Pt.slots] at X19 l19 y19 z19 st19 hQ19
      subst l19 y19 z19
      obtain ⟨rfl, M19, q19_0, q19_1, q19_2⟩ := hQ19
      have N19 := Fr.app N0 M19
      have K19 : Keep h0 T19.heap [] := Keep.trans K18 q19_0 (allS (Or.inr (Nat.le_of_eq g16.symm)) all0)
      refine own_go (fun t k => st19.trans k) ?_
      refine own_go (B := T19.setTop (mkF m 76 #[.val (.long q1), .second, .val (.long q2), .second, .val (.int p3), .val (.long (16000000 : Int64)), .second, .val (.long aa), .second, .val (.long bb), .second, .val (.ref b16), .unset, .unset, .unset] [(.long aa), (.ref b16)])) (fun t k => ?_) ?_
      · show Steps p.tables e below (T19.setTop (mkF m 70 #[.val (.long q1), .second, .val (.long q2), .second, .val (.int p3), .val (.long (16000000 : Int64)), .second, .val (.long aa), .second, .val (.long bb), .second, .unset, .unset, .unset, .unset] [(.ref b16)])) _
        refine XS.astore X19.here hx rfl (hb hby at_70) rfl rfl (l' := #[.val (.long q1), .second, .val (.long q2), .second, .val (.int p3), .val (.long (16000000 : Int64)), .second, .val (.long aa), .second, .val (.long bb), .second, .val (.ref b16), .unset, .unset, .unset]) rfl ?_
        show Steps p.tables e below (T19.setTop (mkF m 72 #[.val (.long q1), .second, .val (.long q2), .second, .val (.int p3), .val (.long (16000000 : Int64)), .second, .val (.long aa), .second, .val (.long bb), .second, .val (.ref b16), .unset, .unset, .unset] [])) _
        refine XS.aload X19.here hx rfl (hb hby at_72) rfl rfl ?_
        show Steps p.tables e below (T19.setTop (mkF m 74 #[.val (.long q1), .second, .val (.long q2), .second, .val (.int p3), .val (.long (16000000 : Int64)), .second, .val (.long aa), .second, .val (.long bb), .second, .val (.ref b16), .unset, .unset, .unset] [(.ref b16)])) _
        refine XS.lload X19.here hx rfl (hb hby at_74) rfl ?_
        show Steps p.tables e below (T19.setTop (mkF m 76 #[.val (.long q1), .second, .val (.long q2), .second, .val (.int p3), .val (.long (16000000 : Int64)), .second, .val (.long aa), .second, .val (.long bb), .second, .val (.ref b16), .unset, .unset, .unset] [(.long aa), (.ref b16)])) _
        exact k
      have le26 : h0.size ≤ T19.heap.size := (Nat.le_trans (Nat.le_trans (Nat.le_trans E16.1 E17.1) E18.1) q19_0.1)
      obtain ⟨cq25, kq25, q25a, q25b, q25c⟩ := isOf hZ18 rfl q19_1
      obtain ⟨_, _, ⟨T25, L25, k25, n25⟩, -, X25, ⟨Lc25, hQ25, l25, y25, z25⟩, st25⟩ := X19.virtualBack hx (y := (⟨"tributary/CharacterBound", "count", "(J)V"⟩ : MethodName)) (z := (⟨"tributary/CharacterBound", "count", "(J)V"⟩ : MethodName)) ho18 (mvT hZ18 (hw _ (List.mem_of_getElem? (i := 24) rfl))) (mvT hZ18 (hw _ (List.mem_of_getElem? (i := 25) rfl))) (notFace_of_selects (args := #[]) (mvT hZ18 (hw _ (List.mem_of_getElem? (i := 27) rfl)))) (mvT hZ18 (hw _ (List.mem_of_getElem? (i := 27) rfl))) (mvT hZ18 (hw _ (List.mem_of_getElem? (i := 26) rfl))) (by decide) (backOf (W := 0) (rm3 l Z a0 hw [] b16 aa (0 : Int64) T19.heap n0 (Nat.le_trans Z0 le26) q19_1 q19_2 (Nat.le_trans Z0 (Nat.le_of_eq g16.symm)) (by rw [own_0]; exact hca.2)) hZ18 (hw _ (List.mem_of_getElem? (i := 28) rfl)) (hw _ (List.mem_of_getElem? (i := 4) rfl)) (by decide) (by decide)) q25a q25c (g := (mkF m 76 #[.val (.long q1), .second, .val (.long q2), .second, .val (.int p3), .val (.long (16000000 : Int64)), .second, .val (.long aa), .second, .val (.long bb), .second, .val (.ref b16), .unset, .unset, .unset] [(.long aa), (.ref b16)])) rfl (by rw [hml]; rfl) (Steps.refl _) (argsL := [(.long aa)]) (rest := []) (lenOf pd_1 rfl) rfl (by show 2 * 0 + _ ≤ _; exact Nat.le_of_eq rfl) (hb hby at_76) (fun _ _ => ⟨rfl, rfl, (by decide : 5 + 0 ≤ _), (by decide : 127 + 0 ≤ _)⟩)
      dsimp only [Pt.U, Pt.locs, Pt.cells, Pt.slots] at X25 l25 y25 z25 st25 hQ25
      subst l25 y25 z25
      obtain ⟨rfl, M25, q25_0, q25_1, q25_2⟩ := hQ25
      have N25 := Fr.app N19 M25
      have K25 : Keep h0 T25.heap [] := Keep.trans K19 q25_0 (allS (Or.inr (Nat.le_of_eq g16.symm)) all0)
      refine own_go (fun t k => st25.trans k) ?_
      have fr27 : Fld Z T25.heap b16 "tributary/CharacterBound" "counted" "J" (.long aa) := by have q := q25_2; rw [own_0] at q; exact q
      refine own_go (B := T25.setTop (mkF m 81 #[.val (.long q1), .second, .val (.long q2), .second, .val (.int p3), .val (.long (16000000 : Int64)), .second, .val (.long aa), .second, .val (.long bb), .second, .val (.ref b16), .unset, .unset, .unset] [(.ref b16)])) (fun t k => ?_) ?_
      · show Steps p.tables e below (T25.setTop (mkF m 79 #[.val (.long q1), .second, .val (.long q2), .second, .val (.int p3), .val (.long (16000000 : Int64)), .second, .val (.long aa), .second, .val (.long bb), .second, .val (.ref b16), .unset, .unset, .unset] [])) _
        refine XS.aload X25.here hx rfl (hb hby at_79) rfl rfl ?_
        show Steps p.tables e below (T25.setTop (mkF m 81 #[.val (.long q1), .second, .val (.long q2), .second, .val (.int p3), .val (.long (16000000 : Int64)), .second, .val (.long aa), .second, .val (.long bb), .second, .val (.ref b16), .unset, .unset, .unset] [(.ref b16)])) _
        exact k
      have le29 : h0.size ≤ T25.heap.size := (Nat.le_trans (Nat.le_trans (Nat.le_trans (Nat.le_trans E16.1 E17.1) E18.1) q19_0.1) q25_0.1)
      obtain ⟨cq28, kq28, q28a, q28b, q28c⟩ := isOf hZ18 rfl q25_1
      obtain ⟨_, _, ⟨T28, L28, k28, n28⟩, -, X28, ⟨Lc28, hQ28, l28, y28, z28⟩, st28⟩ := X25.virtualBack hx (y := (⟨"tributary/CharacterBound", "counted", "()J"⟩ : MethodName)) (z := (⟨"tributary/CharacterBound", "counted", "()J"⟩ : MethodName)) ho18 (mvT hZ18 (hw _ (List.mem_of_getElem? (i := 32) rfl))) (mvT hZ18 (hw _ (List.mem_of_getElem? (i := 33) rfl))) (notFace_of_selects (args := #[]) (mvT hZ18 (hw _ (List.mem_of_getElem? (i := 35) rfl)))) (mvT hZ18 (hw _ (List.mem_of_getElem? (i := 35) rfl))) (mvT hZ18 (hw _ (List.mem_of_getElem? (i := 34) rfl))) (by decide) (backOf (W := 0) (rm4 l Z a0 hw [] b16 aa T25.heap n0 (Nat.le_trans Z0 le29) fr27) hZ18 (hw _ (List.mem_of_getElem? (i := 36) rfl)) (hw _ (List.mem_of_getElem? (i := 4) rfl)) (by decide) (by decide)) q28a q28c (g := (mkF m 81 #[.val (.long q1), .second, .val (.long q2), .second, .val (.int p3), .val (.long (16000000 : Int64)), .second, .val (.long aa), .second, .val (.long bb), .second, .val (.ref b16), .unset, .unset, .unset] [(.ref b16)])) rfl (by rw [hml]; rfl) (Steps.refl _) (argsL := []) (rest := []) (lenOf pd_2 rfl) rfl (by show 2 * 0 + _ ≤ _; exact Nat.le_of_eq rfl) (hb hby at_81) (fun _ _ => ⟨rfl, rfl, (by decide : 5 + 0 ≤ _), (by decide : 127 + 0 ≤ _)⟩)
      dsimp only [Pt.U, Pt.locs, Pt.cells, Pt.slots] at X28 l28 y28 z28 st28 hQ28
      subst l28 y28 z28
      obtain ⟨rfl, M28, q28_0⟩ := hQ28
      have N28 := Fr.app N25 M28
      refine own_go (fun t k => st28.trans k) ?_
      refine own_go (B := T28.setTop (mkF m 101 #[.val (.long q1), .second, .val (.long q2), .second, .val (.int p3), .val (.long (16000000 : Int64)), .second, .val (.long aa), .second, .val (.long bb), .second, .val (.ref b16), .val (.int (1 : Int32)), .unset, .unset] [(.long bb), (.ref b16)])) (fun t k => ?_) ?_
      · show Steps p.tables e below (T28.setTop (mkF m 84 #[.val (.long q1), .second, .val (.long q2), .second, .val (.int p3), .val (.long (16000000 : Int64)), .second, .val (.long aa), .second, .val (.long bb), .second, .val (.ref b16), .unset, .unset, .unset] [(.long aa)])) _
        refine XS.lload X28.here hx rfl (hb hby at_84) rfl ?_
        show Steps p.tables e below (T28.setTop (mkF m 86 #[.val (.long q1), .second, .val (.long q2), .second, .val (.int p3), .val (.long (16000000 : Int64)), .second, .val (.long aa), .second, .val (.long bb), .second, .val (.ref b16), .unset, .unset, .unset] [(.long aa), (.long aa)])) _
        refine XS.lcmp X28.here hx rfl (hb hby at_86) rfl ?_
        show Steps p.tables e below (T28.setTop (mkF m 87 #[.val (.long q1), .second, .val (.long q2), .second, .val (.int p3), .val (.long (16000000 : Int64)), .second, .val (.long aa), .second, .val (.long bb), .second, .val (.ref b16), .unset, .unset, .unset] [(.int (lcmpW aa aa))])) _
        refine XS.ifNo X28.here hx rfl (hb hby at_87) rfl ((if0 _ _).trans (teq (show (lcmpW aa aa) = (0 : Int32) from ((lw_eq aa aa).mpr (show aa = aa from rfl)))).2) ?_
        show Steps p.tables e below (T28.setTop (mkF m 90 #[.val (.long q1), .second, .val (.long q2), .second, .val (.int p3), .val (.long (16000000 : Int64)), .second, .val (.long aa), .second, .val (.long bb), .second, .val (.ref b16), .unset, .unset, .unset] [])) _
        refine XS.iconst X28.here hx rfl (hb hby at_90) ?_
        show Steps p.tables e below (T28.setTop (mkF m 91 #[.val (.long q1), .second, .val (.long q2), .second, .val (.int p3), .val (.long (16000000 : Int64)), .second, .val (.long aa), .second, .val (.long bb), .second, .val (.ref b16), .unset, .unset, .unset] [(.int (1 : Int32))])) _
        refine XS.goto X28.here hx rfl (pc0 := 91) (pc' := 95) rfl (hb hby at_91) (by decide) (by decide) ?_
        show Steps p.tables e below (T28.setTop (mkF m 95 #[.val (.long q1), .second, .val (.long q2), .second, .val (.int p3), .val (.long (16000000 : Int64)), .second, .val (.long aa), .second, .val (.long bb), .second, .val (.ref b16), .unset, .unset, .unset] [(.int (1 : Int32))])) _
        refine XS.istore X28.here hx rfl (hb hby at_95) rfl (l' := #[.val (.long q1), .second, .val (.long q2), .second, .val (.int p3), .val (.long (16000000 : Int64)), .second, .val (.long aa), .second, .val (.long bb), .second, .val (.ref b16), .val (.int (1 : Int32)), .unset, .unset]) rfl ?_
        show Steps p.tables e below (T28.setTop (mkF m 97 #[.val (.long q1), .second, .val (.long q2), .second, .val (.int p3), .val (.long (16000000 : Int64)), .second, .val (.long aa), .second, .val (.long bb), .second, .val (.ref b16), .val (.int (1 : Int32)), .unset, .unset] [])) _
        refine XS.aload X28.here hx rfl (hb hby at_97) rfl rfl ?_
        show Steps p.tables e below (T28.setTop (mkF m 99 #[.val (.long q1), .second, .val (.long q2), .second, .val (.int p3), .val (.long (16000000 : Int64)), .second, .val (.long aa), .second, .val (.long bb), .second, .val (.ref b16), .val (.int (1 : Int32)), .unset, .unset] [(.ref b16)])) _
        refine XS.lload X28.here hx rfl (hb hby at_99) rfl ?_
        show Steps p.tables e below (T28.setTop (mkF m 101 #[.val (.long q1), .second, .val (.long q2), .second, .val (.int p3), .val (.long (16000000 : Int64)), .second, .val (.long aa), .second, .val (.long bb), .second, .val (.ref b16), .val (.int (1 : Int32)), .unset, .unset] [(.long bb), (.ref b16)])) _
        exact k
      obtain ⟨cq30, kq30, q30a, q30b, q30c⟩ := isOf hZ18 q28_0 q25_1
      obtain ⟨_, _, ⟨T30, L30, k30, n30⟩, -, X30, ⟨Lc30, hQ30, l30, y30, z30⟩, st30⟩ := X28.virtualBack hx (y := (⟨"tributary/CharacterBound", "count", "(J)V"⟩ : MethodName)) (z := (⟨"tributary/CharacterBound", "count", "(J)V"⟩ : MethodName)) ho18 (mvT hZ18 (hw _ (List.mem_of_getElem? (i := 24) rfl))) (mvT hZ18 (hw _ (List.mem_of_getElem? (i := 25) rfl))) (notFace_of_selects (args := #[]) (mvT hZ18 (hw _ (List.mem_of_getElem? (i := 27) rfl)))) (mvT hZ18 (hw _ (List.mem_of_getElem? (i := 27) rfl))) (mvT hZ18 (hw _ (List.mem_of_getElem? (i := 26) rfl))) (by decide) (backOf (W := 0) (rm3 l Z a0 hw [] b16 bb aa T25.heap n0 (Nat.le_trans Z0 le29) q25_1 fr27 (Nat.le_trans Z0 (Nat.le_of_eq g16.symm)) (hcut.2)) hZ18 (hw _ (List.mem_of_getElem? (i := 28) rfl)) (hw _ (List.mem_of_getElem? (i := 4) rfl)) (by decide) (by decide)) q30a q30c (g := (mkF m 101 #[.val (.long q1), .second, .val (.long q2), .second, .val (.int p3), .val (.long (16000000 : Int64)), .second, .val (.long aa), .second, .val (.long bb), .second, .val (.ref b16), .val (.int (1 : Int32)), .unset, .unset] [(.long bb), (.ref b16)])) rfl (by rw [hml]; rfl) (Steps.refl _) (argsL := [(.long bb)]) (rest := []) (lenOf pd_1 rfl) rfl (by show 2 * 0 + _ ≤ _; exact Nat.le_of_eq rfl) (hb hby at_101) (fun _ _ => ⟨rfl, q28_0, (by decide : 5 + 0 ≤ _), (by decide : 127 + 0 ≤ _)⟩)
      dsimp only [Pt.U, Pt.locs, Pt.cells, Pt.slots] at X30 l30 y30 z30 st30 hQ30
      subst l30 y30 z30
      obtain ⟨rfl, M30, q30_0, q30_1, q30_2⟩ := hQ30
      have N30 := Fr.app N28 M30
      have K30 : Keep h0 T30.heap [] := Keep.trans K25 q30_0 (allS (Or.inr (Nat.le_of_eq g16.symm)) all0)
      refine own_go (fun t k => st30.trans k) ?_
      refine own_go (B := T30.setTop (mkF m 106 #[.val (.long q1), .second, .val (.long q2), .second, .val (.int p3), .val (.long (16000000 : Int64)), .second, .val (.long aa), .second, .val (.long bb), .second, .val (.ref b16), .val (.int (1 : Int32)), .unset, .unset] [(.ref b16)])) (fun t k => ?_) ?_
      · show Steps p.tables e below (T30.setTop (mkF m 104 #[.val (.long q1), .second, .val (.long q2), .second, .val (.int p3), .val (.long (16000000 : Int64)), .second, .val (.long aa), .second, .val (.long bb), .second, .val (.ref b16), .val (.int (1 : Int32)), .unset, .unset] [])) _
        refine XS.aload X30.here hx rfl (hb hby at_104) rfl rfl ?_
        show Steps p.tables e below (T30.setTop (mkF m 106 #[.val (.long q1), .second, .val (.long q2), .second, .val (.int p3), .val (.long (16000000 : Int64)), .second, .val (.long aa), .second, .val (.long bb), .second, .val (.ref b16), .val (.int (1 : Int32)), .unset, .unset] [(.ref b16)])) _
        exact k
      have le32 : h0.size ≤ T30.heap.size := (Nat.le_trans (Nat.le_trans (Nat.le_trans (Nat.le_trans (Nat.le_trans E16.1 E17.1) E18.1) q19_0.1) q25_0.1) q30_0.1)
      obtain ⟨cq31, kq31, q31a, q31b, q31c⟩ := isOf hZ18 rfl q30_1
      obtain ⟨_, _, ⟨T31, L31, k31, n31⟩, -, X31, ⟨Lc31, hQ31, l31, y31, z31⟩, st31⟩ := X30.virtualBack hx (y := (⟨"tributary/CharacterBound", "counted", "()J"⟩ : MethodName)) (z := (⟨"tributary/CharacterBound", "counted", "()J"⟩ : MethodName)) ho18 (mvT hZ18 (hw _ (List.mem_of_getElem? (i := 32) rfl))) (mvT hZ18 (hw _ (List.mem_of_getElem? (i := 33) rfl))) (notFace_of_selects (args := #[]) (mvT hZ18 (hw _ (List.mem_of_getElem? (i := 35) rfl)))) (mvT hZ18 (hw _ (List.mem_of_getElem? (i := 35) rfl))) (mvT hZ18 (hw _ (List.mem_of_getElem? (i := 34) rfl))) (by decide) (backOf (W := 0) (rm4 l Z a0 hw [] b16 (aa + bb) T30.heap n0 (Nat.le_trans Z0 le32) q30_2) hZ18 (hw _ (List.mem_of_getElem? (i := 36) rfl)) (hw _ (List.mem_of_getElem? (i := 4) rfl)) (by decide) (by decide)) q31a q31c (g := (mkF m 106 #[.val (.long q1), .second, .val (.long q2), .second, .val (.int p3), .val (.long (16000000 : Int64)), .second, .val (.long aa), .second, .val (.long bb), .second, .val (.ref b16), .val (.int (1 : Int32)), .unset, .unset] [(.ref b16)])) rfl (by rw [hml]; rfl) (Steps.refl _) (argsL := []) (rest := []) (lenOf pd_2 rfl) rfl (by show 2 * 0 + _ ≤ _; exact Nat.le_of_eq rfl) (hb hby at_106) (fun _ _ => ⟨rfl, rfl, (by decide : 5 + 0 ≤ _), (by decide : 127 + 0 ≤ _)⟩)
      dsimp only [Pt.U, Pt.locs, Pt.cells, Pt.slots] at X31 l31 y31 z31 st31 hQ31
      subst l31 y31 z31
      obtain ⟨rfl, M31, q31_0⟩ := hQ31
      have N31 := Fr.app N30 M31
      refine own_go (fun t k => st31.trans k) ?_
      refine own_go (B := T31.setTop (mkF m 128 #[.val (.long q1), .second, .val (.long q2), .second, .val (.int p3), .val (.long (16000000 : Int64)), .second, .val (.long aa), .second, .val (.long bb), .second, .val (.ref b16), .val (.int (1 : Int32)), .val (.int (1 : Int32)), .unset] [(.long (0 : Int64)), (.ref b16)])) (fun t k => ?_) ?_
      · show Steps p.tables e below (T31.setTop (mkF m 109 #[.val (.long q1), .second, .val (.long q2), .second, .val (.int p3), .val (.long (16000000 : Int64)), .second, .val (.long aa), .second, .val (.long bb), .second, .val (.ref b16), .val (.int (1 : Int32)), .unset, .unset] [(.long (aa + bb))])) _
        refine XS.lload X31.here hx rfl (hb hby at_109) rfl ?_
        show Steps p.tables e below (T31.setTop (mkF m 111 #[.val (.long q1), .second, .val (.long q2), .second, .val (.int p3), .val (.long (16000000 : Int64)), .second, .val (.long aa), .second, .val (.long bb), .second, .val (.ref b16), .val (.int (1 : Int32)), .unset, .unset] [(.long aa), (.long (aa + bb))])) _
        refine XS.lload X31.here hx rfl (hb hby at_111) rfl ?_
        show Steps p.tables e below (T31.setTop (mkF m 113 #[.val (.long q1), .second, .val (.long q2), .second, .val (.int p3), .val (.long (16000000 : Int64)), .second, .val (.long aa), .second, .val (.long bb), .second, .val (.ref b16), .val (.int (1 : Int32)), .unset, .unset] [(.long bb), (.long aa), (.long (aa + bb))])) _
        refine XS.ladd X31.here hx rfl (hb hby at_113) rfl ?_
        show Steps p.tables e below (T31.setTop (mkF m 114 #[.val (.long q1), .second, .val (.long q2), .second, .val (.int p3), .val (.long (16000000 : Int64)), .second, .val (.long aa), .second, .val (.long bb), .second, .val (.ref b16), .val (.int (1 : Int32)), .unset, .unset] [(.long (aa + bb)), (.long (aa + bb))])) _
        refine XS.lcmp X31.here hx rfl (hb hby at_114) rfl ?_
        show Steps p.tables e below (T31.setTop (mkF m 115 #[.val (.long q1), .second, .val (.long q2), .second, .val (.int p3), .val (.long (16000000 : Int64)), .second, .val (.long aa), .second, .val (.long bb), .second, .val (.ref b16), .val (.int (1 : Int32)), .unset, .unset] [(.int (lcmpW (aa + bb) (aa + bb)))])) _
        refine XS.ifNo X31.here hx rfl (hb hby at_115) rfl ((if0 _ _).trans (teq (show (lcmpW (aa + bb) (aa + bb)) = (0 : Int32) from ((lw_eq (aa + bb) (aa + bb)).mpr (show (aa + bb) = (aa + bb) from rfl)))).2) ?_
        show Steps p.tables e below (T31.setTop (mkF m 118 #[.val (.long q1), .second, .val (.long q2), .second, .val (.int p3), .val (.long (16000000 : Int64)), .second, .val (.long aa), .second, .val (.long bb), .second, .val (.ref b16), .val (.int (1 : Int32)), .unset, .unset] [])) _
        refine XS.iconst X31.here hx rfl (hb hby at_118) ?_
        show Steps p.tables e below (T31.setTop (mkF m 119 #[.val (.long q1), .second, .val (.long q2), .second, .val (.int p3), .val (.long (16000000 : Int64)), .second, .val (.long aa), .second, .val (.long bb), .second, .val (.ref b16), .val (.int (1 : Int32)), .unset, .unset] [(.int (1 : Int32))])) _
        refine XS.goto X31.here hx rfl (pc0 := 119) (pc' := 123) rfl (hb hby at_119) (by decide) (by decide) ?_
        show Steps p.tables e below (T31.setTop (mkF m 123 #[.val (.long q1), .second, .val (.long q2), .second, .val (.int p3), .val (.long (16000000 : Int64)), .second, .val (.long aa), .second, .val (.long bb), .second, .val (.ref b16), .val (.int (1 : Int32)), .unset, .unset] [(.int (1 : Int32))])) _
        refine XS.istore X31.here hx rfl (hb hby at_123) rfl (l' := #[.val (.long q1), .second, .val (.long q2), .second, .val (.int p3), .val (.long (16000000 : Int64)), .second, .val (.long aa), .second, .val (.long bb), .second, .val (.ref b16), .val (.int (1 : Int32)), .val (.int (1 : Int32)), .unset]) rfl ?_
        show Steps p.tables e below (T31.setTop (mkF m 125 #[.val (.long q1), .second, .val (.long q2), .second, .val (.int p3), .val (.long (16000000 : Int64)), .second, .val (.long aa), .second, .val (.long bb), .second, .val (.ref b16), .val (.int (1 : Int32)), .val (.int (1 : Int32)), .unset] [])) _
        refine XS.aload X31.here hx rfl (hb hby at_125) rfl rfl ?_
        show Steps p.tables e below (T31.setTop (mkF m 127 #[.val (.long q1), .second, .val (.long q2), .second, .val (.int p3), .val (.long (16000000 : Int64)), .second, .val (.long aa), .second, .val (.long bb), .second, .val (.ref b16), .val (.int (1 : Int32)), .val (.int (1 : Int32)), .unset] [(.ref b16)])) _
        refine XS.lconst X31.here hx rfl (hb hby at_127) ?_
        show Steps p.tables e below (T31.setTop (mkF m 128 #[.val (.long q1), .second, .val (.long q2), .second, .val (.int p3), .val (.long (16000000 : Int64)), .second, .val (.long aa), .second, .val (.long bb), .second, .val (.ref b16), .val (.int (1 : Int32)), .val (.int (1 : Int32)), .unset] [(.long (0 : Int64)), (.ref b16)])) _
        exact k
      obtain ⟨cq33, kq33, q33a, q33b, q33c⟩ := isOf hZ18 q31_0 q30_1
      obtain ⟨_, _, ⟨T33, L33, k33, n33⟩, -, X33, ⟨Lc33, hQ33, l33, y33, z33⟩, st33⟩ := X31.virtualBack hx (y := (⟨"tributary/CharacterBound", "count", "(J)V"⟩ : MethodName)) (z := (⟨"tributary/CharacterBound", "count", "(J)V"⟩ : MethodName)) ho18 (mvT hZ18 (hw _ (List.mem_of_getElem? (i := 24) rfl))) (mvT hZ18 (hw _ (List.mem_of_getElem? (i := 25) rfl))) (notFace_of_selects (args := #[]) (mvT hZ18 (hw _ (List.mem_of_getElem? (i := 27) rfl)))) (mvT hZ18 (hw _ (List.mem_of_getElem? (i := 27) rfl))) (mvT hZ18 (hw _ (List.mem_of_getElem? (i := 26) rfl))) (by decide) (backOf (W := 0) (rm3 l Z a0 hw [] b16 (0 : Int64) (aa + bb) T30.heap n0 (Nat.le_trans Z0 le32) q30_1 q30_2 (Nat.le_trans Z0 (Nat.le_of_eq g16.symm)) (by rw [own_00]; exact hcut.2)) hZ18 (hw _ (List.mem_of_getElem? (i := 28) rfl)) (hw _ (List.mem_of_getElem? (i := 4) rfl)) (by decide) (by decide)) q33a q33c (g := (mkF m 128 #[.val (.long q1), .second, .val (.long q2), .second, .val (.int p3), .val (.long (16000000 : Int64)), .second, .val (.long aa), .second, .val (.long bb), .second, .val (.ref b16), .val (.int (1 : Int32)), .val (.int (1 : Int32)), .unset] [(.long (0 : Int64)), (.ref b16)])) rfl (by rw [hml]; rfl) (Steps.refl _) (argsL := [(.long (0 : Int64))]) (rest := []) (lenOf pd_1 rfl) rfl (by show 2 * 0 + _ ≤ _; exact Nat.le_of_eq rfl) (hb hby at_128) (fun _ _ => ⟨rfl, q31_0, (by decide : 5 + 0 ≤ _), (by decide : 127 + 0 ≤ _)⟩)
      dsimp only [Pt.U, Pt.locs, Pt.cells, Pt.slots] at X33 l33 y33 z33 st33 hQ33
      subst l33 y33 z33
      obtain ⟨rfl, M33, q33_0, q33_1, q33_2⟩ := hQ33
      have N33 := Fr.app N31 M33
      have K33 : Keep h0 T33.heap [] := Keep.trans K30 q33_0 (allS (Or.inr (Nat.le_of_eq g16.symm)) all0)
      refine own_go (fun t k => st33.trans k) ?_
      have fr34 : Fld Z T33.heap b16 "tributary/CharacterBound" "counted" "J" (.long (aa + bb)) := by have q := q33_2; rw [own_00] at q; exact q
      refine own_go (B := T33.setTop (mkF m 133 #[.val (.long q1), .second, .val (.long q2), .second, .val (.int p3), .val (.long (16000000 : Int64)), .second, .val (.long aa), .second, .val (.long bb), .second, .val (.ref b16), .val (.int (1 : Int32)), .val (.int (1 : Int32)), .unset] [(.ref b16)])) (fun t k => ?_) ?_
      · show Steps p.tables e below (T33.setTop (mkF m 131 #[.val (.long q1), .second, .val (.long q2), .second, .val (.int p3), .val (.long (16000000 : Int64)), .second, .val (.long aa), .second, .val (.long bb), .second, .val (.ref b16), .val (.int (1 : Int32)), .val (.int (1 : Int32)), .unset] [])) _
        refine XS.aload X33.here hx rfl (hb hby at_131) rfl rfl ?_
        show Steps p.tables e below (T33.setTop (mkF m 133 #[.val (.long q1), .second, .val (.long q2), .second, .val (.int p3), .val (.long (16000000 : Int64)), .second, .val (.long aa), .second, .val (.long bb), .second, .val (.ref b16), .val (.int (1 : Int32)), .val (.int (1 : Int32)), .unset] [(.ref b16)])) _
        exact k
      have le36 : h0.size ≤ T33.heap.size := (Nat.le_trans (Nat.le_trans (Nat.le_trans (Nat.le_trans (Nat.le_trans (Nat.le_trans E16.1 E17.1) E18.1) q19_0.1) q25_0.1) q30_0.1) q33_0.1)
      obtain ⟨cq35, kq35, q35a, q35b, q35c⟩ := isOf hZ18 rfl q33_1
      obtain ⟨_, _, ⟨T35, L35, k35, n35⟩, -, X35, ⟨Lc35, hQ35, l35, y35, z35⟩, st35⟩ := X33.virtualBack hx (y := (⟨"tributary/CharacterBound", "counted", "()J"⟩ : MethodName)) (z := (⟨"tributary/CharacterBound", "counted", "()J"⟩ : MethodName)) ho18 (mvT hZ18 (hw _ (List.mem_of_getElem? (i := 32) rfl))) (mvT hZ18 (hw _ (List.mem_of_getElem? (i := 33) rfl))) (notFace_of_selects (args := #[]) (mvT hZ18 (hw _ (List.mem_of_getElem? (i := 35) rfl)))) (mvT hZ18 (hw _ (List.mem_of_getElem? (i := 35) rfl))) (mvT hZ18 (hw _ (List.mem_of_getElem? (i := 34) rfl))) (by decide) (backOf (W := 0) (rm4 l Z a0 hw [] b16 (aa + bb) T33.heap n0 (Nat.le_trans Z0 le36) fr34) hZ18 (hw _ (List.mem_of_getElem? (i := 36) rfl)) (hw _ (List.mem_of_getElem? (i := 4) rfl)) (by decide) (by decide)) q35a q35c (g := (mkF m 133 #[.val (.long q1), .second, .val (.long q2), .second, .val (.int p3), .val (.long (16000000 : Int64)), .second, .val (.long aa), .second, .val (.long bb), .second, .val (.ref b16), .val (.int (1 : Int32)), .val (.int (1 : Int32)), .unset] [(.ref b16)])) rfl (by rw [hml]; rfl) (Steps.refl _) (argsL := []) (rest := []) (lenOf pd_2 rfl) rfl (by show 2 * 0 + _ ≤ _; exact Nat.le_of_eq rfl) (hb hby at_133) (fun _ _ => ⟨rfl, rfl, (by decide : 5 + 0 ≤ _), (by decide : 127 + 0 ≤ _)⟩)
      dsimp only [Pt.U, Pt.locs, Pt.cells, Pt.slots] at X35 l35 y35 z35 st35 hQ35
      subst l35 y35 z35
      obtain ⟨rfl, M35, q35_0⟩ := hQ35
      have N35 := Fr.app N33 M35
      refine own_go (fun t k => st35.trans k) ?_
      refine own_go (B := T35.setTop (mkF m 172 #[.val (.long q1), .second, .val (.long q2), .second, .val (.int p3), .val (.long (16000000 : Int64)), .second, .val (.long aa), .second, .val (.long bb), .second, .val (.ref b16), .val (.int (1 : Int32)), .val (.int (1 : Int32)), .val (.int (1 : Int32))] [(.int (1 : Int32))])) (fun t k => ?_) ?_
      · show Steps p.tables e below (T35.setTop (mkF m 136 #[.val (.long q1), .second, .val (.long q2), .second, .val (.int p3), .val (.long (16000000 : Int64)), .second, .val (.long aa), .second, .val (.long bb), .second, .val (.ref b16), .val (.int (1 : Int32)), .val (.int (1 : Int32)), .unset] [(.long (aa + bb))])) _
        refine XS.lload X35.here hx rfl (hb hby at_136) rfl ?_
        show Steps p.tables e below (T35.setTop (mkF m 138 #[.val (.long q1), .second, .val (.long q2), .second, .val (.int p3), .val (.long (16000000 : Int64)), .second, .val (.long aa), .second, .val (.long bb), .second, .val (.ref b16), .val (.int (1 : Int32)), .val (.int (1 : Int32)), .unset] [(.long aa), (.long (aa + bb))])) _
        refine XS.lload X35.here hx rfl (hb hby at_138) rfl ?_
        show Steps p.tables e below (T35.setTop (mkF m 140 #[.val (.long q1), .second, .val (.long q2), .second, .val (.int p3), .val (.long (16000000 : Int64)), .second, .val (.long aa), .second, .val (.long bb), .second, .val (.ref b16), .val (.int (1 : Int32)), .val (.int (1 : Int32)), .unset] [(.long bb), (.long aa), (.long (aa + bb))])) _
        refine XS.ladd X35.here hx rfl (hb hby at_140) rfl ?_
        show Steps p.tables e below (T35.setTop (mkF m 141 #[.val (.long q1), .second, .val (.long q2), .second, .val (.int p3), .val (.long (16000000 : Int64)), .second, .val (.long aa), .second, .val (.long bb), .second, .val (.ref b16), .val (.int (1 : Int32)), .val (.int (1 : Int32)), .unset] [(.long (aa + bb)), (.long (aa + bb))])) _
        refine XS.lcmp X35.here hx rfl (hb hby at_141) rfl ?_
        show Steps p.tables e below (T35.setTop (mkF m 142 #[.val (.long q1), .second, .val (.long q2), .second, .val (.int p3), .val (.long (16000000 : Int64)), .second, .val (.long aa), .second, .val (.long bb), .second, .val (.ref b16), .val (.int (1 : Int32)), .val (.int (1 : Int32)), .unset] [(.int (lcmpW (aa + bb) (aa + bb)))])) _
        refine XS.ifNo X35.here hx rfl (hb hby at_142) rfl ((if0 _ _).trans (teq (show (lcmpW (aa + bb) (aa + bb)) = (0 : Int32) from ((lw_eq (aa + bb) (aa + bb)).mpr (show (aa + bb) = (aa + bb) from rfl)))).2) ?_
        show Steps p.tables e below (T35.setTop (mkF m 145 #[.val (.long q1), .second, .val (.long q2), .second, .val (.int p3), .val (.long (16000000 : Int64)), .second, .val (.long aa), .second, .val (.long bb), .second, .val (.ref b16), .val (.int (1 : Int32)), .val (.int (1 : Int32)), .unset] [])) _
        refine XS.iconst X35.here hx rfl (hb hby at_145) ?_
        show Steps p.tables e below (T35.setTop (mkF m 146 #[.val (.long q1), .second, .val (.long q2), .second, .val (.int p3), .val (.long (16000000 : Int64)), .second, .val (.long aa), .second, .val (.long bb), .second, .val (.ref b16), .val (.int (1 : Int32)), .val (.int (1 : Int32)), .unset] [(.int (1 : Int32))])) _
        refine XS.goto X35.here hx rfl (pc0 := 146) (pc' := 150) rfl (hb hby at_146) (by decide) (by decide) ?_
        show Steps p.tables e below (T35.setTop (mkF m 150 #[.val (.long q1), .second, .val (.long q2), .second, .val (.int p3), .val (.long (16000000 : Int64)), .second, .val (.long aa), .second, .val (.long bb), .second, .val (.ref b16), .val (.int (1 : Int32)), .val (.int (1 : Int32)), .unset] [(.int (1 : Int32))])) _
        refine XS.istore X35.here hx rfl (hb hby at_150) rfl (l' := #[.val (.long q1), .second, .val (.long q2), .second, .val (.int p3), .val (.long (16000000 : Int64)), .second, .val (.long aa), .second, .val (.long bb), .second, .val (.ref b16), .val (.int (1 : Int32)), .val (.int (1 : Int32)), .val (.int (1 : Int32))]) rfl ?_
        show Steps p.tables e below (T35.setTop (mkF m 152 #[.val (.long q1), .second, .val (.long q2), .second, .val (.int p3), .val (.long (16000000 : Int64)), .second, .val (.long aa), .second, .val (.long bb), .second, .val (.ref b16), .val (.int (1 : Int32)), .val (.int (1 : Int32)), .val (.int (1 : Int32))] [])) _
        refine XS.iload X35.here hx rfl (hb hby at_152) rfl ?_
        show Steps p.tables e below (T35.setTop (mkF m 154 #[.val (.long q1), .second, .val (.long q2), .second, .val (.int p3), .val (.long (16000000 : Int64)), .second, .val (.long aa), .second, .val (.long bb), .second, .val (.ref b16), .val (.int (1 : Int32)), .val (.int (1 : Int32)), .val (.int (1 : Int32))] [(.int (1 : Int32))])) _
        refine XS.ifNo X35.here hx rfl (hb hby at_154) rfl ((if0 _ _).trans (feq (by decide : ¬ ((1 : Int32) = (0 : Int32)))).1) ?_
        show Steps p.tables e below (T35.setTop (mkF m 157 #[.val (.long q1), .second, .val (.long q2), .second, .val (.int p3), .val (.long (16000000 : Int64)), .second, .val (.long aa), .second, .val (.long bb), .second, .val (.ref b16), .val (.int (1 : Int32)), .val (.int (1 : Int32)), .val (.int (1 : Int32))] [])) _
        refine XS.iload X35.here hx rfl (hb hby at_157) rfl ?_
        show Steps p.tables e below (T35.setTop (mkF m 159 #[.val (.long q1), .second, .val (.long q2), .second, .val (.int p3), .val (.long (16000000 : Int64)), .second, .val (.long aa), .second, .val (.long bb), .second, .val (.ref b16), .val (.int (1 : Int32)), .val (.int (1 : Int32)), .val (.int (1 : Int32))] [(.int (1 : Int32))])) _
        refine XS.ifNo X35.here hx rfl (hb hby at_159) rfl ((if0 _ _).trans (feq (by decide : ¬ ((1 : Int32) = (0 : Int32)))).1) ?_
        show Steps p.tables e below (T35.setTop (mkF m 162 #[.val (.long q1), .second, .val (.long q2), .second, .val (.int p3), .val (.long (16000000 : Int64)), .second, .val (.long aa), .second, .val (.long bb), .second, .val (.ref b16), .val (.int (1 : Int32)), .val (.int (1 : Int32)), .val (.int (1 : Int32))] [])) _
        refine XS.iload X35.here hx rfl (hb hby at_162) rfl ?_
        show Steps p.tables e below (T35.setTop (mkF m 164 #[.val (.long q1), .second, .val (.long q2), .second, .val (.int p3), .val (.long (16000000 : Int64)), .second, .val (.long aa), .second, .val (.long bb), .second, .val (.ref b16), .val (.int (1 : Int32)), .val (.int (1 : Int32)), .val (.int (1 : Int32))] [(.int (1 : Int32))])) _
        refine XS.ifNo X35.here hx rfl (hb hby at_164) rfl ((if0 _ _).trans (feq (by decide : ¬ ((1 : Int32) = (0 : Int32)))).1) ?_
        show Steps p.tables e below (T35.setTop (mkF m 167 #[.val (.long q1), .second, .val (.long q2), .second, .val (.int p3), .val (.long (16000000 : Int64)), .second, .val (.long aa), .second, .val (.long bb), .second, .val (.ref b16), .val (.int (1 : Int32)), .val (.int (1 : Int32)), .val (.int (1 : Int32))] [])) _
        refine XS.iconst X35.here hx rfl (hb hby at_167) ?_
        show Steps p.tables e below (T35.setTop (mkF m 168 #[.val (.long q1), .second, .val (.long q2), .second, .val (.int p3), .val (.long (16000000 : Int64)), .second, .val (.long aa), .second, .val (.long bb), .second, .val (.ref b16), .val (.int (1 : Int32)), .val (.int (1 : Int32)), .val (.int (1 : Int32))] [(.int (1 : Int32))])) _
        refine XS.goto X35.here hx rfl (pc0 := 168) (pc' := 172) rfl (hb hby at_168) (by decide) (by decide) ?_
        show Steps p.tables e below (T35.setTop (mkF m 172 #[.val (.long q1), .second, .val (.long q2), .second, .val (.int p3), .val (.long (16000000 : Int64)), .second, .val (.long aa), .second, .val (.long bb), .second, .val (.ref b16), .val (.int (1 : Int32)), .val (.int (1 : Int32)), .val (.int (1 : Int32))] [(.int (1 : Int32))])) _
        exact k
      have le38 : h18.size ≤ T33.heap.size := (Nat.le_trans (Nat.le_trans (Nat.le_trans q19_0.1 q25_0.1) q30_0.1) q33_0.1)
      obtain ⟨fs, hr, hrun, hended, hW⟩ := X35.leaveW hS18 (show _ ≤ T35.heap.size by rw [q35_0]; exact (Nat.le_trans hk18 le38)) (v := some (.int (1 : Int32))) (fun h => by rw [Bd.returns] at h; cases h)
      refine ⟨_, _, ?_, hrun, hended, _, _, rfl, ?_, ⟨hW.1, hW.2.1, hW.2.2.1, hW.2.2.2.mono (by decide) (by decide)⟩⟩
      · exact retN X35 hx (t := .boolean) Bd.returns (by simp) (hb hby at_172) hr
      · show Q0 Z q1 q2 p3 h0 n0 _ T35.heap _
        rw [q35_0]
        exact ⟨rfl, N35⟩
    refine own_go (B := s₁.setTop (mkF m 33 #[.val (.long q1), .second, .val (.long q2), .second, .val (.int p3), .val (.long (16000000 : Int64)), .second, .val (.long aa), .second, .unset, .unset, .unset, .unset, .unset, .unset] [(.int (p3 &&& (1 : Int32)))])) (fun t k => ?_) ?_
    · show Steps p.tables e below (s₁.setTop (mkF m 29 #[.val (.long q1), .second, .val (.long q2), .second, .val (.int p3), .val (.long (16000000 : Int64)), .second, .val (.long aa), .second, .unset, .unset, .unset, .unset, .unset, .unset] [])) _
      refine XS.iload X0.here hx rfl (hb hby at_29) rfl ?_
      show Steps p.tables e below (s₁.setTop (mkF m 31 #[.val (.long q1), .second, .val (.long q2), .second, .val (.int p3), .val (.long (16000000 : Int64)), .second, .val (.long aa), .second, .unset, .unset, .unset, .unset, .unset, .unset] [(.int p3)])) _
      refine XS.iconst X0.here hx rfl (hb hby at_31) ?_
      show Steps p.tables e below (s₁.setTop (mkF m 32 #[.val (.long q1), .second, .val (.long q2), .second, .val (.int p3), .val (.long (16000000 : Int64)), .second, .val (.long aa), .second, .unset, .unset, .unset, .unset, .unset, .unset] [(.int (1 : Int32)), (.int p3)])) _
      refine XS.iand X0.here hx rfl (hb hby at_32) rfl ?_
      show Steps p.tables e below (s₁.setTop (mkF m 33 #[.val (.long q1), .second, .val (.long q2), .second, .val (.int p3), .val (.long (16000000 : Int64)), .second, .val (.long aa), .second, .unset, .unset, .unset, .unset, .unset, .unset] [(.int (p3 &&& (1 : Int32)))])) _
      exact k
    by_cases hc39 : (p3 &&& (1 : Int32)) = (0 : Int32)
    · refine own_go (B := s₁.setTop (mkF m 59 #[.val (.long q1), .second, .val (.long q2), .second, .val (.int p3), .val (.long (16000000 : Int64)), .second, .val (.long aa), .second, .val (.long ((q2 &&& (9223372036854775807 : Int64)) % (((16000000 : Int64) - aa) + (1 : Int64)))), .second, .unset, .unset, .unset, .unset] [])) (fun t k => ?_) ?_
      · show Steps p.tables e below (s₁.setTop (mkF m 33 #[.val (.long q1), .second, .val (.long q2), .second, .val (.int p3), .val (.long (16000000 : Int64)), .second, .val (.long aa), .second, .unset, .unset, .unset, .unset, .unset, .unset] [(.int (p3 &&& (1 : Int32)))])) _
        refine XS.ifYes X0.here hx rfl (pc0 := 33) (pc' := 44) rfl (hb hby at_33) rfl ((if0 _ _).trans (teq hc39).1) (by decide) (by decide) ?_
        show Steps p.tables e below (s₁.setTop (mkF m 44 #[.val (.long q1), .second, .val (.long q2), .second, .val (.int p3), .val (.long (16000000 : Int64)), .second, .val (.long aa), .second, .unset, .unset, .unset, .unset, .unset, .unset] [])) _
        refine XS.lloadN X0.here hx rfl (hb hby at_44) rfl ?_
        show Steps p.tables e below (s₁.setTop (mkF m 45 #[.val (.long q1), .second, .val (.long q2), .second, .val (.int p3), .val (.long (16000000 : Int64)), .second, .val (.long aa), .second, .unset, .unset, .unset, .unset, .unset, .unset] [(.long q2)])) _
        refine X0.ldc2Long hx hown (mvT hZ (hw _ (List.mem_of_getElem? (i := 1) rfl))) (g := (mkF m 45 #[.val (.long q1), .second, .val (.long q2), .second, .val (.int p3), .val (.long (16000000 : Int64)), .second, .val (.long aa), .second, .unset, .unset, .unset, .unset, .unset, .unset] [(.long q2)])) rfl (hb hby at_45) _ ?_
        show Steps p.tables e below (s₁.setTop (mkF m 48 #[.val (.long q1), .second, .val (.long q2), .second, .val (.int p3), .val (.long (16000000 : Int64)), .second, .val (.long aa), .second, .unset, .unset, .unset, .unset, .unset, .unset] [(.long (9223372036854775807 : Int64)), (.long q2)])) _
        refine XS.land X0.here hx rfl (hb hby at_48) rfl ?_
        show Steps p.tables e below (s₁.setTop (mkF m 49 #[.val (.long q1), .second, .val (.long q2), .second, .val (.int p3), .val (.long (16000000 : Int64)), .second, .val (.long aa), .second, .unset, .unset, .unset, .unset, .unset, .unset] [(.long (q2 &&& (9223372036854775807 : Int64)))])) _
        refine XS.lload X0.here hx rfl (hb hby at_49) rfl ?_
        show Steps p.tables e below (s₁.setTop (mkF m 51 #[.val (.long q1), .second, .val (.long q2), .second, .val (.int p3), .val (.long (16000000 : Int64)), .second, .val (.long aa), .second, .unset, .unset, .unset, .unset, .unset, .unset] [(.long (16000000 : Int64)), (.long (q2 &&& (9223372036854775807 : Int64)))])) _
        refine XS.lload X0.here hx rfl (hb hby at_51) rfl ?_
        show Steps p.tables e below (s₁.setTop (mkF m 53 #[.val (.long q1), .second, .val (.long q2), .second, .val (.int p3), .val (.long (16000000 : Int64)), .second, .val (.long aa), .second, .unset, .unset, .unset, .unset, .unset, .unset] [(.long aa), (.long (16000000 : Int64)), (.long (q2 &&& (9223372036854775807 : Int64)))])) _
        refine XS.lsub X0.here hx rfl (hb hby at_53) rfl ?_
        show Steps p.tables e below (s₁.setTop (mkF m 54 #[.val (.long q1), .second, .val (.long q2), .second, .val (.int p3), .val (.long (16000000 : Int64)), .second, .val (.long aa), .second, .unset, .unset, .unset, .unset, .unset, .unset] [(.long ((16000000 : Int64) - aa)), (.long (q2 &&& (9223372036854775807 : Int64)))])) _
        refine XS.lconst X0.here hx rfl (hb hby at_54) ?_
        show Steps p.tables e below (s₁.setTop (mkF m 55 #[.val (.long q1), .second, .val (.long q2), .second, .val (.int p3), .val (.long (16000000 : Int64)), .second, .val (.long aa), .second, .unset, .unset, .unset, .unset, .unset, .unset] [(.long (1 : Int64)), (.long ((16000000 : Int64) - aa)), (.long (q2 &&& (9223372036854775807 : Int64)))])) _
        refine XS.ladd X0.here hx rfl (hb hby at_55) rfl ?_
        show Steps p.tables e below (s₁.setTop (mkF m 56 #[.val (.long q1), .second, .val (.long q2), .second, .val (.int p3), .val (.long (16000000 : Int64)), .second, .val (.long aa), .second, .unset, .unset, .unset, .unset, .unset, .unset] [(.long (((16000000 : Int64) - aa) + (1 : Int64))), (.long (q2 &&& (9223372036854775807 : Int64)))])) _
        refine own_lrem X0.here hx rfl (hb hby at_56) rfl (own_bz aa hca) ?_
        show Steps p.tables e below (s₁.setTop (mkF m 57 #[.val (.long q1), .second, .val (.long q2), .second, .val (.int p3), .val (.long (16000000 : Int64)), .second, .val (.long aa), .second, .unset, .unset, .unset, .unset, .unset, .unset] [(.long ((q2 &&& (9223372036854775807 : Int64)) % (((16000000 : Int64) - aa) + (1 : Int64))))])) _
        refine XS.lstore X0.here hx rfl (hb hby at_57) rfl (l' := #[.val (.long q1), .second, .val (.long q2), .second, .val (.int p3), .val (.long (16000000 : Int64)), .second, .val (.long aa), .second, .val (.long ((q2 &&& (9223372036854775807 : Int64)) % (((16000000 : Int64) - aa) + (1 : Int64)))), .second, .unset, .unset, .unset, .unset]) rfl ?_
        show Steps p.tables e below (s₁.setTop (mkF m 59 #[.val (.long q1), .second, .val (.long q2), .second, .val (.int p3), .val (.long (16000000 : Int64)), .second, .val (.long aa), .second, .val (.long ((q2 &&& (9223372036854775807 : Int64)) % (((16000000 : Int64) - aa) + (1 : Int64)))), .second, .unset, .unset, .unset, .unset] [])) _
        exact k
      exact tailB ((q2 &&& (9223372036854775807 : Int64)) % (((16000000 : Int64) - aa) + (1 : Int64))) (own_b aa q2 hca)
    · refine own_go (B := s₁.setTop (mkF m 59 #[.val (.long q1), .second, .val (.long q2), .second, .val (.int p3), .val (.long (16000000 : Int64)), .second, .val (.long aa), .second, .val (.long ((16000000 : Int64) - aa)), .second, .unset, .unset, .unset, .unset] [])) (fun t k => ?_) ?_
      · show Steps p.tables e below (s₁.setTop (mkF m 33 #[.val (.long q1), .second, .val (.long q2), .second, .val (.int p3), .val (.long (16000000 : Int64)), .second, .val (.long aa), .second, .unset, .unset, .unset, .unset, .unset, .unset] [(.int (p3 &&& (1 : Int32)))])) _
        refine XS.ifNo X0.here hx rfl (hb hby at_33) rfl ((if0 _ _).trans (feq hc39).1) ?_
        show Steps p.tables e below (s₁.setTop (mkF m 36 #[.val (.long q1), .second, .val (.long q2), .second, .val (.int p3), .val (.long (16000000 : Int64)), .second, .val (.long aa), .second, .unset, .unset, .unset, .unset, .unset, .unset] [])) _
        refine XS.lload X0.here hx rfl (hb hby at_36) rfl ?_
        show Steps p.tables e below (s₁.setTop (mkF m 38 #[.val (.long q1), .second, .val (.long q2), .second, .val (.int p3), .val (.long (16000000 : Int64)), .second, .val (.long aa), .second, .unset, .unset, .unset, .unset, .unset, .unset] [(.long (16000000 : Int64))])) _
        refine XS.lload X0.here hx rfl (hb hby at_38) rfl ?_
        show Steps p.tables e below (s₁.setTop (mkF m 40 #[.val (.long q1), .second, .val (.long q2), .second, .val (.int p3), .val (.long (16000000 : Int64)), .second, .val (.long aa), .second, .unset, .unset, .unset, .unset, .unset, .unset] [(.long aa), (.long (16000000 : Int64))])) _
        refine XS.lsub X0.here hx rfl (hb hby at_40) rfl ?_
        show Steps p.tables e below (s₁.setTop (mkF m 41 #[.val (.long q1), .second, .val (.long q2), .second, .val (.int p3), .val (.long (16000000 : Int64)), .second, .val (.long aa), .second, .unset, .unset, .unset, .unset, .unset, .unset] [(.long ((16000000 : Int64) - aa))])) _
        refine XS.goto X0.here hx rfl (pc0 := 41) (pc' := 57) rfl (hb hby at_41) (by decide) (by decide) ?_
        show Steps p.tables e below (s₁.setTop (mkF m 57 #[.val (.long q1), .second, .val (.long q2), .second, .val (.int p3), .val (.long (16000000 : Int64)), .second, .val (.long aa), .second, .unset, .unset, .unset, .unset, .unset, .unset] [(.long ((16000000 : Int64) - aa))])) _
        refine XS.lstore X0.here hx rfl (hb hby at_57) rfl (l' := #[.val (.long q1), .second, .val (.long q2), .second, .val (.int p3), .val (.long (16000000 : Int64)), .second, .val (.long aa), .second, .val (.long ((16000000 : Int64) - aa)), .second, .unset, .unset, .unset, .unset]) rfl ?_
        show Steps p.tables e below (s₁.setTop (mkF m 59 #[.val (.long q1), .second, .val (.long q2), .second, .val (.int p3), .val (.long (16000000 : Int64)), .second, .val (.long aa), .second, .val (.long ((16000000 : Int64) - aa)), .second, .unset, .unset, .unset, .unset] [])) _
        exact k
      exact tailB ((16000000 : Int64) - aa) (own_b2 aa hca)
  refine own_go (B := s₁.setTop (mkF m 9 #[.val (.long q1), .second, .val (.long q2), .second, .val (.int p3), .val (.long (16000000 : Int64)), .second, .unset, .unset, .unset, .unset, .unset, .unset, .unset, .unset] [(.int (p3 &&& (2 : Int32)))])) (fun t k => ?_) ?_
  · show Steps p.tables e below (s₁.setTop (mkF m 5 #[.val (.long q1), .second, .val (.long q2), .second, .val (.int p3), .val (.long (16000000 : Int64)), .second, .unset, .unset, .unset, .unset, .unset, .unset, .unset, .unset] [])) _
    refine XS.iload X0.here hx rfl (hb hby at_5) rfl ?_
    show Steps p.tables e below (s₁.setTop (mkF m 7 #[.val (.long q1), .second, .val (.long q2), .second, .val (.int p3), .val (.long (16000000 : Int64)), .second, .unset, .unset, .unset, .unset, .unset, .unset, .unset, .unset] [(.int p3)])) _
    refine XS.iconst X0.here hx rfl (hb hby at_7) ?_
    show Steps p.tables e below (s₁.setTop (mkF m 8 #[.val (.long q1), .second, .val (.long q2), .second, .val (.int p3), .val (.long (16000000 : Int64)), .second, .unset, .unset, .unset, .unset, .unset, .unset, .unset, .unset] [(.int (2 : Int32)), (.int p3)])) _
    refine XS.iand X0.here hx rfl (hb hby at_8) rfl ?_
    show Steps p.tables e below (s₁.setTop (mkF m 9 #[.val (.long q1), .second, .val (.long q2), .second, .val (.int p3), .val (.long (16000000 : Int64)), .second, .unset, .unset, .unset, .unset, .unset, .unset, .unset, .unset] [(.int (p3 &&& (2 : Int32)))])) _
    exact k
  by_cases hc40 : (p3 &&& (2 : Int32)) = (0 : Int32)
  · refine own_go (B := s₁.setTop (mkF m 29 #[.val (.long q1), .second, .val (.long q2), .second, .val (.int p3), .val (.long (16000000 : Int64)), .second, .val (.long ((q1 &&& (9223372036854775807 : Int64)) % (16000001 : Int64))), .second, .unset, .unset, .unset, .unset, .unset, .unset] [])) (fun t k => ?_) ?_
    · show Steps p.tables e below (s₁.setTop (mkF m 9 #[.val (.long q1), .second, .val (.long q2), .second, .val (.int p3), .val (.long (16000000 : Int64)), .second, .unset, .unset, .unset, .unset, .unset, .unset, .unset, .unset] [(.int (p3 &&& (2 : Int32)))])) _
      refine XS.ifYes X0.here hx rfl (pc0 := 9) (pc' := 17) rfl (hb hby at_9) rfl ((if0 _ _).trans (teq hc40).1) (by decide) (by decide) ?_
      show Steps p.tables e below (s₁.setTop (mkF m 17 #[.val (.long q1), .second, .val (.long q2), .second, .val (.int p3), .val (.long (16000000 : Int64)), .second, .unset, .unset, .unset, .unset, .unset, .unset, .unset, .unset] [])) _
      refine XS.lloadN X0.here hx rfl (hb hby at_17) rfl ?_
      show Steps p.tables e below (s₁.setTop (mkF m 18 #[.val (.long q1), .second, .val (.long q2), .second, .val (.int p3), .val (.long (16000000 : Int64)), .second, .unset, .unset, .unset, .unset, .unset, .unset, .unset, .unset] [(.long q1)])) _
      refine X0.ldc2Long hx hown (mvT hZ (hw _ (List.mem_of_getElem? (i := 1) rfl))) (g := (mkF m 18 #[.val (.long q1), .second, .val (.long q2), .second, .val (.int p3), .val (.long (16000000 : Int64)), .second, .unset, .unset, .unset, .unset, .unset, .unset, .unset, .unset] [(.long q1)])) rfl (hb hby at_18) _ ?_
      show Steps p.tables e below (s₁.setTop (mkF m 21 #[.val (.long q1), .second, .val (.long q2), .second, .val (.int p3), .val (.long (16000000 : Int64)), .second, .unset, .unset, .unset, .unset, .unset, .unset, .unset, .unset] [(.long (9223372036854775807 : Int64)), (.long q1)])) _
      refine XS.land X0.here hx rfl (hb hby at_21) rfl ?_
      show Steps p.tables e below (s₁.setTop (mkF m 22 #[.val (.long q1), .second, .val (.long q2), .second, .val (.int p3), .val (.long (16000000 : Int64)), .second, .unset, .unset, .unset, .unset, .unset, .unset, .unset, .unset] [(.long (q1 &&& (9223372036854775807 : Int64)))])) _
      refine XS.lload X0.here hx rfl (hb hby at_22) rfl ?_
      show Steps p.tables e below (s₁.setTop (mkF m 24 #[.val (.long q1), .second, .val (.long q2), .second, .val (.int p3), .val (.long (16000000 : Int64)), .second, .unset, .unset, .unset, .unset, .unset, .unset, .unset, .unset] [(.long (16000000 : Int64)), (.long (q1 &&& (9223372036854775807 : Int64)))])) _
      refine XS.lconst X0.here hx rfl (hb hby at_24) ?_
      show Steps p.tables e below (s₁.setTop (mkF m 25 #[.val (.long q1), .second, .val (.long q2), .second, .val (.int p3), .val (.long (16000000 : Int64)), .second, .unset, .unset, .unset, .unset, .unset, .unset, .unset, .unset] [(.long (1 : Int64)), (.long (16000000 : Int64)), (.long (q1 &&& (9223372036854775807 : Int64)))])) _
      refine XS.ladd X0.here hx rfl (hb hby at_25) rfl ?_
      show Steps p.tables e below (s₁.setTop (mkF m 26 #[.val (.long q1), .second, .val (.long q2), .second, .val (.int p3), .val (.long (16000000 : Int64)), .second, .unset, .unset, .unset, .unset, .unset, .unset, .unset, .unset] [(.long (16000001 : Int64)), (.long (q1 &&& (9223372036854775807 : Int64)))])) _
      refine own_lrem X0.here hx rfl (hb hby at_26) rfl (by decide) ?_
      show Steps p.tables e below (s₁.setTop (mkF m 27 #[.val (.long q1), .second, .val (.long q2), .second, .val (.int p3), .val (.long (16000000 : Int64)), .second, .unset, .unset, .unset, .unset, .unset, .unset, .unset, .unset] [(.long ((q1 &&& (9223372036854775807 : Int64)) % (16000001 : Int64)))])) _
      refine XS.lstore X0.here hx rfl (hb hby at_27) rfl (l' := #[.val (.long q1), .second, .val (.long q2), .second, .val (.int p3), .val (.long (16000000 : Int64)), .second, .val (.long ((q1 &&& (9223372036854775807 : Int64)) % (16000001 : Int64))), .second, .unset, .unset, .unset, .unset, .unset, .unset]) rfl ?_
      show Steps p.tables e below (s₁.setTop (mkF m 29 #[.val (.long q1), .second, .val (.long q2), .second, .val (.int p3), .val (.long (16000000 : Int64)), .second, .val (.long ((q1 &&& (9223372036854775807 : Int64)) % (16000001 : Int64))), .second, .unset, .unset, .unset, .unset, .unset, .unset] [])) _
      exact k
    exact tailA ((q1 &&& (9223372036854775807 : Int64)) % (16000001 : Int64)) (own_a q1)
  · refine own_go (B := s₁.setTop (mkF m 29 #[.val (.long q1), .second, .val (.long q2), .second, .val (.int p3), .val (.long (16000000 : Int64)), .second, .val (.long (16000000 : Int64)), .second, .unset, .unset, .unset, .unset, .unset, .unset] [])) (fun t k => ?_) ?_
    · show Steps p.tables e below (s₁.setTop (mkF m 9 #[.val (.long q1), .second, .val (.long q2), .second, .val (.int p3), .val (.long (16000000 : Int64)), .second, .unset, .unset, .unset, .unset, .unset, .unset, .unset, .unset] [(.int (p3 &&& (2 : Int32)))])) _
      refine XS.ifNo X0.here hx rfl (hb hby at_9) rfl ((if0 _ _).trans (feq hc40).1) ?_
      show Steps p.tables e below (s₁.setTop (mkF m 12 #[.val (.long q1), .second, .val (.long q2), .second, .val (.int p3), .val (.long (16000000 : Int64)), .second, .unset, .unset, .unset, .unset, .unset, .unset, .unset, .unset] [])) _
      refine XS.lload X0.here hx rfl (hb hby at_12) rfl ?_
      show Steps p.tables e below (s₁.setTop (mkF m 14 #[.val (.long q1), .second, .val (.long q2), .second, .val (.int p3), .val (.long (16000000 : Int64)), .second, .unset, .unset, .unset, .unset, .unset, .unset, .unset, .unset] [(.long (16000000 : Int64))])) _
      refine XS.goto X0.here hx rfl (pc0 := 14) (pc' := 27) rfl (hb hby at_14) (by decide) (by decide) ?_
      show Steps p.tables e below (s₁.setTop (mkF m 27 #[.val (.long q1), .second, .val (.long q2), .second, .val (.int p3), .val (.long (16000000 : Int64)), .second, .unset, .unset, .unset, .unset, .unset, .unset, .unset, .unset] [(.long (16000000 : Int64))])) _
      refine XS.lstore X0.here hx rfl (hb hby at_27) rfl (l' := #[.val (.long q1), .second, .val (.long q2), .second, .val (.int p3), .val (.long (16000000 : Int64)), .second, .val (.long (16000000 : Int64)), .second, .unset, .unset, .unset, .unset, .unset, .unset]) rfl ?_
      show Steps p.tables e below (s₁.setTop (mkF m 29 #[.val (.long q1), .second, .val (.long q2), .second, .val (.int p3), .val (.long (16000000 : Int64)), .second, .val (.long (16000000 : Int64)), .second, .unset, .unset, .unset, .unset, .unset, .unset] [])) _
      exact k
    exact tailA (16000000 : Int64) (⟨by decide, by decide⟩)
set_option maxRecDepth 65536 in
set_option maxHeartbeats 40000000 in
theorem comes_1 {Post : Tables → Env → Array Value → State → Outcome → State → Prop} (hpost : ∀ tb e args s v u, (limb_1_1.after args s (.returned v) u = true ∧ limb_1_2.after args s (.returned v) u = true ∧ True) → ReturnedEndW s (.returned v) u (Jvm.fieldLocs frame_1_writes args s ++ Jvm.arrayLocs frame_1_arrays args s ++ Jvm.staticLocs frame_1_statics s) 16 2176 → Post tb e args s (.returned v) u) :
    ArmFor flags0 classFile x code maxLocals ret World_1 tables_1 room_1 Calls_1 rest_1 Pre_1 Post := by
  intro l hfl _ _ p e ha hc hk s m args below hf hA hF happ hP
  obtain ⟨hcalls, hrest, hpre⟩ := hP
  obtain ⟨-, -, -, hnamed, -, -, -, hat⟩ := (Spec.applies_iff hf).mp happ
  obtain ⟨hg, hn⟩ := and_e (Cond.before_iff.mp (show (Jvm.Cond.and given_1 narrow_1).before args s = true from hpre))
  obtain ⟨g0, hg0⟩ := and_e hg
  obtain ⟨g1, hg1⟩ := and_e hg0
  obtain ⟨g2, hg2⟩ := and_e hg1
  obtain ⟨w0, w1, w2, rfl⟩ : ∃ w0 w1 w2 : Value, args = #[w0, w1, w2] := by
    have hs : args.size = 3 := by simpa [Cond.value, given_1] using g0
    obtain ⟨L⟩ := args
    match L, hs with
    | [w0, w1, w2], _ => exact ⟨w0, w1, w2, rfl⟩
  have hw := fun d (hd : d ∈ tables_1) => atoms_spec (ws := Jvm.Cond.code x code maxLocals ret :: tables_1) hat d (List.mem_cons_of_mem _ hd)
  obtain ⟨i0, ei0⟩ := isL_v g1
  obtain rfl : w0 = (.long i0) := Option.some.inj ei0
  obtain ⟨i1, ei1⟩ := isL_v g2
  obtain rfl : w1 = (.long i1) := Option.some.inj ei1
  obtain ⟨i2, ei2⟩ := is_v hg2
  obtain rfl : w2 = (.int i2) := Option.some.inj ei2
  obtain ⟨n, o, h1, h2, h3, _, L, rfl, ⟨rfl, N⟩, hq⟩ := rm0 l s _ hw tables_1 i0 i1 i2 s.heap s.heap.size (Nat.le_refl _)  p e ha hc hk s m _ below hf ((Spec.applies_iff_loose hf).mp happ).1 ⟨rfl, State.Warmed39.refl s, rfl⟩ trivial
  refine ⟨n, _, h1, h2, h3, hpost _ _ _ _ _ _ ⟨Cond.after_iff.mpr rfl, Cond.after_iff.mpr (eq_i res_at (Term.int_eval (1)) rfl), trivial⟩ ⟨hq.1, hq.2.1, hq.2.2.1, (hq.2.2.2.sift fun y hy => Or.inr (N y hy)).mono (by decide) (by decide)⟩⟩
theorem main_1_1 : Claimed_1_1 := comes_1 fun _ _ _ _ _ _ h hF => ⟨h.1, hF⟩
theorem main_1_2 : Claimed_1_2 := comes_1 fun _ _ _ _ _ _ h hF => ⟨h.2.1, hF⟩
end Jvm.Pilot.@@N@@
namespace Jvm.Pilot.@@N@@
open Jvm Jvm.ClassFile Sem Op Lib Jvm.Free Jvm.Stand Jvm.Pilot.@@N@@.Jvm.D
/-! MADE BY PROGRAM (witnessworld.py) out of the Statement's table words and the real class files: 14 classes; the members and pool entries that the words name. The judged class is class 1, her method 1. -/
namespace start1
open Jvm.ClassFile
def u (s : String) : CpInfo := .utf8 (stringToUtf16 s)
/-- a pool by its gaps: so many unusable entries, then the entry; so many at the end -/
def gap : Nat → List CpInfo → List CpInfo
  | 0, r => r
  | n + 1, r => .unusable :: gap n r
def poolList (es : List (Nat × CpInfo)) (last : Nat) : List CpInfo := es.foldr (fun e r => gap e.1 (e.2 :: r)) (gap last [])
def pool (es : List (Nat × CpInfo)) (last : Nat) : Array CpInfo := ⟨poolList es last⟩
def fileOf (pool : Array CpInfo) (this : Nat) (attrs : Array Attribute := #[]) (ms : Array MethodInfo := #[]) (fl : Nat := 33) (sup : Nat := 0) (ifs : Array Nat := #[]) (fds : Array FieldInfo := #[]) : ClassFile where
  minorVersion := 0
  majorVersion := 65
  constantPool := pool
  accessFlags := fl
  thisClass := this
  superClass := sup
  interfaces := ifs
  fields := fds
  methods := ms
  attributes := attrs
def plain (name : String) (sup : Option ClassId) : Class where
  name := name
  kind := .ordinary
  loader := none
  accessFlags := 33
  super := sup
  interfaces := #[]
  cf := none
  fields := #[]
  methods := #[]
  instanceTypes := #[]
  staticTypes := #[]
  resolved := #[]
  callSites := []
  init := .initialized
  statics := none
  mirror := none

def pool0 : Array CpInfo := pool [(5, u "<init>"), (0, u "()V"), (1, .class_ 10), (1, u "java/lang/Object")] 113

def k0c0 : Code := { maxStack := 0, maxLocals := 1, code := object_method_1_code, exceptionTable := #[], attributes := #[] }
def k0m0 : Method := { name := "<init>", desc := "()V", sig := { parameters := [], returnType := none }, accessFlags := 1, code := some k0c0 }
/-- java/lang/Object -/
def k0 : Class := { plain "java/lang/Object" none with
  accessFlags := 33
  interfaces := #[]
  cf := some (fileOf pool0 8 #[] #[{ accessFlags := 1, nameIndex := 5, descriptorIndex := 6, attributes := #[] }] 33 0 #[] #[])
  fields := #[]
  methods := #[k0m0]
  instanceTypes := #[]
  staticTypes := #[]
  resolved := Array.replicate 124 none
  statics := none }

def pool1 : Array CpInfo := pool [(2, .class_ 4), (1, u "java/lang/Object"), (0, u "<init>"), (0, u "()V"), (0, .class_ 8), (0, u "tributary/CharacterBound"), (0, .long 16000000), (3, .long 9223372036854775807), (1, .string 16), (0, u "its IRIs and literals"), (0, .string 18), (0, u "one page"), (0, .methodref 7 20), (0, .nameAndType 5 21), (0, u "(Ljava/lang/String;Ljava/lang/String;)V"), (0, .methodref 7 23), (0, .nameAndType 24 25), (0, u "count"), (0, u "(J)V"), (0, .methodref 7 27), (0, .nameAndType 28 29), (0, u "counted"), (0, u "()J"), (0, .class_ 31), (0, u "tributary/CharacterBoundCountPinLaw"), (2, u "law"), (0, u "(JJI)Z")] 6

def k1m0 : Method := { name := "<init>", desc := "()V", sig := { parameters := [], returnType := none }, accessFlags := 1, code := none }
def k1c1 : Code := { maxStack := 6, maxLocals := 15, code := code, exceptionTable := #[], attributes := #[] }
def k1m1 : Method := { name := "law", desc := "(JJI)Z", sig := { parameters := [.long, .long, .int], returnType := some .boolean }, accessFlags := 9, code := some k1c1 }
/-- tributary/CharacterBoundCountPinLaw -/
def k1 : Class := { plain "tributary/CharacterBoundCountPinLaw" (some 0) with
  accessFlags := 49
  interfaces := #[]
  cf := some (fileOf pool1 30 #[] #[{ accessFlags := 1, nameIndex := 5, descriptorIndex := 6, attributes := #[] }, { accessFlags := 9, nameIndex := 34, descriptorIndex := 35, attributes := #[] }] 49 2 #[] #[])
  fields := #[]
  methods := #[k1m0, k1m1]
  instanceTypes := #[]
  staticTypes := #[]
  resolved := Array.replicate 42 none
  statics := none }

def pool2 : Array CpInfo := pool [(4, .class_ 6), (1, u "tributary/CharacterBound"), (0, u "<init>"), (0, u "(Ljava/lang/String;Ljava/lang/String;)V"), (0, .methodref 10 11), (0, .class_ 12), (0, .nameAndType 7 13), (0, u "java/lang/Object"), (0, u "()V"), (0, .fieldref 4 15), (0, .nameAndType 16 17), (0, u "countedIn"), (0, u "Ljava/lang/String;"), (0, .fieldref 4 19), (0, .nameAndType 20 17), (0, u "limitOf"), (0, .fieldref 4 22), (0, .nameAndType 23 24), (0, u "counted"), (0, u "J"), (0, .long 16000000), (10, u "MAX"), (3, u "count"), (0, u "(J)V"), (2, u "()J")] 18

def k2c0 : Code := { maxStack := 2, maxLocals := 3, code := prog_3_method_2_code, exceptionTable := #[], attributes := #[] }
def k2m0 : Method := { name := "<init>", desc := "(Ljava/lang/String;Ljava/lang/String;)V", sig := { parameters := [(.object "java/lang/String"), (.object "java/lang/String")], returnType := none }, accessFlags := 0, code := some k2c0 }
def k2c1 : Code := { maxStack := 5, maxLocals := 3, code := prog_3_method_3_code, exceptionTable := #[], attributes := #[] }
def k2m1 : Method := { name := "count", desc := "(J)V", sig := { parameters := [.long], returnType := none }, accessFlags := 0, code := some k2c1 }
def k2c2 : Code := { maxStack := 2, maxLocals := 1, code := prog_3_method_4_code, exceptionTable := #[], attributes := #[] }
def k2m2 : Method := { name := "counted", desc := "()J", sig := { parameters := [], returnType := some .long }, accessFlags := 0, code := some k2c2 }
/-- tributary/CharacterBound -/
def k2 : Class := { plain "tributary/CharacterBound" (some 0) with
  accessFlags := 48
  interfaces := #[]
  cf := some (fileOf pool2 4 #[] #[{ accessFlags := 0, nameIndex := 7, descriptorIndex := 8, attributes := #[] }, { accessFlags := 0, nameIndex := 40, descriptorIndex := 41, attributes := #[] }, { accessFlags := 0, nameIndex := 23, descriptorIndex := 44, attributes := #[] }] 48 10 #[] #[{ accessFlags := 24, nameIndex := 36, descriptorIndex := 24, attributes := #[] }, { accessFlags := 18, nameIndex := 16, descriptorIndex := 17, attributes := #[] }, { accessFlags := 18, nameIndex := 20, descriptorIndex := 17, attributes := #[] }, { accessFlags := 2, nameIndex := 23, descriptorIndex := 24, attributes := #[] }])
  fields := #[{ name := "MAX", type := .long, accessFlags := 24, slot := 0, constantValue := 0 }, { name := "countedIn", type := (.object "java/lang/String"), accessFlags := 18, slot := 0, constantValue := 0 }, { name := "limitOf", type := (.object "java/lang/String"), accessFlags := 18, slot := 1, constantValue := 0 }, { name := "counted", type := .long, accessFlags := 2, slot := 2, constantValue := 0 }]
  methods := #[k2m0, k2m1, k2m2]
  instanceTypes := #[(.object "java/lang/String"), (.object "java/lang/String"), .long]
  staticTypes := #[.long]
  resolved := Array.replicate 63 none
  statics := none }

def pool3 : Array CpInfo := pool [(1, .class_ 2), (0, u "java/io/Serializable"), (0, .class_ 4), (0, u "java/lang/Object")] 2

/-- java/io/Serializable -/
def k3 : Class := { plain "java/io/Serializable" (some 0) with
  accessFlags := 1537
  interfaces := #[]
  cf := some (fileOf pool3 1 #[] #[] 1537 3 #[] #[])
  fields := #[]
  methods := #[]
  instanceTypes := #[]
  staticTypes := #[]
  resolved := Array.replicate 7 none
  statics := none }

def pool4 : Array CpInfo := pool [(1, .class_ 2), (0, u "java/lang/Comparable"), (0, .class_ 4), (0, u "java/lang/Object")] 7

/-- java/lang/Comparable -/
def k4 : Class := { plain "java/lang/Comparable" (some 0) with
  accessFlags := 1537
  interfaces := #[]
  cf := some (fileOf pool4 1 #[] #[] 1537 3 #[] #[])
  fields := #[]
  methods := #[]
  instanceTypes := #[]
  staticTypes := #[]
  resolved := Array.replicate 12 none
  statics := none }

def pool5 : Array CpInfo := pool [(2, .class_ 4), (1, u "java/lang/CharSequence"), (42, .class_ 48), (0, u "java/lang/CharSequence$1CodePointIterator"), (10, .class_ 60), (0, u "java/lang/CharSequence$1CharIterator"), (5, .class_ 67), (0, u "java/lang/Object")] 63

/-- java/lang/CharSequence -/
def k5 : Class := { plain "java/lang/CharSequence" (some 0) with
  accessFlags := 1537
  interfaces := #[]
  cf := some (fileOf pool5 2 #[.nestMembers #[47, 59]] #[] 1537 66 #[] #[])
  fields := #[]
  methods := #[]
  instanceTypes := #[]
  staticTypes := #[]
  resolved := Array.replicate 131 none
  statics := none }

def pool6 : Array CpInfo := pool [(1, .class_ 2), (0, u "java/lang/constant/Constable"), (0, .class_ 4), (0, u "java/lang/Object")] 6

/-- java/lang/constant/Constable -/
def k6 : Class := { plain "java/lang/constant/Constable" (some 0) with
  accessFlags := 1537
  interfaces := #[]
  cf := some (fileOf pool6 1 #[] #[] 1537 3 #[] #[])
  fields := #[]
  methods := #[]
  instanceTypes := #[]
  staticTypes := #[]
  resolved := Array.replicate 11 none
  statics := none }

def pool7 : Array CpInfo := pool [(1, .class_ 2), (0, u "java/lang/constant/ConstantDesc"), (0, .class_ 4), (0, u "java/lang/Object")] 32

/-- java/lang/constant/ConstantDesc -/
def k7 : Class := { plain "java/lang/constant/ConstantDesc" (some 0) with
  accessFlags := 1537
  interfaces := #[]
  cf := some (fileOf pool7 1 #[] #[] 1537 3 #[] #[])
  fields := #[]
  methods := #[]
  instanceTypes := #[]
  staticTypes := #[]
  resolved := Array.replicate 37 none
  statics := none }

def pool8 : Array CpInfo := pool [(2, .class_ 4), (1, u "java/lang/Object"), (0, u "<init>"), (0, u "()V"), (3, .class_ 12), (1, u "java/lang/String"), (0, u "value"), (0, u "[B"), (2, u "coder"), (0, u "B"), (2, u "hash"), (0, u "I"), (2, u "hashIsZero"), (0, u "Z"), (13, u "COMPACT_STRINGS"), (534, .class_ 576), (0, u "java/lang/CharSequence"), (22, u "CASE_INSENSITIVE_ORDER"), (0, u "Ljava/util/Comparator;"), (500, u "serialPersistentFields"), (0, u "[Ljava/io/ObjectStreamField;"), (0, .class_ 1104), (0, u "java/lang/String$CaseInsensitiveComparator"), (1, .class_ 1107), (0, u "java/io/Serializable"), (0, .class_ 1109), (0, u "java/lang/Comparable"), (0, .class_ 1111), (0, u "java/lang/constant/Constable"), (0, .class_ 1113), (0, u "java/lang/constant/ConstantDesc"), (2, u "serialVersionUID"), (0, u "J"), (3, u "REPL"), (0, u "C"), (2, u "LATIN1"), (1, u "UTF16")] 323

def k8m0 : Method := { name := "<init>", desc := "()V", sig := { parameters := [], returnType := none }, accessFlags := 1, code := none }
/-- java/lang/String -/
def k8 : Class := { plain "java/lang/String" (some 0) with
  accessFlags := 49
  interfaces := #[3, 4, 5, 6, 7]
  cf := some (fileOf pool8 10 #[.nestMembers #[1103]] #[{ accessFlags := 1, nameIndex := 5, descriptorIndex := 6, attributes := #[] }] 49 2 #[1106, 1108, 575, 1110, 1112] #[{ accessFlags := 18, nameIndex := 13, descriptorIndex := 14, attributes := #[] }, { accessFlags := 18, nameIndex := 17, descriptorIndex := 18, attributes := #[] }, { accessFlags := 2, nameIndex := 21, descriptorIndex := 22, attributes := #[] }, { accessFlags := 2, nameIndex := 25, descriptorIndex := 26, attributes := #[] }, { accessFlags := 26, nameIndex := 1116, descriptorIndex := 1117, attributes := #[] }, { accessFlags := 24, nameIndex := 40, descriptorIndex := 26, attributes := #[] }, { accessFlags := 26, nameIndex := 1101, descriptorIndex := 1102, attributes := #[] }, { accessFlags := 26, nameIndex := 1121, descriptorIndex := 1122, attributes := #[] }, { accessFlags := 25, nameIndex := 599, descriptorIndex := 600, attributes := #[] }, { accessFlags := 24, nameIndex := 1125, descriptorIndex := 18, attributes := #[] }, { accessFlags := 24, nameIndex := 1127, descriptorIndex := 18, attributes := #[] }])
  fields := #[{ name := "value", type := (.array .byte), accessFlags := 18, slot := 0, constantValue := 0 }, { name := "coder", type := .byte, accessFlags := 18, slot := 1, constantValue := 0 }, { name := "hash", type := .int, accessFlags := 2, slot := 2, constantValue := 0 }, { name := "hashIsZero", type := .boolean, accessFlags := 2, slot := 3, constantValue := 0 }, { name := "serialVersionUID", type := .long, accessFlags := 26, slot := 0, constantValue := 0 }, { name := "COMPACT_STRINGS", type := .boolean, accessFlags := 24, slot := 1, constantValue := 0 }, { name := "serialPersistentFields", type := (.array (.object "java/io/ObjectStreamField")), accessFlags := 26, slot := 2, constantValue := 0 }, { name := "REPL", type := .char, accessFlags := 26, slot := 3, constantValue := 0 }, { name := "CASE_INSENSITIVE_ORDER", type := (.object "java/util/Comparator"), accessFlags := 25, slot := 4, constantValue := 0 }, { name := "LATIN1", type := .byte, accessFlags := 24, slot := 5, constantValue := 0 }, { name := "UTF16", type := .byte, accessFlags := 24, slot := 6, constantValue := 0 }]
  methods := #[k8m0]
  instanceTypes := #[(.array .byte), .byte, .int, .boolean]
  staticTypes := #[.long, .boolean, (.array (.object "java/io/ObjectStreamField")), .char, (.object "java/util/Comparator"), .byte, .byte]
  resolved := Array.replicate 1451 none
  statics := none }

def pool9 : Array CpInfo := pool [(1, u "java/lang/Cloneable"), (0, .class_ 1), (0, u "java/lang/Object"), (0, .class_ 3)] 3

/-- java/lang/Cloneable -/
def k9 : Class := { plain "java/lang/Cloneable" (some 0) with
  accessFlags := 1537
  interfaces := #[]
  cf := some (fileOf pool9 2 #[] #[] 1537 4 #[] #[])
  fields := #[]
  methods := #[]
  instanceTypes := #[]
  staticTypes := #[]
  resolved := Array.replicate 8 none
  statics := none }

/-- the primitive byte -/
def k10 : Class := { plain "byte" none with kind := .primitive 'B', accessFlags := 0x411 }
/-- [B -/
def k11 : Class := { plain "[B" (some 0) with kind := .array 10 .byte, interfaces := #[9, 3], accessFlags := 1041 }

/-- the primitive int -/
def k12 : Class := { plain "int" none with kind := .primitive 'I', accessFlags := 0x411 }
/-- [I -/
def k13 : Class := { plain "[I" (some 0) with kind := .array 12 .int, interfaces := #[9, 3], accessFlags := 1041 }

def heap : Heap := #[]
def classes : Array Class := #[k0, k1, k2, k3, k4, k5, k6, k7, k8, k9, k10, k11, k12, k13]
def interned : List (Array UInt16 × Addr) := []
def slotsUsed : Nat := 0
def theMethod : MethodId := ⟨1, 1⟩
def args0 : Array Value := #[.long 5, .long 7, .int 0]
def aboutOver (below : List Frame) : State where
  vm := { classes := classes, interned := interned.toArray }
  heap := heap
  slotsUsed := slotsUsed
  threads := #[{ frames := .invoking theMethod args0 :: below }]
def below0 : List Frame := [.native { method := ⟨0, 0⟩, args := #[] }]
def about1 : State := aboutOver below0
def p0 : Program := .bare "" "" ""
def e0 : Env := launch0.env 0 0 0
theorem w_frames : about1.frames = Frame.invoking theMethod args0 :: below0 := rfl
set_option maxRecDepth 65536 in
theorem w_args : argsFit about1.vm theMethod args0 = true := by decide +kernel
set_option maxRecDepth 65536 in
theorem w_heap : heapFits about1 = true := by decide +kernel
set_option maxRecDepth 65536 in
theorem w_runnable : about1.curStatus? = some .runnable := by decide +kernel
set_option maxRecDepth 65536 in
theorem w_alone : about1.alone = true := by decide +kernel
set_option maxRecDepth 65536 in
theorem w_named : about1.methodNamed? x = some theMethod := by decide +kernel
set_option maxRecDepth 65536 in
theorem w_hears : about1.hears theMethod below0 = true := by decide +kernel
set_option maxRecDepth 65536 in
theorem w_ripe : about1.ripe theMethod args0 below0 = true := by decide +kernel
theorem w_running : about1.status = .running := rfl
set_option maxRecDepth 65536 in
theorem w_room : about1.hasRoom e0.platform room_1 = true :=
  launch0.hasRoom_least _ room_1 (by decide +kernel) (by decide +kernel) (by decide +kernel) (by decide +kernel) (by decide +kernel) (by decide +kernel)
theorem allAtoms_all (ts : List Jvm.Cond) (a : Array Jvm.Value) (st : Jvm.State) : (allAtoms ts).before a st = ts.all (fun c => c.before a st) := by
  induction ts with
  | nil => rfl
  | cons c t ih =>
    show (Jvm.Cond.and c (allAtoms t)).before a st = _
    rw [Jvm.Cond.before_and, ih, List.all_cons]
def words1 : List Jvm.Cond := Jvm.Cond.code x code maxLocals ret :: tables_1
/-- a 'code' word, met by the world's own term for the bytes: nothing is compared byte by byte -/
theorem code_word {y : MethodName} {bytes : ByteArray} {mx : Nat} {rt : Option FieldType} {a : Array Value} {s : State} {m : MethodId} {meth : Method} {c : Code} (h1 : s.methodNamed? y = some m) (h2 : s.vm.method? m = some meth) (h3 : meth.code = some c) (h4 : c.code = bytes)
    (h5 : (c.maxLocals == mx && c.exceptionTable.isEmpty && decide (c.maxStack ≤ mostOperands) && decide (meth.sig.returnType = rt) && !meth.locks && decide (parseMethodDescriptor y.desc = some meth.sig)) = true) : (Jvm.Cond.code y bytes mx rt).before a s = true := by
  simp only [Bool.and_eq_true, beq_iff_eq, Bool.not_eq_true', decide_eq_true_eq] at h5
  obtain ⟨⟨⟨⟨⟨g1, g2⟩, g3⟩, g4⟩, g5⟩, g6⟩ := h5
  simp [Cond.before, Cond.holds, Cond.value, h1, h2, h3, h4, g1, g2, g3, g4, g5, g6]
def isCode : Jvm.Cond → Bool
  | .code _ _ _ _ => true
  | _ => false
theorem all_split {L : List Jvm.Cond} {P : Jvm.Cond → Bool} (h1 : L.all (fun c => isCode c || P c) = true) (h2 : ∀ c ∈ L.filter isCode, P c = true) : L.all P = true := by
  refine List.all_eq_true.mpr fun c hc => ?_
  have h := List.all_eq_true.mp h1 c hc
  rcases Bool.eq_false_or_eq_true (isCode c) with hi | hi
  · exact h2 c (List.mem_filter.mpr ⟨hc, hi⟩)
  · simpa [hi] using h
set_option maxRecDepth 65536 in
theorem w_c0 : (Jvm.Cond.code x code maxLocals ret).before args0 about1 = true := code_word (m := ⟨1, 1⟩) (meth := k1m1) (c := k1c1) (by decide +kernel) rfl rfl rfl (by decide +kernel)
set_option maxRecDepth 65536 in
theorem w_c1 : (Jvm.Cond.code ({ cls := "tributary/CharacterBound", name := "<init>", desc := "(Ljava/lang/String;Ljava/lang/String;)V" } : Jvm.MethodName) prog_3_method_2_code (3 : Nat) (Option.none : Option Jvm.ClassFile.FieldType)).before args0 about1 = true := code_word (m := ⟨2, 0⟩) (meth := k2m0) (c := k2c0) (by decide +kernel) rfl rfl rfl (by decide +kernel)
set_option maxRecDepth 65536 in
theorem w_c2 : (Jvm.Cond.code ({ cls := "java/lang/Object", name := "<init>", desc := "()V" } : Jvm.MethodName) object_method_1_code (1 : Nat) (Option.none : Option Jvm.ClassFile.FieldType)).before args0 about1 = true := code_word (m := ⟨0, 0⟩) (meth := k0m0) (c := k0c0) (by decide +kernel) rfl rfl rfl (by decide +kernel)
set_option maxRecDepth 65536 in
theorem w_c3 : (Jvm.Cond.code ({ cls := "tributary/CharacterBound", name := "count", desc := "(J)V" } : Jvm.MethodName) prog_3_method_3_code (3 : Nat) (Option.none : Option Jvm.ClassFile.FieldType)).before args0 about1 = true := code_word (m := ⟨2, 1⟩) (meth := k2m1) (c := k2c1) (by decide +kernel) rfl rfl rfl (by decide +kernel)
set_option maxRecDepth 65536 in
theorem w_c4 : (Jvm.Cond.code ({ cls := "tributary/CharacterBound", name := "counted", desc := "()J" } : Jvm.MethodName) prog_3_method_4_code (1 : Nat) (Option.some Jvm.ClassFile.FieldType.long)).before args0 about1 = true := code_word (m := ⟨2, 2⟩) (meth := k2m2) (c := k2c2) (by decide +kernel) rfl rfl rfl (by decide +kernel)
def codes1 : List Jvm.Cond := [Jvm.Cond.code x code maxLocals ret, Jvm.Cond.code ({ cls := "tributary/CharacterBound", name := "<init>", desc := "(Ljava/lang/String;Ljava/lang/String;)V" } : Jvm.MethodName) prog_3_method_2_code (3 : Nat) (Option.none : Option Jvm.ClassFile.FieldType), Jvm.Cond.code ({ cls := "java/lang/Object", name := "<init>", desc := "()V" } : Jvm.MethodName) object_method_1_code (1 : Nat) (Option.none : Option Jvm.ClassFile.FieldType), Jvm.Cond.code ({ cls := "tributary/CharacterBound", name := "count", desc := "(J)V" } : Jvm.MethodName) prog_3_method_3_code (3 : Nat) (Option.none : Option Jvm.ClassFile.FieldType), Jvm.Cond.code ({ cls := "tributary/CharacterBound", name := "counted", desc := "()J" } : Jvm.MethodName) prog_3_method_4_code (1 : Nat) (Option.some Jvm.ClassFile.FieldType.long)]
set_option maxRecDepth 65536 in
theorem codes_eq : words1.filter isCode = codes1 := rfl
theorem w_codes : ∀ c ∈ words1.filter isCode, c.before args0 about1 = true := by
  rw [codes_eq]
  intro c hc
  simp only [codes1, List.mem_cons, List.not_mem_nil, or_false] at hc
  rcases hc with rfl | rfl | rfl | rfl | rfl
  · exact w_c0
  · exact w_c1
  · exact w_c2
  · exact w_c3
  · exact w_c4
set_option maxRecDepth 65536 in
theorem w_t1 : (words1.take 24).all (fun c => isCode c || c.before args0 about1) = true := by decide +kernel
set_option maxRecDepth 65536 in
theorem w_t2 : (words1.drop 24).all (fun c => isCode c || c.before args0 about1) = true := by decide +kernel
theorem w_tables : (allAtoms (Jvm.Cond.code x code maxLocals ret :: tables_1)).before args0 about1 = true := by
  rw [allAtoms_all]
  show words1.all (fun c => c.before args0 about1) = true
  refine all_split ?_ w_codes
  rw [← List.take_append_drop 24 words1, List.all_append, w_t1, w_t2]
  rfl
set_option maxRecDepth 65536 in
theorem w_case : (Jvm.Cond.and given_1 narrow_1).before args0 about1 = true := by decide +kernel
theorem w_applies : (headSpec (Jvm.Cond.code x code maxLocals ret :: tables_1) room_1).applies x e0.platform about1 = true :=
  (Spec.applies_iff w_frames).mpr ⟨w_running, w_runnable, w_alone, w_named, w_hears, w_ripe, w_room, w_tables⟩
theorem atStart : AtStart classFile x code maxLocals ret World_1 tables_1 room_1 Calls_1 rest_1 Pre_1 launch0 p0 e0 about1 theMethod args0 below0 :=
  ⟨lists_1, trivial, launch0.admits_env _ _ _, launch0.least_env, fairChoices_fair.cas, fairChoices_fair.clock, w_frames, w_args, w_heap, w_applies, trivial, trivial, w_case⟩
end start1
theorem witness_1 : WitnessClaimed_1 := ⟨start1.p0, start1.e0, start1.about1, start1.theMethod, start1.args0, start1.below0, start1.atStart⟩
end Jvm.Pilot.@@N@@
