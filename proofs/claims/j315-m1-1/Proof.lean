import JvmDerived
import JvmDerived.Pilot.@@N@@Statement
import JvmDerived.Pilot.@@N@@Code
set_option linter.unusedVariables false
set_option linter.unusedSimpArgs false
namespace Jvm.RoadKit
open Sem ClassFile Op Lib Jvm.Stand Jvm.Free Jvm.LawKit
section New
variable {p : Program} {l : Launch} {e : Env} {R : Room} {s : State} {m : MethodId} {args : Array Value} {below : List Frame} {meth : Method} {c : Code} {T : State} {locs : List Loc} {cells slots : Nat}
theorem retI (X : Stand p l e R s m args below meth c T locs cells slots) (hx : p.tables.exec = Jvm.exec) {pc : Nat} {Ls : Array Slot} {z : Int32} {rest : List Value} (hret : meth.sig.returnType = some .int) (hd : decode c.code pc = .ok (.ireturn, 1)) {fs : List Frame}
    (hl : ∀ (f : JFrame) (acts : List Action), f.method = m → f.locked = none → f.entered = [] → (doReturn e (T.setTop f) acts (some (.int z))).1 = T.setFrames fs) : Steps p.tables e below (T.setTop (mkF m pc Ls (.int z :: rest))) (T.setFrames fs) := by
  have hm' : T.vm.method? m = some meth := X.method'
  have hn : narrow .int (.int z) = .int z := rfl
  show Steps p.tables e below (T.setTop { method := m, pc := pc, locals := Ls, stack := _ :: rest, locked := none }) _
  jvm_step X.here [X.here.top, hx, hd, hm', hret, hn]
  first | (intro acts; rw [hl _ acts rfl rfl rfl]) | rw [hl _ _ rfl rfl rfl]
  exact Steps.refl _
theorem own_retJ (X : Stand p l e R s m args below meth c T locs cells slots) (hx : p.tables.exec = Jvm.exec) {pc : Nat} {Ls : Array Slot} {z : Int64} {rest : List Value} (hret : meth.sig.returnType = some .long) (hd : decode c.code pc = .ok (.lreturn, 1)) {fs : List Frame}
    (hl : ∀ (f : JFrame) (acts : List Action), f.method = m → f.locked = none → f.entered = [] → (doReturn e (T.setTop f) acts (some (.long z))).1 = T.setFrames fs) : Steps p.tables e below (T.setTop (mkF m pc Ls (.long z :: rest))) (T.setFrames fs) :=
  retOut X hx hret rfl (Or.inr (Or.inl ⟨rfl, rfl, z, rfl⟩)) hd hl
theorem own_retR (X : Stand p l e R s m args below meth c T locs cells slots) (hx : p.tables.exec = Jvm.exec) {pc : Nat} {Ls : Array Slot} {w : Value} {t : FieldType} {rest : List Value} (hret : meth.sig.returnType = some t) (ht : t.isReference = true) (hw : w.isRef = true) (hd : decode c.code pc = .ok (.areturn, 1)) {fs : List Frame}
    (hl : ∀ (f : JFrame) (acts : List Action), f.method = m → f.locked = none → f.entered = [] → (doReturn e (T.setTop f) acts (some w)).1 = T.setFrames fs) : Steps p.tables e below (T.setTop (mkF m pc Ls (w :: rest))) (T.setFrames fs) :=
  retOut X hx hret (by cases t <;> first | rfl | cases ht) (Or.inr (Or.inr (Or.inr (Or.inr ⟨rfl, ht, hw⟩)))) hd hl
theorem own_lrem {tb : Tables} [Ours tb] {e : Env} {below : List Frame} {T target : State} {m : MethodId} {c : Code} {g : JFrame} (h : At T m c below) (hx : tb.exec = Jvm.exec) (hg : g.method = m) {x y : Int64} {rest : List Value} (hd : decode c.code g.pc = .ok (.lrem, 1)) (hs : g.stack = .long y :: .long x :: rest) (hy : y ≠ 0)
    (hr : Steps tb e below (T.setTop { g with pc := g.pc + 1, stack := .long (x % y) :: rest }) target) : Steps tb e below (T.setTop g) target :=
  XS.lrem h hx hg hd hs hy (by rw [lrem_mod]; exact hr)
theorem own_go {tb : Tables} {e : Env} {below : List Frame} {A B : State} {P : State → Outcome → Prop} (h : ∀ t, Steps tb e below B t → Steps tb e below A t) (k : ∃ s₂ o, Steps tb e below B s₂ ∧ P s₂ o) : ∃ s₂ o, Steps tb e below A s₂ ∧ P s₂ o := by
  obtain ⟨s₂, o, h1, h2⟩ := k
  exact ⟨s₂, o, h _ h1, h2⟩
theorem own_cut {α : Type} {C : α → Prop} {B : α → State} {tb : Tables} {e : Env} {below : List Frame} {A : State} {P : State → Outcome → Prop} (h : ∀ a, C a → ∃ s₂ o, Steps tb e below (B a) s₂ ∧ P s₂ o) (k : (∀ a, C a → ∃ s₂ o, Steps tb e below (B a) s₂ ∧ P s₂ o) → ∃ s₂ o, Steps tb e below A s₂ ∧ P s₂ o) : ∃ s₂ o, Steps tb e below A s₂ ∧ P s₂ o := k h
theorem own_narZ (P : Prop) [Decidable P] : narrow .boolean (.int (if P then (1 : Int32) else 0)) = .int (if P then (1 : Int32) else 0) := by split <;> rfl
theorem own_fitZ (P : Prop) [Decidable P] : fits .boolean (.int (if P then (1 : Int32) else 0)) = true := by split <;> rfl
theorem own_retZ (P : Prop) [Decidable P] : (some (.int (nar .boolean (if P then (1 : Int32) else 0))) : Option Value) = some (.int (if P then (1 : Int32) else 0)) := by split <;> rfl
theorem own_staKeep {Z : State} {h h' : Heap} {C n d : String} {v : Value} {ws : List Addr} (F : Sta Z h C n d v) (K : Keep h h' ws) (q : ∀ x ∈ ws, ∃ c : Cell, h[x]? = some c ∧ c.vm.isStatics = false) : Sta Z h' C n d v := by
  obtain ⟨cf, i, k, f, st, cell, h1, h2, h3, h4, h5, h6, h7⟩ := F
  refine ⟨cf, i, k, f, st, cell, h1, h2, h3, h4, K.2.1 _ _ h5 fun hm => ?_, h6, h7⟩
  obtain ⟨c', g1, g2⟩ := q _ hm
  cases h5.symm.trans g1
  rw [h6] at g2
  cases g2
theorem own_arrKeep {Z : State} {h h' : Heap} {a : Addr} {c : Cell} {ty : FieldType} {ws : List Addr} (F : Arr Z h a c ty) (K : Keep h h' ws) (q : a ∉ ws) : Arr Z h' a c ty := ⟨K.2.1 _ _ F.1 q, F.2⟩
theorem own_ns0 {h : Heap} : ∀ x ∈ ([] : List Addr), ∃ c : Cell, h[x]? = some c ∧ c.vm.isStatics = false := fun _ q => nomatch q
theorem own_nsS {h : Heap} {y : Addr} {L : List Addr} (q : ∃ c : Cell, h[y]? = some c ∧ c.vm.isStatics = false) (r : ∀ x ∈ L, ∃ c : Cell, h[x]? = some c ∧ c.vm.isStatics = false) : ∀ x ∈ y :: L, ∃ c : Cell, h[x]? = some c ∧ c.vm.isStatics = false := fun x z => (List.mem_cons.mp z).elim (fun u => u ▸ q) (r x)
theorem own_nsE {Z : State} {h : Heap} {a : Addr} {C : String} (F : Exa Z h a C) : ∃ c : Cell, h[a]? = some c ∧ c.vm.isStatics = false := by
  obtain ⟨c, k, h1, h2, h3, h4, h5⟩ := F
  exact ⟨c, h1, h4⟩
theorem own_nsV {Z : State} {h : Heap} {a : Addr} {k : ClassId} {ty : FieldType} {z : Int32} {vs : List Value} {d : Value} (F : Arv Z h a k ty z vs d) : ∃ c : Cell, h[a]? = some c ∧ c.vm.isStatics = false := by
  obtain ⟨c, A, r⟩ := F
  exact ⟨c, A.1, A.plain⟩
theorem own_since (s : State) (n : Nat) : s.Since s.vm n := ⟨State.Warmed39.refl s, fun j p hj hp => absurd (Array.getElem?_eq_some_iff.mp hp).1 (Nat.not_lt.mpr hj)⟩
end New
end Jvm.RoadKit
namespace Jvm.Pilot.@@N@@
open Jvm Jvm.ClassFile Sem Op Lib Jvm.Free Jvm.Stand Jvm.LawKit Jvm.RoadKit Bundle Jvm.Pilot.@@N@@.Jvm.D
theorem own_b1 (ci fi li : Int32) (h : (if li < (if ci < fi then fi else ci) then li else (if ci < fi then fi else ci)) = ci) (h2 : ¬ li < fi) : ¬ ci < fi ∧ ¬ li < ci := by
  constructor
  · intro q; rw [if_pos q] at h; rw [if_neg h2] at h; rw [h] at q; exact Int32.lt_irrefl q
  · intro q
    by_cases r : ci < fi
    · rw [if_pos r, if_neg h2] at h; rw [h] at r; exact Int32.lt_irrefl r
    · rw [if_neg r, if_pos q] at h; rw [h] at q; exact Int32.lt_irrefl q
theorem own_b2 (ci fi li : Int32) (h : ¬ (if li < (if ci < fi then fi else ci) then li else (if ci < fi then fi else ci)) = ci) : ¬ (¬ ci < fi ∧ ¬ li < ci) := by
  intro q
  exact h (by rw [if_neg q.1, if_neg q.2])
theorem own_b3 (ci fi li : Int32) (h : li < fi) : ¬ (¬ ci < fi ∧ ¬ li < ci) := by
  intro q
  rw [Int32.lt_iff_toInt_lt] at h
  rw [Int32.lt_iff_toInt_lt, Int32.lt_iff_toInt_lt] at q
  omega
theorem d1_0 : decode jdk_29_method_65_code 0 = .ok (.iload_n 0, 1) := by decide +kernel
theorem d1_1 : decode jdk_29_method_65_code 1 = .ok (.iload_n 1, 1) := by decide +kernel
theorem d1_2 : decode jdk_29_method_65_code 2 = .ok (.if_icmp .lt 7, 3) := by decide +kernel
theorem d1_5 : decode jdk_29_method_65_code 5 = .ok (.iload_n 0, 1) := by decide +kernel
theorem d1_6 : decode jdk_29_method_65_code 6 = .ok (.goto 4, 3) := by decide +kernel
theorem d1_9 : decode jdk_29_method_65_code 9 = .ok (.iload_n 1, 1) := by decide +kernel
theorem d1_10 : decode jdk_29_method_65_code 10 = .ok (.ireturn, 1) := by decide +kernel
theorem ef_1 (m : MethodId) (p1 : Int32) (p2 : Int32) : entryFrame m #[(.int p1), (.int p2)] 2 = mkF m 0 #[.val (.int p1), .val (.int p2)] [] := by first | (simp [entryFrame, mkF, argsToLocals, Value.category]; done) | rfl
def Q1 (Z : State) (p1 : Int32) (p2 : Int32) (h0 : Heap) (n0 : Nat) (v : Option Value) (h : Heap) (L : List Loc) : Prop := v = some (.int (if p1 < p2 then p2 else p1)) ∧ Fr n0 L ∧ h = h0
set_option maxRecDepth 65536 in
set_option maxHeartbeats 40000000 in
theorem rm1 (l : Launch) (Z : State) (a0 : Array Value) (hw : ∀ d ∈ tables_1, d.before a0 Z = true) (ws : List Jvm.Cond) (p1 : Int32) (p2 : Int32) (h0 : Heap) (n0 : Nat) (Z0 : n0 ≤ h0.size) :
    MetFree l (⟨"java/lang/Math", "max", "(II)I"⟩ : MethodName) (head1 (Jvm.Cond.code (⟨"java/lang/Math", "max", "(II)I"⟩ : MethodName) jdk_29_method_65_code 2 (some .int) :: ws) ({ frames := 0, cells := 0, slots := 0, locals := 0 } : Room)) (fun a U => a = #[(.int p1), (.int p2)] ∧ Z.Warmed39 U.vm ∧ U.heap = h0) (fun _ _ _ _ _ => True) (fun _ U o U' => ∃ v L, o = .returned v ∧ Q1 Z p1 p2 h0 n0 v U'.heap L ∧ FrameEnd U o U' L ({ frames := 0, cells := 0, slots := 0, locals := 0 } : Room).cells ({ frames := 0, cells := 0, slots := 0, locals := 0 } : Room).slots) := by
  refine MetFree.of_bodySF (Jvm.Free.JP.mathPlain rfl (by decide +kernel)) hisR ?_
  intro p e s m args below meth c s₁ Bd hml0 hP hK
  obtain ⟨rfl, hZ, hh⟩ := hP
  have hx := Bd.exec
  have hby := Bd.bytes
  have hml : c.maxLocals = 2 := hml0
  have hown : s.vm.findClass "java/lang/Math" = some m.cls := findClass_of_methodNamed Bd.named
  have hnm := (name_of_methodNamed Bd.named Bd.method).1
  have X0 : Stand p l e ({ frames := 0, cells := 0, slots := 0, locals := 0 } : Room) s m #[(.int p1), (.int p2)] below meth c s₁ [] 0 0 := Stand.of_body Bd
  have e0 : s₁.heap = h0 := by rw [← hh, Bd.state]; rfl
  have N0 := Fr.nil n0
  refine own_go (B := s₁.setTop (mkF m 0 #[.val (.int p1), .val (.int p2)] [])) (fun t k => castTop (ef_1 m p1 p2) k) ?_
  refine own_go (B := s₁.setTop (mkF m 2 #[.val (.int p1), .val (.int p2)] [(.int p2), (.int p1)])) (fun t k => ?_) ?_
  · show Steps p.tables e below (s₁.setTop (mkF m 0 #[.val (.int p1), .val (.int p2)] [])) _
    refine XS.iloadN X0.here hx rfl (hb hby d1_0) rfl ?_
    show Steps p.tables e below (s₁.setTop (mkF m 1 #[.val (.int p1), .val (.int p2)] [(.int p1)])) _
    refine XS.iloadN X0.here hx rfl (hb hby d1_1) rfl ?_
    show Steps p.tables e below (s₁.setTop (mkF m 2 #[.val (.int p1), .val (.int p2)] [(.int p2), (.int p1)])) _
    exact k
  by_cases hc1 : p1 < p2
  · refine own_go (B := s₁.setTop (mkF m 10 #[.val (.int p1), .val (.int p2)] [(.int p2)])) (fun t k => ?_) ?_
    · show Steps p.tables e below (s₁.setTop (mkF m 2 #[.val (.int p1), .val (.int p2)] [(.int p2), (.int p1)])) _
      refine XS.icmpYes X0.here hx rfl (pc0 := 2) (pc' := 9) rfl (hb hby d1_2) rfl (tlt hc1).1 (by decide) (by decide) ?_
      show Steps p.tables e below (s₁.setTop (mkF m 9 #[.val (.int p1), .val (.int p2)] [])) _
      refine XS.iloadN X0.here hx rfl (hb hby d1_9) rfl ?_
      show Steps p.tables e below (s₁.setTop (mkF m 10 #[.val (.int p1), .val (.int p2)] [(.int p2)])) _
      exact k
    obtain ⟨fs, hr, hrun, hended, hW, hsame⟩ := X0.leave (v := some (.int p2)) (fun h => by rw [Bd.returns] at h; cases h)
    refine ⟨_, _, ?_, hrun, hended, _, _, rfl, ?_, ⟨_, rfl⟩, hW, hsame.mono (by decide) (by decide)⟩
    · exact retI X0 hx Bd.returns (hb hby d1_10) hr
    · show Q1 Z p1 p2 h0 n0 _ s₁.heap _
      rw [e0]
      exact ⟨(by rw [if_pos hc1]), N0, rfl⟩
  · refine own_go (B := s₁.setTop (mkF m 10 #[.val (.int p1), .val (.int p2)] [(.int p1)])) (fun t k => ?_) ?_
    · show Steps p.tables e below (s₁.setTop (mkF m 2 #[.val (.int p1), .val (.int p2)] [(.int p2), (.int p1)])) _
      refine XS.icmpNo X0.here hx rfl (hb hby d1_2) rfl (flt hc1).1 ?_
      show Steps p.tables e below (s₁.setTop (mkF m 5 #[.val (.int p1), .val (.int p2)] [])) _
      refine XS.iloadN X0.here hx rfl (hb hby d1_5) rfl ?_
      show Steps p.tables e below (s₁.setTop (mkF m 6 #[.val (.int p1), .val (.int p2)] [(.int p1)])) _
      refine XS.goto X0.here hx rfl (pc0 := 6) (pc' := 10) rfl (hb hby d1_6) (by decide) (by decide) ?_
      show Steps p.tables e below (s₁.setTop (mkF m 10 #[.val (.int p1), .val (.int p2)] [(.int p1)])) _
      exact k
    obtain ⟨fs, hr, hrun, hended, hW, hsame⟩ := X0.leave (v := some (.int p1)) (fun h => by rw [Bd.returns] at h; cases h)
    refine ⟨_, _, ?_, hrun, hended, _, _, rfl, ?_, ⟨_, rfl⟩, hW, hsame.mono (by decide) (by decide)⟩
    · exact retI X0 hx Bd.returns (hb hby d1_10) hr
    · show Q1 Z p1 p2 h0 n0 _ s₁.heap _
      rw [e0]
      exact ⟨(by rw [if_neg hc1]), N0, rfl⟩
theorem d2_0 : decode jdk_29_method_69_code 0 = .ok (.iload_n 0, 1) := by decide +kernel
theorem d2_1 : decode jdk_29_method_69_code 1 = .ok (.iload_n 1, 1) := by decide +kernel
theorem d2_2 : decode jdk_29_method_69_code 2 = .ok (.if_icmp .gt 7, 3) := by decide +kernel
theorem d2_5 : decode jdk_29_method_69_code 5 = .ok (.iload_n 0, 1) := by decide +kernel
theorem d2_6 : decode jdk_29_method_69_code 6 = .ok (.goto 4, 3) := by decide +kernel
theorem d2_9 : decode jdk_29_method_69_code 9 = .ok (.iload_n 1, 1) := by decide +kernel
theorem d2_10 : decode jdk_29_method_69_code 10 = .ok (.ireturn, 1) := by decide +kernel
theorem ef_2 (m : MethodId) (p1 : Int32) (p2 : Int32) : entryFrame m #[(.int p1), (.int p2)] 2 = mkF m 0 #[.val (.int p1), .val (.int p2)] [] := by first | (simp [entryFrame, mkF, argsToLocals, Value.category]; done) | rfl
def Q2 (Z : State) (p1 : Int32) (p2 : Int32) (h0 : Heap) (n0 : Nat) (v : Option Value) (h : Heap) (L : List Loc) : Prop := v = some (.int (if p2 < p1 then p2 else p1)) ∧ Fr n0 L ∧ h = h0
set_option maxRecDepth 65536 in
set_option maxHeartbeats 40000000 in
theorem rm2 (l : Launch) (Z : State) (a0 : Array Value) (hw : ∀ d ∈ tables_1, d.before a0 Z = true) (ws : List Jvm.Cond) (p1 : Int32) (p2 : Int32) (h0 : Heap) (n0 : Nat) (Z0 : n0 ≤ h0.size) :
    MetFree l (⟨"java/lang/Math", "min", "(II)I"⟩ : MethodName) (head1 (Jvm.Cond.code (⟨"java/lang/Math", "min", "(II)I"⟩ : MethodName) jdk_29_method_69_code 2 (some .int) :: ws) ({ frames := 0, cells := 0, slots := 0, locals := 0 } : Room)) (fun a U => a = #[(.int p1), (.int p2)] ∧ Z.Warmed39 U.vm ∧ U.heap = h0) (fun _ _ _ _ _ => True) (fun _ U o U' => ∃ v L, o = .returned v ∧ Q2 Z p1 p2 h0 n0 v U'.heap L ∧ FrameEnd U o U' L ({ frames := 0, cells := 0, slots := 0, locals := 0 } : Room).cells ({ frames := 0, cells := 0, slots := 0, locals := 0 } : Room).slots) := by
  refine MetFree.of_bodySF (Jvm.Free.JP.mathPlain rfl (by decide +kernel)) hisR ?_
  intro p e s m args below meth c s₁ Bd hml0 hP hK
  obtain ⟨rfl, hZ, hh⟩ := hP
  have hx := Bd.exec
  have hby := Bd.bytes
  have hml : c.maxLocals = 2 := hml0
  have hown : s.vm.findClass "java/lang/Math" = some m.cls := findClass_of_methodNamed Bd.named
  have hnm := (name_of_methodNamed Bd.named Bd.method).1
  have X0 : Stand p l e ({ frames := 0, cells := 0, slots := 0, locals := 0 } : Room) s m #[(.int p1), (.int p2)] below meth c s₁ [] 0 0 := Stand.of_body Bd
  have e0 : s₁.heap = h0 := by rw [← hh, Bd.state]; rfl
  have N0 := Fr.nil n0
  refine own_go (B := s₁.setTop (mkF m 0 #[.val (.int p1), .val (.int p2)] [])) (fun t k => castTop (ef_2 m p1 p2) k) ?_
  refine own_go (B := s₁.setTop (mkF m 2 #[.val (.int p1), .val (.int p2)] [(.int p2), (.int p1)])) (fun t k => ?_) ?_
  · show Steps p.tables e below (s₁.setTop (mkF m 0 #[.val (.int p1), .val (.int p2)] [])) _
    refine XS.iloadN X0.here hx rfl (hb hby d2_0) rfl ?_
    show Steps p.tables e below (s₁.setTop (mkF m 1 #[.val (.int p1), .val (.int p2)] [(.int p1)])) _
    refine XS.iloadN X0.here hx rfl (hb hby d2_1) rfl ?_
    show Steps p.tables e below (s₁.setTop (mkF m 2 #[.val (.int p1), .val (.int p2)] [(.int p2), (.int p1)])) _
    exact k
  by_cases hc4 : p2 < p1
  · refine own_go (B := s₁.setTop (mkF m 10 #[.val (.int p1), .val (.int p2)] [(.int p2)])) (fun t k => ?_) ?_
    · show Steps p.tables e below (s₁.setTop (mkF m 2 #[.val (.int p1), .val (.int p2)] [(.int p2), (.int p1)])) _
      refine XS.icmpYes X0.here hx rfl (pc0 := 2) (pc' := 9) rfl (hb hby d2_2) rfl (tlt hc4).2.2.1 (by decide) (by decide) ?_
      show Steps p.tables e below (s₁.setTop (mkF m 9 #[.val (.int p1), .val (.int p2)] [])) _
      refine XS.iloadN X0.here hx rfl (hb hby d2_9) rfl ?_
      show Steps p.tables e below (s₁.setTop (mkF m 10 #[.val (.int p1), .val (.int p2)] [(.int p2)])) _
      exact k
    obtain ⟨fs, hr, hrun, hended, hW, hsame⟩ := X0.leave (v := some (.int p2)) (fun h => by rw [Bd.returns] at h; cases h)
    refine ⟨_, _, ?_, hrun, hended, _, _, rfl, ?_, ⟨_, rfl⟩, hW, hsame.mono (by decide) (by decide)⟩
    · exact retI X0 hx Bd.returns (hb hby d2_10) hr
    · show Q2 Z p1 p2 h0 n0 _ s₁.heap _
      rw [e0]
      exact ⟨(by rw [if_pos hc4]), N0, rfl⟩
  · refine own_go (B := s₁.setTop (mkF m 10 #[.val (.int p1), .val (.int p2)] [(.int p1)])) (fun t k => ?_) ?_
    · show Steps p.tables e below (s₁.setTop (mkF m 2 #[.val (.int p1), .val (.int p2)] [(.int p2), (.int p1)])) _
      refine XS.icmpNo X0.here hx rfl (hb hby d2_2) rfl (flt hc4).2.2.1 ?_
      show Steps p.tables e below (s₁.setTop (mkF m 5 #[.val (.int p1), .val (.int p2)] [])) _
      refine XS.iloadN X0.here hx rfl (hb hby d2_5) rfl ?_
      show Steps p.tables e below (s₁.setTop (mkF m 6 #[.val (.int p1), .val (.int p2)] [(.int p1)])) _
      refine XS.goto X0.here hx rfl (pc0 := 6) (pc' := 10) rfl (hb hby d2_6) (by decide) (by decide) ?_
      show Steps p.tables e below (s₁.setTop (mkF m 10 #[.val (.int p1), .val (.int p2)] [(.int p1)])) _
      exact k
    obtain ⟨fs, hr, hrun, hended, hW, hsame⟩ := X0.leave (v := some (.int p1)) (fun h => by rw [Bd.returns] at h; cases h)
    refine ⟨_, _, ?_, hrun, hended, _, _, rfl, ?_, ⟨_, rfl⟩, hW, hsame.mono (by decide) (by decide)⟩
    · exact retI X0 hx Bd.returns (hb hby d2_10) hr
    · show Q2 Z p1 p2 h0 n0 _ s₁.heap _
      rw [e0]
      exact ⟨(by rw [if_neg hc4]), N0, rfl⟩
theorem pn_24 : plainName "com/example/restate/restate/MarkerLabel" = true := by first | (simp [plainName, overriddenIn]; done) | decide +kernel
theorem d3_0 : decode prog_60_method_5_code 0 = .ok (.iload_n 0, 1) := by decide +kernel
theorem d3_1 : decode prog_60_method_5_code 1 = .ok (.iload_n 1, 1) := by decide +kernel
theorem d3_2 : decode prog_60_method_5_code 2 = .ok (.if_icmp .lt 12, 3) := by decide +kernel
theorem d3_5 : decode prog_60_method_5_code 5 = .ok (.iload_n 0, 1) := by decide +kernel
theorem d3_6 : decode prog_60_method_5_code 6 = .ok (.iload_n 2, 1) := by decide +kernel
theorem d3_7 : decode prog_60_method_5_code 7 = .ok (.if_icmp .gt 7, 3) := by decide +kernel
theorem d3_10 : decode prog_60_method_5_code 10 = .ok (.iconst 1, 1) := by decide +kernel
theorem d3_11 : decode prog_60_method_5_code 11 = .ok (.goto 4, 3) := by decide +kernel
theorem d3_14 : decode prog_60_method_5_code 14 = .ok (.iconst 0, 1) := by decide +kernel
theorem d3_15 : decode prog_60_method_5_code 15 = .ok (.ireturn, 1) := by decide +kernel
theorem ef_3 (m : MethodId) (p1 : Int32) (p2 : Int32) (p3 : Int32) : entryFrame m #[(.int p1), (.int p2), (.int p3)] 3 = mkF m 0 #[.val (.int p1), .val (.int p2), .val (.int p3)] [] := by first | (simp [entryFrame, mkF, argsToLocals, Value.category]; done) | rfl
def Q3 (Z : State) (p1 : Int32) (p2 : Int32) (p3 : Int32) (h0 : Heap) (n0 : Nat) (v : Option Value) (h : Heap) (L : List Loc) : Prop := v = some (.int (if ¬ p1 < p2 ∧ ¬ p3 < p1 then (1 : Int32) else 0)) ∧ Fr n0 L ∧ h = h0
set_option maxRecDepth 65536 in
set_option maxHeartbeats 40000000 in
theorem rm3 (l : Launch) (Z : State) (a0 : Array Value) (hw : ∀ d ∈ tables_1, d.before a0 Z = true) (ws : List Jvm.Cond) (p1 : Int32) (p2 : Int32) (p3 : Int32) (h0 : Heap) (n0 : Nat) (Z0 : n0 ≤ h0.size) :
    MetFree l (⟨"com/example/restate/restate/MarkerLabel", "isBetween", "(CCC)Z"⟩ : MethodName) (head1 (Jvm.Cond.code (⟨"com/example/restate/restate/MarkerLabel", "isBetween", "(CCC)Z"⟩ : MethodName) prog_60_method_5_code 3 (some .boolean) :: ws) ({ frames := 0, cells := 0, slots := 0, locals := 0 } : Room)) (fun a U => a = #[(.int p1), (.int p2), (.int p3)] ∧ Z.Warmed39 U.vm ∧ U.heap = h0) (fun _ _ _ _ _ => True) (fun _ U o U' => ∃ v L, o = .returned v ∧ Q3 Z p1 p2 p3 h0 n0 v U'.heap L ∧ FrameEnd U o U' L ({ frames := 0, cells := 0, slots := 0, locals := 0 } : Room).cells ({ frames := 0, cells := 0, slots := 0, locals := 0 } : Room).slots) := by
  refine MetFree.of_bodySF (plainFor_of_name pn_24) hisR ?_
  intro p e s m args below meth c s₁ Bd hml0 hP hK
  obtain ⟨rfl, hZ, hh⟩ := hP
  have hx := Bd.exec
  have hby := Bd.bytes
  have hml : c.maxLocals = 3 := hml0
  have hown : s.vm.findClass "com/example/restate/restate/MarkerLabel" = some m.cls := findClass_of_methodNamed Bd.named
  have hnm := (name_of_methodNamed Bd.named Bd.method).1
  have X0 : Stand p l e ({ frames := 0, cells := 0, slots := 0, locals := 0 } : Room) s m #[(.int p1), (.int p2), (.int p3)] below meth c s₁ [] 0 0 := Stand.of_body Bd
  have e0 : s₁.heap = h0 := by rw [← hh, Bd.state]; rfl
  have N0 := Fr.nil n0
  refine own_go (B := s₁.setTop (mkF m 0 #[.val (.int p1), .val (.int p2), .val (.int p3)] [])) (fun t k => castTop (ef_3 m p1 p2 p3) k) ?_
  refine own_go (B := s₁.setTop (mkF m 2 #[.val (.int p1), .val (.int p2), .val (.int p3)] [(.int p2), (.int p1)])) (fun t k => ?_) ?_
  · show Steps p.tables e below (s₁.setTop (mkF m 0 #[.val (.int p1), .val (.int p2), .val (.int p3)] [])) _
    refine XS.iloadN X0.here hx rfl (hb hby d3_0) rfl ?_
    show Steps p.tables e below (s₁.setTop (mkF m 1 #[.val (.int p1), .val (.int p2), .val (.int p3)] [(.int p1)])) _
    refine XS.iloadN X0.here hx rfl (hb hby d3_1) rfl ?_
    show Steps p.tables e below (s₁.setTop (mkF m 2 #[.val (.int p1), .val (.int p2), .val (.int p3)] [(.int p2), (.int p1)])) _
    exact k
  by_cases hc7 : p1 < p2
  · refine own_go (B := s₁.setTop (mkF m 15 #[.val (.int p1), .val (.int p2), .val (.int p3)] [(.int (0 : Int32))])) (fun t k => ?_) ?_
    · show Steps p.tables e below (s₁.setTop (mkF m 2 #[.val (.int p1), .val (.int p2), .val (.int p3)] [(.int p2), (.int p1)])) _
      refine XS.icmpYes X0.here hx rfl (pc0 := 2) (pc' := 14) rfl (hb hby d3_2) rfl (tlt hc7).1 (by decide) (by decide) ?_
      show Steps p.tables e below (s₁.setTop (mkF m 14 #[.val (.int p1), .val (.int p2), .val (.int p3)] [])) _
      refine XS.iconst X0.here hx rfl (hb hby d3_14) ?_
      show Steps p.tables e below (s₁.setTop (mkF m 15 #[.val (.int p1), .val (.int p2), .val (.int p3)] [(.int (0 : Int32))])) _
      exact k
    obtain ⟨fs, hr, hrun, hended, hW, hsame⟩ := X0.leave (v := some (.int (0 : Int32))) (fun h => by rw [Bd.returns] at h; cases h)
    refine ⟨_, _, ?_, hrun, hended, _, _, rfl, ?_, ⟨_, rfl⟩, hW, hsame.mono (by decide) (by decide)⟩
    · exact retN X0 hx (t := .boolean) Bd.returns (by simp) (hb hby d3_15) hr
    · show Q3 Z p1 p2 p3 h0 n0 _ s₁.heap _
      rw [e0]
      exact ⟨(by rw [if_neg (fun q => q.1 hc7)]), N0, rfl⟩
  · refine own_go (B := s₁.setTop (mkF m 7 #[.val (.int p1), .val (.int p2), .val (.int p3)] [(.int p3), (.int p1)])) (fun t k => ?_) ?_
    · show Steps p.tables e below (s₁.setTop (mkF m 2 #[.val (.int p1), .val (.int p2), .val (.int p3)] [(.int p2), (.int p1)])) _
      refine XS.icmpNo X0.here hx rfl (hb hby d3_2) rfl (flt hc7).1 ?_
      show Steps p.tables e below (s₁.setTop (mkF m 5 #[.val (.int p1), .val (.int p2), .val (.int p3)] [])) _
      refine XS.iloadN X0.here hx rfl (hb hby d3_5) rfl ?_
      show Steps p.tables e below (s₁.setTop (mkF m 6 #[.val (.int p1), .val (.int p2), .val (.int p3)] [(.int p1)])) _
      refine XS.iloadN X0.here hx rfl (hb hby d3_6) rfl ?_
      show Steps p.tables e below (s₁.setTop (mkF m 7 #[.val (.int p1), .val (.int p2), .val (.int p3)] [(.int p3), (.int p1)])) _
      exact k
    by_cases hc9 : p3 < p1
    · refine own_go (B := s₁.setTop (mkF m 15 #[.val (.int p1), .val (.int p2), .val (.int p3)] [(.int (0 : Int32))])) (fun t k => ?_) ?_
      · show Steps p.tables e below (s₁.setTop (mkF m 7 #[.val (.int p1), .val (.int p2), .val (.int p3)] [(.int p3), (.int p1)])) _
        refine XS.icmpYes X0.here hx rfl (pc0 := 7) (pc' := 14) rfl (hb hby d3_7) rfl (tlt hc9).2.2.1 (by decide) (by decide) ?_
        show Steps p.tables e below (s₁.setTop (mkF m 14 #[.val (.int p1), .val (.int p2), .val (.int p3)] [])) _
        refine XS.iconst X0.here hx rfl (hb hby d3_14) ?_
        show Steps p.tables e below (s₁.setTop (mkF m 15 #[.val (.int p1), .val (.int p2), .val (.int p3)] [(.int (0 : Int32))])) _
        exact k
      obtain ⟨fs, hr, hrun, hended, hW, hsame⟩ := X0.leave (v := some (.int (0 : Int32))) (fun h => by rw [Bd.returns] at h; cases h)
      refine ⟨_, _, ?_, hrun, hended, _, _, rfl, ?_, ⟨_, rfl⟩, hW, hsame.mono (by decide) (by decide)⟩
      · exact retN X0 hx (t := .boolean) Bd.returns (by simp) (hb hby d3_15) hr
      · show Q3 Z p1 p2 p3 h0 n0 _ s₁.heap _
        rw [e0]
        exact ⟨(by rw [if_neg (fun q => q.2 hc9)]), N0, rfl⟩
    · refine own_go (B := s₁.setTop (mkF m 15 #[.val (.int p1), .val (.int p2), .val (.int p3)] [(.int (1 : Int32))])) (fun t k => ?_) ?_
      · show Steps p.tables e below (s₁.setTop (mkF m 7 #[.val (.int p1), .val (.int p2), .val (.int p3)] [(.int p3), (.int p1)])) _
        refine XS.icmpNo X0.here hx rfl (hb hby d3_7) rfl (flt hc9).2.2.1 ?_
        show Steps p.tables e below (s₁.setTop (mkF m 10 #[.val (.int p1), .val (.int p2), .val (.int p3)] [])) _
        refine XS.iconst X0.here hx rfl (hb hby d3_10) ?_
        show Steps p.tables e below (s₁.setTop (mkF m 11 #[.val (.int p1), .val (.int p2), .val (.int p3)] [(.int (1 : Int32))])) _
        refine XS.goto X0.here hx rfl (pc0 := 11) (pc' := 15) rfl (hb hby d3_11) (by decide) (by decide) ?_
        show Steps p.tables e below (s₁.setTop (mkF m 15 #[.val (.int p1), .val (.int p2), .val (.int p3)] [(.int (1 : Int32))])) _
        exact k
      obtain ⟨fs, hr, hrun, hended, hW, hsame⟩ := X0.leave (v := some (.int (1 : Int32))) (fun h => by rw [Bd.returns] at h; cases h)
      refine ⟨_, _, ?_, hrun, hended, _, _, rfl, ?_, ⟨_, rfl⟩, hW, hsame.mono (by decide) (by decide)⟩
      · exact retN X0 hx (t := .boolean) Bd.returns (by simp) (hb hby d3_15) hr
      · show Q3 Z p1 p2 p3 h0 n0 _ s₁.heap _
        rw [e0]
        exact ⟨(by rw [if_pos ⟨hc7, hc9⟩]), N0, rfl⟩
theorem pd_0 : parseMethodDescriptor "(II)I" = some ⟨[.int, .int], some .int⟩ := by decide +kernel
theorem pd_1 : parseMethodDescriptor "(CCC)Z" = some ⟨[.char, .char, .char], some .boolean⟩ := by decide +kernel
theorem pn_25 : plainName "com/example/restate/restate/MarkerLabelIsBetweenPinLaw" = true := by first | (simp [plainName, overriddenIn]; done) | decide +kernel
theorem ef_0 (m : MethodId) (p1 : Int32) (p2 : Int32) (p3 : Int32) : entryFrame m #[(.int p1), (.int p2), (.int p3)] maxLocals = mkF m 0 #[.val (.int p1), .val (.int p2), .val (.int p3), .unset, .unset, .unset, .unset, .unset, .unset, .unset, .unset, .unset] [] := by first | (simp [entryFrame, mkF, argsToLocals, Value.category, maxLocals]; done) | rfl
def Q0 (Z : State) (p1 : Int32) (p2 : Int32) (p3 : Int32) (h0 : Heap) (n0 : Nat) (v : Option Value) (h : Heap) (L : List Loc) : Prop := v = some (.int (1 : Int32)) ∧ Fr n0 L
set_option maxRecDepth 65536 in
set_option maxHeartbeats 40000000 in
theorem rm0 (l : Launch) (Z : State) (a0 : Array Value) (hw : ∀ d ∈ tables_1, d.before a0 Z = true) (ws : List Jvm.Cond) (p1 : Int32) (p2 : Int32) (p3 : Int32) (h0 : Heap) (n0 : Nat) (Z0 : n0 ≤ h0.size) :
    MetFree l x (head1 (Jvm.Cond.code x code maxLocals ret :: ws) room_1) (fun a U => a = #[(.int p1), (.int p2), (.int p3)] ∧ Z.Warmed39 U.vm ∧ U.heap = h0) (fun _ _ _ _ _ => True) (fun _ U o U' => ∃ v L, o = .returned v ∧ Q0 Z p1 p2 p3 h0 n0 v U'.heap L ∧ FrameEnd U o U' L room_1.cells room_1.slots) := by
  refine MetFree.of_bodySF (plainFor_of_name pn_25) hisR ?_
  intro p e s m args below meth c s₁ Bd hml0 hP hK
  obtain ⟨rfl, hZ, hh⟩ := hP
  have hx := Bd.exec
  have hby := Bd.bytes
  have hml : c.maxLocals = 12 := hml0
  have hown : s.vm.findClass "com/example/restate/restate/MarkerLabelIsBetweenPinLaw" = some m.cls := findClass_of_methodNamed Bd.named
  have hnm := (name_of_methodNamed Bd.named Bd.method).1
  have X0 : Stand p l e room_1 s m #[(.int p1), (.int p2), (.int p3)] below meth c s₁ [] 0 0 := Stand.of_body Bd
  have e0 : s₁.heap = h0 := by rw [← hh, Bd.state]; rfl
  have N0 := Fr.nil n0
  refine own_go (B := s₁.setTop (mkF m 0 #[.val (.int p1), .val (.int p2), .val (.int p3), .unset, .unset, .unset, .unset, .unset, .unset, .unset, .unset, .unset] [])) (fun t k => castTop (ef_0 m p1 p2 p3) k) ?_
  refine own_go (B := s₁.setTop (mkF m 11 #[.val (.int p1), .val (.int p2), .val (.int p3), .val (.int (p1.toUInt32.toUInt16.toUInt32.toInt32)), .val (.int (p2.toUInt32.toUInt16.toUInt32.toInt32)), .val (.int (p3.toUInt32.toUInt16.toUInt32.toInt32)), .unset, .unset, .unset, .unset, .unset, .unset] [])) (fun t k => ?_) ?_
  · show Steps p.tables e below (s₁.setTop (mkF m 0 #[.val (.int p1), .val (.int p2), .val (.int p3), .unset, .unset, .unset, .unset, .unset, .unset, .unset, .unset, .unset] [])) _
    refine XS.iloadN X0.here hx rfl (hb hby at_0) rfl ?_
    show Steps p.tables e below (s₁.setTop (mkF m 1 #[.val (.int p1), .val (.int p2), .val (.int p3), .unset, .unset, .unset, .unset, .unset, .unset, .unset, .unset, .unset] [(.int p1)])) _
    refine XS.i2c X0.here hx rfl (hb hby at_1) rfl ?_
    show Steps p.tables e below (s₁.setTop (mkF m 2 #[.val (.int p1), .val (.int p2), .val (.int p3), .unset, .unset, .unset, .unset, .unset, .unset, .unset, .unset, .unset] [(.int (p1.toUInt32.toUInt16.toUInt32.toInt32))])) _
    refine XS.istoreN X0.here hx rfl (hb hby at_2) rfl (l' := #[.val (.int p1), .val (.int p2), .val (.int p3), .val (.int (p1.toUInt32.toUInt16.toUInt32.toInt32)), .unset, .unset, .unset, .unset, .unset, .unset, .unset, .unset]) rfl ?_
    show Steps p.tables e below (s₁.setTop (mkF m 3 #[.val (.int p1), .val (.int p2), .val (.int p3), .val (.int (p1.toUInt32.toUInt16.toUInt32.toInt32)), .unset, .unset, .unset, .unset, .unset, .unset, .unset, .unset] [])) _
    refine XS.iloadN X0.here hx rfl (hb hby at_3) rfl ?_
    show Steps p.tables e below (s₁.setTop (mkF m 4 #[.val (.int p1), .val (.int p2), .val (.int p3), .val (.int (p1.toUInt32.toUInt16.toUInt32.toInt32)), .unset, .unset, .unset, .unset, .unset, .unset, .unset, .unset] [(.int p2)])) _
    refine XS.i2c X0.here hx rfl (hb hby at_4) rfl ?_
    show Steps p.tables e below (s₁.setTop (mkF m 5 #[.val (.int p1), .val (.int p2), .val (.int p3), .val (.int (p1.toUInt32.toUInt16.toUInt32.toInt32)), .unset, .unset, .unset, .unset, .unset, .unset, .unset, .unset] [(.int (p2.toUInt32.toUInt16.toUInt32.toInt32))])) _
    refine XS.istore X0.here hx rfl (hb hby at_5) rfl (l' := #[.val (.int p1), .val (.int p2), .val (.int p3), .val (.int (p1.toUInt32.toUInt16.toUInt32.toInt32)), .val (.int (p2.toUInt32.toUInt16.toUInt32.toInt32)), .unset, .unset, .unset, .unset, .unset, .unset, .unset]) rfl ?_
    show Steps p.tables e below (s₁.setTop (mkF m 7 #[.val (.int p1), .val (.int p2), .val (.int p3), .val (.int (p1.toUInt32.toUInt16.toUInt32.toInt32)), .val (.int (p2.toUInt32.toUInt16.toUInt32.toInt32)), .unset, .unset, .unset, .unset, .unset, .unset, .unset] [])) _
    refine XS.iloadN X0.here hx rfl (hb hby at_7) rfl ?_
    show Steps p.tables e below (s₁.setTop (mkF m 8 #[.val (.int p1), .val (.int p2), .val (.int p3), .val (.int (p1.toUInt32.toUInt16.toUInt32.toInt32)), .val (.int (p2.toUInt32.toUInt16.toUInt32.toInt32)), .unset, .unset, .unset, .unset, .unset, .unset, .unset] [(.int p3)])) _
    refine XS.i2c X0.here hx rfl (hb hby at_8) rfl ?_
    show Steps p.tables e below (s₁.setTop (mkF m 9 #[.val (.int p1), .val (.int p2), .val (.int p3), .val (.int (p1.toUInt32.toUInt16.toUInt32.toInt32)), .val (.int (p2.toUInt32.toUInt16.toUInt32.toInt32)), .unset, .unset, .unset, .unset, .unset, .unset, .unset] [(.int (p3.toUInt32.toUInt16.toUInt32.toInt32))])) _
    refine XS.istore X0.here hx rfl (hb hby at_9) rfl (l' := #[.val (.int p1), .val (.int p2), .val (.int p3), .val (.int (p1.toUInt32.toUInt16.toUInt32.toInt32)), .val (.int (p2.toUInt32.toUInt16.toUInt32.toInt32)), .val (.int (p3.toUInt32.toUInt16.toUInt32.toInt32)), .unset, .unset, .unset, .unset, .unset, .unset]) rfl ?_
    show Steps p.tables e below (s₁.setTop (mkF m 11 #[.val (.int p1), .val (.int p2), .val (.int p3), .val (.int (p1.toUInt32.toUInt16.toUInt32.toInt32)), .val (.int (p2.toUInt32.toUInt16.toUInt32.toInt32)), .val (.int (p3.toUInt32.toUInt16.toUInt32.toInt32)), .unset, .unset, .unset, .unset, .unset, .unset] [])) _
    exact k
  obtain ⟨ci, e_ci⟩ : ∃ z, z = (p1.toUInt32.toUInt16.toUInt32.toInt32) := ⟨_, rfl⟩
  rw [← e_ci]
  obtain ⟨fi, e_fi⟩ : ∃ z, z = (p2.toUInt32.toUInt16.toUInt32.toInt32) := ⟨_, rfl⟩
  rw [← e_fi]
  obtain ⟨li, e_li⟩ : ∃ z, z = (p3.toUInt32.toUInt16.toUInt32.toInt32) := ⟨_, rfl⟩
  rw [← e_li]
  refine own_go (B := s₁.setTop (mkF m 26 #[.val (.int p1), .val (.int p2), .val (.int p3), .val (.int ci), .val (.int fi), .val (.int li), .val (.int ci), .val (.int fi), .val (.int li), .unset, .unset, .unset] [(.int fi), (.int ci)])) (fun t k => ?_) ?_
  · show Steps p.tables e below (s₁.setTop (mkF m 11 #[.val (.int p1), .val (.int p2), .val (.int p3), .val (.int ci), .val (.int fi), .val (.int li), .unset, .unset, .unset, .unset, .unset, .unset] [])) _
    refine XS.iloadN X0.here hx rfl (hb hby at_11) rfl ?_
    show Steps p.tables e below (s₁.setTop (mkF m 12 #[.val (.int p1), .val (.int p2), .val (.int p3), .val (.int ci), .val (.int fi), .val (.int li), .unset, .unset, .unset, .unset, .unset, .unset] [(.int ci)])) _
    refine XS.istore X0.here hx rfl (hb hby at_12) rfl (l' := #[.val (.int p1), .val (.int p2), .val (.int p3), .val (.int ci), .val (.int fi), .val (.int li), .val (.int ci), .unset, .unset, .unset, .unset, .unset]) rfl ?_
    show Steps p.tables e below (s₁.setTop (mkF m 14 #[.val (.int p1), .val (.int p2), .val (.int p3), .val (.int ci), .val (.int fi), .val (.int li), .val (.int ci), .unset, .unset, .unset, .unset, .unset] [])) _
    refine XS.iload X0.here hx rfl (hb hby at_14) rfl ?_
    show Steps p.tables e below (s₁.setTop (mkF m 16 #[.val (.int p1), .val (.int p2), .val (.int p3), .val (.int ci), .val (.int fi), .val (.int li), .val (.int ci), .unset, .unset, .unset, .unset, .unset] [(.int fi)])) _
    refine XS.istore X0.here hx rfl (hb hby at_16) rfl (l' := #[.val (.int p1), .val (.int p2), .val (.int p3), .val (.int ci), .val (.int fi), .val (.int li), .val (.int ci), .val (.int fi), .unset, .unset, .unset, .unset]) rfl ?_
    show Steps p.tables e below (s₁.setTop (mkF m 18 #[.val (.int p1), .val (.int p2), .val (.int p3), .val (.int ci), .val (.int fi), .val (.int li), .val (.int ci), .val (.int fi), .unset, .unset, .unset, .unset] [])) _
    refine XS.iload X0.here hx rfl (hb hby at_18) rfl ?_
    show Steps p.tables e below (s₁.setTop (mkF m 20 #[.val (.int p1), .val (.int p2), .val (.int p3), .val (.int ci), .val (.int fi), .val (.int li), .val (.int ci), .val (.int fi), .unset, .unset, .unset, .unset] [(.int li)])) _
    refine XS.istore X0.here hx rfl (hb hby at_20) rfl (l' := #[.val (.int p1), .val (.int p2), .val (.int p3), .val (.int ci), .val (.int fi), .val (.int li), .val (.int ci), .val (.int fi), .val (.int li), .unset, .unset, .unset]) rfl ?_
    show Steps p.tables e below (s₁.setTop (mkF m 22 #[.val (.int p1), .val (.int p2), .val (.int p3), .val (.int ci), .val (.int fi), .val (.int li), .val (.int ci), .val (.int fi), .val (.int li), .unset, .unset, .unset] [])) _
    refine XS.iload X0.here hx rfl (hb hby at_22) rfl ?_
    show Steps p.tables e below (s₁.setTop (mkF m 24 #[.val (.int p1), .val (.int p2), .val (.int p3), .val (.int ci), .val (.int fi), .val (.int li), .val (.int ci), .val (.int fi), .val (.int li), .unset, .unset, .unset] [(.int ci)])) _
    refine XS.iload X0.here hx rfl (hb hby at_24) rfl ?_
    show Steps p.tables e below (s₁.setTop (mkF m 26 #[.val (.int p1), .val (.int p2), .val (.int p3), .val (.int ci), .val (.int fi), .val (.int li), .val (.int ci), .val (.int fi), .val (.int li), .unset, .unset, .unset] [(.int fi), (.int ci)])) _
    exact k
  obtain ⟨_, _, ⟨T12, L12, k12, n12⟩, -, X12, ⟨Lc12, hQ12, l12, y12, z12⟩, st12⟩ := Jvm.LawKit.callS X0 hx (y := (⟨"java/lang/Math", "max", "(II)I"⟩ : MethodName)) hown (mvT hZ (hw _ (List.mem_of_getElem? (i := 0) rfl))) (mvT hZ (hw _ (List.mem_of_getElem? (i := 1) rfl))) (mvT hZ (hw _ (List.mem_of_getElem? (i := 2) rfl))) (mvT hZ (hw _ (List.mem_of_getElem? (i := 3) rfl))) (by decide) (backOf (W := 0) (rm1 l Z a0 hw [] ci fi h0 n0 Z0 ) hZ (hw _ (List.mem_of_getElem? (i := 3) rfl)) (hw _ (List.mem_of_getElem? (i := 2) rfl)) (by decide) (by decide)) (g := (mkF m 26 #[.val (.int p1), .val (.int p2), .val (.int p3), .val (.int ci), .val (.int fi), .val (.int li), .val (.int ci), .val (.int fi), .val (.int li), .unset, .unset, .unset] [(.int fi), (.int ci)])) rfl (by rw [hml]; rfl) (argsL := [(.int ci), (.int fi)]) (rest := []) (lenOf pd_0 rfl) rfl (by show 2 * 0 + _ ≤ _; exact Nat.le_of_eq rfl) (hb hby at_26) (fun _ _ => ⟨rfl, e0, (by decide : 0 + 0 ≤ _), (by decide : 0 + 0 ≤ _)⟩)
  dsimp only [Pt.U, Pt.locs, Pt.cells, Pt.slots] at X12 l12 y12 z12 st12 hQ12
  subst l12 y12 z12
  obtain ⟨rfl, M12, q12_0⟩ := hQ12
  have N12 := Fr.app N0 M12
  refine own_go st12 ?_
  refine own_go (B := T12.setTop (mkF m 31 #[.val (.int p1), .val (.int p2), .val (.int p3), .val (.int ci), .val (.int fi), .val (.int li), .val (.int ci), .val (.int fi), .val (.int li), .unset, .unset, .unset] [(.int li), (.int (if ci < fi then fi else ci))])) (fun t k => ?_) ?_
  · show Steps p.tables e below (T12.setTop (mkF m 29 #[.val (.int p1), .val (.int p2), .val (.int p3), .val (.int ci), .val (.int fi), .val (.int li), .val (.int ci), .val (.int fi), .val (.int li), .unset, .unset, .unset] [(.int (if ci < fi then fi else ci))])) _
    refine XS.iload X12.here hx rfl (hb hby at_29) rfl ?_
    show Steps p.tables e below (T12.setTop (mkF m 31 #[.val (.int p1), .val (.int p2), .val (.int p3), .val (.int ci), .val (.int fi), .val (.int li), .val (.int ci), .val (.int fi), .val (.int li), .unset, .unset, .unset] [(.int li), (.int (if ci < fi then fi else ci))])) _
    exact k
  obtain ⟨_, _, ⟨T13, L13, k13, n13⟩, -, X13, ⟨Lc13, hQ13, l13, y13, z13⟩, st13⟩ := Jvm.LawKit.callS X12 hx (y := (⟨"java/lang/Math", "min", "(II)I"⟩ : MethodName)) hown (mvT hZ (hw _ (List.mem_of_getElem? (i := 4) rfl))) (mvT hZ (hw _ (List.mem_of_getElem? (i := 5) rfl))) (mvT hZ (hw _ (List.mem_of_getElem? (i := 2) rfl))) (mvT hZ (hw _ (List.mem_of_getElem? (i := 6) rfl))) (by decide) (backOf (W := 0) (rm2 l Z a0 hw [] (if ci < fi then fi else ci) li h0 n0 Z0 ) hZ (hw _ (List.mem_of_getElem? (i := 6) rfl)) (hw _ (List.mem_of_getElem? (i := 2) rfl)) (by decide) (by decide)) (g := (mkF m 31 #[.val (.int p1), .val (.int p2), .val (.int p3), .val (.int ci), .val (.int fi), .val (.int li), .val (.int ci), .val (.int fi), .val (.int li), .unset, .unset, .unset] [(.int li), (.int (if ci < fi then fi else ci))])) rfl (by rw [hml]; rfl) (argsL := [(.int (if ci < fi then fi else ci)), (.int li)]) (rest := []) (lenOf pd_0 rfl) rfl (by show 2 * 0 + _ ≤ _; exact Nat.le_of_eq rfl) (hb hby at_31) (fun _ _ => ⟨rfl, q12_0, (by decide : 0 + 0 ≤ _), (by decide : 0 + 0 ≤ _)⟩)
  dsimp only [Pt.U, Pt.locs, Pt.cells, Pt.slots] at X13 l13 y13 z13 st13 hQ13
  subst l13 y13 z13
  obtain ⟨rfl, M13, q13_0⟩ := hQ13
  have N13 := Fr.app N12 M13
  refine own_go st13 ?_
  refine own_go (B := T13.setTop (mkF m 40 #[.val (.int p1), .val (.int p2), .val (.int p3), .val (.int ci), .val (.int fi), .val (.int li), .val (.int ci), .val (.int fi), .val (.int li), .val (.int (if li < (if ci < fi then fi else ci) then li else (if ci < fi then fi else ci))), .unset, .unset] [(.int ci), (.int (if li < (if ci < fi then fi else ci) then li else (if ci < fi then fi else ci)))])) (fun t k => ?_) ?_
  · show Steps p.tables e below (T13.setTop (mkF m 34 #[.val (.int p1), .val (.int p2), .val (.int p3), .val (.int ci), .val (.int fi), .val (.int li), .val (.int ci), .val (.int fi), .val (.int li), .unset, .unset, .unset] [(.int (if li < (if ci < fi then fi else ci) then li else (if ci < fi then fi else ci)))])) _
    refine XS.istore X13.here hx rfl (hb hby at_34) rfl (l' := #[.val (.int p1), .val (.int p2), .val (.int p3), .val (.int ci), .val (.int fi), .val (.int li), .val (.int ci), .val (.int fi), .val (.int li), .val (.int (if li < (if ci < fi then fi else ci) then li else (if ci < fi then fi else ci))), .unset, .unset]) rfl ?_
    show Steps p.tables e below (T13.setTop (mkF m 36 #[.val (.int p1), .val (.int p2), .val (.int p3), .val (.int ci), .val (.int fi), .val (.int li), .val (.int ci), .val (.int fi), .val (.int li), .val (.int (if li < (if ci < fi then fi else ci) then li else (if ci < fi then fi else ci))), .unset, .unset] [])) _
    refine XS.iload X13.here hx rfl (hb hby at_36) rfl ?_
    show Steps p.tables e below (T13.setTop (mkF m 38 #[.val (.int p1), .val (.int p2), .val (.int p3), .val (.int ci), .val (.int fi), .val (.int li), .val (.int ci), .val (.int fi), .val (.int li), .val (.int (if li < (if ci < fi then fi else ci) then li else (if ci < fi then fi else ci))), .unset, .unset] [(.int (if li < (if ci < fi then fi else ci) then li else (if ci < fi then fi else ci)))])) _
    refine XS.iload X13.here hx rfl (hb hby at_38) rfl ?_
    show Steps p.tables e below (T13.setTop (mkF m 40 #[.val (.int p1), .val (.int p2), .val (.int p3), .val (.int ci), .val (.int fi), .val (.int li), .val (.int ci), .val (.int fi), .val (.int li), .val (.int (if li < (if ci < fi then fi else ci) then li else (if ci < fi then fi else ci))), .unset, .unset] [(.int ci), (.int (if li < (if ci < fi then fi else ci) then li else (if ci < fi then fi else ci)))])) _
    exact k
  by_cases hc14 : (if li < (if ci < fi then fi else ci) then li else (if ci < fi then fi else ci)) = ci
  · refine own_go (B := T13.setTop (mkF m 47 #[.val (.int p1), .val (.int p2), .val (.int p3), .val (.int ci), .val (.int fi), .val (.int li), .val (.int ci), .val (.int fi), .val (.int li), .val (.int (if li < (if ci < fi then fi else ci) then li else (if ci < fi then fi else ci))), .unset, .unset] [(.int li), (.int fi)])) (fun t k => ?_) ?_
    · show Steps p.tables e below (T13.setTop (mkF m 40 #[.val (.int p1), .val (.int p2), .val (.int p3), .val (.int ci), .val (.int fi), .val (.int li), .val (.int ci), .val (.int fi), .val (.int li), .val (.int (if li < (if ci < fi then fi else ci) then li else (if ci < fi then fi else ci))), .unset, .unset] [(.int ci), (.int (if li < (if ci < fi then fi else ci) then li else (if ci < fi then fi else ci)))])) _
      refine XS.icmpNo X13.here hx rfl (hb hby at_40) rfl (teq hc14).2 ?_
      show Steps p.tables e below (T13.setTop (mkF m 43 #[.val (.int p1), .val (.int p2), .val (.int p3), .val (.int ci), .val (.int fi), .val (.int li), .val (.int ci), .val (.int fi), .val (.int li), .val (.int (if li < (if ci < fi then fi else ci) then li else (if ci < fi then fi else ci))), .unset, .unset] [])) _
      refine XS.iload X13.here hx rfl (hb hby at_43) rfl ?_
      show Steps p.tables e below (T13.setTop (mkF m 45 #[.val (.int p1), .val (.int p2), .val (.int p3), .val (.int ci), .val (.int fi), .val (.int li), .val (.int ci), .val (.int fi), .val (.int li), .val (.int (if li < (if ci < fi then fi else ci) then li else (if ci < fi then fi else ci))), .unset, .unset] [(.int fi)])) _
      refine XS.iload X13.here hx rfl (hb hby at_45) rfl ?_
      show Steps p.tables e below (T13.setTop (mkF m 47 #[.val (.int p1), .val (.int p2), .val (.int p3), .val (.int ci), .val (.int fi), .val (.int li), .val (.int ci), .val (.int fi), .val (.int li), .val (.int (if li < (if ci < fi then fi else ci) then li else (if ci < fi then fi else ci))), .unset, .unset] [(.int li), (.int fi)])) _
      exact k
    by_cases hc15 : li < fi
    · refine own_go (B := T13.setTop (mkF m 62 #[.val (.int p1), .val (.int p2), .val (.int p3), .val (.int ci), .val (.int fi), .val (.int li), .val (.int ci), .val (.int fi), .val (.int li), .val (.int (if li < (if ci < fi then fi else ci) then li else (if ci < fi then fi else ci))), .val (.int (0 : Int32)), .unset] [(.int li), (.int fi), (.int ci)])) (fun t k => ?_) ?_
      · show Steps p.tables e below (T13.setTop (mkF m 47 #[.val (.int p1), .val (.int p2), .val (.int p3), .val (.int ci), .val (.int fi), .val (.int li), .val (.int ci), .val (.int fi), .val (.int li), .val (.int (if li < (if ci < fi then fi else ci) then li else (if ci < fi then fi else ci))), .unset, .unset] [(.int li), (.int fi)])) _
        refine XS.icmpYes X13.here hx rfl (pc0 := 47) (pc' := 54) rfl (hb hby at_47) rfl (tlt hc15).2.2.1 (by decide) (by decide) ?_
        show Steps p.tables e below (T13.setTop (mkF m 54 #[.val (.int p1), .val (.int p2), .val (.int p3), .val (.int ci), .val (.int fi), .val (.int li), .val (.int ci), .val (.int fi), .val (.int li), .val (.int (if li < (if ci < fi then fi else ci) then li else (if ci < fi then fi else ci))), .unset, .unset] [])) _
        refine XS.iconst X13.here hx rfl (hb hby at_54) ?_
        show Steps p.tables e below (T13.setTop (mkF m 55 #[.val (.int p1), .val (.int p2), .val (.int p3), .val (.int ci), .val (.int fi), .val (.int li), .val (.int ci), .val (.int fi), .val (.int li), .val (.int (if li < (if ci < fi then fi else ci) then li else (if ci < fi then fi else ci))), .unset, .unset] [(.int (0 : Int32))])) _
        refine XS.istore X13.here hx rfl (hb hby at_55) rfl (l' := #[.val (.int p1), .val (.int p2), .val (.int p3), .val (.int ci), .val (.int fi), .val (.int li), .val (.int ci), .val (.int fi), .val (.int li), .val (.int (if li < (if ci < fi then fi else ci) then li else (if ci < fi then fi else ci))), .val (.int (0 : Int32)), .unset]) rfl ?_
        show Steps p.tables e below (T13.setTop (mkF m 57 #[.val (.int p1), .val (.int p2), .val (.int p3), .val (.int ci), .val (.int fi), .val (.int li), .val (.int ci), .val (.int fi), .val (.int li), .val (.int (if li < (if ci < fi then fi else ci) then li else (if ci < fi then fi else ci))), .val (.int (0 : Int32)), .unset] [])) _
        refine XS.iloadN X13.here hx rfl (hb hby at_57) rfl ?_
        show Steps p.tables e below (T13.setTop (mkF m 58 #[.val (.int p1), .val (.int p2), .val (.int p3), .val (.int ci), .val (.int fi), .val (.int li), .val (.int ci), .val (.int fi), .val (.int li), .val (.int (if li < (if ci < fi then fi else ci) then li else (if ci < fi then fi else ci))), .val (.int (0 : Int32)), .unset] [(.int ci)])) _
        refine XS.iload X13.here hx rfl (hb hby at_58) rfl ?_
        show Steps p.tables e below (T13.setTop (mkF m 60 #[.val (.int p1), .val (.int p2), .val (.int p3), .val (.int ci), .val (.int fi), .val (.int li), .val (.int ci), .val (.int fi), .val (.int li), .val (.int (if li < (if ci < fi then fi else ci) then li else (if ci < fi then fi else ci))), .val (.int (0 : Int32)), .unset] [(.int fi), (.int ci)])) _
        refine XS.iload X13.here hx rfl (hb hby at_60) rfl ?_
        show Steps p.tables e below (T13.setTop (mkF m 62 #[.val (.int p1), .val (.int p2), .val (.int p3), .val (.int ci), .val (.int fi), .val (.int li), .val (.int ci), .val (.int fi), .val (.int li), .val (.int (if li < (if ci < fi then fi else ci) then li else (if ci < fi then fi else ci))), .val (.int (0 : Int32)), .unset] [(.int li), (.int fi), (.int ci)])) _
        exact k
      obtain ⟨_, _, ⟨T16, L16, k16, n16⟩, -, X16, ⟨Lc16, hQ16, l16, y16, z16⟩, st16⟩ := Jvm.LawKit.callS X13 hx (y := (⟨"com/example/restate/restate/MarkerLabel", "isBetween", "(CCC)Z"⟩ : MethodName)) hown (mvT hZ (hw _ (List.mem_of_getElem? (i := 7) rfl))) (mvT hZ (hw _ (List.mem_of_getElem? (i := 8) rfl))) (mvT hZ (hw _ (List.mem_of_getElem? (i := 9) rfl))) (mvT hZ (hw _ (List.mem_of_getElem? (i := 10) rfl))) (by decide) (backOf (W := 0) (rm3 l Z a0 hw [] ci fi li h0 n0 Z0 ) hZ (hw _ (List.mem_of_getElem? (i := 10) rfl)) (hw _ (List.mem_of_getElem? (i := 9) rfl)) (by decide) (by decide)) (g := (mkF m 62 #[.val (.int p1), .val (.int p2), .val (.int p3), .val (.int ci), .val (.int fi), .val (.int li), .val (.int ci), .val (.int fi), .val (.int li), .val (.int (if li < (if ci < fi then fi else ci) then li else (if ci < fi then fi else ci))), .val (.int (0 : Int32)), .unset] [(.int li), (.int fi), (.int ci)])) rfl (by rw [hml]; rfl) (argsL := [(.int ci), (.int fi), (.int li)]) (rest := []) (lenOf pd_1 rfl) rfl (by show 2 * 0 + _ ≤ _; exact Nat.le_of_eq rfl) (hb hby at_62) (fun _ _ => ⟨rfl, q13_0, (by decide : 0 + 0 ≤ _), (by decide : 0 + 0 ≤ _)⟩)
      dsimp only [Pt.U, Pt.locs, Pt.cells, Pt.slots] at X16 l16 y16 z16 st16 hQ16
      subst l16 y16 z16
      obtain ⟨rfl, M16, q16_0⟩ := hQ16
      have N16 := Fr.app N13 M16
      refine own_go st16 ?_
      refine own_go (B := T16.setTop (mkF m 79 #[.val (.int p1), .val (.int p2), .val (.int p3), .val (.int ci), .val (.int fi), .val (.int li), .val (.int ci), .val (.int fi), .val (.int li), .val (.int (if li < (if ci < fi then fi else ci) then li else (if ci < fi then fi else ci))), .val (.int (0 : Int32)), .val (.int (if ¬ ci < fi ∧ ¬ li < ci then (1 : Int32) else 0))] [(.int (1 : Int32))])) (fun t k => ?_) ?_
      · show Steps p.tables e below (T16.setTop (mkF m 65 #[.val (.int p1), .val (.int p2), .val (.int p3), .val (.int ci), .val (.int fi), .val (.int li), .val (.int ci), .val (.int fi), .val (.int li), .val (.int (if li < (if ci < fi then fi else ci) then li else (if ci < fi then fi else ci))), .val (.int (0 : Int32)), .unset] [(.int (if ¬ ci < fi ∧ ¬ li < ci then (1 : Int32) else 0))])) _
        refine XS.istore X16.here hx rfl (hb hby at_65) rfl (l' := #[.val (.int p1), .val (.int p2), .val (.int p3), .val (.int ci), .val (.int fi), .val (.int li), .val (.int ci), .val (.int fi), .val (.int li), .val (.int (if li < (if ci < fi then fi else ci) then li else (if ci < fi then fi else ci))), .val (.int (0 : Int32)), .val (.int (if ¬ ci < fi ∧ ¬ li < ci then (1 : Int32) else 0))]) rfl ?_
        show Steps p.tables e below (T16.setTop (mkF m 67 #[.val (.int p1), .val (.int p2), .val (.int p3), .val (.int ci), .val (.int fi), .val (.int li), .val (.int ci), .val (.int fi), .val (.int li), .val (.int (if li < (if ci < fi then fi else ci) then li else (if ci < fi then fi else ci))), .val (.int (0 : Int32)), .val (.int (if ¬ ci < fi ∧ ¬ li < ci then (1 : Int32) else 0))] [])) _
        refine XS.iload X16.here hx rfl (hb hby at_67) rfl ?_
        show Steps p.tables e below (T16.setTop (mkF m 69 #[.val (.int p1), .val (.int p2), .val (.int p3), .val (.int ci), .val (.int fi), .val (.int li), .val (.int ci), .val (.int fi), .val (.int li), .val (.int (if li < (if ci < fi then fi else ci) then li else (if ci < fi then fi else ci))), .val (.int (0 : Int32)), .val (.int (if ¬ ci < fi ∧ ¬ li < ci then (1 : Int32) else 0))] [(.int (if ¬ ci < fi ∧ ¬ li < ci then (1 : Int32) else 0))])) _
        refine XS.iload X16.here hx rfl (hb hby at_69) rfl ?_
        show Steps p.tables e below (T16.setTop (mkF m 71 #[.val (.int p1), .val (.int p2), .val (.int p3), .val (.int ci), .val (.int fi), .val (.int li), .val (.int ci), .val (.int fi), .val (.int li), .val (.int (if li < (if ci < fi then fi else ci) then li else (if ci < fi then fi else ci))), .val (.int (0 : Int32)), .val (.int (if ¬ ci < fi ∧ ¬ li < ci then (1 : Int32) else 0))] [(.int (0 : Int32)), (.int (if ¬ ci < fi ∧ ¬ li < ci then (1 : Int32) else 0))])) _
        refine XS.icmpNo X16.here hx rfl (hb hby at_71) rfl (teq (show (if ¬ ci < fi ∧ ¬ li < ci then (1 : Int32) else 0) = (0 : Int32) from (by rw [if_neg (show ¬ (¬ ci < fi ∧ ¬ li < ci) from (own_b3 ci fi li hc15))] <;> decide))).2 ?_
        show Steps p.tables e below (T16.setTop (mkF m 74 #[.val (.int p1), .val (.int p2), .val (.int p3), .val (.int ci), .val (.int fi), .val (.int li), .val (.int ci), .val (.int fi), .val (.int li), .val (.int (if li < (if ci < fi then fi else ci) then li else (if ci < fi then fi else ci))), .val (.int (0 : Int32)), .val (.int (if ¬ ci < fi ∧ ¬ li < ci then (1 : Int32) else 0))] [])) _
        refine XS.iconst X16.here hx rfl (hb hby at_74) ?_
        show Steps p.tables e below (T16.setTop (mkF m 75 #[.val (.int p1), .val (.int p2), .val (.int p3), .val (.int ci), .val (.int fi), .val (.int li), .val (.int ci), .val (.int fi), .val (.int li), .val (.int (if li < (if ci < fi then fi else ci) then li else (if ci < fi then fi else ci))), .val (.int (0 : Int32)), .val (.int (if ¬ ci < fi ∧ ¬ li < ci then (1 : Int32) else 0))] [(.int (1 : Int32))])) _
        refine XS.goto X16.here hx rfl (pc0 := 75) (pc' := 79) rfl (hb hby at_75) (by decide) (by decide) ?_
        show Steps p.tables e below (T16.setTop (mkF m 79 #[.val (.int p1), .val (.int p2), .val (.int p3), .val (.int ci), .val (.int fi), .val (.int li), .val (.int ci), .val (.int fi), .val (.int li), .val (.int (if li < (if ci < fi then fi else ci) then li else (if ci < fi then fi else ci))), .val (.int (0 : Int32)), .val (.int (if ¬ ci < fi ∧ ¬ li < ci then (1 : Int32) else 0))] [(.int (1 : Int32))])) _
        exact k
      obtain ⟨fs, hr, hrun, hended, hW, hsame⟩ := X16.leave (v := some (.int (1 : Int32))) (fun h => by rw [Bd.returns] at h; cases h)
      refine ⟨_, _, ?_, hrun, hended, _, _, rfl, ?_, ⟨_, rfl⟩, hW, hsame.mono (by decide) (by decide)⟩
      · exact retN X16 hx (t := .boolean) Bd.returns (by simp) (hb hby at_79) hr
      · show Q0 Z p1 p2 p3 h0 n0 _ T16.heap _
        rw [q16_0]
        exact ⟨rfl, N16⟩
    · refine own_go (B := T13.setTop (mkF m 62 #[.val (.int p1), .val (.int p2), .val (.int p3), .val (.int ci), .val (.int fi), .val (.int li), .val (.int ci), .val (.int fi), .val (.int li), .val (.int (if li < (if ci < fi then fi else ci) then li else (if ci < fi then fi else ci))), .val (.int (1 : Int32)), .unset] [(.int li), (.int fi), (.int ci)])) (fun t k => ?_) ?_
      · show Steps p.tables e below (T13.setTop (mkF m 47 #[.val (.int p1), .val (.int p2), .val (.int p3), .val (.int ci), .val (.int fi), .val (.int li), .val (.int ci), .val (.int fi), .val (.int li), .val (.int (if li < (if ci < fi then fi else ci) then li else (if ci < fi then fi else ci))), .unset, .unset] [(.int li), (.int fi)])) _
        refine XS.icmpNo X13.here hx rfl (hb hby at_47) rfl (flt hc15).2.2.1 ?_
        show Steps p.tables e below (T13.setTop (mkF m 50 #[.val (.int p1), .val (.int p2), .val (.int p3), .val (.int ci), .val (.int fi), .val (.int li), .val (.int ci), .val (.int fi), .val (.int li), .val (.int (if li < (if ci < fi then fi else ci) then li else (if ci < fi then fi else ci))), .unset, .unset] [])) _
        refine XS.iconst X13.here hx rfl (hb hby at_50) ?_
        show Steps p.tables e below (T13.setTop (mkF m 51 #[.val (.int p1), .val (.int p2), .val (.int p3), .val (.int ci), .val (.int fi), .val (.int li), .val (.int ci), .val (.int fi), .val (.int li), .val (.int (if li < (if ci < fi then fi else ci) then li else (if ci < fi then fi else ci))), .unset, .unset] [(.int (1 : Int32))])) _
        refine XS.goto X13.here hx rfl (pc0 := 51) (pc' := 55) rfl (hb hby at_51) (by decide) (by decide) ?_
        show Steps p.tables e below (T13.setTop (mkF m 55 #[.val (.int p1), .val (.int p2), .val (.int p3), .val (.int ci), .val (.int fi), .val (.int li), .val (.int ci), .val (.int fi), .val (.int li), .val (.int (if li < (if ci < fi then fi else ci) then li else (if ci < fi then fi else ci))), .unset, .unset] [(.int (1 : Int32))])) _
        refine XS.istore X13.here hx rfl (hb hby at_55) rfl (l' := #[.val (.int p1), .val (.int p2), .val (.int p3), .val (.int ci), .val (.int fi), .val (.int li), .val (.int ci), .val (.int fi), .val (.int li), .val (.int (if li < (if ci < fi then fi else ci) then li else (if ci < fi then fi else ci))), .val (.int (1 : Int32)), .unset]) rfl ?_
        show Steps p.tables e below (T13.setTop (mkF m 57 #[.val (.int p1), .val (.int p2), .val (.int p3), .val (.int ci), .val (.int fi), .val (.int li), .val (.int ci), .val (.int fi), .val (.int li), .val (.int (if li < (if ci < fi then fi else ci) then li else (if ci < fi then fi else ci))), .val (.int (1 : Int32)), .unset] [])) _
        refine XS.iloadN X13.here hx rfl (hb hby at_57) rfl ?_
        show Steps p.tables e below (T13.setTop (mkF m 58 #[.val (.int p1), .val (.int p2), .val (.int p3), .val (.int ci), .val (.int fi), .val (.int li), .val (.int ci), .val (.int fi), .val (.int li), .val (.int (if li < (if ci < fi then fi else ci) then li else (if ci < fi then fi else ci))), .val (.int (1 : Int32)), .unset] [(.int ci)])) _
        refine XS.iload X13.here hx rfl (hb hby at_58) rfl ?_
        show Steps p.tables e below (T13.setTop (mkF m 60 #[.val (.int p1), .val (.int p2), .val (.int p3), .val (.int ci), .val (.int fi), .val (.int li), .val (.int ci), .val (.int fi), .val (.int li), .val (.int (if li < (if ci < fi then fi else ci) then li else (if ci < fi then fi else ci))), .val (.int (1 : Int32)), .unset] [(.int fi), (.int ci)])) _
        refine XS.iload X13.here hx rfl (hb hby at_60) rfl ?_
        show Steps p.tables e below (T13.setTop (mkF m 62 #[.val (.int p1), .val (.int p2), .val (.int p3), .val (.int ci), .val (.int fi), .val (.int li), .val (.int ci), .val (.int fi), .val (.int li), .val (.int (if li < (if ci < fi then fi else ci) then li else (if ci < fi then fi else ci))), .val (.int (1 : Int32)), .unset] [(.int li), (.int fi), (.int ci)])) _
        exact k
      obtain ⟨_, _, ⟨T18, L18, k18, n18⟩, -, X18, ⟨Lc18, hQ18, l18, y18, z18⟩, st18⟩ := Jvm.LawKit.callS X13 hx (y := (⟨"com/example/restate/restate/MarkerLabel", "isBetween", "(CCC)Z"⟩ : MethodName)) hown (mvT hZ (hw _ (List.mem_of_getElem? (i := 7) rfl))) (mvT hZ (hw _ (List.mem_of_getElem? (i := 8) rfl))) (mvT hZ (hw _ (List.mem_of_getElem? (i := 9) rfl))) (mvT hZ (hw _ (List.mem_of_getElem? (i := 10) rfl))) (by decide) (backOf (W := 0) (rm3 l Z a0 hw [] ci fi li h0 n0 Z0 ) hZ (hw _ (List.mem_of_getElem? (i := 10) rfl)) (hw _ (List.mem_of_getElem? (i := 9) rfl)) (by decide) (by decide)) (g := (mkF m 62 #[.val (.int p1), .val (.int p2), .val (.int p3), .val (.int ci), .val (.int fi), .val (.int li), .val (.int ci), .val (.int fi), .val (.int li), .val (.int (if li < (if ci < fi then fi else ci) then li else (if ci < fi then fi else ci))), .val (.int (1 : Int32)), .unset] [(.int li), (.int fi), (.int ci)])) rfl (by rw [hml]; rfl) (argsL := [(.int ci), (.int fi), (.int li)]) (rest := []) (lenOf pd_1 rfl) rfl (by show 2 * 0 + _ ≤ _; exact Nat.le_of_eq rfl) (hb hby at_62) (fun _ _ => ⟨rfl, q13_0, (by decide : 0 + 0 ≤ _), (by decide : 0 + 0 ≤ _)⟩)
      dsimp only [Pt.U, Pt.locs, Pt.cells, Pt.slots] at X18 l18 y18 z18 st18 hQ18
      subst l18 y18 z18
      obtain ⟨rfl, M18, q18_0⟩ := hQ18
      have N18 := Fr.app N13 M18
      refine own_go st18 ?_
      refine own_go (B := T18.setTop (mkF m 79 #[.val (.int p1), .val (.int p2), .val (.int p3), .val (.int ci), .val (.int fi), .val (.int li), .val (.int ci), .val (.int fi), .val (.int li), .val (.int (if li < (if ci < fi then fi else ci) then li else (if ci < fi then fi else ci))), .val (.int (1 : Int32)), .val (.int (if ¬ ci < fi ∧ ¬ li < ci then (1 : Int32) else 0))] [(.int (1 : Int32))])) (fun t k => ?_) ?_
      · show Steps p.tables e below (T18.setTop (mkF m 65 #[.val (.int p1), .val (.int p2), .val (.int p3), .val (.int ci), .val (.int fi), .val (.int li), .val (.int ci), .val (.int fi), .val (.int li), .val (.int (if li < (if ci < fi then fi else ci) then li else (if ci < fi then fi else ci))), .val (.int (1 : Int32)), .unset] [(.int (if ¬ ci < fi ∧ ¬ li < ci then (1 : Int32) else 0))])) _
        refine XS.istore X18.here hx rfl (hb hby at_65) rfl (l' := #[.val (.int p1), .val (.int p2), .val (.int p3), .val (.int ci), .val (.int fi), .val (.int li), .val (.int ci), .val (.int fi), .val (.int li), .val (.int (if li < (if ci < fi then fi else ci) then li else (if ci < fi then fi else ci))), .val (.int (1 : Int32)), .val (.int (if ¬ ci < fi ∧ ¬ li < ci then (1 : Int32) else 0))]) rfl ?_
        show Steps p.tables e below (T18.setTop (mkF m 67 #[.val (.int p1), .val (.int p2), .val (.int p3), .val (.int ci), .val (.int fi), .val (.int li), .val (.int ci), .val (.int fi), .val (.int li), .val (.int (if li < (if ci < fi then fi else ci) then li else (if ci < fi then fi else ci))), .val (.int (1 : Int32)), .val (.int (if ¬ ci < fi ∧ ¬ li < ci then (1 : Int32) else 0))] [])) _
        refine XS.iload X18.here hx rfl (hb hby at_67) rfl ?_
        show Steps p.tables e below (T18.setTop (mkF m 69 #[.val (.int p1), .val (.int p2), .val (.int p3), .val (.int ci), .val (.int fi), .val (.int li), .val (.int ci), .val (.int fi), .val (.int li), .val (.int (if li < (if ci < fi then fi else ci) then li else (if ci < fi then fi else ci))), .val (.int (1 : Int32)), .val (.int (if ¬ ci < fi ∧ ¬ li < ci then (1 : Int32) else 0))] [(.int (if ¬ ci < fi ∧ ¬ li < ci then (1 : Int32) else 0))])) _
        refine XS.iload X18.here hx rfl (hb hby at_69) rfl ?_
        show Steps p.tables e below (T18.setTop (mkF m 71 #[.val (.int p1), .val (.int p2), .val (.int p3), .val (.int ci), .val (.int fi), .val (.int li), .val (.int ci), .val (.int fi), .val (.int li), .val (.int (if li < (if ci < fi then fi else ci) then li else (if ci < fi then fi else ci))), .val (.int (1 : Int32)), .val (.int (if ¬ ci < fi ∧ ¬ li < ci then (1 : Int32) else 0))] [(.int (1 : Int32)), (.int (if ¬ ci < fi ∧ ¬ li < ci then (1 : Int32) else 0))])) _
        refine XS.icmpNo X18.here hx rfl (hb hby at_71) rfl (teq (show (if ¬ ci < fi ∧ ¬ li < ci then (1 : Int32) else 0) = (1 : Int32) from (by rw [if_pos (show ¬ ci < fi ∧ ¬ li < ci from (own_b1 ci fi li hc14 hc15))] <;> decide))).2 ?_
        show Steps p.tables e below (T18.setTop (mkF m 74 #[.val (.int p1), .val (.int p2), .val (.int p3), .val (.int ci), .val (.int fi), .val (.int li), .val (.int ci), .val (.int fi), .val (.int li), .val (.int (if li < (if ci < fi then fi else ci) then li else (if ci < fi then fi else ci))), .val (.int (1 : Int32)), .val (.int (if ¬ ci < fi ∧ ¬ li < ci then (1 : Int32) else 0))] [])) _
        refine XS.iconst X18.here hx rfl (hb hby at_74) ?_
        show Steps p.tables e below (T18.setTop (mkF m 75 #[.val (.int p1), .val (.int p2), .val (.int p3), .val (.int ci), .val (.int fi), .val (.int li), .val (.int ci), .val (.int fi), .val (.int li), .val (.int (if li < (if ci < fi then fi else ci) then li else (if ci < fi then fi else ci))), .val (.int (1 : Int32)), .val (.int (if ¬ ci < fi ∧ ¬ li < ci then (1 : Int32) else 0))] [(.int (1 : Int32))])) _
        refine XS.goto X18.here hx rfl (pc0 := 75) (pc' := 79) rfl (hb hby at_75) (by decide) (by decide) ?_
        show Steps p.tables e below (T18.setTop (mkF m 79 #[.val (.int p1), .val (.int p2), .val (.int p3), .val (.int ci), .val (.int fi), .val (.int li), .val (.int ci), .val (.int fi), .val (.int li), .val (.int (if li < (if ci < fi then fi else ci) then li else (if ci < fi then fi else ci))), .val (.int (1 : Int32)), .val (.int (if ¬ ci < fi ∧ ¬ li < ci then (1 : Int32) else 0))] [(.int (1 : Int32))])) _
        exact k
      obtain ⟨fs, hr, hrun, hended, hW, hsame⟩ := X18.leave (v := some (.int (1 : Int32))) (fun h => by rw [Bd.returns] at h; cases h)
      refine ⟨_, _, ?_, hrun, hended, _, _, rfl, ?_, ⟨_, rfl⟩, hW, hsame.mono (by decide) (by decide)⟩
      · exact retN X18 hx (t := .boolean) Bd.returns (by simp) (hb hby at_79) hr
      · show Q0 Z p1 p2 p3 h0 n0 _ T18.heap _
        rw [q18_0]
        exact ⟨rfl, N18⟩
  · refine own_go (B := T13.setTop (mkF m 62 #[.val (.int p1), .val (.int p2), .val (.int p3), .val (.int ci), .val (.int fi), .val (.int li), .val (.int ci), .val (.int fi), .val (.int li), .val (.int (if li < (if ci < fi then fi else ci) then li else (if ci < fi then fi else ci))), .val (.int (0 : Int32)), .unset] [(.int li), (.int fi), (.int ci)])) (fun t k => ?_) ?_
    · show Steps p.tables e below (T13.setTop (mkF m 40 #[.val (.int p1), .val (.int p2), .val (.int p3), .val (.int ci), .val (.int fi), .val (.int li), .val (.int ci), .val (.int fi), .val (.int li), .val (.int (if li < (if ci < fi then fi else ci) then li else (if ci < fi then fi else ci))), .unset, .unset] [(.int ci), (.int (if li < (if ci < fi then fi else ci) then li else (if ci < fi then fi else ci)))])) _
      refine XS.icmpYes X13.here hx rfl (pc0 := 40) (pc' := 54) rfl (hb hby at_40) rfl (feq hc14).2 (by decide) (by decide) ?_
      show Steps p.tables e below (T13.setTop (mkF m 54 #[.val (.int p1), .val (.int p2), .val (.int p3), .val (.int ci), .val (.int fi), .val (.int li), .val (.int ci), .val (.int fi), .val (.int li), .val (.int (if li < (if ci < fi then fi else ci) then li else (if ci < fi then fi else ci))), .unset, .unset] [])) _
      refine XS.iconst X13.here hx rfl (hb hby at_54) ?_
      show Steps p.tables e below (T13.setTop (mkF m 55 #[.val (.int p1), .val (.int p2), .val (.int p3), .val (.int ci), .val (.int fi), .val (.int li), .val (.int ci), .val (.int fi), .val (.int li), .val (.int (if li < (if ci < fi then fi else ci) then li else (if ci < fi then fi else ci))), .unset, .unset] [(.int (0 : Int32))])) _
      refine XS.istore X13.here hx rfl (hb hby at_55) rfl (l' := #[.val (.int p1), .val (.int p2), .val (.int p3), .val (.int ci), .val (.int fi), .val (.int li), .val (.int ci), .val (.int fi), .val (.int li), .val (.int (if li < (if ci < fi then fi else ci) then li else (if ci < fi then fi else ci))), .val (.int (0 : Int32)), .unset]) rfl ?_
      show Steps p.tables e below (T13.setTop (mkF m 57 #[.val (.int p1), .val (.int p2), .val (.int p3), .val (.int ci), .val (.int fi), .val (.int li), .val (.int ci), .val (.int fi), .val (.int li), .val (.int (if li < (if ci < fi then fi else ci) then li else (if ci < fi then fi else ci))), .val (.int (0 : Int32)), .unset] [])) _
      refine XS.iloadN X13.here hx rfl (hb hby at_57) rfl ?_
      show Steps p.tables e below (T13.setTop (mkF m 58 #[.val (.int p1), .val (.int p2), .val (.int p3), .val (.int ci), .val (.int fi), .val (.int li), .val (.int ci), .val (.int fi), .val (.int li), .val (.int (if li < (if ci < fi then fi else ci) then li else (if ci < fi then fi else ci))), .val (.int (0 : Int32)), .unset] [(.int ci)])) _
      refine XS.iload X13.here hx rfl (hb hby at_58) rfl ?_
      show Steps p.tables e below (T13.setTop (mkF m 60 #[.val (.int p1), .val (.int p2), .val (.int p3), .val (.int ci), .val (.int fi), .val (.int li), .val (.int ci), .val (.int fi), .val (.int li), .val (.int (if li < (if ci < fi then fi else ci) then li else (if ci < fi then fi else ci))), .val (.int (0 : Int32)), .unset] [(.int fi), (.int ci)])) _
      refine XS.iload X13.here hx rfl (hb hby at_60) rfl ?_
      show Steps p.tables e below (T13.setTop (mkF m 62 #[.val (.int p1), .val (.int p2), .val (.int p3), .val (.int ci), .val (.int fi), .val (.int li), .val (.int ci), .val (.int fi), .val (.int li), .val (.int (if li < (if ci < fi then fi else ci) then li else (if ci < fi then fi else ci))), .val (.int (0 : Int32)), .unset] [(.int li), (.int fi), (.int ci)])) _
      exact k
    obtain ⟨_, _, ⟨T20, L20, k20, n20⟩, -, X20, ⟨Lc20, hQ20, l20, y20, z20⟩, st20⟩ := Jvm.LawKit.callS X13 hx (y := (⟨"com/example/restate/restate/MarkerLabel", "isBetween", "(CCC)Z"⟩ : MethodName)) hown (mvT hZ (hw _ (List.mem_of_getElem? (i := 7) rfl))) (mvT hZ (hw _ (List.mem_of_getElem? (i := 8) rfl))) (mvT hZ (hw _ (List.mem_of_getElem? (i := 9) rfl))) (mvT hZ (hw _ (List.mem_of_getElem? (i := 10) rfl))) (by decide) (backOf (W := 0) (rm3 l Z a0 hw [] ci fi li h0 n0 Z0 ) hZ (hw _ (List.mem_of_getElem? (i := 10) rfl)) (hw _ (List.mem_of_getElem? (i := 9) rfl)) (by decide) (by decide)) (g := (mkF m 62 #[.val (.int p1), .val (.int p2), .val (.int p3), .val (.int ci), .val (.int fi), .val (.int li), .val (.int ci), .val (.int fi), .val (.int li), .val (.int (if li < (if ci < fi then fi else ci) then li else (if ci < fi then fi else ci))), .val (.int (0 : Int32)), .unset] [(.int li), (.int fi), (.int ci)])) rfl (by rw [hml]; rfl) (argsL := [(.int ci), (.int fi), (.int li)]) (rest := []) (lenOf pd_1 rfl) rfl (by show 2 * 0 + _ ≤ _; exact Nat.le_of_eq rfl) (hb hby at_62) (fun _ _ => ⟨rfl, q13_0, (by decide : 0 + 0 ≤ _), (by decide : 0 + 0 ≤ _)⟩)
    dsimp only [Pt.U, Pt.locs, Pt.cells, Pt.slots] at X20 l20 y20 z20 st20 hQ20
    subst l20 y20 z20
    obtain ⟨rfl, M20, q20_0⟩ := hQ20
    have N20 := Fr.app N13 M20
    refine own_go st20 ?_
    refine own_go (B := T20.setTop (mkF m 79 #[.val (.int p1), .val (.int p2), .val (.int p3), .val (.int ci), .val (.int fi), .val (.int li), .val (.int ci), .val (.int fi), .val (.int li), .val (.int (if li < (if ci < fi then fi else ci) then li else (if ci < fi then fi else ci))), .val (.int (0 : Int32)), .val (.int (if ¬ ci < fi ∧ ¬ li < ci then (1 : Int32) else 0))] [(.int (1 : Int32))])) (fun t k => ?_) ?_
    · show Steps p.tables e below (T20.setTop (mkF m 65 #[.val (.int p1), .val (.int p2), .val (.int p3), .val (.int ci), .val (.int fi), .val (.int li), .val (.int ci), .val (.int fi), .val (.int li), .val (.int (if li < (if ci < fi then fi else ci) then li else (if ci < fi then fi else ci))), .val (.int (0 : Int32)), .unset] [(.int (if ¬ ci < fi ∧ ¬ li < ci then (1 : Int32) else 0))])) _
      refine XS.istore X20.here hx rfl (hb hby at_65) rfl (l' := #[.val (.int p1), .val (.int p2), .val (.int p3), .val (.int ci), .val (.int fi), .val (.int li), .val (.int ci), .val (.int fi), .val (.int li), .val (.int (if li < (if ci < fi then fi else ci) then li else (if ci < fi then fi else ci))), .val (.int (0 : Int32)), .val (.int (if ¬ ci < fi ∧ ¬ li < ci then (1 : Int32) else 0))]) rfl ?_
      show Steps p.tables e below (T20.setTop (mkF m 67 #[.val (.int p1), .val (.int p2), .val (.int p3), .val (.int ci), .val (.int fi), .val (.int li), .val (.int ci), .val (.int fi), .val (.int li), .val (.int (if li < (if ci < fi then fi else ci) then li else (if ci < fi then fi else ci))), .val (.int (0 : Int32)), .val (.int (if ¬ ci < fi ∧ ¬ li < ci then (1 : Int32) else 0))] [])) _
      refine XS.iload X20.here hx rfl (hb hby at_67) rfl ?_
      show Steps p.tables e below (T20.setTop (mkF m 69 #[.val (.int p1), .val (.int p2), .val (.int p3), .val (.int ci), .val (.int fi), .val (.int li), .val (.int ci), .val (.int fi), .val (.int li), .val (.int (if li < (if ci < fi then fi else ci) then li else (if ci < fi then fi else ci))), .val (.int (0 : Int32)), .val (.int (if ¬ ci < fi ∧ ¬ li < ci then (1 : Int32) else 0))] [(.int (if ¬ ci < fi ∧ ¬ li < ci then (1 : Int32) else 0))])) _
      refine XS.iload X20.here hx rfl (hb hby at_69) rfl ?_
      show Steps p.tables e below (T20.setTop (mkF m 71 #[.val (.int p1), .val (.int p2), .val (.int p3), .val (.int ci), .val (.int fi), .val (.int li), .val (.int ci), .val (.int fi), .val (.int li), .val (.int (if li < (if ci < fi then fi else ci) then li else (if ci < fi then fi else ci))), .val (.int (0 : Int32)), .val (.int (if ¬ ci < fi ∧ ¬ li < ci then (1 : Int32) else 0))] [(.int (0 : Int32)), (.int (if ¬ ci < fi ∧ ¬ li < ci then (1 : Int32) else 0))])) _
      refine XS.icmpNo X20.here hx rfl (hb hby at_71) rfl (teq (show (if ¬ ci < fi ∧ ¬ li < ci then (1 : Int32) else 0) = (0 : Int32) from (by rw [if_neg (show ¬ (¬ ci < fi ∧ ¬ li < ci) from (own_b2 ci fi li hc14))] <;> decide))).2 ?_
      show Steps p.tables e below (T20.setTop (mkF m 74 #[.val (.int p1), .val (.int p2), .val (.int p3), .val (.int ci), .val (.int fi), .val (.int li), .val (.int ci), .val (.int fi), .val (.int li), .val (.int (if li < (if ci < fi then fi else ci) then li else (if ci < fi then fi else ci))), .val (.int (0 : Int32)), .val (.int (if ¬ ci < fi ∧ ¬ li < ci then (1 : Int32) else 0))] [])) _
      refine XS.iconst X20.here hx rfl (hb hby at_74) ?_
      show Steps p.tables e below (T20.setTop (mkF m 75 #[.val (.int p1), .val (.int p2), .val (.int p3), .val (.int ci), .val (.int fi), .val (.int li), .val (.int ci), .val (.int fi), .val (.int li), .val (.int (if li < (if ci < fi then fi else ci) then li else (if ci < fi then fi else ci))), .val (.int (0 : Int32)), .val (.int (if ¬ ci < fi ∧ ¬ li < ci then (1 : Int32) else 0))] [(.int (1 : Int32))])) _
      refine XS.goto X20.here hx rfl (pc0 := 75) (pc' := 79) rfl (hb hby at_75) (by decide) (by decide) ?_
      show Steps p.tables e below (T20.setTop (mkF m 79 #[.val (.int p1), .val (.int p2), .val (.int p3), .val (.int ci), .val (.int fi), .val (.int li), .val (.int ci), .val (.int fi), .val (.int li), .val (.int (if li < (if ci < fi then fi else ci) then li else (if ci < fi then fi else ci))), .val (.int (0 : Int32)), .val (.int (if ¬ ci < fi ∧ ¬ li < ci then (1 : Int32) else 0))] [(.int (1 : Int32))])) _
      exact k
    obtain ⟨fs, hr, hrun, hended, hW, hsame⟩ := X20.leave (v := some (.int (1 : Int32))) (fun h => by rw [Bd.returns] at h; cases h)
    refine ⟨_, _, ?_, hrun, hended, _, _, rfl, ?_, ⟨_, rfl⟩, hW, hsame.mono (by decide) (by decide)⟩
    · exact retN X20 hx (t := .boolean) Bd.returns (by simp) (hb hby at_79) hr
    · show Q0 Z p1 p2 p3 h0 n0 _ T20.heap _
      rw [q20_0]
      exact ⟨rfl, N20⟩
set_option maxRecDepth 65536 in
set_option maxHeartbeats 40000000 in
theorem comes_1 {Post : Tables → Env → Array Value → State → Outcome → State → Prop} (hpost : ∀ tb e args s v u, (limb_1_1.after args s (.returned v) u = true ∧ limb_1_2.after args s (.returned v) u = true ∧ True) → FrameEnd s (.returned v) u (Jvm.fieldLocs frame_1_writes args s ++ Jvm.arrayLocs frame_1_arrays args s ++ Jvm.staticLocs frame_1_statics s) 0 0 → Post tb e args s (.returned v) u) :
    ArmFor flags0 classFile x code maxLocals ret World_1 tables_1 room_1 Calls_1 rest_1 Pre_1 Post := by
  intro l hfl _ _ p e ha hc hk s m args below hf hA hF happ hP
  obtain ⟨hcalls, hrest, hpre⟩ := hP
  obtain ⟨-, -, -, hnamed, -, -, -, hat⟩ := (Spec.applies_iff hf).mp happ
  obtain ⟨hg, hn⟩ := and_e (Cond.before_iff.mp (show (Jvm.Cond.and given_1 narrow_1).before args s = true from hpre))
  obtain ⟨g0, hg0⟩ := and_e hg
  obtain ⟨g1, hg1⟩ := and_e hg0
  obtain ⟨g2, hg2⟩ := and_e hg1
  obtain ⟨w0, w1, w2, rfl⟩ : ∃ w0 w1 w2 : Value, args = #[w0, w1, w2] := by
    have hs : args.size = 3 := by simpa [Cond.value, given_1] using g0
    obtain ⟨L⟩ := args
    match L, hs with
    | [w0, w1, w2], _ => exact ⟨w0, w1, w2, rfl⟩
  have hw := fun d (hd : d ∈ tables_1) => atoms_spec (ws := Jvm.Cond.code x code maxLocals ret :: tables_1) hat d (List.mem_cons_of_mem _ hd)
  obtain ⟨i0, ei0⟩ := is_v g1
  obtain rfl : w0 = (.int i0) := Option.some.inj ei0
  obtain ⟨i1, ei1⟩ := is_v g2
  obtain rfl : w1 = (.int i1) := Option.some.inj ei1
  obtain ⟨i2, ei2⟩ := is_v hg2
  obtain rfl : w2 = (.int i2) := Option.some.inj ei2
  obtain ⟨n, o, h1, h2, h3, _, L, rfl, ⟨rfl, N⟩, hq⟩ := rm0 l s _ hw tables_1 i0 i1 i2 s.heap s.heap.size (Nat.le_refl _)  p e ha hc hk s m _ below hf ((Spec.applies_iff_loose hf).mp happ).1 ⟨rfl, State.Warmed39.refl s, rfl⟩ trivial
  refine ⟨n, _, h1, h2, h3, hpost _ _ _ _ _ _ ⟨Cond.after_iff.mpr rfl, Cond.after_iff.mpr (eq_i res_at (Term.int_eval (1)) rfl), trivial⟩ ⟨hq.1, hq.2.1, (hq.2.2.sift fun y hy => Or.inr (N y hy)).mono (by decide) (by decide)⟩⟩
theorem main_1_1 : Claimed_1_1 := comes_1 fun _ _ _ _ _ _ h hF => ⟨h.1, hF⟩
theorem main_1_2 : Claimed_1_2 := comes_1 fun _ _ _ _ _ _ h hF => ⟨h.2.1, hF⟩
end Jvm.Pilot.@@N@@
namespace Jvm.Pilot.@@N@@
open Jvm Jvm.ClassFile Sem Op Lib Jvm.Free Jvm.Stand Jvm.Pilot.@@N@@.Jvm.D
/-! MADE BY PROGRAM (witnessworld.py) out of the Statement's table words and the real class files: 10 classes; the members and pool entries that the words name. The judged class is class 1, her method 1. -/
namespace start1
open Jvm.ClassFile
def u (s : String) : CpInfo := .utf8 (stringToUtf16 s)
/-- a pool by its gaps: so many unusable entries, then the entry; so many at the end -/
def gap : Nat → List CpInfo → List CpInfo
  | 0, r => r
  | n + 1, r => .unusable :: gap n r
def poolList (es : List (Nat × CpInfo)) (last : Nat) : List CpInfo := es.foldr (fun e r => gap e.1 (e.2 :: r)) (gap last [])
def pool (es : List (Nat × CpInfo)) (last : Nat) : Array CpInfo := ⟨poolList es last⟩
def fileOf (pool : Array CpInfo) (this : Nat) (attrs : Array Attribute := #[]) (ms : Array MethodInfo := #[]) (fl : Nat := 33) (sup : Nat := 0) (ifs : Array Nat := #[]) (fds : Array FieldInfo := #[]) : ClassFile where
  minorVersion := 0
  majorVersion := 65
  constantPool := pool
  accessFlags := fl
  thisClass := this
  superClass := sup
  interfaces := ifs
  fields := fds
  methods := ms
  attributes := attrs
def plain (name : String) (sup : Option ClassId) : Class where
  name := name
  kind := .ordinary
  loader := none
  accessFlags := 33
  super := sup
  interfaces := #[]
  cf := none
  fields := #[]
  methods := #[]
  instanceTypes := #[]
  staticTypes := #[]
  resolved := #[]
  callSites := []
  init := .initialized
  statics := none
  mirror := none

def pool0 : Array CpInfo := pool [(5, u "<init>"), (0, u "()V"), (1, .class_ 10), (1, u "java/lang/Object")] 113

def k0m0 : Method := { name := "<init>", desc := "()V", sig := { parameters := [], returnType := none }, accessFlags := 1, code := none }
/-- java/lang/Object -/
def k0 : Class := { plain "java/lang/Object" none with
  accessFlags := 33
  interfaces := #[]
  cf := some (fileOf pool0 8 #[] #[{ accessFlags := 1, nameIndex := 5, descriptorIndex := 6, attributes := #[] }] 33 0 #[] #[])
  fields := #[]
  methods := #[k0m0]
  instanceTypes := #[]
  staticTypes := #[]
  resolved := Array.replicate 124 none
  statics := none }

def pool1 : Array CpInfo := pool [(2, .class_ 4), (1, u "java/lang/Object"), (0, u "<init>"), (0, u "()V"), (0, .methodref 8 9), (0, .class_ 10), (0, .nameAndType 11 12), (0, u "java/lang/Math"), (0, u "max"), (0, u "(II)I"), (0, .methodref 8 14), (0, .nameAndType 15 12), (0, u "min"), (0, .methodref 17 18), (0, .class_ 19), (0, .nameAndType 20 21), (0, u "com/example/restate/restate/MarkerLabel"), (0, u "isBetween"), (0, u "(CCC)Z"), (0, .class_ 23), (0, u "com/example/restate/restate/MarkerLabelIsBetweenPinLaw"), (2, u "law"), (0, u "(III)Z")] 3

def k1m0 : Method := { name := "<init>", desc := "()V", sig := { parameters := [], returnType := none }, accessFlags := 2, code := none }
def k1c1 : Code := { maxStack := 3, maxLocals := 12, code := code, exceptionTable := #[], attributes := #[] }
def k1m1 : Method := { name := "law", desc := "(III)Z", sig := { parameters := [.int, .int, .int], returnType := some .boolean }, accessFlags := 9, code := some k1c1 }
/-- com/example/restate/restate/MarkerLabelIsBetweenPinLaw -/
def k1 : Class := { plain "com/example/restate/restate/MarkerLabelIsBetweenPinLaw" (some 0) with
  accessFlags := 49
  interfaces := #[]
  cf := some (fileOf pool1 22 #[] #[{ accessFlags := 2, nameIndex := 5, descriptorIndex := 6, attributes := #[] }, { accessFlags := 9, nameIndex := 26, descriptorIndex := 27, attributes := #[] }] 49 2 #[] #[])
  fields := #[]
  methods := #[k1m0, k1m1]
  instanceTypes := #[]
  staticTypes := #[]
  resolved := Array.replicate 31 none
  statics := none }

def pool2 : Array CpInfo := pool [(1, .class_ 2), (0, u "java/lang/Math"), (1, .class_ 6), (1, u "java/lang/Object"), (0, u "<init>"), (0, u "()V"), (89, .class_ 100), (1, u "java/lang/Math$RandomNumberGeneratorHolder"), (71, u "negativeZeroFloatBits"), (0, u "J"), (2, u "negativeZeroDoubleBits"), (21, u "max"), (2, u "min"), (43, u "$assertionsDisabled"), (0, u "Z"), (88, u "(II)I"), (2, u "twoToTheDoubleScaleDown"), (0, u "D"), (4, u "twoToTheDoubleScaleUp"), (9, u "E"), (3, u "PI"), (2, u "TAU"), (2, u "DEGREES_TO_RADIANS"), (0, u "RADIANS_TO_DEGREES")] 94

def k2m0 : Method := { name := "<init>", desc := "()V", sig := { parameters := [], returnType := none }, accessFlags := 2, code := none }
def k2c1 : Code := { maxStack := 2, maxLocals := 2, code := jdk_29_method_65_code, exceptionTable := #[], attributes := #[] }
def k2m1 : Method := { name := "max", desc := "(II)I", sig := { parameters := [.int, .int], returnType := some .int }, accessFlags := 9, code := some k2c1 }
def k2c2 : Code := { maxStack := 2, maxLocals := 2, code := jdk_29_method_69_code, exceptionTable := #[], attributes := #[] }
def k2m2 : Method := { name := "min", desc := "(II)I", sig := { parameters := [.int, .int], returnType := some .int }, accessFlags := 9, code := some k2c2 }
/-- java/lang/Math -/
def k2 : Class := { plain "java/lang/Math" (some 0) with
  accessFlags := 49
  interfaces := #[]
  cf := some (fileOf pool2 1 #[.nestMembers #[98]] #[{ accessFlags := 2, nameIndex := 7, descriptorIndex := 8, attributes := #[] }, { accessFlags := 9, nameIndex := 198, descriptorIndex := 335, attributes := #[] }, { accessFlags := 9, nameIndex := 201, descriptorIndex := 335, attributes := #[] }] 49 4 #[] #[{ accessFlags := 25, nameIndex := 354, descriptorIndex := 339, attributes := #[] }, { accessFlags := 25, nameIndex := 358, descriptorIndex := 339, attributes := #[] }, { accessFlags := 25, nameIndex := 361, descriptorIndex := 339, attributes := #[] }, { accessFlags := 26, nameIndex := 364, descriptorIndex := 339, attributes := #[] }, { accessFlags := 26, nameIndex := 365, descriptorIndex := 339, attributes := #[] }, { accessFlags := 26, nameIndex := 172, descriptorIndex := 173, attributes := #[] }, { accessFlags := 26, nameIndex := 176, descriptorIndex := 173, attributes := #[] }, { accessFlags := 8, nameIndex := 344, descriptorIndex := 339, attributes := #[] }, { accessFlags := 8, nameIndex := 338, descriptorIndex := 339, attributes := #[] }, { accessFlags := 4120, nameIndex := 245, descriptorIndex := 246, attributes := #[] }])
  fields := #[{ name := "E", type := .double, accessFlags := 25, slot := 0, constantValue := 0 }, { name := "PI", type := .double, accessFlags := 25, slot := 1, constantValue := 0 }, { name := "TAU", type := .double, accessFlags := 25, slot := 2, constantValue := 0 }, { name := "DEGREES_TO_RADIANS", type := .double, accessFlags := 26, slot := 3, constantValue := 0 }, { name := "RADIANS_TO_DEGREES", type := .double, accessFlags := 26, slot := 4, constantValue := 0 }, { name := "negativeZeroFloatBits", type := .long, accessFlags := 26, slot := 5, constantValue := 0 }, { name := "negativeZeroDoubleBits", type := .long, accessFlags := 26, slot := 6, constantValue := 0 }, { name := "twoToTheDoubleScaleUp", type := .double, accessFlags := 8, slot := 7, constantValue := 0 }, { name := "twoToTheDoubleScaleDown", type := .double, accessFlags := 8, slot := 8, constantValue := 0 }, { name := "$assertionsDisabled", type := .boolean, accessFlags := 4120, slot := 9, constantValue := 0 }]
  methods := #[k2m0, k2m1, k2m2]
  instanceTypes := #[]
  staticTypes := #[.double, .double, .double, .double, .double, .long, .long, .double, .double, .boolean]
  resolved := Array.replicate 460 none
  statics := none }

def pool3 : Array CpInfo := pool [(2, .class_ 4), (1, u "java/lang/Object"), (0, u "<init>"), (0, u "()V"), (1, .class_ 10), (1, u "com/example/restate/restate/MarkerLabel"), (14, u "isBetween"), (0, u "(CCC)Z")] 16

def k3m0 : Method := { name := "<init>", desc := "()V", sig := { parameters := [], returnType := none }, accessFlags := 2, code := none }
def k3c1 : Code := { maxStack := 2, maxLocals := 3, code := prog_60_method_5_code, exceptionTable := #[], attributes := #[] }
def k3m1 : Method := { name := "isBetween", desc := "(CCC)Z", sig := { parameters := [.char, .char, .char], returnType := some .boolean }, accessFlags := 8, code := some k3c1 }
/-- com/example/restate/restate/MarkerLabel -/
def k3 : Class := { plain "com/example/restate/restate/MarkerLabel" (some 0) with
  accessFlags := 32
  interfaces := #[]
  cf := some (fileOf pool3 8 #[] #[{ accessFlags := 2, nameIndex := 5, descriptorIndex := 6, attributes := #[] }, { accessFlags := 8, nameIndex := 25, descriptorIndex := 26, attributes := #[] }] 32 2 #[] #[])
  fields := #[]
  methods := #[k3m0, k3m1]
  instanceTypes := #[]
  staticTypes := #[]
  resolved := Array.replicate 43 none
  statics := none }

def pool4 : Array CpInfo := pool [(1, u "java/lang/Cloneable"), (0, .class_ 1), (0, u "java/lang/Object"), (0, .class_ 3)] 3

/-- java/lang/Cloneable -/
def k4 : Class := { plain "java/lang/Cloneable" (some 0) with
  accessFlags := 1537
  interfaces := #[]
  cf := some (fileOf pool4 2 #[] #[] 1537 4 #[] #[])
  fields := #[]
  methods := #[]
  instanceTypes := #[]
  staticTypes := #[]
  resolved := Array.replicate 8 none
  statics := none }

def pool5 : Array CpInfo := pool [(1, u "java/io/Serializable"), (0, .class_ 1), (0, u "java/lang/Object"), (0, .class_ 3)] 3

/-- java/io/Serializable -/
def k5 : Class := { plain "java/io/Serializable" (some 0) with
  accessFlags := 1537
  interfaces := #[]
  cf := some (fileOf pool5 2 #[] #[] 1537 4 #[] #[])
  fields := #[]
  methods := #[]
  instanceTypes := #[]
  staticTypes := #[]
  resolved := Array.replicate 8 none
  statics := none }

/-- the primitive byte -/
def k6 : Class := { plain "byte" none with kind := .primitive 'B', accessFlags := 0x411 }
/-- [B -/
def k7 : Class := { plain "[B" (some 0) with kind := .array 6 .byte, interfaces := #[4, 5], accessFlags := 1041 }

/-- the primitive int -/
def k8 : Class := { plain "int" none with kind := .primitive 'I', accessFlags := 0x411 }
/-- [I -/
def k9 : Class := { plain "[I" (some 0) with kind := .array 8 .int, interfaces := #[4, 5], accessFlags := 1041 }

def heap : Heap := #[]
def classes : Array Class := #[k0, k1, k2, k3, k4, k5, k6, k7, k8, k9]
def interned : List (Array UInt16 × Addr) := []
def slotsUsed : Nat := 0
def theMethod : MethodId := ⟨1, 1⟩
def args0 : Array Value := #[.int 5, .int 7, .int 9]
def aboutOver (below : List Frame) : State where
  vm := { classes := classes, interned := interned.toArray }
  heap := heap
  slotsUsed := slotsUsed
  threads := #[{ frames := .invoking theMethod args0 :: below }]
def below0 : List Frame := [.native { method := ⟨0, 0⟩, args := #[] }]
def about1 : State := aboutOver below0
def p0 : Program := .bare "" "" ""
def e0 : Env := launch0.env 0 0 0
theorem w_frames : about1.frames = Frame.invoking theMethod args0 :: below0 := rfl
set_option maxRecDepth 65536 in
theorem w_args : argsFit about1.vm theMethod args0 = true := by decide +kernel
set_option maxRecDepth 65536 in
theorem w_heap : heapFits about1 = true := by decide +kernel
set_option maxRecDepth 65536 in
theorem w_runnable : about1.curStatus? = some .runnable := by decide +kernel
set_option maxRecDepth 65536 in
theorem w_alone : about1.alone = true := by decide +kernel
set_option maxRecDepth 65536 in
theorem w_named : about1.methodNamed? x = some theMethod := by decide +kernel
set_option maxRecDepth 65536 in
theorem w_hears : about1.hears theMethod below0 = true := by decide +kernel
set_option maxRecDepth 65536 in
theorem w_ripe : about1.ripe theMethod args0 below0 = true := by decide +kernel
theorem w_running : about1.status = .running := rfl
set_option maxRecDepth 65536 in
theorem w_room : about1.hasRoom e0.platform room_1 = true :=
  launch0.hasRoom_least _ room_1 (by decide +kernel) (by decide +kernel) (by decide +kernel) (by decide +kernel) (by decide +kernel) (by decide +kernel)
theorem allAtoms_all (ts : List Jvm.Cond) (a : Array Jvm.Value) (st : Jvm.State) : (allAtoms ts).before a st = ts.all (fun c => c.before a st) := by
  induction ts with
  | nil => rfl
  | cons c t ih =>
    show (Jvm.Cond.and c (allAtoms t)).before a st = _
    rw [Jvm.Cond.before_and, ih, List.all_cons]
def words1 : List Jvm.Cond := Jvm.Cond.code x code maxLocals ret :: tables_1
/-- a 'code' word, met by the world's own term for the bytes: nothing is compared byte by byte -/
theorem code_word {y : MethodName} {bytes : ByteArray} {mx : Nat} {rt : Option FieldType} {a : Array Value} {s : State} {m : MethodId} {meth : Method} {c : Code} (h1 : s.methodNamed? y = some m) (h2 : s.vm.method? m = some meth) (h3 : meth.code = some c) (h4 : c.code = bytes)
    (h5 : (c.maxLocals == mx && c.exceptionTable.isEmpty && decide (c.maxStack ≤ mostOperands) && decide (meth.sig.returnType = rt) && !meth.locks && decide (parseMethodDescriptor y.desc = some meth.sig)) = true) : (Jvm.Cond.code y bytes mx rt).before a s = true := by
  simp only [Bool.and_eq_true, beq_iff_eq, Bool.not_eq_true', decide_eq_true_eq] at h5
  obtain ⟨⟨⟨⟨⟨g1, g2⟩, g3⟩, g4⟩, g5⟩, g6⟩ := h5
  simp [Cond.before, Cond.holds, Cond.value, h1, h2, h3, h4, g1, g2, g3, g4, g5, g6]
def isCode : Jvm.Cond → Bool
  | .code _ _ _ _ => true
  | _ => false
theorem all_split {L : List Jvm.Cond} {P : Jvm.Cond → Bool} (h1 : L.all (fun c => isCode c || P c) = true) (h2 : ∀ c ∈ L.filter isCode, P c = true) : L.all P = true := by
  refine List.all_eq_true.mpr fun c hc => ?_
  have h := List.all_eq_true.mp h1 c hc
  rcases Bool.eq_false_or_eq_true (isCode c) with hi | hi
  · exact h2 c (List.mem_filter.mpr ⟨hc, hi⟩)
  · simpa [hi] using h
set_option maxRecDepth 65536 in
theorem w_c0 : (Jvm.Cond.code x code maxLocals ret).before args0 about1 = true := code_word (m := ⟨1, 1⟩) (meth := k1m1) (c := k1c1) (by decide +kernel) rfl rfl rfl (by decide +kernel)
set_option maxRecDepth 65536 in
theorem w_c1 : (Jvm.Cond.code ({ cls := "java/lang/Math", name := "max", desc := "(II)I" } : Jvm.MethodName) jdk_29_method_65_code (2 : Nat) (Option.some Jvm.ClassFile.FieldType.int)).before args0 about1 = true := code_word (m := ⟨2, 1⟩) (meth := k2m1) (c := k2c1) (by decide +kernel) rfl rfl rfl (by decide +kernel)
set_option maxRecDepth 65536 in
theorem w_c2 : (Jvm.Cond.code ({ cls := "java/lang/Math", name := "min", desc := "(II)I" } : Jvm.MethodName) jdk_29_method_69_code (2 : Nat) (Option.some Jvm.ClassFile.FieldType.int)).before args0 about1 = true := code_word (m := ⟨2, 2⟩) (meth := k2m2) (c := k2c2) (by decide +kernel) rfl rfl rfl (by decide +kernel)
set_option maxRecDepth 65536 in
theorem w_c3 : (Jvm.Cond.code ({ cls := "com/example/restate/restate/MarkerLabel", name := "isBetween", desc := "(CCC)Z" } : Jvm.MethodName) prog_60_method_5_code (3 : Nat) (Option.some Jvm.ClassFile.FieldType.boolean)).before args0 about1 = true := code_word (m := ⟨3, 1⟩) (meth := k3m1) (c := k3c1) (by decide +kernel) rfl rfl rfl (by decide +kernel)
def codes1 : List Jvm.Cond := [Jvm.Cond.code x code maxLocals ret, Jvm.Cond.code ({ cls := "java/lang/Math", name := "max", desc := "(II)I" } : Jvm.MethodName) jdk_29_method_65_code (2 : Nat) (Option.some Jvm.ClassFile.FieldType.int), Jvm.Cond.code ({ cls := "java/lang/Math", name := "min", desc := "(II)I" } : Jvm.MethodName) jdk_29_method_69_code (2 : Nat) (Option.some Jvm.ClassFile.FieldType.int), Jvm.Cond.code ({ cls := "com/example/restate/restate/MarkerLabel", name := "isBetween", desc := "(CCC)Z" } : Jvm.MethodName) prog_60_method_5_code (3 : Nat) (Option.some Jvm.ClassFile.FieldType.boolean)]
set_option maxRecDepth 65536 in
theorem codes_eq : words1.filter isCode = codes1 := rfl
theorem w_codes : ∀ c ∈ words1.filter isCode, c.before args0 about1 = true := by
  rw [codes_eq]
  intro c hc
  simp only [codes1, List.mem_cons, List.not_mem_nil, or_false] at hc
  rcases hc with rfl | rfl | rfl | rfl
  · exact w_c0
  · exact w_c1
  · exact w_c2
  · exact w_c3
set_option maxRecDepth 65536 in
theorem w_t1 : words1.all (fun c => isCode c || c.before args0 about1) = true := by decide +kernel
theorem w_tables : (allAtoms (Jvm.Cond.code x code maxLocals ret :: tables_1)).before args0 about1 = true := by
  rw [allAtoms_all]
  show words1.all (fun c => c.before args0 about1) = true
  refine all_split ?_ w_codes
  rw [w_t1]
set_option maxRecDepth 65536 in
theorem w_case : (Jvm.Cond.and given_1 narrow_1).before args0 about1 = true := by decide +kernel
theorem w_applies : (headSpec (Jvm.Cond.code x code maxLocals ret :: tables_1) room_1).applies x e0.platform about1 = true :=
  (Spec.applies_iff w_frames).mpr ⟨w_running, w_runnable, w_alone, w_named, w_hears, w_ripe, w_room, w_tables⟩
theorem atStart : AtStart classFile x code maxLocals ret World_1 tables_1 room_1 Calls_1 rest_1 Pre_1 launch0 p0 e0 about1 theMethod args0 below0 :=
  ⟨lists_1, trivial, launch0.admits_env _ _ _, launch0.least_env, fairChoices_fair.cas, fairChoices_fair.clock, w_frames, w_args, w_heap, w_applies, trivial, trivial, w_case⟩
end start1
theorem witness_1 : WitnessClaimed_1 := ⟨start1.p0, start1.e0, start1.about1, start1.theMethod, start1.args0, start1.below0, start1.atStart⟩
end Jvm.Pilot.@@N@@
