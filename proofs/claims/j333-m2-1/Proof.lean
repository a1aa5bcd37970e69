import JvmDerived
import JvmDerived.Pilot.@@N@@Statement
import JvmDerived.Pilot.@@N@@Code
set_option linter.unusedVariables false
set_option linter.unusedSimpArgs false
namespace Jvm.RoadKit
open Sem ClassFile Op Lib Jvm.Stand Jvm.Free Jvm.LawKit
section New
variable {p : Program} {l : Launch} {e : Env} {R : Room} {s : State} {m : MethodId} {args : Array Value} {below : List Frame} {meth : Method} {c : Code} {T : State} {locs : List Loc} {cells slots : Nat}
theorem retI (X : Stand p l e R s m args below meth c T locs cells slots) (hx : p.tables.exec = Jvm.exec) {pc : Nat} {Ls : Array Slot} {z : Int32} {rest : List Value} (hret : meth.sig.returnType = some .int) (hd : decode c.code pc = .ok (.ireturn, 1)) {fs : List Frame}
    (hl : ∀ (f : JFrame) (acts : List Action), f.method = m → f.locked = none → f.entered = [] → (doReturn e (T.setTop f) acts (some (.int z))).1 = T.setFrames fs) : Steps p.tables e below (T.setTop (mkF m pc Ls (.int z :: rest))) (T.setFrames fs) := by
  have hm' : T.vm.method? m = some meth := X.method'
  have hn : narrow .int (.int z) = .int z := rfl
  show Steps p.tables e below (T.setTop { method := m, pc := pc, locals := Ls, stack := _ :: rest, locked := none }) _
  jvm_step X.here [X.here.top, hx, hd, hm', hret, hn]
  first | (intro acts; rw [hl _ acts rfl rfl rfl]) | rw [hl _ _ rfl rfl rfl]
  exact Steps.refl _
theorem own_retJ (X : Stand p l e R s m args below meth c T locs cells slots) (hx : p.tables.exec = Jvm.exec) {pc : Nat} {Ls : Array Slot} {z : Int64} {rest : List Value} (hret : meth.sig.returnType = some .long) (hd : decode c.code pc = .ok (.lreturn, 1)) {fs : List Frame}
    (hl : ∀ (f : JFrame) (acts : List Action), f.method = m → f.locked = none → f.entered = [] → (doReturn e (T.setTop f) acts (some (.long z))).1 = T.setFrames fs) : Steps p.tables e below (T.setTop (mkF m pc Ls (.long z :: rest))) (T.setFrames fs) :=
  retOut X hx hret rfl (Or.inr (Or.inl ⟨rfl, rfl, z, rfl⟩)) hd hl
theorem own_retR (X : Stand p l e R s m args below meth c T locs cells slots) (hx : p.tables.exec = Jvm.exec) {pc : Nat} {Ls : Array Slot} {w : Value} {t : FieldType} {rest : List Value} (hret : meth.sig.returnType = some t) (ht : t.isReference = true) (hw : w.isRef = true) (hd : decode c.code pc = .ok (.areturn, 1)) {fs : List Frame}
    (hl : ∀ (f : JFrame) (acts : List Action), f.method = m → f.locked = none → f.entered = [] → (doReturn e (T.setTop f) acts (some w)).1 = T.setFrames fs) : Steps p.tables e below (T.setTop (mkF m pc Ls (w :: rest))) (T.setFrames fs) :=
  retOut X hx hret (by cases t <;> first | rfl | cases ht) (Or.inr (Or.inr (Or.inr (Or.inr ⟨rfl, ht, hw⟩)))) hd hl
theorem own_lrem {tb : Tables} [Ours tb] {e : Env} {below : List Frame} {T target : State} {m : MethodId} {c : Code} {g : JFrame} (h : At T m c below) (hx : tb.exec = Jvm.exec) (hg : g.method = m) {x y : Int64} {rest : List Value} (hd : decode c.code g.pc = .ok (.lrem, 1)) (hs : g.stack = .long y :: .long x :: rest) (hy : y ≠ 0)
    (hr : Steps tb e below (T.setTop { g with pc := g.pc + 1, stack := .long (x % y) :: rest }) target) : Steps tb e below (T.setTop g) target :=
  XS.lrem h hx hg hd hs hy (by rw [lrem_mod]; exact hr)
theorem own_go {tb : Tables} {e : Env} {below : List Frame} {A B : State} {P : State → Outcome → Prop} (h : ∀ t, Steps tb e below B t → Steps tb e below A t) (k : ∃ s₂ o, Steps tb e below B s₂ ∧ P s₂ o) : ∃ s₂ o, Steps tb e below A s₂ ∧ P s₂ o := by
  obtain ⟨s₂, o, h1, h2⟩ := k
  exact ⟨s₂, o, h _ h1, h2⟩
theorem own_cut {α : Type} {C : α → Prop} {B : α → State} {tb : Tables} {e : Env} {below : List Frame} {A : State} {P : State → Outcome → Prop} (h : ∀ a, C a → ∃ s₂ o, Steps tb e below (B a) s₂ ∧ P s₂ o) (k : (∀ a, C a → ∃ s₂ o, Steps tb e below (B a) s₂ ∧ P s₂ o) → ∃ s₂ o, Steps tb e below A s₂ ∧ P s₂ o) : ∃ s₂ o, Steps tb e below A s₂ ∧ P s₂ o := k h
theorem own_narZ (P : Prop) [Decidable P] : narrow .boolean (.int (if P then (1 : Int32) else 0)) = .int (if P then (1 : Int32) else 0) := by split <;> rfl
theorem own_fitZ (P : Prop) [Decidable P] : fits .boolean (.int (if P then (1 : Int32) else 0)) = true := by split <;> rfl
theorem own_retZ (P : Prop) [Decidable P] : (some (.int (nar .boolean (if P then (1 : Int32) else 0))) : Option Value) = some (.int (if P then (1 : Int32) else 0)) := by split <;> rfl
theorem own_staKeep {Z : State} {h h' : Heap} {C n d : String} {v : Value} {ws : List Addr} (F : Sta Z h C n d v) (K : Keep h h' ws) (q : ∀ x ∈ ws, ∃ c : Cell, h[x]? = some c ∧ c.vm.isStatics = false) : Sta Z h' C n d v := by
  obtain ⟨cf, i, k, f, st, cell, h1, h2, h3, h4, h5, h6, h7⟩ := F
  refine ⟨cf, i, k, f, st, cell, h1, h2, h3, h4, K.2.1 _ _ h5 fun hm => ?_, h6, h7⟩
  obtain ⟨c', g1, g2⟩ := q _ hm
  cases h5.symm.trans g1
  rw [h6] at g2
  cases g2
theorem own_arrKeep {Z : State} {h h' : Heap} {a : Addr} {c : Cell} {ty : FieldType} {ws : List Addr} (F : Arr Z h a c ty) (K : Keep h h' ws) (q : a ∉ ws) : Arr Z h' a c ty := ⟨K.2.1 _ _ F.1 q, F.2⟩
theorem own_ns0 {h : Heap} : ∀ x ∈ ([] : List Addr), ∃ c : Cell, h[x]? = some c ∧ c.vm.isStatics = false := fun _ q => nomatch q
theorem own_nsS {h : Heap} {y : Addr} {L : List Addr} (q : ∃ c : Cell, h[y]? = some c ∧ c.vm.isStatics = false) (r : ∀ x ∈ L, ∃ c : Cell, h[x]? = some c ∧ c.vm.isStatics = false) : ∀ x ∈ y :: L, ∃ c : Cell, h[x]? = some c ∧ c.vm.isStatics = false := fun x z => (List.mem_cons.mp z).elim (fun u => u ▸ q) (r x)
theorem own_nsE {Z : State} {h : Heap} {a : Addr} {C : String} (F : Exa Z h a C) : ∃ c : Cell, h[a]? = some c ∧ c.vm.isStatics = false := by
  obtain ⟨c, k, h1, h2, h3, h4, h5⟩ := F
  exact ⟨c, h1, h4⟩
theorem own_nsV {Z : State} {h : Heap} {a : Addr} {k : ClassId} {ty : FieldType} {z : Int32} {vs : List Value} {d : Value} (F : Arv Z h a k ty z vs d) : ∃ c : Cell, h[a]? = some c ∧ c.vm.isStatics = false := by
  obtain ⟨c, A, r⟩ := F
  exact ⟨c, A.1, A.plain⟩
theorem own_since (s : State) (n : Nat) : s.Since s.vm n := ⟨State.Warmed39.refl s, fun j p hj hp => absurd (Array.getElem?_eq_some_iff.mp hp).1 (Nat.not_lt.mpr hj)⟩
end New
end Jvm.RoadKit
namespace Jvm.Pilot.@@N@@
open Jvm Jvm.ClassFile Sem Op Lib Jvm.Free Jvm.Stand Jvm.LawKit Jvm.RoadKit Bundle Jvm.Pilot.@@N@@.Jvm.D
theorem pn_8 : plainName "com/example/tiphys/tiphys/Verdict" = true := by first | (simp [plainName, overriddenIn]; done) | decide +kernel
theorem d1_0 : decode prog_70_method_4_code 0 = .ok (.lload_n 0, 1) := by decide +kernel
theorem d1_1 : decode prog_70_method_4_code 1 = .ok (.lconst 0, 1) := by decide +kernel
theorem d1_2 : decode prog_70_method_4_code 2 = .ok (.lcmp, 1) := by decide +kernel
theorem d1_3 : decode prog_70_method_4_code 3 = .ok (.ifCond .ne 9, 3) := by decide +kernel
theorem d1_6 : decode prog_70_method_4_code 6 = .ok (.getstatic 3, 3) := by decide +kernel
theorem d1_9 : decode prog_70_method_4_code 9 = .ok (.goto 6, 3) := by decide +kernel
theorem d1_12 : decode prog_70_method_4_code 12 = .ok (.getstatic 7, 3) := by decide +kernel
theorem d1_15 : decode prog_70_method_4_code 15 = .ok (.areturn, 1) := by decide +kernel
theorem ef_1 (m : MethodId) (q1 : Int64) : entryFrame m #[(.long q1)] 2 = mkF m 0 #[.val (.long q1), .second] [] := by first | (simp [entryFrame, mkF, argsToLocals, Value.category]; done) | rfl
def Q1 (Z : State) (q1 : Int64) (w_REJECTED : Addr) (w_ACCEPTED : Addr) (h0 : Heap) (n0 : Nat) (v : Option Value) (h : Heap) (L : List Loc) : Prop := v = some (.ref (if q1 = (0 : Int64) then w_ACCEPTED else w_REJECTED)) ∧ Fr n0 L ∧ h = h0
set_option maxRecDepth 65536 in
set_option maxHeartbeats 40000000 in
theorem rm1 (l : Launch) (Z : State) (a0 : Array Value) (hw : ∀ d ∈ tables_1, d.before a0 Z = true) (ws : List Jvm.Cond) (q1 : Int64) (w_REJECTED : Addr) (w_ACCEPTED : Addr) (h0 : Heap) (n0 : Nat) (Z0 : n0 ≤ h0.size) (S_REJECTED : Sta Z h0 "com/example/tiphys/tiphys/Verdict" "REJECTED" "Lcom/example/tiphys/tiphys/Verdict;" (.ref w_REJECTED)) (S_ACCEPTED : Sta Z h0 "com/example/tiphys/tiphys/Verdict" "ACCEPTED" "Lcom/example/tiphys/tiphys/Verdict;" (.ref w_ACCEPTED)) :
    MetFree l (⟨"com/example/tiphys/tiphys/Verdict", "of", "(J)Lcom/example/tiphys/tiphys/Verdict;"⟩ : MethodName) (head1 (Jvm.Cond.code (⟨"com/example/tiphys/tiphys/Verdict", "of", "(J)Lcom/example/tiphys/tiphys/Verdict;"⟩ : MethodName) prog_70_method_4_code 2 (some (.object "com/example/tiphys/tiphys/Verdict")) :: ws) ({ frames := 0, cells := 0, slots := 0, locals := 0 } : Room)) (fun a U => a = #[(.long q1)] ∧ Z.Warmed39 U.vm ∧ U.heap = h0) (fun _ _ _ _ _ => True) (fun _ U o U' => ∃ v L, o = .returned v ∧ Q1 Z q1 w_REJECTED w_ACCEPTED h0 n0 v U'.heap L ∧ FrameEnd U o U' L ({ frames := 0, cells := 0, slots := 0, locals := 0 } : Room).cells ({ frames := 0, cells := 0, slots := 0, locals := 0 } : Room).slots) := by
  refine MetFree.of_bodySF (plainFor_of_name pn_8) hisR ?_
  intro p e s m args below meth c s₁ Bd hml0 hP hK
  obtain ⟨rfl, hZ, hh⟩ := hP
  have hx := Bd.exec
  have hby := Bd.bytes
  have hml : c.maxLocals = 2 := hml0
  have hown : s.vm.findClass "com/example/tiphys/tiphys/Verdict" = some m.cls := findClass_of_methodNamed Bd.named
  have hnm := (name_of_methodNamed Bd.named Bd.method).1
  have X0 : Stand p l e ({ frames := 0, cells := 0, slots := 0, locals := 0 } : Room) s m #[(.long q1)] below meth c s₁ [] 0 0 := Stand.of_body Bd
  have e0 : s₁.heap = h0 := by rw [← hh, Bd.state]; rfl
  have N0 := Fr.nil n0
  refine own_go (B := s₁.setTop (mkF m 0 #[.val (.long q1), .second] [])) (fun t k => castTop (ef_1 m q1) k) ?_
  refine own_go (B := s₁.setTop (mkF m 3 #[.val (.long q1), .second] [(.int (lcmpW q1 (0 : Int64)))])) (fun t k => ?_) ?_
  · show Steps p.tables e below (s₁.setTop (mkF m 0 #[.val (.long q1), .second] [])) _
    refine XS.lloadN X0.here hx rfl (hb hby d1_0) rfl ?_
    show Steps p.tables e below (s₁.setTop (mkF m 1 #[.val (.long q1), .second] [(.long q1)])) _
    refine XS.lconst X0.here hx rfl (hb hby d1_1) ?_
    show Steps p.tables e below (s₁.setTop (mkF m 2 #[.val (.long q1), .second] [(.long (0 : Int64)), (.long q1)])) _
    refine XS.lcmp X0.here hx rfl (hb hby d1_2) rfl ?_
    show Steps p.tables e below (s₁.setTop (mkF m 3 #[.val (.long q1), .second] [(.int (lcmpW q1 (0 : Int64)))])) _
    exact k
  by_cases hl2 : q1 = (0 : Int64)
  · refine own_go (B := s₁.setTop (mkF m 6 #[.val (.long q1), .second] [])) (fun t k => ?_) ?_
    · show Steps p.tables e below (s₁.setTop (mkF m 3 #[.val (.long q1), .second] [(.int (lcmpW q1 (0 : Int64)))])) _
      refine XS.ifNo X0.here hx rfl (hb hby d1_3) rfl ((if0 _ _).trans (teq (show (lcmpW q1 (0 : Int64)) = (0 : Int32) from ((lw_eq q1 (0 : Int64)).mpr hl2))).2) ?_
      show Steps p.tables e below (s₁.setTop (mkF m 6 #[.val (.long q1), .second] [])) _
      exact k
    obtain ⟨T3, X3, e3, st3⟩ := getS2 X0 hx hZ hown (host := "") (Or.inl (hw _ (List.mem_of_getElem? (i := 9) rfl))) Via.refl e0 S_ACCEPTED (g := (mkF m 6 #[.val (.long q1), .second] [])) rfl (hb hby d1_6)
    refine own_go st3 ?_
    refine own_go (B := T3.setTop (mkF m 15 #[.val (.long q1), .second] [(.ref w_ACCEPTED)])) (fun t k => ?_) ?_
    · show Steps p.tables e below (T3.setTop (mkF m 9 #[.val (.long q1), .second] [(.ref w_ACCEPTED)])) _
      refine XS.goto X3.here hx rfl (pc0 := 9) (pc' := 15) rfl (hb hby d1_9) (by decide) (by decide) ?_
      show Steps p.tables e below (T3.setTop (mkF m 15 #[.val (.long q1), .second] [(.ref w_ACCEPTED)])) _
      exact k
    obtain ⟨fs, hr, hrun, hended, hW, hsame⟩ := X3.leave (v := some (.ref w_ACCEPTED)) (fun h => by rw [Bd.returns] at h; cases h)
    refine ⟨_, _, ?_, hrun, hended, _, _, rfl, ?_, ⟨_, rfl⟩, hW, hsame.mono (by decide) (by decide)⟩
    · exact own_retR X3 hx Bd.returns rfl rfl (hb hby d1_15) hr
    · show Q1 Z q1 w_REJECTED w_ACCEPTED h0 n0 _ T3.heap _
      rw [e3]
      exact ⟨(by rw [if_pos hl2]), N0, rfl⟩
  · refine own_go (B := s₁.setTop (mkF m 12 #[.val (.long q1), .second] [])) (fun t k => ?_) ?_
    · show Steps p.tables e below (s₁.setTop (mkF m 3 #[.val (.long q1), .second] [(.int (lcmpW q1 (0 : Int64)))])) _
      refine XS.ifYes X0.here hx rfl (pc0 := 3) (pc' := 12) rfl (hb hby d1_3) rfl ((if0 _ _).trans (feq (show ¬ ((lcmpW q1 (0 : Int64)) = (0 : Int32)) from (fun q => hl2 ((lw_eq q1 (0 : Int64)).mp q)))).2) (by decide) (by decide) ?_
      show Steps p.tables e below (s₁.setTop (mkF m 12 #[.val (.long q1), .second] [])) _
      exact k
    obtain ⟨T5, X5, e5, st5⟩ := getS2 X0 hx hZ hown (host := "") (Or.inl (hw _ (List.mem_of_getElem? (i := 5) rfl))) Via.refl e0 S_REJECTED (g := (mkF m 12 #[.val (.long q1), .second] [])) rfl (hb hby d1_12)
    refine own_go st5 ?_
    obtain ⟨fs, hr, hrun, hended, hW, hsame⟩ := X5.leave (v := some (.ref w_REJECTED)) (fun h => by rw [Bd.returns] at h; cases h)
    refine ⟨_, _, ?_, hrun, hended, _, _, rfl, ?_, ⟨_, rfl⟩, hW, hsame.mono (by decide) (by decide)⟩
    · exact own_retR X5 hx Bd.returns rfl rfl (hb hby d1_15) hr
    · show Q1 Z q1 w_REJECTED w_ACCEPTED h0 n0 _ T5.heap _
      rw [e5]
      exact ⟨(by rw [if_neg hl2]), N0, rfl⟩
theorem pd_0 : parseMethodDescriptor "(J)Lcom/example/tiphys/tiphys/Verdict;" = some ⟨[.long], some (.object "com/example/tiphys/tiphys/Verdict")⟩ := by decide +kernel
theorem pn_9 : plainName "com/example/tiphys/tiphys/VerdictOfPinLaw" = true := by first | (simp [plainName, overriddenIn]; done) | decide +kernel
theorem ef_0 (m : MethodId) (q1 : Int64) (p2 : Int32) : entryFrame m #[(.long q1), (.int p2)] maxLocals = mkF m 0 #[.val (.long q1), .second, .val (.int p2), .unset, .unset, .unset] [] := by first | (simp [entryFrame, mkF, argsToLocals, Value.category, maxLocals]; done) | rfl
def Q0 (Z : State) (q1 : Int64) (p2 : Int32) (w_REJECTED : Addr) (w_ACCEPTED : Addr) (h0 : Heap) (n0 : Nat) (v : Option Value) (h : Heap) (L : List Loc) : Prop := v = some (.int (1 : Int32)) ∧ Fr n0 L
set_option maxRecDepth 65536 in
set_option maxHeartbeats 40000000 in
theorem rm0 (l : Launch) (Z : State) (a0 : Array Value) (hw : ∀ d ∈ tables_1, d.before a0 Z = true) (ws : List Jvm.Cond) (q1 : Int64) (p2 : Int32) (w_REJECTED : Addr) (w_ACCEPTED : Addr) (h0 : Heap) (n0 : Nat) (Z0 : n0 ≤ h0.size) (S_REJECTED : Sta Z h0 "com/example/tiphys/tiphys/Verdict" "REJECTED" "Lcom/example/tiphys/tiphys/Verdict;" (.ref w_REJECTED)) (S_ACCEPTED : Sta Z h0 "com/example/tiphys/tiphys/Verdict" "ACCEPTED" "Lcom/example/tiphys/tiphys/Verdict;" (.ref w_ACCEPTED)) :
    MetFree l x (head1 (Jvm.Cond.code x code maxLocals ret :: ws) room_1) (fun a U => a = #[(.long q1), (.int p2)] ∧ Z.Warmed39 U.vm ∧ U.heap = h0) (fun _ _ _ _ _ => True) (fun _ U o U' => ∃ v L, o = .returned v ∧ Q0 Z q1 p2 w_REJECTED w_ACCEPTED h0 n0 v U'.heap L ∧ FrameEnd U o U' L room_1.cells room_1.slots) := by
  refine MetFree.of_bodySF (plainFor_of_name pn_9) hisR ?_
  intro p e s m args below meth c s₁ Bd hml0 hP hK
  obtain ⟨rfl, hZ, hh⟩ := hP
  have hx := Bd.exec
  have hby := Bd.bytes
  have hml : c.maxLocals = 6 := hml0
  have hown : s.vm.findClass "com/example/tiphys/tiphys/VerdictOfPinLaw" = some m.cls := findClass_of_methodNamed Bd.named
  have hnm := (name_of_methodNamed Bd.named Bd.method).1
  have X0 : Stand p l e room_1 s m #[(.long q1), (.int p2)] below meth c s₁ [] 0 0 := Stand.of_body Bd
  have e0 : s₁.heap = h0 := by rw [← hh, Bd.state]; rfl
  have N0 := Fr.nil n0
  refine own_go (B := s₁.setTop (mkF m 0 #[.val (.long q1), .second, .val (.int p2), .unset, .unset, .unset] [])) (fun t k => castTop (ef_0 m q1 p2) k) ?_
  refine own_go (B := s₁.setTop (mkF m 9 #[.val (.long q1), .second, .val (.int p2), .val (.long (q1 &&& (9223372036854775807 : Int64))), .second, .unset] [(.int (p2 &&& (1 : Int32)))])) (fun t k => ?_) ?_
  · show Steps p.tables e below (s₁.setTop (mkF m 0 #[.val (.long q1), .second, .val (.int p2), .unset, .unset, .unset] [])) _
    refine XS.lloadN X0.here hx rfl (hb hby at_0) rfl ?_
    show Steps p.tables e below (s₁.setTop (mkF m 1 #[.val (.long q1), .second, .val (.int p2), .unset, .unset, .unset] [(.long q1)])) _
    refine X0.ldc2Long hx hown (mvT hZ (hw _ (List.mem_of_getElem? (i := 0) rfl))) (g := (mkF m 1 #[.val (.long q1), .second, .val (.int p2), .unset, .unset, .unset] [(.long q1)])) rfl (hb hby at_1) _ ?_
    show Steps p.tables e below (s₁.setTop (mkF m 4 #[.val (.long q1), .second, .val (.int p2), .unset, .unset, .unset] [(.long (9223372036854775807 : Int64)), (.long q1)])) _
    refine XS.land X0.here hx rfl (hb hby at_4) rfl ?_
    show Steps p.tables e below (s₁.setTop (mkF m 5 #[.val (.long q1), .second, .val (.int p2), .unset, .unset, .unset] [(.long (q1 &&& (9223372036854775807 : Int64)))])) _
    refine XS.lstoreN X0.here hx rfl (hb hby at_5) rfl (l' := #[.val (.long q1), .second, .val (.int p2), .val (.long (q1 &&& (9223372036854775807 : Int64))), .second, .unset]) rfl ?_
    show Steps p.tables e below (s₁.setTop (mkF m 6 #[.val (.long q1), .second, .val (.int p2), .val (.long (q1 &&& (9223372036854775807 : Int64))), .second, .unset] [])) _
    refine XS.iloadN X0.here hx rfl (hb hby at_6) rfl ?_
    show Steps p.tables e below (s₁.setTop (mkF m 7 #[.val (.long q1), .second, .val (.int p2), .val (.long (q1 &&& (9223372036854775807 : Int64))), .second, .unset] [(.int p2)])) _
    refine XS.iconst X0.here hx rfl (hb hby at_7) ?_
    show Steps p.tables e below (s₁.setTop (mkF m 8 #[.val (.long q1), .second, .val (.int p2), .val (.long (q1 &&& (9223372036854775807 : Int64))), .second, .unset] [(.int (1 : Int32)), (.int p2)])) _
    refine XS.iand X0.here hx rfl (hb hby at_8) rfl ?_
    show Steps p.tables e below (s₁.setTop (mkF m 9 #[.val (.long q1), .second, .val (.int p2), .val (.long (q1 &&& (9223372036854775807 : Int64))), .second, .unset] [(.int (p2 &&& (1 : Int32)))])) _
    exact k
  by_cases hc7 : (p2 &&& (1 : Int32)) = (0 : Int32)
  · refine own_go (B := s₁.setTop (mkF m 19 #[.val (.long q1), .second, .val (.int p2), .val (.long (q1 &&& (9223372036854775807 : Int64))), .second, .unset] [(.long (q1 &&& (9223372036854775807 : Int64)))])) (fun t k => ?_) ?_
    · show Steps p.tables e below (s₁.setTop (mkF m 9 #[.val (.long q1), .second, .val (.int p2), .val (.long (q1 &&& (9223372036854775807 : Int64))), .second, .unset] [(.int (p2 &&& (1 : Int32)))])) _
      refine XS.ifYes X0.here hx rfl (pc0 := 9) (pc' := 18) rfl (hb hby at_9) rfl ((if0 _ _).trans (teq hc7).1) (by decide) (by decide) ?_
      show Steps p.tables e below (s₁.setTop (mkF m 18 #[.val (.long q1), .second, .val (.int p2), .val (.long (q1 &&& (9223372036854775807 : Int64))), .second, .unset] [])) _
      refine XS.lloadN X0.here hx rfl (hb hby at_18) rfl ?_
      show Steps p.tables e below (s₁.setTop (mkF m 19 #[.val (.long q1), .second, .val (.int p2), .val (.long (q1 &&& (9223372036854775807 : Int64))), .second, .unset] [(.long (q1 &&& (9223372036854775807 : Int64)))])) _
      exact k
    obtain ⟨_, _, ⟨T8, L8, k8, n8⟩, -, X8, ⟨Lc8, hQ8, l8, y8, z8⟩, st8⟩ := Jvm.LawKit.callS X0 hx (y := (⟨"com/example/tiphys/tiphys/Verdict", "of", "(J)Lcom/example/tiphys/tiphys/Verdict;"⟩ : MethodName)) hown (mvT hZ (hw _ (List.mem_of_getElem? (i := 1) rfl))) (mvT hZ (hw _ (List.mem_of_getElem? (i := 2) rfl))) (mvT hZ (hw _ (List.mem_of_getElem? (i := 3) rfl))) (mvT hZ (hw _ (List.mem_of_getElem? (i := 4) rfl))) (by decide) (backOf (W := 0) (rm1 l Z a0 hw [] (q1 &&& (9223372036854775807 : Int64)) w_REJECTED w_ACCEPTED h0 n0 Z0 S_REJECTED S_ACCEPTED) hZ (hw _ (List.mem_of_getElem? (i := 4) rfl)) (hw _ (List.mem_of_getElem? (i := 3) rfl)) (by decide) (by decide)) (g := (mkF m 19 #[.val (.long q1), .second, .val (.int p2), .val (.long (q1 &&& (9223372036854775807 : Int64))), .second, .unset] [(.long (q1 &&& (9223372036854775807 : Int64)))])) rfl (by rw [hml]; rfl) (argsL := [(.long (q1 &&& (9223372036854775807 : Int64)))]) (rest := []) (lenOf pd_0 rfl) rfl (by show 2 * 0 + _ ≤ _; exact Nat.le_of_eq rfl) (hb hby at_19) (fun _ _ => ⟨rfl, e0, (by decide : 0 + 0 ≤ _), (by decide : 0 + 0 ≤ _)⟩)
    dsimp only [Pt.U, Pt.locs, Pt.cells, Pt.slots] at X8 l8 y8 z8 st8 hQ8
    subst l8 y8 z8
    obtain ⟨rfl, M8, q8_0⟩ := hQ8
    have N8 := Fr.app N0 M8
    refine own_go st8 ?_
    refine own_go (B := T8.setTop (mkF m 27 #[.val (.long q1), .second, .val (.int p2), .val (.long (q1 &&& (9223372036854775807 : Int64))), .second, .val (.ref (if (q1 &&& (9223372036854775807 : Int64)) = (0 : Int64) then w_ACCEPTED else w_REJECTED))] [(.int (lcmpW (q1 &&& (9223372036854775807 : Int64)) (0 : Int64)))])) (fun t k => ?_) ?_
    · show Steps p.tables e below (T8.setTop (mkF m 22 #[.val (.long q1), .second, .val (.int p2), .val (.long (q1 &&& (9223372036854775807 : Int64))), .second, .unset] [(.ref (if (q1 &&& (9223372036854775807 : Int64)) = (0 : Int64) then w_ACCEPTED else w_REJECTED))])) _
      refine XS.astore X8.here hx rfl (hb hby at_22) rfl rfl (l' := #[.val (.long q1), .second, .val (.int p2), .val (.long (q1 &&& (9223372036854775807 : Int64))), .second, .val (.ref (if (q1 &&& (9223372036854775807 : Int64)) = (0 : Int64) then w_ACCEPTED else w_REJECTED))]) rfl ?_
      show Steps p.tables e below (T8.setTop (mkF m 24 #[.val (.long q1), .second, .val (.int p2), .val (.long (q1 &&& (9223372036854775807 : Int64))), .second, .val (.ref (if (q1 &&& (9223372036854775807 : Int64)) = (0 : Int64) then w_ACCEPTED else w_REJECTED))] [])) _
      refine XS.lloadN X8.here hx rfl (hb hby at_24) rfl ?_
      show Steps p.tables e below (T8.setTop (mkF m 25 #[.val (.long q1), .second, .val (.int p2), .val (.long (q1 &&& (9223372036854775807 : Int64))), .second, .val (.ref (if (q1 &&& (9223372036854775807 : Int64)) = (0 : Int64) then w_ACCEPTED else w_REJECTED))] [(.long (q1 &&& (9223372036854775807 : Int64)))])) _
      refine XS.lconst X8.here hx rfl (hb hby at_25) ?_
      show Steps p.tables e below (T8.setTop (mkF m 26 #[.val (.long q1), .second, .val (.int p2), .val (.long (q1 &&& (9223372036854775807 : Int64))), .second, .val (.ref (if (q1 &&& (9223372036854775807 : Int64)) = (0 : Int64) then w_ACCEPTED else w_REJECTED))] [(.long (0 : Int64)), (.long (q1 &&& (9223372036854775807 : Int64)))])) _
      refine XS.lcmp X8.here hx rfl (hb hby at_26) rfl ?_
      show Steps p.tables e below (T8.setTop (mkF m 27 #[.val (.long q1), .second, .val (.int p2), .val (.long (q1 &&& (9223372036854775807 : Int64))), .second, .val (.ref (if (q1 &&& (9223372036854775807 : Int64)) = (0 : Int64) then w_ACCEPTED else w_REJECTED))] [(.int (lcmpW (q1 &&& (9223372036854775807 : Int64)) (0 : Int64)))])) _
      exact k
    by_cases hl9 : (q1 &&& (9223372036854775807 : Int64)) = (0 : Int64)
    · refine own_go (B := T8.setTop (mkF m 32 #[.val (.long q1), .second, .val (.int p2), .val (.long (q1 &&& (9223372036854775807 : Int64))), .second, .val (.ref (if (q1 &&& (9223372036854775807 : Int64)) = (0 : Int64) then w_ACCEPTED else w_REJECTED))] [(.ref (if (q1 &&& (9223372036854775807 : Int64)) = (0 : Int64) then w_ACCEPTED else w_REJECTED))])) (fun t k => ?_) ?_
      · show Steps p.tables e below (T8.setTop (mkF m 27 #[.val (.long q1), .second, .val (.int p2), .val (.long (q1 &&& (9223372036854775807 : Int64))), .second, .val (.ref (if (q1 &&& (9223372036854775807 : Int64)) = (0 : Int64) then w_ACCEPTED else w_REJECTED))] [(.int (lcmpW (q1 &&& (9223372036854775807 : Int64)) (0 : Int64)))])) _
        refine XS.ifNo X8.here hx rfl (hb hby at_27) rfl ((if0 _ _).trans (teq (show (lcmpW (q1 &&& (9223372036854775807 : Int64)) (0 : Int64)) = (0 : Int32) from ((lw_eq (q1 &&& (9223372036854775807 : Int64)) (0 : Int64)).mpr hl9))).2) ?_
        show Steps p.tables e below (T8.setTop (mkF m 30 #[.val (.long q1), .second, .val (.int p2), .val (.long (q1 &&& (9223372036854775807 : Int64))), .second, .val (.ref (if (q1 &&& (9223372036854775807 : Int64)) = (0 : Int64) then w_ACCEPTED else w_REJECTED))] [])) _
        refine XS.aload X8.here hx rfl (hb hby at_30) rfl rfl ?_
        show Steps p.tables e below (T8.setTop (mkF m 32 #[.val (.long q1), .second, .val (.int p2), .val (.long (q1 &&& (9223372036854775807 : Int64))), .second, .val (.ref (if (q1 &&& (9223372036854775807 : Int64)) = (0 : Int64) then w_ACCEPTED else w_REJECTED))] [(.ref (if (q1 &&& (9223372036854775807 : Int64)) = (0 : Int64) then w_ACCEPTED else w_REJECTED))])) _
        exact k
      obtain ⟨T10, X10, e10, st10⟩ := getS2 X8 hx hZ hown (host := "") (Or.inl (hw _ (List.mem_of_getElem? (i := 11) rfl))) Via.refl q8_0 S_ACCEPTED (g := (mkF m 32 #[.val (.long q1), .second, .val (.int p2), .val (.long (q1 &&& (9223372036854775807 : Int64))), .second, .val (.ref (if (q1 &&& (9223372036854775807 : Int64)) = (0 : Int64) then w_ACCEPTED else w_REJECTED))] [(.ref (if (q1 &&& (9223372036854775807 : Int64)) = (0 : Int64) then w_ACCEPTED else w_REJECTED))])) rfl (hb hby at_32)
      refine own_go st10 ?_
      refine own_go (B := T10.setTop (mkF m 43 #[.val (.long q1), .second, .val (.int p2), .val (.long (q1 &&& (9223372036854775807 : Int64))), .second, .val (.ref (if (q1 &&& (9223372036854775807 : Int64)) = (0 : Int64) then w_ACCEPTED else w_REJECTED))] [(.int (1 : Int32))])) (fun t k => ?_) ?_
      · show Steps p.tables e below (T10.setTop (mkF m 35 #[.val (.long q1), .second, .val (.int p2), .val (.long (q1 &&& (9223372036854775807 : Int64))), .second, .val (.ref (if (q1 &&& (9223372036854775807 : Int64)) = (0 : Int64) then w_ACCEPTED else w_REJECTED))] [(.ref w_ACCEPTED), (.ref (if (q1 &&& (9223372036854775807 : Int64)) = (0 : Int64) then w_ACCEPTED else w_REJECTED))])) _
        refine Jvm.RoadKit.acmp (g := (mkF m 35 #[.val (.long q1), .second, .val (.int p2), .val (.long (q1 &&& (9223372036854775807 : Int64))), .second, .val (.ref (if (q1 &&& (9223372036854775807 : Int64)) = (0 : Int64) then w_ACCEPTED else w_REJECTED))] [(.ref w_ACCEPTED), (.ref (if (q1 &&& (9223372036854775807 : Int64)) = (0 : Int64) then w_ACCEPTED else w_REJECTED))])) X10 hx rfl rfl rfl (pc0 := 35) (pc' := 38) (same := true) rfl (hb hby at_35) rfl (decide_eq_true (congrArg Value.ref (if_pos hl9))) (by decide) (by decide) ?_
        show Steps p.tables e below (T10.setTop (mkF m 38 #[.val (.long q1), .second, .val (.int p2), .val (.long (q1 &&& (9223372036854775807 : Int64))), .second, .val (.ref (if (q1 &&& (9223372036854775807 : Int64)) = (0 : Int64) then w_ACCEPTED else w_REJECTED))] [])) _
        refine XS.iconst X10.here hx rfl (hb hby at_38) ?_
        show Steps p.tables e below (T10.setTop (mkF m 39 #[.val (.long q1), .second, .val (.int p2), .val (.long (q1 &&& (9223372036854775807 : Int64))), .second, .val (.ref (if (q1 &&& (9223372036854775807 : Int64)) = (0 : Int64) then w_ACCEPTED else w_REJECTED))] [(.int (1 : Int32))])) _
        refine XS.goto X10.here hx rfl (pc0 := 39) (pc' := 43) rfl (hb hby at_39) (by decide) (by decide) ?_
        show Steps p.tables e below (T10.setTop (mkF m 43 #[.val (.long q1), .second, .val (.int p2), .val (.long (q1 &&& (9223372036854775807 : Int64))), .second, .val (.ref (if (q1 &&& (9223372036854775807 : Int64)) = (0 : Int64) then w_ACCEPTED else w_REJECTED))] [(.int (1 : Int32))])) _
        exact k
      obtain ⟨fs, hr, hrun, hended, hW, hsame⟩ := X10.leave (v := some (.int (1 : Int32))) (fun h => by rw [Bd.returns] at h; cases h)
      refine ⟨_, _, ?_, hrun, hended, _, _, rfl, ?_, ⟨_, rfl⟩, hW, hsame.mono (by decide) (by decide)⟩
      · exact retN X10 hx (t := .boolean) Bd.returns (by simp) (hb hby at_43) hr
      · show Q0 Z q1 p2 w_REJECTED w_ACCEPTED h0 n0 _ T10.heap _
        rw [e10]
        exact ⟨rfl, N8⟩
    · refine own_go (B := T8.setTop (mkF m 46 #[.val (.long q1), .second, .val (.int p2), .val (.long (q1 &&& (9223372036854775807 : Int64))), .second, .val (.ref (if (q1 &&& (9223372036854775807 : Int64)) = (0 : Int64) then w_ACCEPTED else w_REJECTED))] [(.ref (if (q1 &&& (9223372036854775807 : Int64)) = (0 : Int64) then w_ACCEPTED else w_REJECTED))])) (fun t k => ?_) ?_
      · show Steps p.tables e below (T8.setTop (mkF m 27 #[.val (.long q1), .second, .val (.int p2), .val (.long (q1 &&& (9223372036854775807 : Int64))), .second, .val (.ref (if (q1 &&& (9223372036854775807 : Int64)) = (0 : Int64) then w_ACCEPTED else w_REJECTED))] [(.int (lcmpW (q1 &&& (9223372036854775807 : Int64)) (0 : Int64)))])) _
        refine XS.ifYes X8.here hx rfl (pc0 := 27) (pc' := 44) rfl (hb hby at_27) rfl ((if0 _ _).trans (feq (show ¬ ((lcmpW (q1 &&& (9223372036854775807 : Int64)) (0 : Int64)) = (0 : Int32)) from (fun q => hl9 ((lw_eq (q1 &&& (9223372036854775807 : Int64)) (0 : Int64)).mp q)))).2) (by decide) (by decide) ?_
        show Steps p.tables e below (T8.setTop (mkF m 44 #[.val (.long q1), .second, .val (.int p2), .val (.long (q1 &&& (9223372036854775807 : Int64))), .second, .val (.ref (if (q1 &&& (9223372036854775807 : Int64)) = (0 : Int64) then w_ACCEPTED else w_REJECTED))] [])) _
        refine XS.aload X8.here hx rfl (hb hby at_44) rfl rfl ?_
        show Steps p.tables e below (T8.setTop (mkF m 46 #[.val (.long q1), .second, .val (.int p2), .val (.long (q1 &&& (9223372036854775807 : Int64))), .second, .val (.ref (if (q1 &&& (9223372036854775807 : Int64)) = (0 : Int64) then w_ACCEPTED else w_REJECTED))] [(.ref (if (q1 &&& (9223372036854775807 : Int64)) = (0 : Int64) then w_ACCEPTED else w_REJECTED))])) _
        exact k
      obtain ⟨T12, X12, e12, st12⟩ := getS2 X8 hx hZ hown (host := "") (Or.inl (hw _ (List.mem_of_getElem? (i := 7) rfl))) Via.refl q8_0 S_REJECTED (g := (mkF m 46 #[.val (.long q1), .second, .val (.int p2), .val (.long (q1 &&& (9223372036854775807 : Int64))), .second, .val (.ref (if (q1 &&& (9223372036854775807 : Int64)) = (0 : Int64) then w_ACCEPTED else w_REJECTED))] [(.ref (if (q1 &&& (9223372036854775807 : Int64)) = (0 : Int64) then w_ACCEPTED else w_REJECTED))])) rfl (hb hby at_46)
      refine own_go st12 ?_
      refine own_go (B := T12.setTop (mkF m 57 #[.val (.long q1), .second, .val (.int p2), .val (.long (q1 &&& (9223372036854775807 : Int64))), .second, .val (.ref (if (q1 &&& (9223372036854775807 : Int64)) = (0 : Int64) then w_ACCEPTED else w_REJECTED))] [(.int (1 : Int32))])) (fun t k => ?_) ?_
      · show Steps p.tables e below (T12.setTop (mkF m 49 #[.val (.long q1), .second, .val (.int p2), .val (.long (q1 &&& (9223372036854775807 : Int64))), .second, .val (.ref (if (q1 &&& (9223372036854775807 : Int64)) = (0 : Int64) then w_ACCEPTED else w_REJECTED))] [(.ref w_REJECTED), (.ref (if (q1 &&& (9223372036854775807 : Int64)) = (0 : Int64) then w_ACCEPTED else w_REJECTED))])) _
        refine Jvm.RoadKit.acmp (g := (mkF m 49 #[.val (.long q1), .second, .val (.int p2), .val (.long (q1 &&& (9223372036854775807 : Int64))), .second, .val (.ref (if (q1 &&& (9223372036854775807 : Int64)) = (0 : Int64) then w_ACCEPTED else w_REJECTED))] [(.ref w_REJECTED), (.ref (if (q1 &&& (9223372036854775807 : Int64)) = (0 : Int64) then w_ACCEPTED else w_REJECTED))])) X12 hx rfl rfl rfl (pc0 := 49) (pc' := 52) (same := true) rfl (hb hby at_49) rfl (decide_eq_true (congrArg Value.ref (if_neg hl9))) (by decide) (by decide) ?_
        show Steps p.tables e below (T12.setTop (mkF m 52 #[.val (.long q1), .second, .val (.int p2), .val (.long (q1 &&& (9223372036854775807 : Int64))), .second, .val (.ref (if (q1 &&& (9223372036854775807 : Int64)) = (0 : Int64) then w_ACCEPTED else w_REJECTED))] [])) _
        refine XS.iconst X12.here hx rfl (hb hby at_52) ?_
        show Steps p.tables e below (T12.setTop (mkF m 53 #[.val (.long q1), .second, .val (.int p2), .val (.long (q1 &&& (9223372036854775807 : Int64))), .second, .val (.ref (if (q1 &&& (9223372036854775807 : Int64)) = (0 : Int64) then w_ACCEPTED else w_REJECTED))] [(.int (1 : Int32))])) _
        refine XS.goto X12.here hx rfl (pc0 := 53) (pc' := 57) rfl (hb hby at_53) (by decide) (by decide) ?_
        show Steps p.tables e below (T12.setTop (mkF m 57 #[.val (.long q1), .second, .val (.int p2), .val (.long (q1 &&& (9223372036854775807 : Int64))), .second, .val (.ref (if (q1 &&& (9223372036854775807 : Int64)) = (0 : Int64) then w_ACCEPTED else w_REJECTED))] [(.int (1 : Int32))])) _
        exact k
      obtain ⟨fs, hr, hrun, hended, hW, hsame⟩ := X12.leave (v := some (.int (1 : Int32))) (fun h => by rw [Bd.returns] at h; cases h)
      refine ⟨_, _, ?_, hrun, hended, _, _, rfl, ?_, ⟨_, rfl⟩, hW, hsame.mono (by decide) (by decide)⟩
      · exact retN X12 hx (t := .boolean) Bd.returns (by simp) (hb hby at_57) hr
      · show Q0 Z q1 p2 w_REJECTED w_ACCEPTED h0 n0 _ T12.heap _
        rw [e12]
        exact ⟨rfl, N8⟩
  · refine own_go (B := s₁.setTop (mkF m 19 #[.val (.long q1), .second, .val (.int p2), .val (.long ((q1 &&& (9223372036854775807 : Int64)) &&& (3 : Int64))), .second, .unset] [(.long ((q1 &&& (9223372036854775807 : Int64)) &&& (3 : Int64)))])) (fun t k => ?_) ?_
    · show Steps p.tables e below (s₁.setTop (mkF m 9 #[.val (.long q1), .second, .val (.int p2), .val (.long (q1 &&& (9223372036854775807 : Int64))), .second, .unset] [(.int (p2 &&& (1 : Int32)))])) _
      refine XS.ifNo X0.here hx rfl (hb hby at_9) rfl ((if0 _ _).trans (feq hc7).1) ?_
      show Steps p.tables e below (s₁.setTop (mkF m 12 #[.val (.long q1), .second, .val (.int p2), .val (.long (q1 &&& (9223372036854775807 : Int64))), .second, .unset] [])) _
      refine XS.lloadN X0.here hx rfl (hb hby at_12) rfl ?_
      show Steps p.tables e below (s₁.setTop (mkF m 13 #[.val (.long q1), .second, .val (.int p2), .val (.long (q1 &&& (9223372036854775807 : Int64))), .second, .unset] [(.long (q1 &&& (9223372036854775807 : Int64)))])) _
      refine X0.ldc2Long hx hown (mvT hZ (hw _ (List.mem_of_getElem? (i := 8) rfl))) (g := (mkF m 13 #[.val (.long q1), .second, .val (.int p2), .val (.long (q1 &&& (9223372036854775807 : Int64))), .second, .unset] [(.long (q1 &&& (9223372036854775807 : Int64)))])) rfl (hb hby at_13) _ ?_
      show Steps p.tables e below (s₁.setTop (mkF m 16 #[.val (.long q1), .second, .val (.int p2), .val (.long (q1 &&& (9223372036854775807 : Int64))), .second, .unset] [(.long (3 : Int64)), (.long (q1 &&& (9223372036854775807 : Int64)))])) _
      refine XS.land X0.here hx rfl (hb hby at_16) rfl ?_
      show Steps p.tables e below (s₁.setTop (mkF m 17 #[.val (.long q1), .second, .val (.int p2), .val (.long (q1 &&& (9223372036854775807 : Int64))), .second, .unset] [(.long ((q1 &&& (9223372036854775807 : Int64)) &&& (3 : Int64)))])) _
      refine XS.lstoreN X0.here hx rfl (hb hby at_17) rfl (l' := #[.val (.long q1), .second, .val (.int p2), .val (.long ((q1 &&& (9223372036854775807 : Int64)) &&& (3 : Int64))), .second, .unset]) rfl ?_
      show Steps p.tables e below (s₁.setTop (mkF m 18 #[.val (.long q1), .second, .val (.int p2), .val (.long ((q1 &&& (9223372036854775807 : Int64)) &&& (3 : Int64))), .second, .unset] [])) _
      refine XS.lloadN X0.here hx rfl (hb hby at_18) rfl ?_
      show Steps p.tables e below (s₁.setTop (mkF m 19 #[.val (.long q1), .second, .val (.int p2), .val (.long ((q1 &&& (9223372036854775807 : Int64)) &&& (3 : Int64))), .second, .unset] [(.long ((q1 &&& (9223372036854775807 : Int64)) &&& (3 : Int64)))])) _
      exact k
    obtain ⟨_, _, ⟨T14, L14, k14, n14⟩, -, X14, ⟨Lc14, hQ14, l14, y14, z14⟩, st14⟩ := Jvm.LawKit.callS X0 hx (y := (⟨"com/example/tiphys/tiphys/Verdict", "of", "(J)Lcom/example/tiphys/tiphys/Verdict;"⟩ : MethodName)) hown (mvT hZ (hw _ (List.mem_of_getElem? (i := 1) rfl))) (mvT hZ (hw _ (List.mem_of_getElem? (i := 2) rfl))) (mvT hZ (hw _ (List.mem_of_getElem? (i := 3) rfl))) (mvT hZ (hw _ (List.mem_of_getElem? (i := 4) rfl))) (by decide) (backOf (W := 0) (rm1 l Z a0 hw [] ((q1 &&& (9223372036854775807 : Int64)) &&& (3 : Int64)) w_REJECTED w_ACCEPTED h0 n0 Z0 S_REJECTED S_ACCEPTED) hZ (hw _ (List.mem_of_getElem? (i := 4) rfl)) (hw _ (List.mem_of_getElem? (i := 3) rfl)) (by decide) (by decide)) (g := (mkF m 19 #[.val (.long q1), .second, .val (.int p2), .val (.long ((q1 &&& (9223372036854775807 : Int64)) &&& (3 : Int64))), .second, .unset] [(.long ((q1 &&& (9223372036854775807 : Int64)) &&& (3 : Int64)))])) rfl (by rw [hml]; rfl) (argsL := [(.long ((q1 &&& (9223372036854775807 : Int64)) &&& (3 : Int64)))]) (rest := []) (lenOf pd_0 rfl) rfl (by show 2 * 0 + _ ≤ _; exact Nat.le_of_eq rfl) (hb hby at_19) (fun _ _ => ⟨rfl, e0, (by decide : 0 + 0 ≤ _), (by decide : 0 + 0 ≤ _)⟩)
    dsimp only [Pt.U, Pt.locs, Pt.cells, Pt.slots] at X14 l14 y14 z14 st14 hQ14
    subst l14 y14 z14
    obtain ⟨rfl, M14, q14_0⟩ := hQ14
    have N14 := Fr.app N0 M14
    refine own_go st14 ?_
    refine own_go (B := T14.setTop (mkF m 27 #[.val (.long q1), .second, .val (.int p2), .val (.long ((q1 &&& (9223372036854775807 : Int64)) &&& (3 : Int64))), .second, .val (.ref (if ((q1 &&& (9223372036854775807 : Int64)) &&& (3 : Int64)) = (0 : Int64) then w_ACCEPTED else w_REJECTED))] [(.int (lcmpW ((q1 &&& (9223372036854775807 : Int64)) &&& (3 : Int64)) (0 : Int64)))])) (fun t k => ?_) ?_
    · show Steps p.tables e below (T14.setTop (mkF m 22 #[.val (.long q1), .second, .val (.int p2), .val (.long ((q1 &&& (9223372036854775807 : Int64)) &&& (3 : Int64))), .second, .unset] [(.ref (if ((q1 &&& (9223372036854775807 : Int64)) &&& (3 : Int64)) = (0 : Int64) then w_ACCEPTED else w_REJECTED))])) _
      refine XS.astore X14.here hx rfl (hb hby at_22) rfl rfl (l' := #[.val (.long q1), .second, .val (.int p2), .val (.long ((q1 &&& (9223372036854775807 : Int64)) &&& (3 : Int64))), .second, .val (.ref (if ((q1 &&& (9223372036854775807 : Int64)) &&& (3 : Int64)) = (0 : Int64) then w_ACCEPTED else w_REJECTED))]) rfl ?_
      show Steps p.tables e below (T14.setTop (mkF m 24 #[.val (.long q1), .second, .val (.int p2), .val (.long ((q1 &&& (9223372036854775807 : Int64)) &&& (3 : Int64))), .second, .val (.ref (if ((q1 &&& (9223372036854775807 : Int64)) &&& (3 : Int64)) = (0 : Int64) then w_ACCEPTED else w_REJECTED))] [])) _
      refine XS.lloadN X14.here hx rfl (hb hby at_24) rfl ?_
      show Steps p.tables e below (T14.setTop (mkF m 25 #[.val (.long q1), .second, .val (.int p2), .val (.long ((q1 &&& (9223372036854775807 : Int64)) &&& (3 : Int64))), .second, .val (.ref (if ((q1 &&& (9223372036854775807 : Int64)) &&& (3 : Int64)) = (0 : Int64) then w_ACCEPTED else w_REJECTED))] [(.long ((q1 &&& (9223372036854775807 : Int64)) &&& (3 : Int64)))])) _
      refine XS.lconst X14.here hx rfl (hb hby at_25) ?_
      show Steps p.tables e below (T14.setTop (mkF m 26 #[.val (.long q1), .second, .val (.int p2), .val (.long ((q1 &&& (9223372036854775807 : Int64)) &&& (3 : Int64))), .second, .val (.ref (if ((q1 &&& (9223372036854775807 : Int64)) &&& (3 : Int64)) = (0 : Int64) then w_ACCEPTED else w_REJECTED))] [(.long (0 : Int64)), (.long ((q1 &&& (9223372036854775807 : Int64)) &&& (3 : Int64)))])) _
      refine XS.lcmp X14.here hx rfl (hb hby at_26) rfl ?_
      show Steps p.tables e below (T14.setTop (mkF m 27 #[.val (.long q1), .second, .val (.int p2), .val (.long ((q1 &&& (9223372036854775807 : Int64)) &&& (3 : Int64))), .second, .val (.ref (if ((q1 &&& (9223372036854775807 : Int64)) &&& (3 : Int64)) = (0 : Int64) then w_ACCEPTED else w_REJECTED))] [(.int (lcmpW ((q1 &&& (9223372036854775807 : Int64)) &&& (3 : Int64)) (0 : Int64)))])) _
      exact k
    by_cases hl15 : ((q1 &&& (9223372036854775807 : Int64)) &&& (3 : Int64)) = (0 : Int64)
    · refine own_go (B := T14.setTop (mkF m 32 #[.val (.long q1), .second, .val (.int p2), .val (.long ((q1 &&& (9223372036854775807 : Int64)) &&& (3 : Int64))), .second, .val (.ref (if ((q1 &&& (9223372036854775807 : Int64)) &&& (3 : Int64)) = (0 : Int64) then w_ACCEPTED else w_REJECTED))] [(.ref (if ((q1 &&& (9223372036854775807 : Int64)) &&& (3 : Int64)) = (0 : Int64) then w_ACCEPTED else w_REJECTED))])) (fun t k => ?_) ?_
      · show Steps p.tables e below (T14.setTop (mkF m 27 #[.val (.long q1), .second, .val (.int p2), .val (.long ((q1 &&& (9223372036854775807 : Int64)) &&& (3 : Int64))), .second, .val (.ref (if ((q1 &&& (9223372036854775807 : Int64)) &&& (3 : Int64)) = (0 : Int64) then w_ACCEPTED else w_REJECTED))] [(.int (lcmpW ((q1 &&& (9223372036854775807 : Int64)) &&& (3 : Int64)) (0 : Int64)))])) _
        refine XS.ifNo X14.here hx rfl (hb hby at_27) rfl ((if0 _ _).trans (teq (show (lcmpW ((q1 &&& (9223372036854775807 : Int64)) &&& (3 : Int64)) (0 : Int64)) = (0 : Int32) from ((lw_eq ((q1 &&& (9223372036854775807 : Int64)) &&& (3 : Int64)) (0 : Int64)).mpr hl15))).2) ?_
        show Steps p.tables e below (T14.setTop (mkF m 30 #[.val (.long q1), .second, .val (.int p2), .val (.long ((q1 &&& (9223372036854775807 : Int64)) &&& (3 : Int64))), .second, .val (.ref (if ((q1 &&& (9223372036854775807 : Int64)) &&& (3 : Int64)) = (0 : Int64) then w_ACCEPTED else w_REJECTED))] [])) _
        refine XS.aload X14.here hx rfl (hb hby at_30) rfl rfl ?_
        show Steps p.tables e below (T14.setTop (mkF m 32 #[.val (.long q1), .second, .val (.int p2), .val (.long ((q1 &&& (9223372036854775807 : Int64)) &&& (3 : Int64))), .second, .val (.ref (if ((q1 &&& (9223372036854775807 : Int64)) &&& (3 : Int64)) = (0 : Int64) then w_ACCEPTED else w_REJECTED))] [(.ref (if ((q1 &&& (9223372036854775807 : Int64)) &&& (3 : Int64)) = (0 : Int64) then w_ACCEPTED else w_REJECTED))])) _
        exact k
      obtain ⟨T16, X16, e16, st16⟩ := getS2 X14 hx hZ hown (host := "") (Or.inl (hw _ (List.mem_of_getElem? (i := 11) rfl))) Via.refl q14_0 S_ACCEPTED (g := (mkF m 32 #[.val (.long q1), .second, .val (.int p2), .val (.long ((q1 &&& (9223372036854775807 : Int64)) &&& (3 : Int64))), .second, .val (.ref (if ((q1 &&& (9223372036854775807 : Int64)) &&& (3 : Int64)) = (0 : Int64) then w_ACCEPTED else w_REJECTED))] [(.ref (if ((q1 &&& (9223372036854775807 : Int64)) &&& (3 : Int64)) = (0 : Int64) then w_ACCEPTED else w_REJECTED))])) rfl (hb hby at_32)
      refine own_go st16 ?_
      refine own_go (B := T16.setTop (mkF m 43 #[.val (.long q1), .second, .val (.int p2), .val (.long ((q1 &&& (9223372036854775807 : Int64)) &&& (3 : Int64))), .second, .val (.ref (if ((q1 &&& (9223372036854775807 : Int64)) &&& (3 : Int64)) = (0 : Int64) then w_ACCEPTED else w_REJECTED))] [(.int (1 : Int32))])) (fun t k => ?_) ?_
      · show Steps p.tables e below (T16.setTop (mkF m 35 #[.val (.long q1), .second, .val (.int p2), .val (.long ((q1 &&& (9223372036854775807 : Int64)) &&& (3 : Int64))), .second, .val (.ref (if ((q1 &&& (9223372036854775807 : Int64)) &&& (3 : Int64)) = (0 : Int64) then w_ACCEPTED else w_REJECTED))] [(.ref w_ACCEPTED), (.ref (if ((q1 &&& (9223372036854775807 : Int64)) &&& (3 : Int64)) = (0 : Int64) then w_ACCEPTED else w_REJECTED))])) _
        refine Jvm.RoadKit.acmp (g := (mkF m 35 #[.val (.long q1), .second, .val (.int p2), .val (.long ((q1 &&& (9223372036854775807 : Int64)) &&& (3 : Int64))), .second, .val (.ref (if ((q1 &&& (9223372036854775807 : Int64)) &&& (3 : Int64)) = (0 : Int64) then w_ACCEPTED else w_REJECTED))] [(.ref w_ACCEPTED), (.ref (if ((q1 &&& (9223372036854775807 : Int64)) &&& (3 : Int64)) = (0 : Int64) then w_ACCEPTED else w_REJECTED))])) X16 hx rfl rfl rfl (pc0 := 35) (pc' := 38) (same := true) rfl (hb hby at_35) rfl (decide_eq_true (congrArg Value.ref (if_pos hl15))) (by decide) (by decide) ?_
        show Steps p.tables e below (T16.setTop (mkF m 38 #[.val (.long q1), .second, .val (.int p2), .val (.long ((q1 &&& (9223372036854775807 : Int64)) &&& (3 : Int64))), .second, .val (.ref (if ((q1 &&& (9223372036854775807 : Int64)) &&& (3 : Int64)) = (0 : Int64) then w_ACCEPTED else w_REJECTED))] [])) _
        refine XS.iconst X16.here hx rfl (hb hby at_38) ?_
        show Steps p.tables e below (T16.setTop (mkF m 39 #[.val (.long q1), .second, .val (.int p2), .val (.long ((q1 &&& (9223372036854775807 : Int64)) &&& (3 : Int64))), .second, .val (.ref (if ((q1 &&& (9223372036854775807 : Int64)) &&& (3 : Int64)) = (0 : Int64) then w_ACCEPTED else w_REJECTED))] [(.int (1 : Int32))])) _
        refine XS.goto X16.here hx rfl (pc0 := 39) (pc' := 43) rfl (hb hby at_39) (by decide) (by decide) ?_
        show Steps p.tables e below (T16.setTop (mkF m 43 #[.val (.long q1), .second, .val (.int p2), .val (.long ((q1 &&& (9223372036854775807 : Int64)) &&& (3 : Int64))), .second, .val (.ref (if ((q1 &&& (9223372036854775807 : Int64)) &&& (3 : Int64)) = (0 : Int64) then w_ACCEPTED else w_REJECTED))] [(.int (1 : Int32))])) _
        exact k
      obtain ⟨fs, hr, hrun, hended, hW, hsame⟩ := X16.leave (v := some (.int (1 : Int32))) (fun h => by rw [Bd.returns] at h; cases h)
      refine ⟨_, _, ?_, hrun, hended, _, _, rfl, ?_, ⟨_, rfl⟩, hW, hsame.mono (by decide) (by decide)⟩
      · exact retN X16 hx (t := .boolean) Bd.returns (by simp) (hb hby at_43) hr
      · show Q0 Z q1 p2 w_REJECTED w_ACCEPTED h0 n0 _ T16.heap _
        rw [e16]
        exact ⟨rfl, N14⟩
    · refine own_go (B := T14.setTop (mkF m 46 #[.val (.long q1), .second, .val (.int p2), .val (.long ((q1 &&& (9223372036854775807 : Int64)) &&& (3 : Int64))), .second, .val (.ref (if ((q1 &&& (9223372036854775807 : Int64)) &&& (3 : Int64)) = (0 : Int64) then w_ACCEPTED else w_REJECTED))] [(.ref (if ((q1 &&& (9223372036854775807 : Int64)) &&& (3 : Int64)) = (0 : Int64) then w_ACCEPTED else w_REJECTED))])) (fun t k => ?_) ?_
      · show Steps p.tables e below (T14.setTop (mkF m 27 #[.val (.long q1), .second, .val (.int p2), .val (.long ((q1 &&& (9223372036854775807 : Int64)) &&& (3 : Int64))), .second, .val (.ref (if ((q1 &&& (9223372036854775807 : Int64)) &&& (3 : Int64)) = (0 : Int64) then w_ACCEPTED else w_REJECTED))] [(.int (lcmpW ((q1 &&& (9223372036854775807 : Int64)) &&& (3 : Int64)) (0 : Int64)))])) _
        refine XS.ifYes X14.here hx rfl (pc0 := 27) (pc' := 44) rfl (hb hby at_27) rfl ((if0 _ _).trans (feq (show ¬ ((lcmpW ((q1 &&& (9223372036854775807 : Int64)) &&& (3 : Int64)) (0 : Int64)) = (0 : Int32)) from (fun q => hl15 ((lw_eq ((q1 &&& (9223372036854775807 : Int64)) &&& (3 : Int64)) (0 : Int64)).mp q)))).2) (by decide) (by decide) ?_
        show Steps p.tables e below (T14.setTop (mkF m 44 #[.val (.long q1), .second, .val (.int p2), .val (.long ((q1 &&& (9223372036854775807 : Int64)) &&& (3 : Int64))), .second, .val (.ref (if ((q1 &&& (9223372036854775807 : Int64)) &&& (3 : Int64)) = (0 : Int64) then w_ACCEPTED else w_REJECTED))] [])) _
        refine XS.aload X14.here hx rfl (hb hby at_44) rfl rfl ?_
        show Steps p.tables e below (T14.setTop (mkF m 46 #[.val (.long q1), .second, .val (.int p2), .val (.long ((q1 &&& (9223372036854775807 : Int64)) &&& (3 : Int64))), .second, .val (.ref (if ((q1 &&& (9223372036854775807 : Int64)) &&& (3 : Int64)) = (0 : Int64) then w_ACCEPTED else w_REJECTED))] [(.ref (if ((q1 &&& (9223372036854775807 : Int64)) &&& (3 : Int64)) = (0 : Int64) then w_ACCEPTED else w_REJECTED))])) _
        exact k
      obtain ⟨T18, X18, e18, st18⟩ := getS2 X14 hx hZ hown (host := "") (Or.inl (hw _ (List.mem_of_getElem? (i := 7) rfl))) Via.refl q14_0 S_REJECTED (g := (mkF m 46 #[.val (.long q1), .second, .val (.int p2), .val (.long ((q1 &&& (9223372036854775807 : Int64)) &&& (3 : Int64))), .second, .val (.ref (if ((q1 &&& (9223372036854775807 : Int64)) &&& (3 : Int64)) = (0 : Int64) then w_ACCEPTED else w_REJECTED))] [(.ref (if ((q1 &&& (9223372036854775807 : Int64)) &&& (3 : Int64)) = (0 : Int64) then w_ACCEPTED else w_REJECTED))])) rfl (hb hby at_46)
      refine own_go st18 ?_
      refine own_go (B := T18.setTop (mkF m 57 #[.val (.long q1), .second, .val (.int p2), .val (.long ((q1 &&& (9223372036854775807 : Int64)) &&& (3 : Int64))), .second, .val (.ref (if ((q1 &&& (9223372036854775807 : Int64)) &&& (3 : Int64)) = (0 : Int64) then w_ACCEPTED else w_REJECTED))] [(.int (1 : Int32))])) (fun t k => ?_) ?_
      · show Steps p.tables e below (T18.setTop (mkF m 49 #[.val (.long q1), .second, .val (.int p2), .val (.long ((q1 &&& (9223372036854775807 : Int64)) &&& (3 : Int64))), .second, .val (.ref (if ((q1 &&& (9223372036854775807 : Int64)) &&& (3 : Int64)) = (0 : Int64) then w_ACCEPTED else w_REJECTED))] [(.ref w_REJECTED), (.ref (if ((q1 &&& (9223372036854775807 : Int64)) &&& (3 : Int64)) = (0 : Int64) then w_ACCEPTED else w_REJECTED))])) _
        refine Jvm.RoadKit.acmp (g := (mkF m 49 #[.val (.long q1), .second, .val (.int p2), .val (.long ((q1 &&& (9223372036854775807 : Int64)) &&& (3 : Int64))), .second, .val (.ref (if ((q1 &&& (9223372036854775807 : Int64)) &&& (3 : Int64)) = (0 : Int64) then w_ACCEPTED else w_REJECTED))] [(.ref w_REJECTED), (.ref (if ((q1 &&& (9223372036854775807 : Int64)) &&& (3 : Int64)) = (0 : Int64) then w_ACCEPTED else w_REJECTED))])) X18 hx rfl rfl rfl (pc0 := 49) (pc' := 52) (same := true) rfl (hb hby at_49) rfl (decide_eq_true (congrArg Value.ref (if_neg hl15))) (by decide) (by decide) ?_
        show Steps p.tables e below (T18.setTop (mkF m 52 #[.val (.long q1), .second, .val (.int p2), .val (.long ((q1 &&& (9223372036854775807 : Int64)) &&& (3 : Int64))), .second, .val (.ref (if ((q1 &&& (9223372036854775807 : Int64)) &&& (3 : Int64)) = (0 : Int64) then w_ACCEPTED else w_REJECTED))] [])) _
        refine XS.iconst X18.here hx rfl (hb hby at_52) ?_
        show Steps p.tables e below (T18.setTop (mkF m 53 #[.val (.long q1), .second, .val (.int p2), .val (.long ((q1 &&& (9223372036854775807 : Int64)) &&& (3 : Int64))), .second, .val (.ref (if ((q1 &&& (9223372036854775807 : Int64)) &&& (3 : Int64)) = (0 : Int64) then w_ACCEPTED else w_REJECTED))] [(.int (1 : Int32))])) _
        refine XS.goto X18.here hx rfl (pc0 := 53) (pc' := 57) rfl (hb hby at_53) (by decide) (by decide) ?_
        show Steps p.tables e below (T18.setTop (mkF m 57 #[.val (.long q1), .second, .val (.int p2), .val (.long ((q1 &&& (9223372036854775807 : Int64)) &&& (3 : Int64))), .second, .val (.ref (if ((q1 &&& (9223372036854775807 : Int64)) &&& (3 : Int64)) = (0 : Int64) then w_ACCEPTED else w_REJECTED))] [(.int (1 : Int32))])) _
        exact k
      obtain ⟨fs, hr, hrun, hended, hW, hsame⟩ := X18.leave (v := some (.int (1 : Int32))) (fun h => by rw [Bd.returns] at h; cases h)
      refine ⟨_, _, ?_, hrun, hended, _, _, rfl, ?_, ⟨_, rfl⟩, hW, hsame.mono (by decide) (by decide)⟩
      · exact retN X18 hx (t := .boolean) Bd.returns (by simp) (hb hby at_57) hr
      · show Q0 Z q1 p2 w_REJECTED w_ACCEPTED h0 n0 _ T18.heap _
        rw [e18]
        exact ⟨rfl, N14⟩
set_option maxRecDepth 65536 in
set_option maxHeartbeats 40000000 in
theorem comes_1 {Post : Tables → Env → Array Value → State → Outcome → State → Prop} (hpost : ∀ tb e args s v u, (limb_1_1.after args s (.returned v) u = true ∧ limb_1_2.after args s (.returned v) u = true ∧ True) → FrameEnd s (.returned v) u (Jvm.fieldLocs frame_1_writes args s ++ Jvm.arrayLocs frame_1_arrays args s ++ Jvm.staticLocs frame_1_statics s) 0 0 → Post tb e args s (.returned v) u) :
    ArmFor flags0 classFile x code maxLocals ret World_1 tables_1 room_1 Calls_1 rest_1 Pre_1 Post := by
  intro l hfl _ _ p e ha hc hk s m args below hf hA hF happ hP
  obtain ⟨hcalls, hrest, hpre⟩ := hP
  obtain ⟨-, -, -, hnamed, -, -, -, hat⟩ := (Spec.applies_iff hf).mp happ
  obtain ⟨hg, hn⟩ := and_e (Cond.before_iff.mp (show (Jvm.Cond.and given_1 narrow_1).before args s = true from hpre))
  obtain ⟨g0, hg0⟩ := and_e hg
  obtain ⟨g1, hg1⟩ := and_e hg0
  obtain ⟨w0, w1, rfl⟩ : ∃ w0 w1 : Value, args = #[w0, w1] := by
    have hs : args.size = 2 := by simpa [Cond.value, given_1] using g0
    obtain ⟨L⟩ := args
    match L, hs with
    | [w0, w1], _ => exact ⟨w0, w1, rfl⟩
  have hw := fun d (hd : d ∈ tables_1) => atoms_spec (ws := Jvm.Cond.code x code maxLocals ret :: tables_1) hat d (List.mem_cons_of_mem _ hd)
  obtain ⟨i0, ei0⟩ := isL_v g1
  obtain rfl : w0 = (.long i0) := Option.some.inj ei0
  obtain ⟨i1, ei1⟩ := is_v hg1
  obtain rfl : w1 = (.int i1) := Option.some.inj ei1
  obtain ⟨u1a, u1b⟩ := and_e hn
  obtain ⟨w_REJECTED, ev_REJECTED⟩ := exa_v u1a
  have E_REJECTED := Exa.start ev_REJECTED u1a
  obtain ⟨w_ACCEPTED, ev_ACCEPTED⟩ := exa_v u1b
  have E_ACCEPTED := Exa.start ev_ACCEPTED u1b
  have S_REJECTED := Sta.start ev_REJECTED (Or.inr ⟨(hw _ (List.mem_of_getElem? (i := 3) rfl)), (hw _ (List.mem_of_getElem? (i := 6) rfl))⟩)
  have S_ACCEPTED := Sta.start ev_ACCEPTED (Or.inr ⟨(hw _ (List.mem_of_getElem? (i := 3) rfl)), (hw _ (List.mem_of_getElem? (i := 10) rfl))⟩)
  obtain ⟨n, o, h1, h2, h3, _, L, rfl, ⟨rfl, N⟩, hq⟩ := rm0 l s _ hw tables_1 i0 i1 w_REJECTED w_ACCEPTED s.heap s.heap.size (Nat.le_refl _) S_REJECTED S_ACCEPTED p e ha hc hk s m _ below hf ((Spec.applies_iff_loose hf).mp happ).1 ⟨rfl, State.Warmed39.refl s, rfl⟩ trivial
  refine ⟨n, _, h1, h2, h3, hpost _ _ _ _ _ _ ⟨Cond.after_iff.mpr rfl, Cond.after_iff.mpr (eq_i res_at (Term.int_eval (1)) rfl), trivial⟩ ⟨hq.1, hq.2.1, (hq.2.2.sift fun y hy => Or.inr (N y hy)).mono (by decide) (by decide)⟩⟩
theorem main_1_1 : Claimed_1_1 := comes_1 fun _ _ _ _ _ _ h hF => ⟨h.1, hF⟩
theorem main_1_2 : Claimed_1_2 := comes_1 fun _ _ _ _ _ _ h hF => ⟨h.2.1, hF⟩
end Jvm.Pilot.@@N@@
namespace Jvm.Pilot.@@N@@
open Jvm Jvm.ClassFile Sem Op Lib Jvm.Free Jvm.Stand Jvm.Pilot.@@N@@.Jvm.D
/-! MADE BY PROGRAM (witnessworld.py) out of the Statement's table words and the real class files: 12 classes; the members and pool entries that the words name. The judged class is class 1, her method 1. -/
namespace start1
open Jvm.ClassFile
def u (s : String) : CpInfo := .utf8 (stringToUtf16 s)
/-- a pool by its gaps: so many unusable entries, then the entry; so many at the end -/
def gap : Nat → List CpInfo → List CpInfo
  | 0, r => r
  | n + 1, r => .unusable :: gap n r
def poolList (es : List (Nat × CpInfo)) (last : Nat) : List CpInfo := es.foldr (fun e r => gap e.1 (e.2 :: r)) (gap last [])
def pool (es : List (Nat × CpInfo)) (last : Nat) : Array CpInfo := ⟨poolList es last⟩
def fileOf (pool : Array CpInfo) (this : Nat) (attrs : Array Attribute := #[]) (ms : Array MethodInfo := #[]) (fl : Nat := 33) (sup : Nat := 0) (ifs : Array Nat := #[]) (fds : Array FieldInfo := #[]) : ClassFile where
  minorVersion := 0
  majorVersion := 65
  constantPool := pool
  accessFlags := fl
  thisClass := this
  superClass := sup
  interfaces := ifs
  fields := fds
  methods := ms
  attributes := attrs
def plain (name : String) (sup : Option ClassId) : Class where
  name := name
  kind := .ordinary
  loader := none
  accessFlags := 33
  super := sup
  interfaces := #[]
  cf := none
  fields := #[]
  methods := #[]
  instanceTypes := #[]
  staticTypes := #[]
  resolved := #[]
  callSites := []
  init := .initialized
  statics := none
  mirror := none

def pool0 : Array CpInfo := pool [(5, u "<init>"), (0, u "()V"), (1, .class_ 10), (1, u "java/lang/Object")] 113

def k0m0 : Method := { name := "<init>", desc := "()V", sig := { parameters := [], returnType := none }, accessFlags := 1, code := none }
/-- java/lang/Object -/
def k0 : Class := { plain "java/lang/Object" none with
  accessFlags := 33
  interfaces := #[]
  cf := some (fileOf pool0 8 #[] #[{ accessFlags := 1, nameIndex := 5, descriptorIndex := 6, attributes := #[] }] 33 0 #[] #[])
  fields := #[]
  methods := #[k0m0]
  instanceTypes := #[]
  staticTypes := #[]
  resolved := Array.replicate 124 none
  statics := none }

def pool1 : Array CpInfo := pool [(2, .class_ 4), (1, u "java/lang/Object"), (0, u "<init>"), (0, u "()V"), (2, .long 9223372036854775807), (1, .long 3), (1, .methodref 14 15), (0, .class_ 16), (0, .nameAndType 17 18), (0, u "com/example/tiphys/tiphys/Verdict"), (0, u "of"), (0, u "(J)Lcom/example/tiphys/tiphys/Verdict;"), (0, .fieldref 14 20), (0, .nameAndType 21 22), (0, u "ACCEPTED"), (0, u "Lcom/example/tiphys/tiphys/Verdict;"), (0, .fieldref 14 24), (0, .nameAndType 25 22), (0, u "REJECTED"), (0, .class_ 27), (0, u "com/example/tiphys/tiphys/VerdictOfPinLaw"), (2, u "law"), (0, u "(JI)Z")] 3

def k1m0 : Method := { name := "<init>", desc := "()V", sig := { parameters := [], returnType := none }, accessFlags := 1, code := none }
def k1c1 : Code := { maxStack := 4, maxLocals := 6, code := code, exceptionTable := #[], attributes := #[] }
def k1m1 : Method := { name := "law", desc := "(JI)Z", sig := { parameters := [.long, .int], returnType := some .boolean }, accessFlags := 9, code := some k1c1 }
/-- com/example/tiphys/tiphys/VerdictOfPinLaw -/
def k1 : Class := { plain "com/example/tiphys/tiphys/VerdictOfPinLaw" (some 0) with
  accessFlags := 49
  interfaces := #[]
  cf := some (fileOf pool1 26 #[] #[{ accessFlags := 1, nameIndex := 5, descriptorIndex := 6, attributes := #[] }, { accessFlags := 9, nameIndex := 30, descriptorIndex := 31, attributes := #[] }] 49 2 #[] #[])
  fields := #[]
  methods := #[k1m0, k1m1]
  instanceTypes := #[]
  staticTypes := #[]
  resolved := Array.replicate 35 none
  statics := none }

def pool2 : Array CpInfo := pool [(1, .class_ 2), (0, u "java/lang/constant/Constable"), (0, .class_ 4), (0, u "java/lang/Object")] 6

/-- java/lang/constant/Constable -/
def k2 : Class := { plain "java/lang/constant/Constable" (some 0) with
  accessFlags := 1537
  interfaces := #[]
  cf := some (fileOf pool2 1 #[] #[] 1537 3 #[] #[])
  fields := #[]
  methods := #[]
  instanceTypes := #[]
  staticTypes := #[]
  resolved := Array.replicate 11 none
  statics := none }

def pool3 : Array CpInfo := pool [(1, .class_ 2), (0, u "java/lang/Comparable"), (0, .class_ 4), (0, u "java/lang/Object")] 7

/-- java/lang/Comparable -/
def k3 : Class := { plain "java/lang/Comparable" (some 0) with
  accessFlags := 1537
  interfaces := #[]
  cf := some (fileOf pool3 1 #[] #[] 1537 3 #[] #[])
  fields := #[]
  methods := #[]
  instanceTypes := #[]
  staticTypes := #[]
  resolved := Array.replicate 12 none
  statics := none }

def pool4 : Array CpInfo := pool [(1, .class_ 2), (0, u "java/io/Serializable"), (0, .class_ 4), (0, u "java/lang/Object")] 2

/-- java/io/Serializable -/
def k4 : Class := { plain "java/io/Serializable" (some 0) with
  accessFlags := 1537
  interfaces := #[]
  cf := some (fileOf pool4 1 #[] #[] 1537 3 #[] #[])
  fields := #[]
  methods := #[]
  instanceTypes := #[]
  staticTypes := #[]
  resolved := Array.replicate 7 none
  statics := none }

def pool5 : Array CpInfo := pool [(2, .class_ 4), (1, u "java/lang/Enum"), (0, u "name"), (0, u "Ljava/lang/String;"), (2, u "ordinal"), (0, u "I"), (1, .class_ 14), (1, u "java/lang/Object"), (4, u "hash"), (86, .class_ 108), (1, u "java/lang/Enum$EnumDesc"), (2, .class_ 112), (0, u "java/lang/constant/Constable"), (0, .class_ 114), (0, u "java/lang/Comparable"), (0, .class_ 116), (0, u "java/io/Serializable")] 87

/-- java/lang/Enum -/
def k5 : Class := { plain "java/lang/Enum" (some 0) with
  accessFlags := 1057
  interfaces := #[2, 3, 4]
  cf := some (fileOf pool5 2 #[.nestMembers #[106]] #[] 1057 12 #[111, 113, 115] #[{ accessFlags := 18, nameIndex := 5, descriptorIndex := 6, attributes := #[] }, { accessFlags := 18, nameIndex := 9, descriptorIndex := 10, attributes := #[] }, { accessFlags := 2, nameIndex := 19, descriptorIndex := 10, attributes := #[] }])
  fields := #[{ name := "name", type := (.object "java/lang/String"), accessFlags := 18, slot := 0, constantValue := 0 }, { name := "ordinal", type := .int, accessFlags := 18, slot := 1, constantValue := 0 }, { name := "hash", type := .int, accessFlags := 2, slot := 2, constantValue := 0 }]
  methods := #[]
  instanceTypes := #[(.object "java/lang/String"), .int, .int]
  staticTypes := #[]
  resolved := Array.replicate 204 none
  statics := none }

def pool6 : Array CpInfo := pool [(1, .class_ 2), (0, u "com/example/tiphys/tiphys/Verdict"), (0, .fieldref 1 4), (0, .nameAndType 5 6), (0, u "ACCEPTED"), (0, u "Lcom/example/tiphys/tiphys/Verdict;"), (0, .fieldref 1 8), (0, .nameAndType 9 6), (0, u "REJECTED"), (2, u "$VALUES"), (0, u "[Lcom/example/tiphys/tiphys/Verdict;"), (6, .class_ 22), (1, u "java/lang/Enum"), (33, u "STRICT_REJECTION"), (0, u "I"), (9, u "of"), (0, u "(J)Lcom/example/tiphys/tiphys/Verdict;")] 23

def k6c0 : Code := { maxStack := 4, maxLocals := 2, code := prog_70_method_4_code, exceptionTable := #[], attributes := #[] }
def k6m0 : Method := { name := "of", desc := "(J)Lcom/example/tiphys/tiphys/Verdict;", sig := { parameters := [.long], returnType := some (.object "com/example/tiphys/tiphys/Verdict") }, accessFlags := 8, code := some k6c0 }
/-- com/example/tiphys/tiphys/Verdict -/
def k6 : Class := { plain "com/example/tiphys/tiphys/Verdict" (some 5) with
  accessFlags := 16432
  interfaces := #[]
  cf := some (fileOf pool6 1 #[] #[{ accessFlags := 8, nameIndex := 67, descriptorIndex := 68, attributes := #[] }] 16432 20 #[] #[{ accessFlags := 16409, nameIndex := 5, descriptorIndex := 6, attributes := #[] }, { accessFlags := 16409, nameIndex := 9, descriptorIndex := 6, attributes := #[] }, { accessFlags := 26, nameIndex := 56, descriptorIndex := 57, attributes := #[] }, { accessFlags := 4122, nameIndex := 12, descriptorIndex := 13, attributes := #[] }])
  fields := #[{ name := "ACCEPTED", type := (.object "com/example/tiphys/tiphys/Verdict"), accessFlags := 16409, slot := 0, constantValue := 0 }, { name := "REJECTED", type := (.object "com/example/tiphys/tiphys/Verdict"), accessFlags := 16409, slot := 1, constantValue := 0 }, { name := "STRICT_REJECTION", type := .int, accessFlags := 26, slot := 2, constantValue := 0 }, { name := "$VALUES", type := (.array (.object "com/example/tiphys/tiphys/Verdict")), accessFlags := 4122, slot := 3, constantValue := 0 }]
  methods := #[k6m0]
  instanceTypes := #[(.object "java/lang/String"), .int, .int]
  staticTypes := #[(.object "com/example/tiphys/tiphys/Verdict"), (.object "com/example/tiphys/tiphys/Verdict"), .int, (.array (.object "com/example/tiphys/tiphys/Verdict"))]
  resolved := Array.replicate 92 none
  statics := some 0 }

def pool7 : Array CpInfo := pool [(1, u "java/lang/Cloneable"), (0, .class_ 1), (0, u "java/lang/Object"), (0, .class_ 3)] 3

/-- java/lang/Cloneable -/
def k7 : Class := { plain "java/lang/Cloneable" (some 0) with
  accessFlags := 1537
  interfaces := #[]
  cf := some (fileOf pool7 2 #[] #[] 1537 4 #[] #[])
  fields := #[]
  methods := #[]
  instanceTypes := #[]
  staticTypes := #[]
  resolved := Array.replicate 8 none
  statics := none }

/-- the primitive byte -/
def k8 : Class := { plain "byte" none with kind := .primitive 'B', accessFlags := 0x411 }
/-- [B -/
def k9 : Class := { plain "[B" (some 0) with kind := .array 8 .byte, interfaces := #[7, 4], accessFlags := 1041 }

/-- the primitive int -/
def k10 : Class := { plain "int" none with kind := .primitive 'I', accessFlags := 0x411 }
/-- [I -/
def k11 : Class := { plain "[I" (some 0) with kind := .array 10 .int, interfaces := #[7, 4], accessFlags := 1041 }

def heap : Heap := #[{ cls := 6, slots := #[.ref 1, .ref 2, .int 0, .null], vm := .statics 6 },
  { cls := 6, slots := #[.null, .int 0, .int 0], vm := .none },
  { cls := 6, slots := #[.null, .int 1, .int 0], vm := .none }]
def classes : Array Class := #[k0, k1, k2, k3, k4, k5, k6, k7, k8, k9, k10, k11]
def interned : List (Array UInt16 × Addr) := []
def slotsUsed : Nat := 10
def theMethod : MethodId := ⟨1, 1⟩
def args0 : Array Value := #[.long 5, .int 1]
def aboutOver (below : List Frame) : State where
  vm := { classes := classes, interned := interned.toArray }
  heap := heap
  slotsUsed := slotsUsed
  threads := #[{ frames := .invoking theMethod args0 :: below }]
def below0 : List Frame := [.native { method := ⟨0, 0⟩, args := #[] }]
def about1 : State := aboutOver below0
def p0 : Program := .bare "" "" ""
def e0 : Env := launch0.env 0 0 0
theorem w_frames : about1.frames = Frame.invoking theMethod args0 :: below0 := rfl
set_option maxRecDepth 65536 in
theorem w_args : argsFit about1.vm theMethod args0 = true := by decide +kernel
set_option maxRecDepth 65536 in
theorem w_heap : heapFits about1 = true := by decide +kernel
set_option maxRecDepth 65536 in
theorem w_runnable : about1.curStatus? = some .runnable := by decide +kernel
set_option maxRecDepth 65536 in
theorem w_alone : about1.alone = true := by decide +kernel
set_option maxRecDepth 65536 in
theorem w_named : about1.methodNamed? x = some theMethod := by decide +kernel
set_option maxRecDepth 65536 in
theorem w_hears : about1.hears theMethod below0 = true := by decide +kernel
set_option maxRecDepth 65536 in
theorem w_ripe : about1.ripe theMethod args0 below0 = true := by decide +kernel
theorem w_running : about1.status = .running := rfl
set_option maxRecDepth 65536 in
theorem w_room : about1.hasRoom e0.platform room_1 = true :=
  launch0.hasRoom_least _ room_1 (by decide +kernel) (by decide +kernel) (by decide +kernel) (by decide +kernel) (by decide +kernel) (by decide +kernel)
theorem allAtoms_all (ts : List Jvm.Cond) (a : Array Jvm.Value) (st : Jvm.State) : (allAtoms ts).before a st = ts.all (fun c => c.before a st) := by
  induction ts with
  | nil => rfl
  | cons c t ih =>
    show (Jvm.Cond.and c (allAtoms t)).before a st = _
    rw [Jvm.Cond.before_and, ih, List.all_cons]
def words1 : List Jvm.Cond := Jvm.Cond.code x code maxLocals ret :: tables_1
/-- a 'code' word, met by the world's own term for the bytes: nothing is compared byte by byte -/
theorem code_word {y : MethodName} {bytes : ByteArray} {mx : Nat} {rt : Option FieldType} {a : Array Value} {s : State} {m : MethodId} {meth : Method} {c : Code} (h1 : s.methodNamed? y = some m) (h2 : s.vm.method? m = some meth) (h3 : meth.code = some c) (h4 : c.code = bytes)
    (h5 : (c.maxLocals == mx && c.exceptionTable.isEmpty && decide (c.maxStack ≤ mostOperands) && decide (meth.sig.returnType = rt) && !meth.locks && decide (parseMethodDescriptor y.desc = some meth.sig)) = true) : (Jvm.Cond.code y bytes mx rt).before a s = true := by
  simp only [Bool.and_eq_true, beq_iff_eq, Bool.not_eq_true', decide_eq_true_eq] at h5
  obtain ⟨⟨⟨⟨⟨g1, g2⟩, g3⟩, g4⟩, g5⟩, g6⟩ := h5
  simp [Cond.before, Cond.holds, Cond.value, h1, h2, h3, h4, g1, g2, g3, g4, g5, g6]
def isCode : Jvm.Cond → Bool
  | .code _ _ _ _ => true
  | _ => false
theorem all_split {L : List Jvm.Cond} {P : Jvm.Cond → Bool} (h1 : L.all (fun c => isCode c || P c) = true) (h2 : ∀ c ∈ L.filter isCode, P c = true) : L.all P = true := by
  refine List.all_eq_true.mpr fun c hc => ?_
  have h := List.all_eq_true.mp h1 c hc
  rcases Bool.eq_false_or_eq_true (isCode c) with hi | hi
  · exact h2 c (List.mem_filter.mpr ⟨hc, hi⟩)
  · simpa [hi] using h
set_option maxRecDepth 65536 in
theorem w_c0 : (Jvm.Cond.code x code maxLocals ret).before args0 about1 = true := code_word (m := ⟨1, 1⟩) (meth := k1m1) (c := k1c1) (by decide +kernel) rfl rfl rfl (by decide +kernel)
set_option maxRecDepth 65536 in
theorem w_c1 : (Jvm.Cond.code ({ cls := "com/example/tiphys/tiphys/Verdict", name := "of", desc := "(J)Lcom/example/tiphys/tiphys/Verdict;" } : Jvm.MethodName) prog_70_method_4_code (2 : Nat) (Option.some (Jvm.ClassFile.FieldType.object "com/example/tiphys/tiphys/Verdict"))).before args0 about1 = true := code_word (m := ⟨6, 0⟩) (meth := k6m0) (c := k6c0) (by decide +kernel) rfl rfl rfl (by decide +kernel)
def codes1 : List Jvm.Cond := [Jvm.Cond.code x code maxLocals ret, Jvm.Cond.code ({ cls := "com/example/tiphys/tiphys/Verdict", name := "of", desc := "(J)Lcom/example/tiphys/tiphys/Verdict;" } : Jvm.MethodName) prog_70_method_4_code (2 : Nat) (Option.some (Jvm.ClassFile.FieldType.object "com/example/tiphys/tiphys/Verdict"))]
set_option maxRecDepth 65536 in
theorem codes_eq : words1.filter isCode = codes1 := rfl
theorem w_codes : ∀ c ∈ words1.filter isCode, c.before args0 about1 = true := by
  rw [codes_eq]
  intro c hc
  simp only [codes1, List.mem_cons, List.not_mem_nil, or_false] at hc
  rcases hc with rfl | rfl
  · exact w_c0
  · exact w_c1
set_option maxRecDepth 65536 in
theorem w_t1 : words1.all (fun c => isCode c || c.before args0 about1) = true := by decide +kernel
theorem w_tables : (allAtoms (Jvm.Cond.code x code maxLocals ret :: tables_1)).before args0 about1 = true := by
  rw [allAtoms_all]
  show words1.all (fun c => c.before args0 about1) = true
  refine all_split ?_ w_codes
  rw [w_t1]
set_option maxRecDepth 65536 in
theorem w_case : (Jvm.Cond.and given_1 narrow_1).before args0 about1 = true := by decide +kernel
theorem w_applies : (headSpec (Jvm.Cond.code x code maxLocals ret :: tables_1) room_1).applies x e0.platform about1 = true :=
  (Spec.applies_iff w_frames).mpr ⟨w_running, w_runnable, w_alone, w_named, w_hears, w_ripe, w_room, w_tables⟩
theorem atStart : AtStart classFile x code maxLocals ret World_1 tables_1 room_1 Calls_1 rest_1 Pre_1 launch0 p0 e0 about1 theMethod args0 below0 :=
  ⟨lists_1, trivial, launch0.admits_env _ _ _, launch0.least_env, fairChoices_fair.cas, fairChoices_fair.clock, w_frames, w_args, w_heap, w_applies, trivial, trivial, w_case⟩
end start1
theorem witness_1 : WitnessClaimed_1 := ⟨start1.p0, start1.e0, start1.about1, start1.theMethod, start1.args0, start1.below0, start1.atStart⟩
end Jvm.Pilot.@@N@@
