import JvmDerived
import JvmDerived.Pilot.@@N@@Statement
import JvmDerived.Pilot.@@N@@Code
set_option linter.unusedVariables false
set_option linter.unusedSimpArgs false
namespace Jvm.RoadKit
open Sem ClassFile Op Lib Jvm.Stand Jvm.Free Jvm.LawKit
section New
variable {p : Program} {l : Launch} {e : Env} {R : Room} {s : State} {m : MethodId} {args : Array Value} {below : List Frame} {meth : Method} {c : Code} {T : State} {locs : List Loc} {cells slots : Nat}
theorem retI (X : Stand p l e R s m args below meth c T locs cells slots) (hx : p.tables.exec = Jvm.exec) {pc : Nat} {Ls : Array Slot} {z : Int32} {rest : List Value} (hret : meth.sig.returnType = some .int) (hd : decode c.code pc = .ok (.ireturn, 1)) {fs : List Frame}
    (hl : ∀ (f : JFrame) (acts : List Action), f.method = m → f.locked = none → f.entered = [] → (doReturn e (T.setTop f) acts (some (.int z))).1 = T.setFrames fs) : Steps p.tables e below (T.setTop (mkF m pc Ls (.int z :: rest))) (T.setFrames fs) := by
  have hm' : T.vm.method? m = some meth := X.method'
  have hn : narrow .int (.int z) = .int z := rfl
  show Steps p.tables e below (T.setTop { method := m, pc := pc, locals := Ls, stack := _ :: rest, locked := none }) _
  jvm_step X.here [X.here.top, hx, hd, hm', hret, hn]
  first | (intro acts; rw [hl _ acts rfl rfl rfl]) | rw [hl _ _ rfl rfl rfl]
  exact Steps.refl _
theorem own_retJ (X : Stand p l e R s m args below meth c T locs cells slots) (hx : p.tables.exec = Jvm.exec) {pc : Nat} {Ls : Array Slot} {z : Int64} {rest : List Value} (hret : meth.sig.returnType = some .long) (hd : decode c.code pc = .ok (.lreturn, 1)) {fs : List Frame}
    (hl : ∀ (f : JFrame) (acts : List Action), f.method = m → f.locked = none → f.entered = [] → (doReturn e (T.setTop f) acts (some (.long z))).1 = T.setFrames fs) : Steps p.tables e below (T.setTop (mkF m pc Ls (.long z :: rest))) (T.setFrames fs) :=
  retOut X hx hret rfl (Or.inr (Or.inl ⟨rfl, rfl, z, rfl⟩)) hd hl
theorem own_retR (X : Stand p l e R s m args below meth c T locs cells slots) (hx : p.tables.exec = Jvm.exec) {pc : Nat} {Ls : Array Slot} {w : Value} {t : FieldType} {rest : List Value} (hret : meth.sig.returnType = some t) (ht : t.isReference = true) (hw : w.isRef = true) (hd : decode c.code pc = .ok (.areturn, 1)) {fs : List Frame}
    (hl : ∀ (f : JFrame) (acts : List Action), f.method = m → f.locked = none → f.entered = [] → (doReturn e (T.setTop f) acts (some w)).1 = T.setFrames fs) : Steps p.tables e below (T.setTop (mkF m pc Ls (w :: rest))) (T.setFrames fs) :=
  retOut X hx hret (by cases t <;> first | rfl | cases ht) (Or.inr (Or.inr (Or.inr (Or.inr ⟨rfl, ht, hw⟩)))) hd hl
theorem own_lrem {tb : Tables} [Ours tb] {e : Env} {below : List Frame} {T target : State} {m : MethodId} {c : Code} {g : JFrame} (h : At T m c below) (hx : tb.exec = Jvm.exec) (hg : g.method = m) {x y : Int64} {rest : List Value} (hd : decode c.code g.pc = .ok (.lrem, 1)) (hs : g.stack = .long y :: .long x :: rest) (hy : y ≠ 0)
    (hr : Steps tb e below (T.setTop { g with pc := g.pc + 1, stack := .long (x % y) :: rest }) target) : Steps tb e below (T.setTop g) target :=
  XS.lrem h hx hg hd hs hy (by rw [lrem_mod]; exact hr)
theorem own_go {tb : Tables} {e : Env} {below : List Frame} {A B : State} {P : State → Outcome → Prop} (h : ∀ t, Steps tb e below B t → Steps tb e below A t) (k : ∃ s₂ o, Steps tb e below B s₂ ∧ P s₂ o) : ∃ s₂ o, Steps tb e below A s₂ ∧ P s₂ o := by
  obtain ⟨s₂, o, h1, h2⟩ := k
  exact ⟨s₂, o, h _ h1, h2⟩
theorem own_cut {α : Type} {C : α → Prop} {B : α → State} {tb : Tables} {e : Env} {below : List Frame} {A : State} {P : State → Outcome → Prop} (h : ∀ a, C a → ∃ s₂ o, Steps tb e below (B a) s₂ ∧ P s₂ o) (k : (∀ a, C a → ∃ s₂ o, Steps tb e below (B a) s₂ ∧ P s₂ o) → ∃ s₂ o, Steps tb e below A s₂ ∧ P s₂ o) : ∃ s₂ o, Steps tb e below A s₂ ∧ P s₂ o := k h
theorem own_narZ (P : Prop) [Decidable P] : narrow .boolean (.int (if P then (1 : Int32) else 0)) = .int (if P then (1 : Int32) else 0) := by split <;> rfl
theorem own_fitZ (P : Prop) [Decidable P] : fits .boolean (.int (if P then (1 : Int32) else 0)) = true := by split <;> rfl
theorem own_retZ (P : Prop) [Decidable P] : (some (.int (nar .boolean (if P then (1 : Int32) else 0))) : Option Value) = some (.int (if P then (1 : Int32) else 0)) := by split <;> rfl
theorem own_staKeep {Z : State} {h h' : Heap} {C n d : String} {v : Value} {ws : List Addr} (F : Sta Z h C n d v) (K : Keep h h' ws) (q : ∀ x ∈ ws, ∃ c : Cell, h[x]? = some c ∧ c.vm.isStatics = false) : Sta Z h' C n d v := by
  obtain ⟨cf, i, k, f, st, cell, h1, h2, h3, h4, h5, h6, h7⟩ := F
  refine ⟨cf, i, k, f, st, cell, h1, h2, h3, h4, K.2.1 _ _ h5 fun hm => ?_, h6, h7⟩
  obtain ⟨c', g1, g2⟩ := q _ hm
  cases h5.symm.trans g1
  rw [h6] at g2
  cases g2
theorem own_arrKeep {Z : State} {h h' : Heap} {a : Addr} {c : Cell} {ty : FieldType} {ws : List Addr} (F : Arr Z h a c ty) (K : Keep h h' ws) (q : a ∉ ws) : Arr Z h' a c ty := ⟨K.2.1 _ _ F.1 q, F.2⟩
theorem own_ns0 {h : Heap} : ∀ x ∈ ([] : List Addr), ∃ c : Cell, h[x]? = some c ∧ c.vm.isStatics = false := fun _ q => nomatch q
theorem own_nsS {h : Heap} {y : Addr} {L : List Addr} (q : ∃ c : Cell, h[y]? = some c ∧ c.vm.isStatics = false) (r : ∀ x ∈ L, ∃ c : Cell, h[x]? = some c ∧ c.vm.isStatics = false) : ∀ x ∈ y :: L, ∃ c : Cell, h[x]? = some c ∧ c.vm.isStatics = false := fun x z => (List.mem_cons.mp z).elim (fun u => u ▸ q) (r x)
theorem own_nsE {Z : State} {h : Heap} {a : Addr} {C : String} (F : Exa Z h a C) : ∃ c : Cell, h[a]? = some c ∧ c.vm.isStatics = false := by
  obtain ⟨c, k, h1, h2, h3, h4, h5⟩ := F
  exact ⟨c, h1, h4⟩
theorem own_nsV {Z : State} {h : Heap} {a : Addr} {k : ClassId} {ty : FieldType} {z : Int32} {vs : List Value} {d : Value} (F : Arv Z h a k ty z vs d) : ∃ c : Cell, h[a]? = some c ∧ c.vm.isStatics = false := by
  obtain ⟨c, A, r⟩ := F
  exact ⟨c, A.1, A.plain⟩
theorem own_since (s : State) (n : Nat) : s.Since s.vm n := ⟨State.Warmed39.refl s, fun j p hj hp => absurd (Array.getElem?_eq_some_iff.mp hp).1 (Nat.not_lt.mpr hj)⟩
end New
end Jvm.RoadKit
namespace Jvm.Pilot.@@N@@
open Jvm Jvm.ClassFile Sem Op Lib Jvm.Free Jvm.Stand Jvm.LawKit Jvm.RoadKit Bundle Jvm.Pilot.@@N@@.Jvm.D
theorem own_strA {Z : State} {a0 : Array Value} (hw : ∀ d ∈ tables_1, d.before a0 Z = true) : ∀ a ∈ Bundle.stringAtoms, a.before a0 Z = true := by
  intro d hd
  simp only [Bundle.stringAtoms, List.mem_cons, List.not_mem_nil, or_false] at hd
  rcases hd with rfl | rfl | rfl | rfl | rfl | rfl | rfl
  · exact hw _ (List.mem_of_getElem? (i := 49) rfl)
  · exact hw _ (List.mem_of_getElem? (i := 50) rfl)
  · exact hw _ (List.mem_of_getElem? (i := 0) rfl)
  · exact hw _ (List.mem_of_getElem? (i := 51) rfl)
  · exact hw _ (List.mem_of_getElem? (i := 52) rfl)
  · exact hw _ (List.mem_of_getElem? (i := 53) rfl)
  · exact hw _ (List.mem_of_getElem? (i := 54) rfl)
theorem own_m3 (x : Int32) : ¬ (x &&& (3 : Int32)) < 0 ∧ (x &&& (3 : Int32)).toNatClampNeg ≤ 3 := by
  have e1 := c_mask x 3 2 (by decide) (by decide)
  have l1 : (0 : Int32).toInt = 0 := by decide
  have h : ¬ (x &&& (3 : Int32)) < 0 := by rw [Int32.lt_iff_toInt_lt]; omega
  refine ⟨h, ?_⟩
  have e2 := nat_of h
  omega
theorem pn_3 : plainName "java/lang/Record" = true := by first | (simp [plainName, overriddenIn]; done) | decide +kernel
theorem d3_0 : decode jdk_30_method_1_code 0 = .ok (.aload_n 0, 1) := by decide +kernel
theorem d3_1 : decode jdk_30_method_1_code 1 = .ok (.invokespecial 1, 3) := by decide +kernel
theorem d3_4 : decode jdk_30_method_1_code 4 = .ok (.return_, 1) := by decide +kernel
theorem ef_3 (m : MethodId) (a1 : Addr) : entryFrame m #[(.ref a1)] 1 = mkF m 0 #[.val (.ref a1)] [] := by first | (simp [entryFrame, mkF, argsToLocals, Value.category]; done) | rfl
def Q3 (Z : State) (a1 : Addr) (h0 : Heap) (n0 : Nat) (v : Option Value) (h : Heap) (L : List Loc) : Prop := v = none ∧ Fr n0 L ∧ h = h0
set_option maxRecDepth 65536 in
set_option maxHeartbeats 40000000 in
theorem rm3 (l : Launch) (Z : State) (a0 : Array Value) (hw : ∀ d ∈ tables_1, d.before a0 Z = true) (ws : List Jvm.Cond) (a1 : Addr) (h0 : Heap) (n0 : Nat) (Z0 : n0 ≤ h0.size) :
    MetFree l (⟨"java/lang/Record", "<init>", "()V"⟩ : MethodName) (head1 (Jvm.Cond.code (⟨"java/lang/Record", "<init>", "()V"⟩ : MethodName) jdk_30_method_1_code 1 none :: ws) ({ frames := 1, cells := 0, slots := 0, locals := 12 } : Room)) (fun a U => a = #[(.ref a1)] ∧ Z.Warmed39 U.vm ∧ U.heap = h0) (fun _ _ _ _ _ => True) (fun _ U o U' => ∃ v L, o = .returned v ∧ Q3 Z a1 h0 n0 v U'.heap L ∧ FrameEnd U o U' L ({ frames := 1, cells := 0, slots := 0, locals := 12 } : Room).cells ({ frames := 1, cells := 0, slots := 0, locals := 12 } : Room).slots) := by
  refine MetFree.of_bodySF (plainFor_of_name pn_3) hisR ?_
  intro p e s m args below meth c s₁ Bd hml0 hP hK
  obtain ⟨rfl, hZ, hh⟩ := hP
  have hx := Bd.exec
  have hby := Bd.bytes
  have hml : c.maxLocals = 1 := hml0
  have hown : s.vm.findClass "java/lang/Record" = some m.cls := findClass_of_methodNamed Bd.named
  have hnm := (name_of_methodNamed Bd.named Bd.method).1
  have X0 : Stand p l e ({ frames := 1, cells := 0, slots := 0, locals := 12 } : Room) s m #[(.ref a1)] below meth c s₁ [] 0 0 := Stand.of_body Bd
  have e0 : s₁.heap = h0 := by rw [← hh, Bd.state]; rfl
  have N0 := Fr.nil n0
  refine own_go (B := s₁.setTop (mkF m 0 #[.val (.ref a1)] [])) (fun t k => castTop (ef_3 m a1) k) ?_
  refine own_go (B := s₁.setTop (mkF m 1 #[.val (.ref a1)] [(.ref a1)])) (fun t k => ?_) ?_
  · show Steps p.tables e below (s₁.setTop (mkF m 0 #[.val (.ref a1)] [])) _
    refine XS.aloadN X0.here hx rfl (hb hby d3_0) rfl rfl ?_
    show Steps p.tables e below (s₁.setTop (mkF m 1 #[.val (.ref a1)] [(.ref a1)])) _
    exact k
  obtain ⟨T4, X4, e4, st4⟩ := initO X0 hx hZ hown (hw _ (List.mem_of_getElem? (i := 15) rfl)) (hw _ (List.mem_of_getElem? (i := 16) rfl)) (hw _ (List.mem_of_getElem? (i := 17) rfl)) e0 (g := (mkF m 1 #[.val (.ref a1)] [(.ref a1)])) rfl (by rw [hml]; rfl) rfl (hb hby d3_1) (by decide) (W := 0) (by show 2 * 0 + _ ≤ _; exact Nat.le_of_eq rfl) (by decide)
  refine own_go st4 ?_
  obtain ⟨fs, hr, hrun, hended, hW, hsame⟩ := X4.leave (v := none) (fun _ => rfl)
  refine ⟨_, _, ?_, hrun, hended, _, _, rfl, ?_, ⟨_, rfl⟩, hW, hsame.mono (by decide) (by decide)⟩
  · exact X4.returnOut hx Bd.returns (hb hby d3_4) hr
  · show Q3 Z a1 h0 n0 _ T4.heap _
    rw [e4]
    exact ⟨rfl, N0, rfl⟩
theorem pn_8 : plainName "java/util/Objects" = true := by first | (simp [plainName, overriddenIn]; done) | decide +kernel
theorem d8_0 : decode jdk_31_method_11_code 0 = .ok (.aload_n 0, 1) := by decide +kernel
theorem d8_1 : decode jdk_31_method_11_code 1 = .ok (.ifnonnull 12, 3) := by decide +kernel
theorem d8_13 : decode jdk_31_method_11_code 13 = .ok (.aload_n 0, 1) := by decide +kernel
theorem d8_14 : decode jdk_31_method_11_code 14 = .ok (.areturn, 1) := by decide +kernel
theorem ef_8 (m : MethodId) (a1 : Addr) (a2 : Addr) : entryFrame m #[(.ref a1), (.ref a2)] 2 = mkF m 0 #[.val (.ref a1), .val (.ref a2)] [] := by first | (simp [entryFrame, mkF, argsToLocals, Value.category]; done) | rfl
def Q8 (Z : State) (a1 : Addr) (a2 : Addr) (h0 : Heap) (n0 : Nat) (v : Option Value) (h : Heap) (L : List Loc) : Prop := v = some (.ref a1) ∧ Fr n0 L ∧ h = h0
set_option maxRecDepth 65536 in
set_option maxHeartbeats 40000000 in
theorem rm8 (l : Launch) (Z : State) (a0 : Array Value) (hw : ∀ d ∈ tables_1, d.before a0 Z = true) (ws : List Jvm.Cond) (a1 : Addr) (a2 : Addr) (h0 : Heap) (n0 : Nat) (Z0 : n0 ≤ h0.size) :
    MetFree l (⟨"java/util/Objects", "requireNonNull", "(Ljava/lang/Object;Ljava/lang/String;)Ljava/lang/Object;"⟩ : MethodName) (head1 (Jvm.Cond.code (⟨"java/util/Objects", "requireNonNull", "(Ljava/lang/Object;Ljava/lang/String;)Ljava/lang/Object;"⟩ : MethodName) jdk_31_method_11_code 2 (some (.object "java/lang/Object")) :: ws) ({ frames := 0, cells := 0, slots := 0, locals := 0 } : Room)) (fun a U => a = #[(.ref a1), (.ref a2)] ∧ Z.Warmed39 U.vm ∧ U.heap = h0) (fun _ _ _ _ _ => True) (fun _ U o U' => ∃ v L, o = .returned v ∧ Q8 Z a1 a2 h0 n0 v U'.heap L ∧ FrameEnd U o U' L ({ frames := 0, cells := 0, slots := 0, locals := 0 } : Room).cells ({ frames := 0, cells := 0, slots := 0, locals := 0 } : Room).slots) := by
  refine MetFree.of_bodySF (plainFor_of_name pn_8) hisR ?_
  intro p e s m args below meth c s₁ Bd hml0 hP hK
  obtain ⟨rfl, hZ, hh⟩ := hP
  have hx := Bd.exec
  have hby := Bd.bytes
  have hml : c.maxLocals = 2 := hml0
  have hown : s.vm.findClass "java/util/Objects" = some m.cls := findClass_of_methodNamed Bd.named
  have hnm := (name_of_methodNamed Bd.named Bd.method).1
  have X0 : Stand p l e ({ frames := 0, cells := 0, slots := 0, locals := 0 } : Room) s m #[(.ref a1), (.ref a2)] below meth c s₁ [] 0 0 := Stand.of_body Bd
  have e0 : s₁.heap = h0 := by rw [← hh, Bd.state]; rfl
  have N0 := Fr.nil n0
  refine own_go (B := s₁.setTop (mkF m 0 #[.val (.ref a1), .val (.ref a2)] [])) (fun t k => castTop (ef_8 m a1 a2) k) ?_
  refine own_go (B := s₁.setTop (mkF m 14 #[.val (.ref a1), .val (.ref a2)] [(.ref a1)])) (fun t k => ?_) ?_
  · show Steps p.tables e below (s₁.setTop (mkF m 0 #[.val (.ref a1), .val (.ref a2)] [])) _
    refine XS.aloadN X0.here hx rfl (hb hby d8_0) rfl rfl ?_
    show Steps p.tables e below (s₁.setTop (mkF m 1 #[.val (.ref a1), .val (.ref a2)] [(.ref a1)])) _
    refine XS.ifnonnullYes X0.here hx rfl (pc0 := 1) (pc' := 13) rfl (hb hby d8_1) rfl (by decide) (by decide) ?_
    show Steps p.tables e below (s₁.setTop (mkF m 13 #[.val (.ref a1), .val (.ref a2)] [])) _
    refine XS.aloadN X0.here hx rfl (hb hby d8_13) rfl rfl ?_
    show Steps p.tables e below (s₁.setTop (mkF m 14 #[.val (.ref a1), .val (.ref a2)] [(.ref a1)])) _
    exact k
  obtain ⟨fs, hr, hrun, hended, hW, hsame⟩ := X0.leave (v := some (.ref a1)) (fun h => by rw [Bd.returns] at h; cases h)
  refine ⟨_, _, ?_, hrun, hended, _, _, rfl, ?_, ⟨_, rfl⟩, hW, hsame.mono (by decide) (by decide)⟩
  · exact own_retR X0 hx Bd.returns rfl rfl (hb hby d8_14) hr
  · show Q8 Z a1 a2 h0 n0 _ s₁.heap _
    rw [e0]
    exact ⟨rfl, N0, rfl⟩
theorem pd_0 : parseMethodDescriptor "()V" = some ⟨[], none⟩ := by decide +kernel
theorem pd_1 : parseMethodDescriptor "(Ljava/lang/Object;Ljava/lang/String;)Ljava/lang/Object;" = some ⟨[(.object "java/lang/Object"), (.object "java/lang/String")], some (.object "java/lang/Object")⟩ := by decide +kernel
theorem pn_26 : plainName "com/example/porthcurno/porthcurno/model/AmqpSections" = true := by first | (simp [plainName, overriddenIn]; done) | decide +kernel
theorem d7_0 : decode prog_2_method_1_code 0 = .ok (.aload_n 0, 1) := by decide +kernel
theorem d7_1 : decode prog_2_method_1_code 1 = .ok (.invokespecial 1, 3) := by decide +kernel
theorem d7_4 : decode prog_2_method_1_code 4 = .ok (.aload_n 1, 1) := by decide +kernel
theorem d7_5 : decode prog_2_method_1_code 5 = .ok (.ldc 7, 2) := by decide +kernel
theorem d7_7 : decode prog_2_method_1_code 7 = .ok (.invokestatic 9, 3) := by decide +kernel
theorem d7_10 : decode prog_2_method_1_code 10 = .ok (.pop, 1) := by decide +kernel
theorem d7_11 : decode prog_2_method_1_code 11 = .ok (.aload_n 2, 1) := by decide +kernel
theorem d7_12 : decode prog_2_method_1_code 12 = .ok (.ldc 15, 2) := by decide +kernel
theorem d7_14 : decode prog_2_method_1_code 14 = .ok (.invokestatic 9, 3) := by decide +kernel
theorem d7_17 : decode prog_2_method_1_code 17 = .ok (.pop, 1) := by decide +kernel
theorem d7_18 : decode prog_2_method_1_code 18 = .ok (.aload_n 0, 1) := by decide +kernel
theorem d7_19 : decode prog_2_method_1_code 19 = .ok (.aload_n 1, 1) := by decide +kernel
theorem d7_20 : decode prog_2_method_1_code 20 = .ok (.putfield 17, 3) := by decide +kernel
theorem d7_23 : decode prog_2_method_1_code 23 = .ok (.aload_n 0, 1) := by decide +kernel
theorem d7_24 : decode prog_2_method_1_code 24 = .ok (.aload_n 2, 1) := by decide +kernel
theorem d7_25 : decode prog_2_method_1_code 25 = .ok (.putfield 22, 3) := by decide +kernel
theorem d7_28 : decode prog_2_method_1_code 28 = .ok (.return_, 1) := by decide +kernel
theorem ef_7 (m : MethodId) (a1 : Addr) (a2 : Addr) (a3 : Addr) : entryFrame m #[(.ref a1), (.ref a2), (.ref a3)] 3 = mkF m 0 #[.val (.ref a1), .val (.ref a2), .val (.ref a3)] [] := by first | (simp [entryFrame, mkF, argsToLocals, Value.category]; done) | rfl
def Q7 (Z : State) (a1 : Addr) (a2 : Addr) (a3 : Addr) (h0 : Heap) (n0 : Nat) (v : Option Value) (h : Heap) (L : List Loc) : Prop := v = none ∧ Fr n0 L ∧ Keep h0 h [a1]
set_option maxRecDepth 65536 in
set_option maxHeartbeats 40000000 in
theorem rm7 (l : Launch) (Z : State) (a0 : Array Value) (hw : ∀ d ∈ tables_1, d.before a0 Z = true) (ws : List Jvm.Cond) (a1 : Addr) (a2 : Addr) (a3 : Addr) (h0 : Heap) (n0 : Nat) (Z0 : n0 ≤ h0.size) (E_a1 : Exa Z h0 a1 "com/example/porthcurno/porthcurno/model/AmqpSections") (F_sections_a1 : Fld Z h0 a1 "com/example/porthcurno/porthcurno/model/AmqpSections" "sections" "[B" .null) (F_body_a1 : Fld Z h0 a1 "com/example/porthcurno/porthcurno/model/AmqpSections" "body" "Lcom/example/porthcurno/porthcurno/model/AmqpSections$Body;" .null) (g_a1 : n0 ≤ a1) :
    MetFree l (⟨"com/example/porthcurno/porthcurno/model/AmqpSections", "<init>", "([BLcom/example/porthcurno/porthcurno/model/AmqpSections$Body;)V"⟩ : MethodName) (head1 (Jvm.Cond.code (⟨"com/example/porthcurno/porthcurno/model/AmqpSections", "<init>", "([BLcom/example/porthcurno/porthcurno/model/AmqpSections$Body;)V"⟩ : MethodName) prog_2_method_1_code 3 none :: ws) ({ frames := 2, cells := 4, slots := 56, locals := 24 } : Room)) (fun a U => a = #[(.ref a1), (.ref a2), (.ref a3)] ∧ Z.Warmed39 U.vm ∧ U.heap = h0) (fun _ _ _ _ _ => True) (fun _ U o U' => ∃ v L, o = .returned v ∧ Q7 Z a1 a2 a3 h0 n0 v U'.heap L ∧ ReturnedEndW U o U' L ({ frames := 2, cells := 4, slots := 56, locals := 24 } : Room).cells ({ frames := 2, cells := 4, slots := 56, locals := 24 } : Room).slots) := by
  refine MetFree.of_bodySF (plainFor_of_name pn_26) hisR ?_
  intro p e s m args below meth c s₁ Bd hml0 hP hK
  obtain ⟨rfl, hZ, hh⟩ := hP
  have hx := Bd.exec
  have hby := Bd.bytes
  have hml : c.maxLocals = 3 := hml0
  have hown : s.vm.findClass "com/example/porthcurno/porthcurno/model/AmqpSections" = some m.cls := findClass_of_methodNamed Bd.named
  have hnm := (name_of_methodNamed Bd.named Bd.method).1
  have X0 : Stand p l e ({ frames := 2, cells := 4, slots := 56, locals := 24 } : Room) s m #[(.ref a1), (.ref a2), (.ref a3)] below meth c s₁ [] 0 0 := Stand.of_body Bd
  have e0 : s₁.heap = h0 := by rw [← hh, Bd.state]; rfl
  have N0 := Fr.nil n0
  refine own_go (B := s₁.setTop (mkF m 0 #[.val (.ref a1), .val (.ref a2), .val (.ref a3)] [])) (fun t k => castTop (ef_7 m a1 a2 a3) k) ?_
  refine own_go (B := s₁.setTop (mkF m 1 #[.val (.ref a1), .val (.ref a2), .val (.ref a3)] [(.ref a1)])) (fun t k => ?_) ?_
  · show Steps p.tables e below (s₁.setTop (mkF m 0 #[.val (.ref a1), .val (.ref a2), .val (.ref a3)] [])) _
    refine XS.aloadN X0.here hx rfl (hb hby d7_0) rfl rfl ?_
    show Steps p.tables e below (s₁.setTop (mkF m 1 #[.val (.ref a1), .val (.ref a2), .val (.ref a3)] [(.ref a1)])) _
    exact k
  obtain ⟨_, _, ⟨T7, L7, k7, n7⟩, -, X7, ⟨Lc7, hQ7, l7, y7, z7⟩, st7⟩ := X0.specialBack hx (y := (⟨"java/lang/Record", "<init>", "()V"⟩ : MethodName)) rfl hown (mvT hZ (hw _ (List.mem_of_getElem? (i := 47) rfl))) (mvT hZ (hw _ (List.mem_of_getElem? (i := 11) rfl))) (mvT hZ (hw _ (List.mem_of_getElem? (i := 14) rfl))) (by decide) (backOf (W := 0) (rm3 l Z a0 hw [] a1 h0 n0 Z0 ) hZ (hw _ (List.mem_of_getElem? (i := 14) rfl)) (hw _ (List.mem_of_getElem? (i := 13) rfl)) (by decide) (by decide)) (g := (mkF m 1 #[.val (.ref a1), .val (.ref a2), .val (.ref a3)] [(.ref a1)])) rfl (by rw [hml]; rfl) (Steps.refl _) (a := a1) (argsL := []) (rest := []) (lenOf pd_0 rfl) rfl (by show 2 * 0 + _ ≤ _; exact Nat.le_of_eq rfl) (hb hby d7_1) (fun _ _ => ⟨rfl, e0, (by decide : 0 + 0 ≤ _), (by decide : 0 + 0 ≤ _)⟩)
  dsimp only [Pt.U, Pt.locs, Pt.cells, Pt.slots] at X7 l7 y7 z7 st7 hQ7
  subst l7 y7 z7
  obtain ⟨rfl, M7, q7_0⟩ := hQ7
  have N7 := Fr.app N0 M7
  refine own_go (fun t k => st7.trans k) ?_
  refine own_go (B := T7.setTop (mkF m 5 #[.val (.ref a1), .val (.ref a2), .val (.ref a3)] [(.ref a2)])) (fun t k => ?_) ?_
  · show Steps p.tables e below (T7.setTop (mkF m 4 #[.val (.ref a1), .val (.ref a2), .val (.ref a3)] [])) _
    refine XS.aloadN X7.here hx rfl (hb hby d7_4) rfl rfl ?_
    show Steps p.tables e below (T7.setTop (mkF m 5 #[.val (.ref a1), .val (.ref a2), .val (.ref a3)] [(.ref a2)])) _
    exact k
  have hS8a : s.Since s.vm h0.size := own_since _ _
  obtain ⟨b8, T8, h8, kk8, X8, e8, E8, hS8, hk8, hZ8, ho8, st8⟩ := ldcS (s := s) (show Stand p l e _ (s.setVm s.vm) m _ below meth c _ _ _ _ from X7) hx hZ hown (hw _ (List.mem_of_getElem? (i := 48) rfl)) (own_strA hw) q7_0 hS8a (Nat.le_refl _) (g := (mkF m 5 #[.val (.ref a1), .val (.ref a2), .val (.ref a3)] [(.ref a2)])) rfl (hb hby d7_5) (n := 32) (by decide) (by decide) (by decide) (by decide)
  refine own_go st8 ?_
  have K8 : Keep h0 h8 [a1] := Keep.ext (Keep.refl h0 [a1]) E8
  obtain ⟨_, _, ⟨T9, L9, k9, n9⟩, -, X9, ⟨Lc9, hQ9, l9, y9, z9⟩, st9⟩ := Jvm.LawKit.callS X8 hx (y := (⟨"java/util/Objects", "requireNonNull", "(Ljava/lang/Object;Ljava/lang/String;)Ljava/lang/Object;"⟩ : MethodName)) ho8 (mvT hZ8 (hw _ (List.mem_of_getElem? (i := 55) rfl))) (mvT hZ8 (hw _ (List.mem_of_getElem? (i := 56) rfl))) (mvT hZ8 (hw _ (List.mem_of_getElem? (i := 57) rfl))) (mvT hZ8 (hw _ (List.mem_of_getElem? (i := 58) rfl))) (by decide) (backOf (W := 0) (rm8 l Z a0 hw [] a2 b8 h8 n0 (Nat.le_trans Z0 E8.1) ) hZ8 (hw _ (List.mem_of_getElem? (i := 58) rfl)) (hw _ (List.mem_of_getElem? (i := 57) rfl)) (by decide) (by decide)) (g := (mkF m 7 #[.val (.ref a1), .val (.ref a2), .val (.ref a3)] [(.ref b8), (.ref a2)])) rfl (by rw [hml]; rfl) (argsL := [(.ref a2), (.ref b8)]) (rest := []) (lenOf pd_1 rfl) rfl (by show 2 * 0 + _ ≤ _; exact Nat.le_of_eq rfl) (hb hby d7_7) (fun _ _ => ⟨rfl, e8, (by decide : 2 + 0 ≤ _), (by decide : 36 + 0 ≤ _)⟩)
  dsimp only [Pt.U, Pt.locs, Pt.cells, Pt.slots] at X9 l9 y9 z9 st9 hQ9
  subst l9 y9 z9
  obtain ⟨rfl, M9, q9_0⟩ := hQ9
  have N9 := Fr.app N7 M9
  refine own_go st9 ?_
  refine own_go (B := T9.setTop (mkF m 12 #[.val (.ref a1), .val (.ref a2), .val (.ref a3)] [(.ref a3)])) (fun t k => ?_) ?_
  · show Steps p.tables e below (T9.setTop (mkF m 10 #[.val (.ref a1), .val (.ref a2), .val (.ref a3)] [(.ref a2)])) _
    refine XS.pop X9.here hx rfl (hb hby d7_10) rfl rfl ?_
    show Steps p.tables e below (T9.setTop (mkF m 11 #[.val (.ref a1), .val (.ref a2), .val (.ref a3)] [])) _
    refine XS.aloadN X9.here hx rfl (hb hby d7_11) rfl rfl ?_
    show Steps p.tables e below (T9.setTop (mkF m 12 #[.val (.ref a1), .val (.ref a2), .val (.ref a3)] [(.ref a3)])) _
    exact k
  obtain ⟨b10, T10, h10, kk10, X10, e10, E10, hS10, hk10, hZ10, ho10, st10⟩ := ldcS (s := s) X9 hx hZ8 ho8 (hw _ (List.mem_of_getElem? (i := 59) rfl)) (own_strA hw) q9_0 hS8 hk8 (g := (mkF m 12 #[.val (.ref a1), .val (.ref a2), .val (.ref a3)] [(.ref a3)])) rfl (hb hby d7_12) (n := 16) (by decide) (by decide) (by decide) (by decide)
  refine own_go st10 ?_
  have K10 : Keep h0 h10 [a1] := Keep.ext K8 E10
  have le12 : h0.size ≤ h10.size := (Nat.le_trans E8.1 E10.1)
  obtain ⟨_, _, ⟨T11, L11, k11, n11⟩, -, X11, ⟨Lc11, hQ11, l11, y11, z11⟩, st11⟩ := Jvm.LawKit.callS X10 hx (y := (⟨"java/util/Objects", "requireNonNull", "(Ljava/lang/Object;Ljava/lang/String;)Ljava/lang/Object;"⟩ : MethodName)) ho10 (mvT hZ10 (hw _ (List.mem_of_getElem? (i := 55) rfl))) (mvT hZ10 (hw _ (List.mem_of_getElem? (i := 56) rfl))) (mvT hZ10 (hw _ (List.mem_of_getElem? (i := 57) rfl))) (mvT hZ10 (hw _ (List.mem_of_getElem? (i := 58) rfl))) (by decide) (backOf (W := 0) (rm8 l Z a0 hw [] a3 b10 h10 n0 (Nat.le_trans Z0 le12) ) hZ10 (hw _ (List.mem_of_getElem? (i := 58) rfl)) (hw _ (List.mem_of_getElem? (i := 57) rfl)) (by decide) (by decide)) (g := (mkF m 14 #[.val (.ref a1), .val (.ref a2), .val (.ref a3)] [(.ref b10), (.ref a3)])) rfl (by rw [hml]; rfl) (argsL := [(.ref a3), (.ref b10)]) (rest := []) (lenOf pd_1 rfl) rfl (by show 2 * 0 + _ ≤ _; exact Nat.le_of_eq rfl) (hb hby d7_14) (fun _ _ => ⟨rfl, e10, (by decide : 4 + 0 ≤ _), (by decide : 56 + 0 ≤ _)⟩)
  dsimp only [Pt.U, Pt.locs, Pt.cells, Pt.slots] at X11 l11 y11 z11 st11 hQ11
  subst l11 y11 z11
  obtain ⟨rfl, M11, q11_0⟩ := hQ11
  have N11 := Fr.app N9 M11
  refine own_go st11 ?_
  refine own_go (B := T11.setTop (mkF m 20 #[.val (.ref a1), .val (.ref a2), .val (.ref a3)] [(.ref a2), (.ref a1)])) (fun t k => ?_) ?_
  · show Steps p.tables e below (T11.setTop (mkF m 17 #[.val (.ref a1), .val (.ref a2), .val (.ref a3)] [(.ref a3)])) _
    refine XS.pop X11.here hx rfl (hb hby d7_17) rfl rfl ?_
    show Steps p.tables e below (T11.setTop (mkF m 18 #[.val (.ref a1), .val (.ref a2), .val (.ref a3)] [])) _
    refine XS.aloadN X11.here hx rfl (hb hby d7_18) rfl rfl ?_
    show Steps p.tables e below (T11.setTop (mkF m 19 #[.val (.ref a1), .val (.ref a2), .val (.ref a3)] [(.ref a1)])) _
    refine XS.aloadN X11.here hx rfl (hb hby d7_19) rfl rfl ?_
    show Steps p.tables e below (T11.setTop (mkF m 20 #[.val (.ref a1), .val (.ref a2), .val (.ref a3)] [(.ref a2), (.ref a1)])) _
    exact k
  have f14 : Exa Z h10 a1 "com/example/porthcurno/porthcurno/model/AmqpSections" := ((E_a1.ext E8).ext E10)
  have f15 : Fld Z h10 a1 "com/example/porthcurno/porthcurno/model/AmqpSections" "sections" "[B" .null := ((F_sections_a1.ext E8).ext E10)
  obtain ⟨T13, h13, X13, e13, W13, st13⟩ := putF X11 hx hZ10 ho10 (host := "") (Or.inl (hw _ (List.mem_of_getElem? (i := 60) rfl))) Via.refl q11_0 f15 f14 (Or.inr ⟨(hw _ (List.mem_of_getElem? (i := 61) rfl)), rfl, hnm⟩) (hw _ (List.mem_of_getElem? (i := 39) rfl)) (ty := (.array .byte)) (by decide) rfl rfl (g := (mkF m 20 #[.val (.ref a1), .val (.ref a2), .val (.ref a3)] [(.ref a2), (.ref a1)])) rfl rfl (hb hby d7_20)
  refine own_go st13 ?_
  have F13 : Fld Z h13 a1 "com/example/porthcurno/porthcurno/model/AmqpSections" "sections" "[B" (.ref a2) := f15.same W13
  have K13 : Keep h0 h13 [a1] := Keep.wr K10 W13 (Or.inl (List.mem_of_getElem? (i := 0) rfl))
  have N13 := Fr.snoc X13 N11 g_a1
  refine own_go (B := T13.setTop (mkF m 25 #[.val (.ref a1), .val (.ref a2), .val (.ref a3)] [(.ref a3), (.ref a1)])) (fun t k => ?_) ?_
  · show Steps p.tables e below (T13.setTop (mkF m 23 #[.val (.ref a1), .val (.ref a2), .val (.ref a3)] [])) _
    refine XS.aloadN X13.here hx rfl (hb hby d7_23) rfl rfl ?_
    show Steps p.tables e below (T13.setTop (mkF m 24 #[.val (.ref a1), .val (.ref a2), .val (.ref a3)] [(.ref a1)])) _
    refine XS.aloadN X13.here hx rfl (hb hby d7_24) rfl rfl ?_
    show Steps p.tables e below (T13.setTop (mkF m 25 #[.val (.ref a1), .val (.ref a2), .val (.ref a3)] [(.ref a3), (.ref a1)])) _
    exact k
  have f17 : Exa Z h13 a1 "com/example/porthcurno/porthcurno/model/AmqpSections" := (f14.wr W13)
  have f18 : Fld Z h13 a1 "com/example/porthcurno/porthcurno/model/AmqpSections" "body" "Lcom/example/porthcurno/porthcurno/model/AmqpSections$Body;" .null := (((F_body_a1.ext E8).ext E10).other W13 (Or.inr (slot_ne (Or.inr (hw _ (List.mem_of_getElem? (i := 63) rfl))) (Or.inr (hw _ (List.mem_of_getElem? (i := 61) rfl))) (by decide) (t := (.object "com/example/porthcurno/porthcurno/model/AmqpSections$Body")) (t' := (.array .byte)) (by decide) (by decide))))
  obtain ⟨T16, h16, X16, e16, W16, st16⟩ := putF X13 hx hZ10 ho10 (host := "") (Or.inl (hw _ (List.mem_of_getElem? (i := 62) rfl))) Via.refl e13 f18 f17 (Or.inr ⟨(hw _ (List.mem_of_getElem? (i := 63) rfl)), rfl, hnm⟩) (hw _ (List.mem_of_getElem? (i := 39) rfl)) (ty := (.object "com/example/porthcurno/porthcurno/model/AmqpSections$Body")) (by decide) rfl rfl (g := (mkF m 25 #[.val (.ref a1), .val (.ref a2), .val (.ref a3)] [(.ref a3), (.ref a1)])) rfl rfl (hb hby d7_25)
  refine own_go st16 ?_
  have F16 : Fld Z h16 a1 "com/example/porthcurno/porthcurno/model/AmqpSections" "body" "Lcom/example/porthcurno/porthcurno/model/AmqpSections$Body;" (.ref a3) := f18.same W16
  have K16 : Keep h0 h16 [a1] := Keep.wr K13 W16 (Or.inl (List.mem_of_getElem? (i := 0) rfl))
  have N16 := Fr.snoc X16 N13 g_a1
  have le20 : h10.size ≤ h16.size := (Nat.le_trans (Nat.le_of_eq (Wr.size W13).symm) (Nat.le_of_eq (Wr.size W16).symm))
  obtain ⟨fs, hr, hrun, hended, hW⟩ := X16.leaveW hS10 (show _ ≤ T16.heap.size by rw [e16]; exact (Nat.le_trans hk10 le20)) (v := none) (fun _ => rfl)
  refine ⟨_, _, ?_, hrun, hended, _, _, rfl, ?_, ⟨hW.1, hW.2.1, hW.2.2.1, hW.2.2.2.mono (by decide) (by decide)⟩⟩
  · exact X16.returnOut hx Bd.returns (hb hby d7_28) hr
  · show Q7 Z a1 a2 a3 h0 n0 _ T16.heap _
    rw [e16]
    exact ⟨rfl, N16, K16⟩
theorem pn_47 : plainName "com/example/porthcurno/porthcurno/model/SentMessage" = true := by first | (simp [plainName, overriddenIn]; done) | decide +kernel
theorem d2_0 : decode prog_14_method_1_code 0 = .ok (.aload_n 0, 1) := by decide +kernel
theorem d2_1 : decode prog_14_method_1_code 1 = .ok (.invokespecial 1, 3) := by decide +kernel
theorem d2_4 : decode prog_14_method_1_code 4 = .ok (.aload 4, 2) := by decide +kernel
theorem d2_6 : decode prog_14_method_1_code 6 = .ok (.ifnull 29, 3) := by decide +kernel
theorem d2_35 : decode prog_14_method_1_code 35 = .ok (.aload_n 0, 1) := by decide +kernel
theorem d2_36 : decode prog_14_method_1_code 36 = .ok (.aload_n 1, 1) := by decide +kernel
theorem d2_37 : decode prog_14_method_1_code 37 = .ok (.putfield 28, 3) := by decide +kernel
theorem d2_40 : decode prog_14_method_1_code 40 = .ok (.aload_n 0, 1) := by decide +kernel
theorem d2_41 : decode prog_14_method_1_code 41 = .ok (.aload_n 2, 1) := by decide +kernel
theorem d2_42 : decode prog_14_method_1_code 42 = .ok (.putfield 34, 3) := by decide +kernel
theorem d2_45 : decode prog_14_method_1_code 45 = .ok (.aload_n 0, 1) := by decide +kernel
theorem d2_46 : decode prog_14_method_1_code 46 = .ok (.aload_n 3, 1) := by decide +kernel
theorem d2_47 : decode prog_14_method_1_code 47 = .ok (.putfield 38, 3) := by decide +kernel
theorem d2_50 : decode prog_14_method_1_code 50 = .ok (.aload_n 0, 1) := by decide +kernel
theorem d2_51 : decode prog_14_method_1_code 51 = .ok (.aload 4, 2) := by decide +kernel
theorem d2_53 : decode prog_14_method_1_code 53 = .ok (.putfield 42, 3) := by decide +kernel
theorem d2_56 : decode prog_14_method_1_code 56 = .ok (.aload_n 0, 1) := by decide +kernel
theorem d2_57 : decode prog_14_method_1_code 57 = .ok (.aload 5, 2) := by decide +kernel
theorem d2_59 : decode prog_14_method_1_code 59 = .ok (.putfield 46, 3) := by decide +kernel
theorem d2_62 : decode prog_14_method_1_code 62 = .ok (.return_, 1) := by decide +kernel
theorem ef_2 (m : MethodId) (a1 : Addr) (a2 : Addr) (a3 : Addr) : entryFrame m #[(.ref a1), .null, (.ref a2), (.ref a3), .null, .null] 6 = mkF m 0 #[.val (.ref a1), .val .null, .val (.ref a2), .val (.ref a3), .val .null, .val .null] [] := by first | (simp [entryFrame, mkF, argsToLocals, Value.category]; done) | rfl
def Q2 (Z : State) (a1 : Addr) (a2 : Addr) (a3 : Addr) (h0 : Heap) (n0 : Nat) (v : Option Value) (h : Heap) (L : List Loc) : Prop := v = none ∧ Fr n0 L ∧ Keep h0 h [a1] ∧ Exa Z h a1 "com/example/porthcurno/porthcurno/model/SentMessage" ∧ Fld Z h a1 "com/example/porthcurno/porthcurno/model/SentMessage" "timeToLive" "Ljava/time/Duration;" .null ∧ Fld Z h a1 "com/example/porthcurno/porthcurno/model/SentMessage" "absoluteExpiryTime" "Ljava/time/Instant;" .null
set_option maxRecDepth 65536 in
set_option maxHeartbeats 40000000 in
theorem rm2 (l : Launch) (Z : State) (a0 : Array Value) (hw : ∀ d ∈ tables_1, d.before a0 Z = true) (ws : List Jvm.Cond) (a1 : Addr) (a2 : Addr) (a3 : Addr) (h0 : Heap) (n0 : Nat) (Z0 : n0 ≤ h0.size) (E_a1 : Exa Z h0 a1 "com/example/porthcurno/porthcurno/model/SentMessage") (F_properties_a1 : Fld Z h0 a1 "com/example/porthcurno/porthcurno/model/SentMessage" "properties" "Ljava/util/Map;" .null) (F_body_a1 : Fld Z h0 a1 "com/example/porthcurno/porthcurno/model/SentMessage" "body" "[B" .null) (F_amqp_a1 : Fld Z h0 a1 "com/example/porthcurno/porthcurno/model/SentMessage" "amqp" "Lcom/example/porthcurno/porthcurno/model/AmqpSections;" .null) (F_timeToLive_a1 : Fld Z h0 a1 "com/example/porthcurno/porthcurno/model/SentMessage" "timeToLive" "Ljava/time/Duration;" .null) (F_absoluteExpiryTime_a1 : Fld Z h0 a1 "com/example/porthcurno/porthcurno/model/SentMessage" "absoluteExpiryTime" "Ljava/time/Instant;" .null) (g_a1 : n0 ≤ a1) :
    MetFree l (⟨"com/example/porthcurno/porthcurno/model/SentMessage", "<init>", "(Ljava/util/Map;[BLcom/example/porthcurno/porthcurno/model/AmqpSections;Ljava/time/Duration;Ljava/time/Instant;)V"⟩ : MethodName) (head1 (Jvm.Cond.code (⟨"com/example/porthcurno/porthcurno/model/SentMessage", "<init>", "(Ljava/util/Map;[BLcom/example/porthcurno/porthcurno/model/AmqpSections;Ljava/time/Duration;Ljava/time/Instant;)V"⟩ : MethodName) prog_14_method_1_code 6 none :: ws) ({ frames := 2, cells := 0, slots := 0, locals := 24 } : Room)) (fun a U => a = #[(.ref a1), .null, (.ref a2), (.ref a3), .null, .null] ∧ Z.Warmed39 U.vm ∧ U.heap = h0) (fun _ _ _ _ _ => True) (fun _ U o U' => ∃ v L, o = .returned v ∧ Q2 Z a1 a2 a3 h0 n0 v U'.heap L ∧ FrameEnd U o U' L ({ frames := 2, cells := 0, slots := 0, locals := 24 } : Room).cells ({ frames := 2, cells := 0, slots := 0, locals := 24 } : Room).slots) := by
  refine MetFree.of_bodySF (plainFor_of_name pn_47) hisR ?_
  intro p e s m args below meth c s₁ Bd hml0 hP hK
  obtain ⟨rfl, hZ, hh⟩ := hP
  have hx := Bd.exec
  have hby := Bd.bytes
  have hml : c.maxLocals = 6 := hml0
  have hown : s.vm.findClass "com/example/porthcurno/porthcurno/model/SentMessage" = some m.cls := findClass_of_methodNamed Bd.named
  have hnm := (name_of_methodNamed Bd.named Bd.method).1
  have X0 : Stand p l e ({ frames := 2, cells := 0, slots := 0, locals := 24 } : Room) s m #[(.ref a1), .null, (.ref a2), (.ref a3), .null, .null] below meth c s₁ [] 0 0 := Stand.of_body Bd
  have e0 : s₁.heap = h0 := by rw [← hh, Bd.state]; rfl
  have N0 := Fr.nil n0
  refine own_go (B := s₁.setTop (mkF m 0 #[.val (.ref a1), .val .null, .val (.ref a2), .val (.ref a3), .val .null, .val .null] [])) (fun t k => castTop (ef_2 m a1 a2 a3) k) ?_
  refine own_go (B := s₁.setTop (mkF m 1 #[.val (.ref a1), .val .null, .val (.ref a2), .val (.ref a3), .val .null, .val .null] [(.ref a1)])) (fun t k => ?_) ?_
  · show Steps p.tables e below (s₁.setTop (mkF m 0 #[.val (.ref a1), .val .null, .val (.ref a2), .val (.ref a3), .val .null, .val .null] [])) _
    refine XS.aloadN X0.here hx rfl (hb hby d2_0) rfl rfl ?_
    show Steps p.tables e below (s₁.setTop (mkF m 1 #[.val (.ref a1), .val .null, .val (.ref a2), .val (.ref a3), .val .null, .val .null] [(.ref a1)])) _
    exact k
  obtain ⟨_, _, ⟨T21, L21, k21, n21⟩, -, X21, ⟨Lc21, hQ21, l21, y21, z21⟩, st21⟩ := X0.specialBack hx (y := (⟨"java/lang/Record", "<init>", "()V"⟩ : MethodName)) rfl hown (mvT hZ (hw _ (List.mem_of_getElem? (i := 10) rfl))) (mvT hZ (hw _ (List.mem_of_getElem? (i := 11) rfl))) (mvT hZ (hw _ (List.mem_of_getElem? (i := 14) rfl))) (by decide) (backOf (W := 0) (rm3 l Z a0 hw [] a1 h0 n0 Z0 ) hZ (hw _ (List.mem_of_getElem? (i := 14) rfl)) (hw _ (List.mem_of_getElem? (i := 13) rfl)) (by decide) (by decide)) (g := (mkF m 1 #[.val (.ref a1), .val .null, .val (.ref a2), .val (.ref a3), .val .null, .val .null] [(.ref a1)])) rfl (by rw [hml]; rfl) (Steps.refl _) (a := a1) (argsL := []) (rest := []) (lenOf pd_0 rfl) rfl (by show 2 * 0 + _ ≤ _; exact Nat.le_of_eq rfl) (hb hby d2_1) (fun _ _ => ⟨rfl, e0, (by decide : 0 + 0 ≤ _), (by decide : 0 + 0 ≤ _)⟩)
  dsimp only [Pt.U, Pt.locs, Pt.cells, Pt.slots] at X21 l21 y21 z21 st21 hQ21
  subst l21 y21 z21
  obtain ⟨rfl, M21, q21_0⟩ := hQ21
  have N21 := Fr.app N0 M21
  refine own_go (fun t k => st21.trans k) ?_
  refine own_go (B := T21.setTop (mkF m 37 #[.val (.ref a1), .val .null, .val (.ref a2), .val (.ref a3), .val .null, .val .null] [.null, (.ref a1)])) (fun t k => ?_) ?_
  · show Steps p.tables e below (T21.setTop (mkF m 4 #[.val (.ref a1), .val .null, .val (.ref a2), .val (.ref a3), .val .null, .val .null] [])) _
    refine XS.aload X21.here hx rfl (hb hby d2_4) rfl rfl ?_
    show Steps p.tables e below (T21.setTop (mkF m 6 #[.val (.ref a1), .val .null, .val (.ref a2), .val (.ref a3), .val .null, .val .null] [.null])) _
    refine XS.ifnullYes X21.here hx rfl (pc0 := 6) (pc' := 35) rfl (hb hby d2_6) rfl (by decide) (by decide) ?_
    show Steps p.tables e below (T21.setTop (mkF m 35 #[.val (.ref a1), .val .null, .val (.ref a2), .val (.ref a3), .val .null, .val .null] [])) _
    refine XS.aloadN X21.here hx rfl (hb hby d2_35) rfl rfl ?_
    show Steps p.tables e below (T21.setTop (mkF m 36 #[.val (.ref a1), .val .null, .val (.ref a2), .val (.ref a3), .val .null, .val .null] [(.ref a1)])) _
    refine XS.aloadN X21.here hx rfl (hb hby d2_36) rfl rfl ?_
    show Steps p.tables e below (T21.setTop (mkF m 37 #[.val (.ref a1), .val .null, .val (.ref a2), .val (.ref a3), .val .null, .val .null] [.null, (.ref a1)])) _
    exact k
  obtain ⟨T22, h22, X22, e22, W22, st22⟩ := putF X21 hx hZ hown (host := "") (Or.inl (hw _ (List.mem_of_getElem? (i := 18) rfl))) Via.refl q21_0 F_properties_a1 E_a1 (Or.inr ⟨(hw _ (List.mem_of_getElem? (i := 19) rfl)), rfl, hnm⟩) (hw _ (List.mem_of_getElem? (i := 2) rfl)) (ty := (.object "java/util/Map")) (by decide) rfl rfl (g := (mkF m 37 #[.val (.ref a1), .val .null, .val (.ref a2), .val (.ref a3), .val .null, .val .null] [.null, (.ref a1)])) rfl rfl (hb hby d2_37)
  refine own_go st22 ?_
  have F22 : Fld Z h22 a1 "com/example/porthcurno/porthcurno/model/SentMessage" "properties" "Ljava/util/Map;" .null := F_properties_a1.same W22
  have K22 : Keep h0 h22 [a1] := Keep.wr (Keep.refl h0 [a1]) W22 (Or.inl (List.mem_of_getElem? (i := 0) rfl))
  have N22 := Fr.snoc X22 N21 g_a1
  refine own_go (B := T22.setTop (mkF m 42 #[.val (.ref a1), .val .null, .val (.ref a2), .val (.ref a3), .val .null, .val .null] [(.ref a2), (.ref a1)])) (fun t k => ?_) ?_
  · show Steps p.tables e below (T22.setTop (mkF m 40 #[.val (.ref a1), .val .null, .val (.ref a2), .val (.ref a3), .val .null, .val .null] [])) _
    refine XS.aloadN X22.here hx rfl (hb hby d2_40) rfl rfl ?_
    show Steps p.tables e below (T22.setTop (mkF m 41 #[.val (.ref a1), .val .null, .val (.ref a2), .val (.ref a3), .val .null, .val .null] [(.ref a1)])) _
    refine XS.aloadN X22.here hx rfl (hb hby d2_41) rfl rfl ?_
    show Steps p.tables e below (T22.setTop (mkF m 42 #[.val (.ref a1), .val .null, .val (.ref a2), .val (.ref a3), .val .null, .val .null] [(.ref a2), (.ref a1)])) _
    exact k
  have f24 : Exa Z h22 a1 "com/example/porthcurno/porthcurno/model/SentMessage" := (E_a1.wr W22)
  have f25 : Fld Z h22 a1 "com/example/porthcurno/porthcurno/model/SentMessage" "body" "[B" .null := (F_body_a1.other W22 (Or.inr (slot_ne (Or.inr (hw _ (List.mem_of_getElem? (i := 21) rfl))) (Or.inr (hw _ (List.mem_of_getElem? (i := 19) rfl))) (by decide) (t := (.array .byte)) (t' := (.object "java/util/Map")) (by decide) (by decide))))
  obtain ⟨T23, h23, X23, e23, W23, st23⟩ := putF X22 hx hZ hown (host := "") (Or.inl (hw _ (List.mem_of_getElem? (i := 20) rfl))) Via.refl e22 f25 f24 (Or.inr ⟨(hw _ (List.mem_of_getElem? (i := 21) rfl)), rfl, hnm⟩) (hw _ (List.mem_of_getElem? (i := 2) rfl)) (ty := (.array .byte)) (by decide) rfl rfl (g := (mkF m 42 #[.val (.ref a1), .val .null, .val (.ref a2), .val (.ref a3), .val .null, .val .null] [(.ref a2), (.ref a1)])) rfl rfl (hb hby d2_42)
  refine own_go st23 ?_
  have F23 : Fld Z h23 a1 "com/example/porthcurno/porthcurno/model/SentMessage" "body" "[B" (.ref a2) := f25.same W23
  have K23 : Keep h0 h23 [a1] := Keep.wr K22 W23 (Or.inl (List.mem_of_getElem? (i := 0) rfl))
  have N23 := Fr.snoc X23 N22 g_a1
  refine own_go (B := T23.setTop (mkF m 47 #[.val (.ref a1), .val .null, .val (.ref a2), .val (.ref a3), .val .null, .val .null] [(.ref a3), (.ref a1)])) (fun t k => ?_) ?_
  · show Steps p.tables e below (T23.setTop (mkF m 45 #[.val (.ref a1), .val .null, .val (.ref a2), .val (.ref a3), .val .null, .val .null] [])) _
    refine XS.aloadN X23.here hx rfl (hb hby d2_45) rfl rfl ?_
    show Steps p.tables e below (T23.setTop (mkF m 46 #[.val (.ref a1), .val .null, .val (.ref a2), .val (.ref a3), .val .null, .val .null] [(.ref a1)])) _
    refine XS.aloadN X23.here hx rfl (hb hby d2_46) rfl rfl ?_
    show Steps p.tables e below (T23.setTop (mkF m 47 #[.val (.ref a1), .val .null, .val (.ref a2), .val (.ref a3), .val .null, .val .null] [(.ref a3), (.ref a1)])) _
    exact k
  have f27 : Exa Z h23 a1 "com/example/porthcurno/porthcurno/model/SentMessage" := (f24.wr W23)
  have f28 : Fld Z h23 a1 "com/example/porthcurno/porthcurno/model/SentMessage" "amqp" "Lcom/example/porthcurno/porthcurno/model/AmqpSections;" .null := ((F_amqp_a1.other W22 (Or.inr (slot_ne (Or.inr (hw _ (List.mem_of_getElem? (i := 23) rfl))) (Or.inr (hw _ (List.mem_of_getElem? (i := 19) rfl))) (by decide) (t := (.object "com/example/porthcurno/porthcurno/model/AmqpSections")) (t' := (.object "java/util/Map")) (by decide) (by decide)))).other W23 (Or.inr (slot_ne (Or.inr (hw _ (List.mem_of_getElem? (i := 23) rfl))) (Or.inr (hw _ (List.mem_of_getElem? (i := 21) rfl))) (by decide) (t := (.object "com/example/porthcurno/porthcurno/model/AmqpSections")) (t' := (.array .byte)) (by decide) (by decide))))
  obtain ⟨T26, h26, X26, e26, W26, st26⟩ := putF X23 hx hZ hown (host := "") (Or.inl (hw _ (List.mem_of_getElem? (i := 22) rfl))) Via.refl e23 f28 f27 (Or.inr ⟨(hw _ (List.mem_of_getElem? (i := 23) rfl)), rfl, hnm⟩) (hw _ (List.mem_of_getElem? (i := 2) rfl)) (ty := (.object "com/example/porthcurno/porthcurno/model/AmqpSections")) (by decide) rfl rfl (g := (mkF m 47 #[.val (.ref a1), .val .null, .val (.ref a2), .val (.ref a3), .val .null, .val .null] [(.ref a3), (.ref a1)])) rfl rfl (hb hby d2_47)
  refine own_go st26 ?_
  have F26 : Fld Z h26 a1 "com/example/porthcurno/porthcurno/model/SentMessage" "amqp" "Lcom/example/porthcurno/porthcurno/model/AmqpSections;" (.ref a3) := f28.same W26
  have K26 : Keep h0 h26 [a1] := Keep.wr K23 W26 (Or.inl (List.mem_of_getElem? (i := 0) rfl))
  have N26 := Fr.snoc X26 N23 g_a1
  refine own_go (B := T26.setTop (mkF m 53 #[.val (.ref a1), .val .null, .val (.ref a2), .val (.ref a3), .val .null, .val .null] [.null, (.ref a1)])) (fun t k => ?_) ?_
  · show Steps p.tables e below (T26.setTop (mkF m 50 #[.val (.ref a1), .val .null, .val (.ref a2), .val (.ref a3), .val .null, .val .null] [])) _
    refine XS.aloadN X26.here hx rfl (hb hby d2_50) rfl rfl ?_
    show Steps p.tables e below (T26.setTop (mkF m 51 #[.val (.ref a1), .val .null, .val (.ref a2), .val (.ref a3), .val .null, .val .null] [(.ref a1)])) _
    refine XS.aload X26.here hx rfl (hb hby d2_51) rfl rfl ?_
    show Steps p.tables e below (T26.setTop (mkF m 53 #[.val (.ref a1), .val .null, .val (.ref a2), .val (.ref a3), .val .null, .val .null] [.null, (.ref a1)])) _
    exact k
  have f30 : Exa Z h26 a1 "com/example/porthcurno/porthcurno/model/SentMessage" := (f27.wr W26)
  have f31 : Fld Z h26 a1 "com/example/porthcurno/porthcurno/model/SentMessage" "timeToLive" "Ljava/time/Duration;" .null := (((F_timeToLive_a1.other W22 (Or.inr (slot_ne (Or.inr (hw _ (List.mem_of_getElem? (i := 25) rfl))) (Or.inr (hw _ (List.mem_of_getElem? (i := 19) rfl))) (by decide) (t := (.object "java/time/Duration")) (t' := (.object "java/util/Map")) (by decide) (by decide)))).other W23 (Or.inr (slot_ne (Or.inr (hw _ (List.mem_of_getElem? (i := 25) rfl))) (Or.inr (hw _ (List.mem_of_getElem? (i := 21) rfl))) (by decide) (t := (.object "java/time/Duration")) (t' := (.array .byte)) (by decide) (by decide)))).other W26 (Or.inr (slot_ne (Or.inr (hw _ (List.mem_of_getElem? (i := 25) rfl))) (Or.inr (hw _ (List.mem_of_getElem? (i := 23) rfl))) (by decide) (t := (.object "java/time/Duration")) (t' := (.object "com/example/porthcurno/porthcurno/model/AmqpSections")) (by decide) (by decide))))
  obtain ⟨T29, h29, X29, e29, W29, st29⟩ := putF X26 hx hZ hown (host := "") (Or.inl (hw _ (List.mem_of_getElem? (i := 24) rfl))) Via.refl e26 f31 f30 (Or.inr ⟨(hw _ (List.mem_of_getElem? (i := 25) rfl)), rfl, hnm⟩) (hw _ (List.mem_of_getElem? (i := 2) rfl)) (ty := (.object "java/time/Duration")) (by decide) rfl rfl (g := (mkF m 53 #[.val (.ref a1), .val .null, .val (.ref a2), .val (.ref a3), .val .null, .val .null] [.null, (.ref a1)])) rfl rfl (hb hby d2_53)
  refine own_go st29 ?_
  have F29 : Fld Z h29 a1 "com/example/porthcurno/porthcurno/model/SentMessage" "timeToLive" "Ljava/time/Duration;" .null := f31.same W29
  have K29 : Keep h0 h29 [a1] := Keep.wr K26 W29 (Or.inl (List.mem_of_getElem? (i := 0) rfl))
  have N29 := Fr.snoc X29 N26 g_a1
  refine own_go (B := T29.setTop (mkF m 59 #[.val (.ref a1), .val .null, .val (.ref a2), .val (.ref a3), .val .null, .val .null] [.null, (.ref a1)])) (fun t k => ?_) ?_
  · show Steps p.tables e below (T29.setTop (mkF m 56 #[.val (.ref a1), .val .null, .val (.ref a2), .val (.ref a3), .val .null, .val .null] [])) _
    refine XS.aloadN X29.here hx rfl (hb hby d2_56) rfl rfl ?_
    show Steps p.tables e below (T29.setTop (mkF m 57 #[.val (.ref a1), .val .null, .val (.ref a2), .val (.ref a3), .val .null, .val .null] [(.ref a1)])) _
    refine XS.aload X29.here hx rfl (hb hby d2_57) rfl rfl ?_
    show Steps p.tables e below (T29.setTop (mkF m 59 #[.val (.ref a1), .val .null, .val (.ref a2), .val (.ref a3), .val .null, .val .null] [.null, (.ref a1)])) _
    exact k
  have f33 : Exa Z h29 a1 "com/example/porthcurno/porthcurno/model/SentMessage" := (f30.wr W29)
  have f34 : Fld Z h29 a1 "com/example/porthcurno/porthcurno/model/SentMessage" "absoluteExpiryTime" "Ljava/time/Instant;" .null := ((((F_absoluteExpiryTime_a1.other W22 (Or.inr (slot_ne (Or.inr (hw _ (List.mem_of_getElem? (i := 27) rfl))) (Or.inr (hw _ (List.mem_of_getElem? (i := 19) rfl))) (by decide) (t := (.object "java/time/Instant")) (t' := (.object "java/util/Map")) (by decide) (by decide)))).other W23 (Or.inr (slot_ne (Or.inr (hw _ (List.mem_of_getElem? (i := 27) rfl))) (Or.inr (hw _ (List.mem_of_getElem? (i := 21) rfl))) (by decide) (t := (.object "java/time/Instant")) (t' := (.array .byte)) (by decide) (by decide)))).other W26 (Or.inr (slot_ne (Or.inr (hw _ (List.mem_of_getElem? (i := 27) rfl))) (Or.inr (hw _ (List.mem_of_getElem? (i := 23) rfl))) (by decide) (t := (.object "java/time/Instant")) (t' := (.object "com/example/porthcurno/porthcurno/model/AmqpSections")) (by decide) (by decide)))).other W29 (Or.inr (slot_ne (Or.inr (hw _ (List.mem_of_getElem? (i := 27) rfl))) (Or.inr (hw _ (List.mem_of_getElem? (i := 25) rfl))) (by decide) (t := (.object "java/time/Instant")) (t' := (.object "java/time/Duration")) (by decide) (by decide))))
  obtain ⟨T32, h32, X32, e32, W32, st32⟩ := putF X29 hx hZ hown (host := "") (Or.inl (hw _ (List.mem_of_getElem? (i := 26) rfl))) Via.refl e29 f34 f33 (Or.inr ⟨(hw _ (List.mem_of_getElem? (i := 27) rfl)), rfl, hnm⟩) (hw _ (List.mem_of_getElem? (i := 2) rfl)) (ty := (.object "java/time/Instant")) (by decide) rfl rfl (g := (mkF m 59 #[.val (.ref a1), .val .null, .val (.ref a2), .val (.ref a3), .val .null, .val .null] [.null, (.ref a1)])) rfl rfl (hb hby d2_59)
  refine own_go st32 ?_
  have F32 : Fld Z h32 a1 "com/example/porthcurno/porthcurno/model/SentMessage" "absoluteExpiryTime" "Ljava/time/Instant;" .null := f34.same W32
  have K32 : Keep h0 h32 [a1] := Keep.wr K29 W32 (Or.inl (List.mem_of_getElem? (i := 0) rfl))
  have N32 := Fr.snoc X32 N29 g_a1
  obtain ⟨fs, hr, hrun, hended, hW, hsame⟩ := X32.leave (v := none) (fun _ => rfl)
  refine ⟨_, _, ?_, hrun, hended, _, _, rfl, ?_, ⟨_, rfl⟩, hW, hsame.mono (by decide) (by decide)⟩
  · exact X32.returnOut hx Bd.returns (hb hby d2_62) hr
  · show Q2 Z a1 a2 a3 h0 n0 _ T32.heap _
    rw [e32]
    have f36 : Exa Z h32 a1 "com/example/porthcurno/porthcurno/model/SentMessage" := (f33.wr W32)
    have f37 : Fld Z h32 a1 "com/example/porthcurno/porthcurno/model/SentMessage" "timeToLive" "Ljava/time/Duration;" .null := (F29.other W32 (Or.inr (slot_ne (Or.inr (hw _ (List.mem_of_getElem? (i := 25) rfl))) (Or.inr (hw _ (List.mem_of_getElem? (i := 27) rfl))) (by decide) (t := (.object "java/time/Duration")) (t' := (.object "java/time/Instant")) (by decide) (by decide))))
    exact ⟨rfl, N32, K32, f36, f37, F32⟩
theorem pd_2 : parseMethodDescriptor "(Ljava/util/Map;[BLcom/example/porthcurno/porthcurno/model/AmqpSections;Ljava/time/Duration;Ljava/time/Instant;)V" = some ⟨[(.object "java/util/Map"), (.array .byte), (.object "com/example/porthcurno/porthcurno/model/AmqpSections"), (.object "java/time/Duration"), (.object "java/time/Instant")], none⟩ := by decide +kernel
theorem d1_0 : decode prog_14_method_2_code 0 = .ok (.aload_n 0, 1) := by decide +kernel
theorem d1_1 : decode prog_14_method_2_code 1 = .ok (.aload_n 1, 1) := by decide +kernel
theorem d1_2 : decode prog_14_method_2_code 2 = .ok (.aload_n 2, 1) := by decide +kernel
theorem d1_3 : decode prog_14_method_2_code 3 = .ok (.aload_n 3, 1) := by decide +kernel
theorem d1_4 : decode prog_14_method_2_code 4 = .ok (.aconst_null, 1) := by decide +kernel
theorem d1_5 : decode prog_14_method_2_code 5 = .ok (.aconst_null, 1) := by decide +kernel
theorem d1_6 : decode prog_14_method_2_code 6 = .ok (.invokespecial 50, 3) := by decide +kernel
theorem d1_9 : decode prog_14_method_2_code 9 = .ok (.return_, 1) := by decide +kernel
theorem ef_1 (m : MethodId) (a1 : Addr) (a2 : Addr) (a3 : Addr) : entryFrame m #[(.ref a1), .null, (.ref a2), (.ref a3)] 4 = mkF m 0 #[.val (.ref a1), .val .null, .val (.ref a2), .val (.ref a3)] [] := by first | (simp [entryFrame, mkF, argsToLocals, Value.category]; done) | rfl
def Q1 (Z : State) (a1 : Addr) (a2 : Addr) (a3 : Addr) (h0 : Heap) (n0 : Nat) (v : Option Value) (h : Heap) (L : List Loc) : Prop := v = none ∧ Fr n0 L ∧ Keep h0 h [a1] ∧ Exa Z h a1 "com/example/porthcurno/porthcurno/model/SentMessage" ∧ Fld Z h a1 "com/example/porthcurno/porthcurno/model/SentMessage" "timeToLive" "Ljava/time/Duration;" .null ∧ Fld Z h a1 "com/example/porthcurno/porthcurno/model/SentMessage" "absoluteExpiryTime" "Ljava/time/Instant;" .null
set_option maxRecDepth 65536 in
set_option maxHeartbeats 40000000 in
theorem rm1 (l : Launch) (Z : State) (a0 : Array Value) (hw : ∀ d ∈ tables_1, d.before a0 Z = true) (ws : List Jvm.Cond) (a1 : Addr) (a2 : Addr) (a3 : Addr) (h0 : Heap) (n0 : Nat) (Z0 : n0 ≤ h0.size) (E_a1 : Exa Z h0 a1 "com/example/porthcurno/porthcurno/model/SentMessage") (F_properties_a1 : Fld Z h0 a1 "com/example/porthcurno/porthcurno/model/SentMessage" "properties" "Ljava/util/Map;" .null) (F_body_a1 : Fld Z h0 a1 "com/example/porthcurno/porthcurno/model/SentMessage" "body" "[B" .null) (F_amqp_a1 : Fld Z h0 a1 "com/example/porthcurno/porthcurno/model/SentMessage" "amqp" "Lcom/example/porthcurno/porthcurno/model/AmqpSections;" .null) (F_timeToLive_a1 : Fld Z h0 a1 "com/example/porthcurno/porthcurno/model/SentMessage" "timeToLive" "Ljava/time/Duration;" .null) (F_absoluteExpiryTime_a1 : Fld Z h0 a1 "com/example/porthcurno/porthcurno/model/SentMessage" "absoluteExpiryTime" "Ljava/time/Instant;" .null) (g_a1 : n0 ≤ a1) :
    MetFree l (⟨"com/example/porthcurno/porthcurno/model/SentMessage", "<init>", "(Ljava/util/Map;[BLcom/example/porthcurno/porthcurno/model/AmqpSections;)V"⟩ : MethodName) (head1 (Jvm.Cond.code (⟨"com/example/porthcurno/porthcurno/model/SentMessage", "<init>", "(Ljava/util/Map;[BLcom/example/porthcurno/porthcurno/model/AmqpSections;)V"⟩ : MethodName) prog_14_method_2_code 4 none :: ws) ({ frames := 3, cells := 0, slots := 0, locals := 41 } : Room)) (fun a U => a = #[(.ref a1), .null, (.ref a2), (.ref a3)] ∧ Z.Warmed39 U.vm ∧ U.heap = h0) (fun _ _ _ _ _ => True) (fun _ U o U' => ∃ v L, o = .returned v ∧ Q1 Z a1 a2 a3 h0 n0 v U'.heap L ∧ FrameEnd U o U' L ({ frames := 3, cells := 0, slots := 0, locals := 41 } : Room).cells ({ frames := 3, cells := 0, slots := 0, locals := 41 } : Room).slots) := by
  refine MetFree.of_bodySF (plainFor_of_name pn_47) hisR ?_
  intro p e s m args below meth c s₁ Bd hml0 hP hK
  obtain ⟨rfl, hZ, hh⟩ := hP
  have hx := Bd.exec
  have hby := Bd.bytes
  have hml : c.maxLocals = 4 := hml0
  have hown : s.vm.findClass "com/example/porthcurno/porthcurno/model/SentMessage" = some m.cls := findClass_of_methodNamed Bd.named
  have hnm := (name_of_methodNamed Bd.named Bd.method).1
  have X0 : Stand p l e ({ frames := 3, cells := 0, slots := 0, locals := 41 } : Room) s m #[(.ref a1), .null, (.ref a2), (.ref a3)] below meth c s₁ [] 0 0 := Stand.of_body Bd
  have e0 : s₁.heap = h0 := by rw [← hh, Bd.state]; rfl
  have N0 := Fr.nil n0
  refine own_go (B := s₁.setTop (mkF m 0 #[.val (.ref a1), .val .null, .val (.ref a2), .val (.ref a3)] [])) (fun t k => castTop (ef_1 m a1 a2 a3) k) ?_
  refine own_go (B := s₁.setTop (mkF m 6 #[.val (.ref a1), .val .null, .val (.ref a2), .val (.ref a3)] [.null, .null, (.ref a3), (.ref a2), .null, (.ref a1)])) (fun t k => ?_) ?_
  · show Steps p.tables e below (s₁.setTop (mkF m 0 #[.val (.ref a1), .val .null, .val (.ref a2), .val (.ref a3)] [])) _
    refine XS.aloadN X0.here hx rfl (hb hby d1_0) rfl rfl ?_
    show Steps p.tables e below (s₁.setTop (mkF m 1 #[.val (.ref a1), .val .null, .val (.ref a2), .val (.ref a3)] [(.ref a1)])) _
    refine XS.aloadN X0.here hx rfl (hb hby d1_1) rfl rfl ?_
    show Steps p.tables e below (s₁.setTop (mkF m 2 #[.val (.ref a1), .val .null, .val (.ref a2), .val (.ref a3)] [.null, (.ref a1)])) _
    refine XS.aloadN X0.here hx rfl (hb hby d1_2) rfl rfl ?_
    show Steps p.tables e below (s₁.setTop (mkF m 3 #[.val (.ref a1), .val .null, .val (.ref a2), .val (.ref a3)] [(.ref a2), .null, (.ref a1)])) _
    refine XS.aloadN X0.here hx rfl (hb hby d1_3) rfl rfl ?_
    show Steps p.tables e below (s₁.setTop (mkF m 4 #[.val (.ref a1), .val .null, .val (.ref a2), .val (.ref a3)] [(.ref a3), (.ref a2), .null, (.ref a1)])) _
    refine XS.aconstNull X0.here hx rfl (hb hby d1_4) ?_
    show Steps p.tables e below (s₁.setTop (mkF m 5 #[.val (.ref a1), .val .null, .val (.ref a2), .val (.ref a3)] [.null, (.ref a3), (.ref a2), .null, (.ref a1)])) _
    refine XS.aconstNull X0.here hx rfl (hb hby d1_5) ?_
    show Steps p.tables e below (s₁.setTop (mkF m 6 #[.val (.ref a1), .val .null, .val (.ref a2), .val (.ref a3)] [.null, .null, (.ref a3), (.ref a2), .null, (.ref a1)])) _
    exact k
  obtain ⟨_, _, ⟨T38, L38, k38, n38⟩, -, X38, ⟨Lc38, hQ38, l38, y38, z38⟩, st38⟩ := X0.specialBack hx (y := (⟨"com/example/porthcurno/porthcurno/model/SentMessage", "<init>", "(Ljava/util/Map;[BLcom/example/porthcurno/porthcurno/model/AmqpSections;Ljava/time/Duration;Ljava/time/Instant;)V"⟩ : MethodName)) rfl hown (mvT hZ (hw _ (List.mem_of_getElem? (i := 7) rfl))) (mvT hZ (hw _ (List.mem_of_getElem? (i := 8) rfl))) (mvT hZ (hw _ (List.mem_of_getElem? (i := 9) rfl))) (by decide) (backOf (W := 0) (rm2 l Z a0 hw [] a1 a2 a3 h0 n0 Z0 E_a1 F_properties_a1 F_body_a1 F_amqp_a1 F_timeToLive_a1 F_absoluteExpiryTime_a1 g_a1) hZ (hw _ (List.mem_of_getElem? (i := 9) rfl)) (hw _ (List.mem_of_getElem? (i := 3) rfl)) (by decide) (by decide)) (g := (mkF m 6 #[.val (.ref a1), .val .null, .val (.ref a2), .val (.ref a3)] [.null, .null, (.ref a3), (.ref a2), .null, (.ref a1)])) rfl (by rw [hml]; rfl) (Steps.refl _) (a := a1) (argsL := [.null, (.ref a2), (.ref a3), .null, .null]) (rest := []) (lenOf pd_2 rfl) rfl (by show 2 * 0 + _ ≤ _; exact Nat.le_of_eq rfl) (hb hby d1_6) (fun _ _ => ⟨rfl, e0, (by decide : 0 + 0 ≤ _), (by decide : 0 + 0 ≤ _)⟩)
  dsimp only [Pt.U, Pt.locs, Pt.cells, Pt.slots] at X38 l38 y38 z38 st38 hQ38
  subst l38 y38 z38
  obtain ⟨rfl, M38, q38_0, q38_1, q38_2, q38_3⟩ := hQ38
  have N38 := Fr.app N0 M38
  have K38 : Keep h0 T38.heap [a1] := Keep.trans (Keep.refl h0 [a1]) q38_0 (allS (Or.inl (List.mem_of_getElem? (i := 0) rfl)) all0)
  refine own_go (fun t k => st38.trans k) ?_
  obtain ⟨fs, hr, hrun, hended, hW, hsame⟩ := X38.leave (v := none) (fun _ => rfl)
  refine ⟨_, _, ?_, hrun, hended, _, _, rfl, ?_, ⟨_, rfl⟩, hW, hsame.mono (by decide) (by decide)⟩
  · exact X38.returnOut hx Bd.returns (hb hby d1_9) hr
  · show Q1 Z a1 a2 a3 h0 n0 _ T38.heap _
    exact ⟨rfl, N38, K38, q38_1, q38_2, q38_3⟩
theorem ef_2n (m : MethodId) (a1 : Addr) (a2 : Addr) : entryFrame m #[(.ref a1), .null, (.ref a2), .null, .null, .null] 6 = mkF m 0 #[.val (.ref a1), .val .null, .val (.ref a2), .val .null, .val .null, .val .null] [] := by first | (simp [entryFrame, mkF, argsToLocals, Value.category]; done) | rfl
def Q2n (Z : State) (a1 : Addr) (a2 : Addr) (h0 : Heap) (n0 : Nat) (v : Option Value) (h : Heap) (L : List Loc) : Prop := v = none ∧ Fr n0 L ∧ Keep h0 h [a1] ∧ Exa Z h a1 "com/example/porthcurno/porthcurno/model/SentMessage" ∧ Fld Z h a1 "com/example/porthcurno/porthcurno/model/SentMessage" "timeToLive" "Ljava/time/Duration;" .null ∧ Fld Z h a1 "com/example/porthcurno/porthcurno/model/SentMessage" "absoluteExpiryTime" "Ljava/time/Instant;" .null
set_option maxRecDepth 65536 in
set_option maxHeartbeats 40000000 in
theorem rm2n (l : Launch) (Z : State) (a0 : Array Value) (hw : ∀ d ∈ tables_1, d.before a0 Z = true) (ws : List Jvm.Cond) (a1 : Addr) (a2 : Addr) (h0 : Heap) (n0 : Nat) (Z0 : n0 ≤ h0.size) (E_a1 : Exa Z h0 a1 "com/example/porthcurno/porthcurno/model/SentMessage") (F_properties_a1 : Fld Z h0 a1 "com/example/porthcurno/porthcurno/model/SentMessage" "properties" "Ljava/util/Map;" .null) (F_body_a1 : Fld Z h0 a1 "com/example/porthcurno/porthcurno/model/SentMessage" "body" "[B" .null) (F_amqp_a1 : Fld Z h0 a1 "com/example/porthcurno/porthcurno/model/SentMessage" "amqp" "Lcom/example/porthcurno/porthcurno/model/AmqpSections;" .null) (F_timeToLive_a1 : Fld Z h0 a1 "com/example/porthcurno/porthcurno/model/SentMessage" "timeToLive" "Ljava/time/Duration;" .null) (F_absoluteExpiryTime_a1 : Fld Z h0 a1 "com/example/porthcurno/porthcurno/model/SentMessage" "absoluteExpiryTime" "Ljava/time/Instant;" .null) (g_a1 : n0 ≤ a1) :
    MetFree l (⟨"com/example/porthcurno/porthcurno/model/SentMessage", "<init>", "(Ljava/util/Map;[BLcom/example/porthcurno/porthcurno/model/AmqpSections;Ljava/time/Duration;Ljava/time/Instant;)V"⟩ : MethodName) (head1 (Jvm.Cond.code (⟨"com/example/porthcurno/porthcurno/model/SentMessage", "<init>", "(Ljava/util/Map;[BLcom/example/porthcurno/porthcurno/model/AmqpSections;Ljava/time/Duration;Ljava/time/Instant;)V"⟩ : MethodName) prog_14_method_1_code 6 none :: ws) ({ frames := 2, cells := 0, slots := 0, locals := 24 } : Room)) (fun a U => a = #[(.ref a1), .null, (.ref a2), .null, .null, .null] ∧ Z.Warmed39 U.vm ∧ U.heap = h0) (fun _ _ _ _ _ => True) (fun _ U o U' => ∃ v L, o = .returned v ∧ Q2n Z a1 a2 h0 n0 v U'.heap L ∧ FrameEnd U o U' L ({ frames := 2, cells := 0, slots := 0, locals := 24 } : Room).cells ({ frames := 2, cells := 0, slots := 0, locals := 24 } : Room).slots) := by
  refine MetFree.of_bodySF (plainFor_of_name pn_47) hisR ?_
  intro p e s m args below meth c s₁ Bd hml0 hP hK
  obtain ⟨rfl, hZ, hh⟩ := hP
  have hx := Bd.exec
  have hby := Bd.bytes
  have hml : c.maxLocals = 6 := hml0
  have hown : s.vm.findClass "com/example/porthcurno/porthcurno/model/SentMessage" = some m.cls := findClass_of_methodNamed Bd.named
  have hnm := (name_of_methodNamed Bd.named Bd.method).1
  have X0 : Stand p l e ({ frames := 2, cells := 0, slots := 0, locals := 24 } : Room) s m #[(.ref a1), .null, (.ref a2), .null, .null, .null] below meth c s₁ [] 0 0 := Stand.of_body Bd
  have e0 : s₁.heap = h0 := by rw [← hh, Bd.state]; rfl
  have N0 := Fr.nil n0
  refine own_go (B := s₁.setTop (mkF m 0 #[.val (.ref a1), .val .null, .val (.ref a2), .val .null, .val .null, .val .null] [])) (fun t k => castTop (ef_2n m a1 a2) k) ?_
  refine own_go (B := s₁.setTop (mkF m 1 #[.val (.ref a1), .val .null, .val (.ref a2), .val .null, .val .null, .val .null] [(.ref a1)])) (fun t k => ?_) ?_
  · show Steps p.tables e below (s₁.setTop (mkF m 0 #[.val (.ref a1), .val .null, .val (.ref a2), .val .null, .val .null, .val .null] [])) _
    refine XS.aloadN X0.here hx rfl (hb hby d2_0) rfl rfl ?_
    show Steps p.tables e below (s₁.setTop (mkF m 1 #[.val (.ref a1), .val .null, .val (.ref a2), .val .null, .val .null, .val .null] [(.ref a1)])) _
    exact k
  obtain ⟨_, _, ⟨T40, L40, k40, n40⟩, -, X40, ⟨Lc40, hQ40, l40, y40, z40⟩, st40⟩ := X0.specialBack hx (y := (⟨"java/lang/Record", "<init>", "()V"⟩ : MethodName)) rfl hown (mvT hZ (hw _ (List.mem_of_getElem? (i := 10) rfl))) (mvT hZ (hw _ (List.mem_of_getElem? (i := 11) rfl))) (mvT hZ (hw _ (List.mem_of_getElem? (i := 14) rfl))) (by decide) (backOf (W := 0) (rm3 l Z a0 hw [] a1 h0 n0 Z0 ) hZ (hw _ (List.mem_of_getElem? (i := 14) rfl)) (hw _ (List.mem_of_getElem? (i := 13) rfl)) (by decide) (by decide)) (g := (mkF m 1 #[.val (.ref a1), .val .null, .val (.ref a2), .val .null, .val .null, .val .null] [(.ref a1)])) rfl (by rw [hml]; rfl) (Steps.refl _) (a := a1) (argsL := []) (rest := []) (lenOf pd_0 rfl) rfl (by show 2 * 0 + _ ≤ _; exact Nat.le_of_eq rfl) (hb hby d2_1) (fun _ _ => ⟨rfl, e0, (by decide : 0 + 0 ≤ _), (by decide : 0 + 0 ≤ _)⟩)
  dsimp only [Pt.U, Pt.locs, Pt.cells, Pt.slots] at X40 l40 y40 z40 st40 hQ40
  subst l40 y40 z40
  obtain ⟨rfl, M40, q40_0⟩ := hQ40
  have N40 := Fr.app N0 M40
  refine own_go (fun t k => st40.trans k) ?_
  refine own_go (B := T40.setTop (mkF m 37 #[.val (.ref a1), .val .null, .val (.ref a2), .val .null, .val .null, .val .null] [.null, (.ref a1)])) (fun t k => ?_) ?_
  · show Steps p.tables e below (T40.setTop (mkF m 4 #[.val (.ref a1), .val .null, .val (.ref a2), .val .null, .val .null, .val .null] [])) _
    refine XS.aload X40.here hx rfl (hb hby d2_4) rfl rfl ?_
    show Steps p.tables e below (T40.setTop (mkF m 6 #[.val (.ref a1), .val .null, .val (.ref a2), .val .null, .val .null, .val .null] [.null])) _
    refine XS.ifnullYes X40.here hx rfl (pc0 := 6) (pc' := 35) rfl (hb hby d2_6) rfl (by decide) (by decide) ?_
    show Steps p.tables e below (T40.setTop (mkF m 35 #[.val (.ref a1), .val .null, .val (.ref a2), .val .null, .val .null, .val .null] [])) _
    refine XS.aloadN X40.here hx rfl (hb hby d2_35) rfl rfl ?_
    show Steps p.tables e below (T40.setTop (mkF m 36 #[.val (.ref a1), .val .null, .val (.ref a2), .val .null, .val .null, .val .null] [(.ref a1)])) _
    refine XS.aloadN X40.here hx rfl (hb hby d2_36) rfl rfl ?_
    show Steps p.tables e below (T40.setTop (mkF m 37 #[.val (.ref a1), .val .null, .val (.ref a2), .val .null, .val .null, .val .null] [.null, (.ref a1)])) _
    exact k
  obtain ⟨T41, h41, X41, e41, W41, st41⟩ := putF X40 hx hZ hown (host := "") (Or.inl (hw _ (List.mem_of_getElem? (i := 18) rfl))) Via.refl q40_0 F_properties_a1 E_a1 (Or.inr ⟨(hw _ (List.mem_of_getElem? (i := 19) rfl)), rfl, hnm⟩) (hw _ (List.mem_of_getElem? (i := 2) rfl)) (ty := (.object "java/util/Map")) (by decide) rfl rfl (g := (mkF m 37 #[.val (.ref a1), .val .null, .val (.ref a2), .val .null, .val .null, .val .null] [.null, (.ref a1)])) rfl rfl (hb hby d2_37)
  refine own_go st41 ?_
  have F41 : Fld Z h41 a1 "com/example/porthcurno/porthcurno/model/SentMessage" "properties" "Ljava/util/Map;" .null := F_properties_a1.same W41
  have K41 : Keep h0 h41 [a1] := Keep.wr (Keep.refl h0 [a1]) W41 (Or.inl (List.mem_of_getElem? (i := 0) rfl))
  have N41 := Fr.snoc X41 N40 g_a1
  refine own_go (B := T41.setTop (mkF m 42 #[.val (.ref a1), .val .null, .val (.ref a2), .val .null, .val .null, .val .null] [(.ref a2), (.ref a1)])) (fun t k => ?_) ?_
  · show Steps p.tables e below (T41.setTop (mkF m 40 #[.val (.ref a1), .val .null, .val (.ref a2), .val .null, .val .null, .val .null] [])) _
    refine XS.aloadN X41.here hx rfl (hb hby d2_40) rfl rfl ?_
    show Steps p.tables e below (T41.setTop (mkF m 41 #[.val (.ref a1), .val .null, .val (.ref a2), .val .null, .val .null, .val .null] [(.ref a1)])) _
    refine XS.aloadN X41.here hx rfl (hb hby d2_41) rfl rfl ?_
    show Steps p.tables e below (T41.setTop (mkF m 42 #[.val (.ref a1), .val .null, .val (.ref a2), .val .null, .val .null, .val .null] [(.ref a2), (.ref a1)])) _
    exact k
  have f43 : Exa Z h41 a1 "com/example/porthcurno/porthcurno/model/SentMessage" := (E_a1.wr W41)
  have f44 : Fld Z h41 a1 "com/example/porthcurno/porthcurno/model/SentMessage" "body" "[B" .null := (F_body_a1.other W41 (Or.inr (slot_ne (Or.inr (hw _ (List.mem_of_getElem? (i := 21) rfl))) (Or.inr (hw _ (List.mem_of_getElem? (i := 19) rfl))) (by decide) (t := (.array .byte)) (t' := (.object "java/util/Map")) (by decide) (by decide))))
  obtain ⟨T42, h42, X42, e42, W42, st42⟩ := putF X41 hx hZ hown (host := "") (Or.inl (hw _ (List.mem_of_getElem? (i := 20) rfl))) Via.refl e41 f44 f43 (Or.inr ⟨(hw _ (List.mem_of_getElem? (i := 21) rfl)), rfl, hnm⟩) (hw _ (List.mem_of_getElem? (i := 2) rfl)) (ty := (.array .byte)) (by decide) rfl rfl (g := (mkF m 42 #[.val (.ref a1), .val .null, .val (.ref a2), .val .null, .val .null, .val .null] [(.ref a2), (.ref a1)])) rfl rfl (hb hby d2_42)
  refine own_go st42 ?_
  have F42 : Fld Z h42 a1 "com/example/porthcurno/porthcurno/model/SentMessage" "body" "[B" (.ref a2) := f44.same W42
  have K42 : Keep h0 h42 [a1] := Keep.wr K41 W42 (Or.inl (List.mem_of_getElem? (i := 0) rfl))
  have N42 := Fr.snoc X42 N41 g_a1
  refine own_go (B := T42.setTop (mkF m 47 #[.val (.ref a1), .val .null, .val (.ref a2), .val .null, .val .null, .val .null] [.null, (.ref a1)])) (fun t k => ?_) ?_
  · show Steps p.tables e below (T42.setTop (mkF m 45 #[.val (.ref a1), .val .null, .val (.ref a2), .val .null, .val .null, .val .null] [])) _
    refine XS.aloadN X42.here hx rfl (hb hby d2_45) rfl rfl ?_
    show Steps p.tables e below (T42.setTop (mkF m 46 #[.val (.ref a1), .val .null, .val (.ref a2), .val .null, .val .null, .val .null] [(.ref a1)])) _
    refine XS.aloadN X42.here hx rfl (hb hby d2_46) rfl rfl ?_
    show Steps p.tables e below (T42.setTop (mkF m 47 #[.val (.ref a1), .val .null, .val (.ref a2), .val .null, .val .null, .val .null] [.null, (.ref a1)])) _
    exact k
  have f46 : Exa Z h42 a1 "com/example/porthcurno/porthcurno/model/SentMessage" := (f43.wr W42)
  have f47 : Fld Z h42 a1 "com/example/porthcurno/porthcurno/model/SentMessage" "amqp" "Lcom/example/porthcurno/porthcurno/model/AmqpSections;" .null := ((F_amqp_a1.other W41 (Or.inr (slot_ne (Or.inr (hw _ (List.mem_of_getElem? (i := 23) rfl))) (Or.inr (hw _ (List.mem_of_getElem? (i := 19) rfl))) (by decide) (t := (.object "com/example/porthcurno/porthcurno/model/AmqpSections")) (t' := (.object "java/util/Map")) (by decide) (by decide)))).other W42 (Or.inr (slot_ne (Or.inr (hw _ (List.mem_of_getElem? (i := 23) rfl))) (Or.inr (hw _ (List.mem_of_getElem? (i := 21) rfl))) (by decide) (t := (.object "com/example/porthcurno/porthcurno/model/AmqpSections")) (t' := (.array .byte)) (by decide) (by decide))))
  obtain ⟨T45, h45, X45, e45, W45, st45⟩ := putF X42 hx hZ hown (host := "") (Or.inl (hw _ (List.mem_of_getElem? (i := 22) rfl))) Via.refl e42 f47 f46 (Or.inr ⟨(hw _ (List.mem_of_getElem? (i := 23) rfl)), rfl, hnm⟩) (hw _ (List.mem_of_getElem? (i := 2) rfl)) (ty := (.object "com/example/porthcurno/porthcurno/model/AmqpSections")) (by decide) rfl rfl (g := (mkF m 47 #[.val (.ref a1), .val .null, .val (.ref a2), .val .null, .val .null, .val .null] [.null, (.ref a1)])) rfl rfl (hb hby d2_47)
  refine own_go st45 ?_
  have F45 : Fld Z h45 a1 "com/example/porthcurno/porthcurno/model/SentMessage" "amqp" "Lcom/example/porthcurno/porthcurno/model/AmqpSections;" .null := f47.same W45
  have K45 : Keep h0 h45 [a1] := Keep.wr K42 W45 (Or.inl (List.mem_of_getElem? (i := 0) rfl))
  have N45 := Fr.snoc X45 N42 g_a1
  refine own_go (B := T45.setTop (mkF m 53 #[.val (.ref a1), .val .null, .val (.ref a2), .val .null, .val .null, .val .null] [.null, (.ref a1)])) (fun t k => ?_) ?_
  · show Steps p.tables e below (T45.setTop (mkF m 50 #[.val (.ref a1), .val .null, .val (.ref a2), .val .null, .val .null, .val .null] [])) _
    refine XS.aloadN X45.here hx rfl (hb hby d2_50) rfl rfl ?_
    show Steps p.tables e below (T45.setTop (mkF m 51 #[.val (.ref a1), .val .null, .val (.ref a2), .val .null, .val .null, .val .null] [(.ref a1)])) _
    refine XS.aload X45.here hx rfl (hb hby d2_51) rfl rfl ?_
    show Steps p.tables e below (T45.setTop (mkF m 53 #[.val (.ref a1), .val .null, .val (.ref a2), .val .null, .val .null, .val .null] [.null, (.ref a1)])) _
    exact k
  have f49 : Exa Z h45 a1 "com/example/porthcurno/porthcurno/model/SentMessage" := (f46.wr W45)
  have f50 : Fld Z h45 a1 "com/example/porthcurno/porthcurno/model/SentMessage" "timeToLive" "Ljava/time/Duration;" .null := (((F_timeToLive_a1.other W41 (Or.inr (slot_ne (Or.inr (hw _ (List.mem_of_getElem? (i := 25) rfl))) (Or.inr (hw _ (List.mem_of_getElem? (i := 19) rfl))) (by decide) (t := (.object "java/time/Duration")) (t' := (.object "java/util/Map")) (by decide) (by decide)))).other W42 (Or.inr (slot_ne (Or.inr (hw _ (List.mem_of_getElem? (i := 25) rfl))) (Or.inr (hw _ (List.mem_of_getElem? (i := 21) rfl))) (by decide) (t := (.object "java/time/Duration")) (t' := (.array .byte)) (by decide) (by decide)))).other W45 (Or.inr (slot_ne (Or.inr (hw _ (List.mem_of_getElem? (i := 25) rfl))) (Or.inr (hw _ (List.mem_of_getElem? (i := 23) rfl))) (by decide) (t := (.object "java/time/Duration")) (t' := (.object "com/example/porthcurno/porthcurno/model/AmqpSections")) (by decide) (by decide))))
  obtain ⟨T48, h48, X48, e48, W48, st48⟩ := putF X45 hx hZ hown (host := "") (Or.inl (hw _ (List.mem_of_getElem? (i := 24) rfl))) Via.refl e45 f50 f49 (Or.inr ⟨(hw _ (List.mem_of_getElem? (i := 25) rfl)), rfl, hnm⟩) (hw _ (List.mem_of_getElem? (i := 2) rfl)) (ty := (.object "java/time/Duration")) (by decide) rfl rfl (g := (mkF m 53 #[.val (.ref a1), .val .null, .val (.ref a2), .val .null, .val .null, .val .null] [.null, (.ref a1)])) rfl rfl (hb hby d2_53)
  refine own_go st48 ?_
  have F48 : Fld Z h48 a1 "com/example/porthcurno/porthcurno/model/SentMessage" "timeToLive" "Ljava/time/Duration;" .null := f50.same W48
  have K48 : Keep h0 h48 [a1] := Keep.wr K45 W48 (Or.inl (List.mem_of_getElem? (i := 0) rfl))
  have N48 := Fr.snoc X48 N45 g_a1
  refine own_go (B := T48.setTop (mkF m 59 #[.val (.ref a1), .val .null, .val (.ref a2), .val .null, .val .null, .val .null] [.null, (.ref a1)])) (fun t k => ?_) ?_
  · show Steps p.tables e below (T48.setTop (mkF m 56 #[.val (.ref a1), .val .null, .val (.ref a2), .val .null, .val .null, .val .null] [])) _
    refine XS.aloadN X48.here hx rfl (hb hby d2_56) rfl rfl ?_
    show Steps p.tables e below (T48.setTop (mkF m 57 #[.val (.ref a1), .val .null, .val (.ref a2), .val .null, .val .null, .val .null] [(.ref a1)])) _
    refine XS.aload X48.here hx rfl (hb hby d2_57) rfl rfl ?_
    show Steps p.tables e below (T48.setTop (mkF m 59 #[.val (.ref a1), .val .null, .val (.ref a2), .val .null, .val .null, .val .null] [.null, (.ref a1)])) _
    exact k
  have f52 : Exa Z h48 a1 "com/example/porthcurno/porthcurno/model/SentMessage" := (f49.wr W48)
  have f53 : Fld Z h48 a1 "com/example/porthcurno/porthcurno/model/SentMessage" "absoluteExpiryTime" "Ljava/time/Instant;" .null := ((((F_absoluteExpiryTime_a1.other W41 (Or.inr (slot_ne (Or.inr (hw _ (List.mem_of_getElem? (i := 27) rfl))) (Or.inr (hw _ (List.mem_of_getElem? (i := 19) rfl))) (by decide) (t := (.object "java/time/Instant")) (t' := (.object "java/util/Map")) (by decide) (by decide)))).other W42 (Or.inr (slot_ne (Or.inr (hw _ (List.mem_of_getElem? (i := 27) rfl))) (Or.inr (hw _ (List.mem_of_getElem? (i := 21) rfl))) (by decide) (t := (.object "java/time/Instant")) (t' := (.array .byte)) (by decide) (by decide)))).other W45 (Or.inr (slot_ne (Or.inr (hw _ (List.mem_of_getElem? (i := 27) rfl))) (Or.inr (hw _ (List.mem_of_getElem? (i := 23) rfl))) (by decide) (t := (.object "java/time/Instant")) (t' := (.object "com/example/porthcurno/porthcurno/model/AmqpSections")) (by decide) (by decide)))).other W48 (Or.inr (slot_ne (Or.inr (hw _ (List.mem_of_getElem? (i := 27) rfl))) (Or.inr (hw _ (List.mem_of_getElem? (i := 25) rfl))) (by decide) (t := (.object "java/time/Instant")) (t' := (.object "java/time/Duration")) (by decide) (by decide))))
  obtain ⟨T51, h51, X51, e51, W51, st51⟩ := putF X48 hx hZ hown (host := "") (Or.inl (hw _ (List.mem_of_getElem? (i := 26) rfl))) Via.refl e48 f53 f52 (Or.inr ⟨(hw _ (List.mem_of_getElem? (i := 27) rfl)), rfl, hnm⟩) (hw _ (List.mem_of_getElem? (i := 2) rfl)) (ty := (.object "java/time/Instant")) (by decide) rfl rfl (g := (mkF m 59 #[.val (.ref a1), .val .null, .val (.ref a2), .val .null, .val .null, .val .null] [.null, (.ref a1)])) rfl rfl (hb hby d2_59)
  refine own_go st51 ?_
  have F51 : Fld Z h51 a1 "com/example/porthcurno/porthcurno/model/SentMessage" "absoluteExpiryTime" "Ljava/time/Instant;" .null := f53.same W51
  have K51 : Keep h0 h51 [a1] := Keep.wr K48 W51 (Or.inl (List.mem_of_getElem? (i := 0) rfl))
  have N51 := Fr.snoc X51 N48 g_a1
  obtain ⟨fs, hr, hrun, hended, hW, hsame⟩ := X51.leave (v := none) (fun _ => rfl)
  refine ⟨_, _, ?_, hrun, hended, _, _, rfl, ?_, ⟨_, rfl⟩, hW, hsame.mono (by decide) (by decide)⟩
  · exact X51.returnOut hx Bd.returns (hb hby d2_62) hr
  · show Q2n Z a1 a2 h0 n0 _ T51.heap _
    rw [e51]
    have f55 : Exa Z h51 a1 "com/example/porthcurno/porthcurno/model/SentMessage" := (f52.wr W51)
    have f56 : Fld Z h51 a1 "com/example/porthcurno/porthcurno/model/SentMessage" "timeToLive" "Ljava/time/Duration;" .null := (F48.other W51 (Or.inr (slot_ne (Or.inr (hw _ (List.mem_of_getElem? (i := 25) rfl))) (Or.inr (hw _ (List.mem_of_getElem? (i := 27) rfl))) (by decide) (t := (.object "java/time/Duration")) (t' := (.object "java/time/Instant")) (by decide) (by decide))))
    exact ⟨rfl, N51, K51, f55, f56, F51⟩
theorem ef_1n (m : MethodId) (a1 : Addr) (a2 : Addr) : entryFrame m #[(.ref a1), .null, (.ref a2), .null] 4 = mkF m 0 #[.val (.ref a1), .val .null, .val (.ref a2), .val .null] [] := by first | (simp [entryFrame, mkF, argsToLocals, Value.category]; done) | rfl
def Q1n (Z : State) (a1 : Addr) (a2 : Addr) (h0 : Heap) (n0 : Nat) (v : Option Value) (h : Heap) (L : List Loc) : Prop := v = none ∧ Fr n0 L ∧ Keep h0 h [a1] ∧ Exa Z h a1 "com/example/porthcurno/porthcurno/model/SentMessage" ∧ Fld Z h a1 "com/example/porthcurno/porthcurno/model/SentMessage" "timeToLive" "Ljava/time/Duration;" .null ∧ Fld Z h a1 "com/example/porthcurno/porthcurno/model/SentMessage" "absoluteExpiryTime" "Ljava/time/Instant;" .null
set_option maxRecDepth 65536 in
set_option maxHeartbeats 40000000 in
theorem rm1n (l : Launch) (Z : State) (a0 : Array Value) (hw : ∀ d ∈ tables_1, d.before a0 Z = true) (ws : List Jvm.Cond) (a1 : Addr) (a2 : Addr) (h0 : Heap) (n0 : Nat) (Z0 : n0 ≤ h0.size) (E_a1 : Exa Z h0 a1 "com/example/porthcurno/porthcurno/model/SentMessage") (F_properties_a1 : Fld Z h0 a1 "com/example/porthcurno/porthcurno/model/SentMessage" "properties" "Ljava/util/Map;" .null) (F_body_a1 : Fld Z h0 a1 "com/example/porthcurno/porthcurno/model/SentMessage" "body" "[B" .null) (F_amqp_a1 : Fld Z h0 a1 "com/example/porthcurno/porthcurno/model/SentMessage" "amqp" "Lcom/example/porthcurno/porthcurno/model/AmqpSections;" .null) (F_timeToLive_a1 : Fld Z h0 a1 "com/example/porthcurno/porthcurno/model/SentMessage" "timeToLive" "Ljava/time/Duration;" .null) (F_absoluteExpiryTime_a1 : Fld Z h0 a1 "com/example/porthcurno/porthcurno/model/SentMessage" "absoluteExpiryTime" "Ljava/time/Instant;" .null) (g_a1 : n0 ≤ a1) :
    MetFree l (⟨"com/example/porthcurno/porthcurno/model/SentMessage", "<init>", "(Ljava/util/Map;[BLcom/example/porthcurno/porthcurno/model/AmqpSections;)V"⟩ : MethodName) (head1 (Jvm.Cond.code (⟨"com/example/porthcurno/porthcurno/model/SentMessage", "<init>", "(Ljava/util/Map;[BLcom/example/porthcurno/porthcurno/model/AmqpSections;)V"⟩ : MethodName) prog_14_method_2_code 4 none :: ws) ({ frames := 3, cells := 0, slots := 0, locals := 41 } : Room)) (fun a U => a = #[(.ref a1), .null, (.ref a2), .null] ∧ Z.Warmed39 U.vm ∧ U.heap = h0) (fun _ _ _ _ _ => True) (fun _ U o U' => ∃ v L, o = .returned v ∧ Q1n Z a1 a2 h0 n0 v U'.heap L ∧ FrameEnd U o U' L ({ frames := 3, cells := 0, slots := 0, locals := 41 } : Room).cells ({ frames := 3, cells := 0, slots := 0, locals := 41 } : Room).slots) := by
  refine MetFree.of_bodySF (plainFor_of_name pn_47) hisR ?_
  intro p e s m args below meth c s₁ Bd hml0 hP hK
  obtain ⟨rfl, hZ, hh⟩ := hP
  have hx := Bd.exec
  have hby := Bd.bytes
  have hml : c.maxLocals = 4 := hml0
  have hown : s.vm.findClass "com/example/porthcurno/porthcurno/model/SentMessage" = some m.cls := findClass_of_methodNamed Bd.named
  have hnm := (name_of_methodNamed Bd.named Bd.method).1
  have X0 : Stand p l e ({ frames := 3, cells := 0, slots := 0, locals := 41 } : Room) s m #[(.ref a1), .null, (.ref a2), .null] below meth c s₁ [] 0 0 := Stand.of_body Bd
  have e0 : s₁.heap = h0 := by rw [← hh, Bd.state]; rfl
  have N0 := Fr.nil n0
  refine own_go (B := s₁.setTop (mkF m 0 #[.val (.ref a1), .val .null, .val (.ref a2), .val .null] [])) (fun t k => castTop (ef_1n m a1 a2) k) ?_
  refine own_go (B := s₁.setTop (mkF m 6 #[.val (.ref a1), .val .null, .val (.ref a2), .val .null] [.null, .null, .null, (.ref a2), .null, (.ref a1)])) (fun t k => ?_) ?_
  · show Steps p.tables e below (s₁.setTop (mkF m 0 #[.val (.ref a1), .val .null, .val (.ref a2), .val .null] [])) _
    refine XS.aloadN X0.here hx rfl (hb hby d1_0) rfl rfl ?_
    show Steps p.tables e below (s₁.setTop (mkF m 1 #[.val (.ref a1), .val .null, .val (.ref a2), .val .null] [(.ref a1)])) _
    refine XS.aloadN X0.here hx rfl (hb hby d1_1) rfl rfl ?_
    show Steps p.tables e below (s₁.setTop (mkF m 2 #[.val (.ref a1), .val .null, .val (.ref a2), .val .null] [.null, (.ref a1)])) _
    refine XS.aloadN X0.here hx rfl (hb hby d1_2) rfl rfl ?_
    show Steps p.tables e below (s₁.setTop (mkF m 3 #[.val (.ref a1), .val .null, .val (.ref a2), .val .null] [(.ref a2), .null, (.ref a1)])) _
    refine XS.aloadN X0.here hx rfl (hb hby d1_3) rfl rfl ?_
    show Steps p.tables e below (s₁.setTop (mkF m 4 #[.val (.ref a1), .val .null, .val (.ref a2), .val .null] [.null, (.ref a2), .null, (.ref a1)])) _
    refine XS.aconstNull X0.here hx rfl (hb hby d1_4) ?_
    show Steps p.tables e below (s₁.setTop (mkF m 5 #[.val (.ref a1), .val .null, .val (.ref a2), .val .null] [.null, .null, (.ref a2), .null, (.ref a1)])) _
    refine XS.aconstNull X0.here hx rfl (hb hby d1_5) ?_
    show Steps p.tables e below (s₁.setTop (mkF m 6 #[.val (.ref a1), .val .null, .val (.ref a2), .val .null] [.null, .null, .null, (.ref a2), .null, (.ref a1)])) _
    exact k
  obtain ⟨_, _, ⟨T57, L57, k57, n57⟩, -, X57, ⟨Lc57, hQ57, l57, y57, z57⟩, st57⟩ := X0.specialBack hx (y := (⟨"com/example/porthcurno/porthcurno/model/SentMessage", "<init>", "(Ljava/util/Map;[BLcom/example/porthcurno/porthcurno/model/AmqpSections;Ljava/time/Duration;Ljava/time/Instant;)V"⟩ : MethodName)) rfl hown (mvT hZ (hw _ (List.mem_of_getElem? (i := 7) rfl))) (mvT hZ (hw _ (List.mem_of_getElem? (i := 8) rfl))) (mvT hZ (hw _ (List.mem_of_getElem? (i := 9) rfl))) (by decide) (backOf (W := 0) (rm2n l Z a0 hw [] a1 a2 h0 n0 Z0 E_a1 F_properties_a1 F_body_a1 F_amqp_a1 F_timeToLive_a1 F_absoluteExpiryTime_a1 g_a1) hZ (hw _ (List.mem_of_getElem? (i := 9) rfl)) (hw _ (List.mem_of_getElem? (i := 3) rfl)) (by decide) (by decide)) (g := (mkF m 6 #[.val (.ref a1), .val .null, .val (.ref a2), .val .null] [.null, .null, .null, (.ref a2), .null, (.ref a1)])) rfl (by rw [hml]; rfl) (Steps.refl _) (a := a1) (argsL := [.null, (.ref a2), .null, .null, .null]) (rest := []) (lenOf pd_2 rfl) rfl (by show 2 * 0 + _ ≤ _; exact Nat.le_of_eq rfl) (hb hby d1_6) (fun _ _ => ⟨rfl, e0, (by decide : 0 + 0 ≤ _), (by decide : 0 + 0 ≤ _)⟩)
  dsimp only [Pt.U, Pt.locs, Pt.cells, Pt.slots] at X57 l57 y57 z57 st57 hQ57
  subst l57 y57 z57
  obtain ⟨rfl, M57, q57_0, q57_1, q57_2, q57_3⟩ := hQ57
  have N57 := Fr.app N0 M57
  have K57 : Keep h0 T57.heap [a1] := Keep.trans (Keep.refl h0 [a1]) q57_0 (allS (Or.inl (List.mem_of_getElem? (i := 0) rfl)) all0)
  refine own_go (fun t k => st57.trans k) ?_
  obtain ⟨fs, hr, hrun, hended, hW, hsame⟩ := X57.leave (v := none) (fun _ => rfl)
  refine ⟨_, _, ?_, hrun, hended, _, _, rfl, ?_, ⟨_, rfl⟩, hW, hsame.mono (by decide) (by decide)⟩
  · exact X57.returnOut hx Bd.returns (hb hby d1_9) hr
  · show Q1n Z a1 a2 h0 n0 _ T57.heap _
    exact ⟨rfl, N57, K57, q57_1, q57_2, q57_3⟩
theorem d5_0 : decode prog_14_method_3_code 0 = .ok (.aload_n 0, 1) := by decide +kernel
theorem d5_1 : decode prog_14_method_3_code 1 = .ok (.getfield 42, 3) := by decide +kernel
theorem d5_4 : decode prog_14_method_3_code 4 = .ok (.ifnonnull 10, 3) := by decide +kernel
theorem d5_7 : decode prog_14_method_3_code 7 = .ok (.aload_n 0, 1) := by decide +kernel
theorem d5_8 : decode prog_14_method_3_code 8 = .ok (.getfield 46, 3) := by decide +kernel
theorem d5_11 : decode prog_14_method_3_code 11 = .ok (.ifnull 7, 3) := by decide +kernel
theorem d5_18 : decode prog_14_method_3_code 18 = .ok (.iconst 0, 1) := by decide +kernel
theorem d5_19 : decode prog_14_method_3_code 19 = .ok (.ireturn, 1) := by decide +kernel
theorem ef_5 (m : MethodId) (a1 : Addr) : entryFrame m #[(.ref a1)] 1 = mkF m 0 #[.val (.ref a1)] [] := by first | (simp [entryFrame, mkF, argsToLocals, Value.category]; done) | rfl
def Q5 (Z : State) (a1 : Addr) (h0 : Heap) (n0 : Nat) (v : Option Value) (h : Heap) (L : List Loc) : Prop := v = some (.int (0 : Int32)) ∧ Fr n0 L ∧ h = h0
set_option maxRecDepth 65536 in
set_option maxHeartbeats 40000000 in
theorem rm5 (l : Launch) (Z : State) (a0 : Array Value) (hw : ∀ d ∈ tables_1, d.before a0 Z = true) (ws : List Jvm.Cond) (a1 : Addr) (h0 : Heap) (n0 : Nat) (Z0 : n0 ≤ h0.size) (T_ttl : Fld Z h0 a1 "com/example/porthcurno/porthcurno/model/SentMessage" "timeToLive" "Ljava/time/Duration;" .null) (T_abs : Fld Z h0 a1 "com/example/porthcurno/porthcurno/model/SentMessage" "absoluteExpiryTime" "Ljava/time/Instant;" .null) :
    MetFree l (⟨"com/example/porthcurno/porthcurno/model/SentMessage", "expires", "()Z"⟩ : MethodName) (head1 (Jvm.Cond.code (⟨"com/example/porthcurno/porthcurno/model/SentMessage", "expires", "()Z"⟩ : MethodName) prog_14_method_3_code 1 (some .boolean) :: ws) ({ frames := 0, cells := 0, slots := 0, locals := 0 } : Room)) (fun a U => a = #[(.ref a1)] ∧ Z.Warmed39 U.vm ∧ U.heap = h0) (fun _ _ _ _ _ => True) (fun _ U o U' => ∃ v L, o = .returned v ∧ Q5 Z a1 h0 n0 v U'.heap L ∧ FrameEnd U o U' L ({ frames := 0, cells := 0, slots := 0, locals := 0 } : Room).cells ({ frames := 0, cells := 0, slots := 0, locals := 0 } : Room).slots) := by
  refine MetFree.of_bodySF (plainFor_of_name pn_47) hisR ?_
  intro p e s m args below meth c s₁ Bd hml0 hP hK
  obtain ⟨rfl, hZ, hh⟩ := hP
  have hx := Bd.exec
  have hby := Bd.bytes
  have hml : c.maxLocals = 1 := hml0
  have hown : s.vm.findClass "com/example/porthcurno/porthcurno/model/SentMessage" = some m.cls := findClass_of_methodNamed Bd.named
  have hnm := (name_of_methodNamed Bd.named Bd.method).1
  have X0 : Stand p l e ({ frames := 0, cells := 0, slots := 0, locals := 0 } : Room) s m #[(.ref a1)] below meth c s₁ [] 0 0 := Stand.of_body Bd
  have e0 : s₁.heap = h0 := by rw [← hh, Bd.state]; rfl
  have N0 := Fr.nil n0
  refine own_go (B := s₁.setTop (mkF m 0 #[.val (.ref a1)] [])) (fun t k => castTop (ef_5 m a1) k) ?_
  refine own_go (B := s₁.setTop (mkF m 1 #[.val (.ref a1)] [(.ref a1)])) (fun t k => ?_) ?_
  · show Steps p.tables e below (s₁.setTop (mkF m 0 #[.val (.ref a1)] [])) _
    refine XS.aloadN X0.here hx rfl (hb hby d5_0) rfl rfl ?_
    show Steps p.tables e below (s₁.setTop (mkF m 1 #[.val (.ref a1)] [(.ref a1)])) _
    exact k
  obtain ⟨T59, X59, e59, st59⟩ := getF X0 hx hZ hown (host := "") (Or.inl (hw _ (List.mem_of_getElem? (i := 24) rfl))) Via.refl e0 T_ttl (g := (mkF m 1 #[.val (.ref a1)] [(.ref a1)])) rfl rfl (hb hby d5_1)
  refine own_go st59 ?_
  refine own_go (B := T59.setTop (mkF m 8 #[.val (.ref a1)] [(.ref a1)])) (fun t k => ?_) ?_
  · show Steps p.tables e below (T59.setTop (mkF m 4 #[.val (.ref a1)] [.null])) _
    refine XS.ifnonnullNo X59.here hx rfl (hb hby d5_4) rfl ?_
    show Steps p.tables e below (T59.setTop (mkF m 7 #[.val (.ref a1)] [])) _
    refine XS.aloadN X59.here hx rfl (hb hby d5_7) rfl rfl ?_
    show Steps p.tables e below (T59.setTop (mkF m 8 #[.val (.ref a1)] [(.ref a1)])) _
    exact k
  obtain ⟨T60, X60, e60, st60⟩ := getF X59 hx hZ hown (host := "") (Or.inl (hw _ (List.mem_of_getElem? (i := 26) rfl))) Via.refl e59 T_abs (g := (mkF m 8 #[.val (.ref a1)] [(.ref a1)])) rfl rfl (hb hby d5_8)
  refine own_go st60 ?_
  refine own_go (B := T60.setTop (mkF m 19 #[.val (.ref a1)] [(.int (0 : Int32))])) (fun t k => ?_) ?_
  · show Steps p.tables e below (T60.setTop (mkF m 11 #[.val (.ref a1)] [.null])) _
    refine XS.ifnullYes X60.here hx rfl (pc0 := 11) (pc' := 18) rfl (hb hby d5_11) rfl (by decide) (by decide) ?_
    show Steps p.tables e below (T60.setTop (mkF m 18 #[.val (.ref a1)] [])) _
    refine XS.iconst X60.here hx rfl (hb hby d5_18) ?_
    show Steps p.tables e below (T60.setTop (mkF m 19 #[.val (.ref a1)] [(.int (0 : Int32))])) _
    exact k
  obtain ⟨fs, hr, hrun, hended, hW, hsame⟩ := X60.leave (v := some (.int (0 : Int32))) (fun h => by rw [Bd.returns] at h; cases h)
  refine ⟨_, _, ?_, hrun, hended, _, _, rfl, ?_, ⟨_, rfl⟩, hW, hsame.mono (by decide) (by decide)⟩
  · exact retN X60 hx (t := .boolean) Bd.returns (by simp) (hb hby d5_19) hr
  · show Q5 Z a1 h0 n0 _ T60.heap _
    rw [e60]
    exact ⟨rfl, N0, rfl⟩
theorem d6_0 : decode prog_14_method_4_code 0 = .ok (.aload_n 0, 1) := by decide +kernel
theorem d6_1 : decode prog_14_method_4_code 1 = .ok (.getfield 42, 3) := by decide +kernel
theorem d6_4 : decode prog_14_method_4_code 4 = .ok (.astore_n 2, 1) := by decide +kernel
theorem d6_5 : decode prog_14_method_4_code 5 = .ok (.aload_n 0, 1) := by decide +kernel
theorem d6_6 : decode prog_14_method_4_code 6 = .ok (.getfield 46, 3) := by decide +kernel
theorem d6_9 : decode prog_14_method_4_code 9 = .ok (.ifnull 45, 3) := by decide +kernel
theorem d6_54 : decode prog_14_method_4_code 54 = .ok (.aload_n 2, 1) := by decide +kernel
theorem d6_55 : decode prog_14_method_4_code 55 = .ok (.areturn, 1) := by decide +kernel
theorem ef_6 (m : MethodId) (a1 : Addr) : entryFrame m #[(.ref a1), .null] 4 = mkF m 0 #[.val (.ref a1), .val .null, .unset, .unset] [] := by first | (simp [entryFrame, mkF, argsToLocals, Value.category]; done) | rfl
def Q6 (Z : State) (a1 : Addr) (h0 : Heap) (n0 : Nat) (v : Option Value) (h : Heap) (L : List Loc) : Prop := v = some .null ∧ Fr n0 L ∧ h = h0
set_option maxRecDepth 65536 in
set_option maxHeartbeats 40000000 in
theorem rm6 (l : Launch) (Z : State) (a0 : Array Value) (hw : ∀ d ∈ tables_1, d.before a0 Z = true) (ws : List Jvm.Cond) (a1 : Addr) (h0 : Heap) (n0 : Nat) (Z0 : n0 ≤ h0.size) (T_ttl : Fld Z h0 a1 "com/example/porthcurno/porthcurno/model/SentMessage" "timeToLive" "Ljava/time/Duration;" .null) (T_abs : Fld Z h0 a1 "com/example/porthcurno/porthcurno/model/SentMessage" "absoluteExpiryTime" "Ljava/time/Instant;" .null) :
    MetFree l (⟨"com/example/porthcurno/porthcurno/model/SentMessage", "timeToLiveFrom", "(Ljava/time/Instant;)Ljava/time/Duration;"⟩ : MethodName) (head1 (Jvm.Cond.code (⟨"com/example/porthcurno/porthcurno/model/SentMessage", "timeToLiveFrom", "(Ljava/time/Instant;)Ljava/time/Duration;"⟩ : MethodName) prog_14_method_4_code 4 (some (.object "java/time/Duration")) :: ws) ({ frames := 0, cells := 0, slots := 0, locals := 0 } : Room)) (fun a U => a = #[(.ref a1), .null] ∧ Z.Warmed39 U.vm ∧ U.heap = h0) (fun _ _ _ _ _ => True) (fun _ U o U' => ∃ v L, o = .returned v ∧ Q6 Z a1 h0 n0 v U'.heap L ∧ FrameEnd U o U' L ({ frames := 0, cells := 0, slots := 0, locals := 0 } : Room).cells ({ frames := 0, cells := 0, slots := 0, locals := 0 } : Room).slots) := by
  refine MetFree.of_bodySF (plainFor_of_name pn_47) hisR ?_
  intro p e s m args below meth c s₁ Bd hml0 hP hK
  obtain ⟨rfl, hZ, hh⟩ := hP
  have hx := Bd.exec
  have hby := Bd.bytes
  have hml : c.maxLocals = 4 := hml0
  have hown : s.vm.findClass "com/example/porthcurno/porthcurno/model/SentMessage" = some m.cls := findClass_of_methodNamed Bd.named
  have hnm := (name_of_methodNamed Bd.named Bd.method).1
  have X0 : Stand p l e ({ frames := 0, cells := 0, slots := 0, locals := 0 } : Room) s m #[(.ref a1), .null] below meth c s₁ [] 0 0 := Stand.of_body Bd
  have e0 : s₁.heap = h0 := by rw [← hh, Bd.state]; rfl
  have N0 := Fr.nil n0
  refine own_go (B := s₁.setTop (mkF m 0 #[.val (.ref a1), .val .null, .unset, .unset] [])) (fun t k => castTop (ef_6 m a1) k) ?_
  refine own_go (B := s₁.setTop (mkF m 1 #[.val (.ref a1), .val .null, .unset, .unset] [(.ref a1)])) (fun t k => ?_) ?_
  · show Steps p.tables e below (s₁.setTop (mkF m 0 #[.val (.ref a1), .val .null, .unset, .unset] [])) _
    refine XS.aloadN X0.here hx rfl (hb hby d6_0) rfl rfl ?_
    show Steps p.tables e below (s₁.setTop (mkF m 1 #[.val (.ref a1), .val .null, .unset, .unset] [(.ref a1)])) _
    exact k
  obtain ⟨T62, X62, e62, st62⟩ := getF X0 hx hZ hown (host := "") (Or.inl (hw _ (List.mem_of_getElem? (i := 24) rfl))) Via.refl e0 T_ttl (g := (mkF m 1 #[.val (.ref a1), .val .null, .unset, .unset] [(.ref a1)])) rfl rfl (hb hby d6_1)
  refine own_go st62 ?_
  refine own_go (B := T62.setTop (mkF m 6 #[.val (.ref a1), .val .null, .val .null, .unset] [(.ref a1)])) (fun t k => ?_) ?_
  · show Steps p.tables e below (T62.setTop (mkF m 4 #[.val (.ref a1), .val .null, .unset, .unset] [.null])) _
    refine XS.astoreN X62.here hx rfl (hb hby d6_4) rfl rfl (l' := #[.val (.ref a1), .val .null, .val .null, .unset]) rfl ?_
    show Steps p.tables e below (T62.setTop (mkF m 5 #[.val (.ref a1), .val .null, .val .null, .unset] [])) _
    refine XS.aloadN X62.here hx rfl (hb hby d6_5) rfl rfl ?_
    show Steps p.tables e below (T62.setTop (mkF m 6 #[.val (.ref a1), .val .null, .val .null, .unset] [(.ref a1)])) _
    exact k
  obtain ⟨T63, X63, e63, st63⟩ := getF X62 hx hZ hown (host := "") (Or.inl (hw _ (List.mem_of_getElem? (i := 26) rfl))) Via.refl e62 T_abs (g := (mkF m 6 #[.val (.ref a1), .val .null, .val .null, .unset] [(.ref a1)])) rfl rfl (hb hby d6_6)
  refine own_go st63 ?_
  refine own_go (B := T63.setTop (mkF m 55 #[.val (.ref a1), .val .null, .val .null, .unset] [.null])) (fun t k => ?_) ?_
  · show Steps p.tables e below (T63.setTop (mkF m 9 #[.val (.ref a1), .val .null, .val .null, .unset] [.null])) _
    refine XS.ifnullYes X63.here hx rfl (pc0 := 9) (pc' := 54) rfl (hb hby d6_9) rfl (by decide) (by decide) ?_
    show Steps p.tables e below (T63.setTop (mkF m 54 #[.val (.ref a1), .val .null, .val .null, .unset] [])) _
    refine XS.aloadN X63.here hx rfl (hb hby d6_54) rfl rfl ?_
    show Steps p.tables e below (T63.setTop (mkF m 55 #[.val (.ref a1), .val .null, .val .null, .unset] [.null])) _
    exact k
  obtain ⟨fs, hr, hrun, hended, hW, hsame⟩ := X63.leave (v := some .null) (fun h => by rw [Bd.returns] at h; cases h)
  refine ⟨_, _, ?_, hrun, hended, _, _, rfl, ?_, ⟨_, rfl⟩, hW, hsame.mono (by decide) (by decide)⟩
  · exact own_retR X63 hx Bd.returns rfl rfl (hb hby d6_55) hr
  · show Q6 Z a1 h0 n0 _ T63.heap _
    rw [e63]
    exact ⟨rfl, N0, rfl⟩
theorem pd_3 : parseMethodDescriptor "([BLcom/example/porthcurno/porthcurno/model/AmqpSections$Body;)V" = some ⟨[(.array .byte), (.object "com/example/porthcurno/porthcurno/model/AmqpSections$Body")], none⟩ := by decide +kernel
theorem pd_4 : parseMethodDescriptor "(Ljava/util/Map;[BLcom/example/porthcurno/porthcurno/model/AmqpSections;)V" = some ⟨[(.object "java/util/Map"), (.array .byte), (.object "com/example/porthcurno/porthcurno/model/AmqpSections")], none⟩ := by decide +kernel
theorem pd_5 : parseMethodDescriptor "()Z" = some ⟨[], some .boolean⟩ := by decide +kernel
theorem pd_6 : parseMethodDescriptor "(Ljava/time/Instant;)Ljava/time/Duration;" = some ⟨[(.object "java/time/Instant")], some (.object "java/time/Duration")⟩ := by decide +kernel
theorem pn_72 : plainName "com/example/porthcurno/porthcurno/model/SentMessageExpiresPinLaw" = true := by first | (simp [plainName, overriddenIn]; done) | decide +kernel
theorem ef_0 (m : MethodId) (p1 : Int32) (p2 : Int32) (p3 : Int32) : entryFrame m #[(.int p1), (.int p2), (.int p3)] maxLocals = mkF m 0 #[.val (.int p1), .val (.int p2), .val (.int p3), .unset, .unset, .unset, .unset, .unset] [] := by first | (simp [entryFrame, mkF, argsToLocals, Value.category, maxLocals]; done) | rfl
def Q0 (Z : State) (p1 : Int32) (p2 : Int32) (p3 : Int32) (w_DATA : Addr) (w_STRING_VALUE : Addr) (w_SECTIONS : Addr) (w_BINARY_VALUE : Addr) (h0 : Heap) (n0 : Nat) (v : Option Value) (h : Heap) (L : List Loc) : Prop := v = some (.int (1 : Int32)) ∧ Fr n0 L
set_option maxRecDepth 65536 in
set_option maxHeartbeats 40000000 in
theorem rm0 (l : Launch) (Z : State) (a0 : Array Value) (hw : ∀ d ∈ tables_1, d.before a0 Z = true) (ws : List Jvm.Cond) (p1 : Int32) (p2 : Int32) (p3 : Int32) (w_DATA : Addr) (w_STRING_VALUE : Addr) (w_SECTIONS : Addr) (w_BINARY_VALUE : Addr) (h0 : Heap) (n0 : Nat) (Z0 : n0 ≤ h0.size) (S_DATA : Sta Z h0 "com/example/porthcurno/porthcurno/model/AmqpSections$Body" "DATA" "Lcom/example/porthcurno/porthcurno/model/AmqpSections$Body;" (.ref w_DATA)) (S_STRING_VALUE : Sta Z h0 "com/example/porthcurno/porthcurno/model/AmqpSections$Body" "STRING_VALUE" "Lcom/example/porthcurno/porthcurno/model/AmqpSections$Body;" (.ref w_STRING_VALUE)) (S_SECTIONS : Sta Z h0 "com/example/porthcurno/porthcurno/model/AmqpSections$Body" "SECTIONS" "Lcom/example/porthcurno/porthcurno/model/AmqpSections$Body;" (.ref w_SECTIONS)) (S_BINARY_VALUE : Sta Z h0 "com/example/porthcurno/porthcurno/model/AmqpSections$Body" "BINARY_VALUE" "Lcom/example/porthcurno/porthcurno/model/AmqpSections$Body;" (.ref w_BINARY_VALUE)) :
    MetFree l x (head1 (Jvm.Cond.code x code maxLocals ret :: ws) room_1) (fun a U => a = #[(.int p1), (.int p2), (.int p3)] ∧ Z.Warmed39 U.vm ∧ U.heap = h0) (fun _ _ _ _ _ => True) (fun _ U o U' => ∃ v L, o = .returned v ∧ Q0 Z p1 p2 p3 w_DATA w_STRING_VALUE w_SECTIONS w_BINARY_VALUE h0 n0 v U'.heap L ∧ ReturnedEndW U o U' L room_1.cells room_1.slots) := by
  refine MetFree.of_bodySF (plainFor_of_name pn_72) hisR ?_
  intro p e s m args below meth c s₁ Bd hml0 hP hK
  obtain ⟨rfl, hZ, hh⟩ := hP
  have hx := Bd.exec
  have hby := Bd.bytes
  have hml : c.maxLocals = 8 := hml0
  have hown : s.vm.findClass "com/example/porthcurno/porthcurno/model/SentMessageExpiresPinLaw" = some m.cls := findClass_of_methodNamed Bd.named
  have hnm := (name_of_methodNamed Bd.named Bd.method).1
  have X0 : Stand p l e room_1 s m #[(.int p1), (.int p2), (.int p3)] below meth c s₁ [] 0 0 := Stand.of_body Bd
  have e0 : s₁.heap = h0 := by rw [← hh, Bd.state]; rfl
  have N0 := Fr.nil n0
  refine own_go (B := s₁.setTop (mkF m 0 #[.val (.int p1), .val (.int p2), .val (.int p3), .unset, .unset, .unset, .unset, .unset] [])) (fun t k => castTop (ef_0 m p1 p2 p3) k) ?_
  refine own_go (B := s₁.setTop (mkF m 3 #[.val (.int p1), .val (.int p2), .val (.int p3), .unset, .unset, .unset, .unset, .unset] [(.int (p2 &&& (3 : Int32)))])) (fun t k => ?_) ?_
  · show Steps p.tables e below (s₁.setTop (mkF m 0 #[.val (.int p1), .val (.int p2), .val (.int p3), .unset, .unset, .unset, .unset, .unset] [])) _
    refine XS.iloadN X0.here hx rfl (hb hby at_0) rfl ?_
    show Steps p.tables e below (s₁.setTop (mkF m 1 #[.val (.int p1), .val (.int p2), .val (.int p3), .unset, .unset, .unset, .unset, .unset] [(.int p2)])) _
    refine XS.iconst X0.here hx rfl (hb hby at_1) ?_
    show Steps p.tables e below (s₁.setTop (mkF m 2 #[.val (.int p1), .val (.int p2), .val (.int p3), .unset, .unset, .unset, .unset, .unset] [(.int (3 : Int32)), (.int p2)])) _
    refine XS.iand X0.here hx rfl (hb hby at_2) rfl ?_
    show Steps p.tables e below (s₁.setTop (mkF m 3 #[.val (.int p1), .val (.int p2), .val (.int p3), .unset, .unset, .unset, .unset, .unset] [(.int (p2 &&& (3 : Int32)))])) _
    exact k
  obtain ⟨T65, h65, k65, X65, e65, E65, A65, st65⟩ := newP X0 hx hZ (hw _ (List.mem_of_getElem? (i := 0) rfl)) e0 (g := (mkF m 3 #[.val (.int p1), .val (.int p2), .val (.int p3), .unset, .unset, .unset, .unset, .unset] [(.int (p2 &&& (3 : Int32)))])) rfl (hb hby at_3) rfl (own_m3 p2).1 (cap := 3) (own_m3 p2).2 (by decide) (by decide) (by decide)
  obtain ⟨b65, g65⟩ : ∃ z, z = h0.size := ⟨_, rfl⟩
  rw [← g65] at A65 st65
  refine own_go st65 ?_
  have K65 : Keep h0 h65 [] := Keep.ext (Keep.refl h0 []) E65
  have V65 : Arv Z h65 b65 k65 .byte (p2 &&& (3 : Int32)) [] (.int (0 : Int32)) := Arv.new A65 (own_m3 p2).1
  refine own_go (B := T65.setTop (mkF m 7 #[.val (.int p1), .val (.int p2), .val (.int p3), .val (.ref b65), .unset, .unset, .unset, .unset] [(.ref b65)])) (fun t k => ?_) ?_
  · show Steps p.tables e below (T65.setTop (mkF m 5 #[.val (.int p1), .val (.int p2), .val (.int p3), .unset, .unset, .unset, .unset, .unset] [(.ref b65)])) _
    refine XS.astoreN X65.here hx rfl (hb hby at_5) rfl rfl (l' := #[.val (.int p1), .val (.int p2), .val (.int p3), .val (.ref b65), .unset, .unset, .unset, .unset]) rfl ?_
    show Steps p.tables e below (T65.setTop (mkF m 6 #[.val (.int p1), .val (.int p2), .val (.int p3), .val (.ref b65), .unset, .unset, .unset, .unset] [])) _
    refine XS.aloadN X65.here hx rfl (hb hby at_6) rfl rfl ?_
    show Steps p.tables e below (T65.setTop (mkF m 7 #[.val (.int p1), .val (.int p2), .val (.int p3), .val (.ref b65), .unset, .unset, .unset, .unset] [(.ref b65)])) _
    exact k
  obtain ⟨cl66, Ar66, cq66, cS66, cN66, cH66, cG66⟩ := id V65
  refine own_go (B := T65.setTop (mkF m 8 #[.val (.int p1), .val (.int p2), .val (.int p3), .val (.ref b65), .unset, .unset, .unset, .unset] [(.int (p2 &&& (3 : Int32)))])) (fun t k => ?_) ?_
  · show Steps p.tables e below (T65.setTop (mkF m 7 #[.val (.int p1), .val (.int p2), .val (.int p3), .val (.ref b65), .unset, .unset, .unset, .unset] [(.ref b65)])) _
    refine X65.arraylength hx (by rw [e65]; exact Ar66.1) (State.isArrayOf_alike hZ.alike Ar66.2.1) (g := (mkF m 7 #[.val (.int p1), .val (.int p2), .val (.int p3), .val (.ref b65), .unset, .unset, .unset, .unset] [(.ref b65)])) rfl rfl (hb hby at_7) _ ?_
    rw [len_of cS66 cN66]
    show Steps p.tables e below (T65.setTop (mkF m 8 #[.val (.int p1), .val (.int p2), .val (.int p3), .val (.ref b65), .unset, .unset, .unset, .unset] [(.int (p2 &&& (3 : Int32)))])) _
    exact k
  by_cases hc67 : (0 : Int32) < (p2 &&& (3 : Int32))
  · refine own_go (B := T65.setTop (mkF m 15 #[.val (.int p1), .val (.int p2), .val (.int p3), .val (.ref b65), .unset, .unset, .unset, .unset] [(.int (p3.toInt8.toInt32)), (.int (0 : Int32)), (.ref b65)])) (fun t k => ?_) ?_
    · show Steps p.tables e below (T65.setTop (mkF m 8 #[.val (.int p1), .val (.int p2), .val (.int p3), .val (.ref b65), .unset, .unset, .unset, .unset] [(.int (p2 &&& (3 : Int32)))])) _
      refine XS.ifNo X65.here hx rfl (hb hby at_8) rfl ((if0 _ _).trans (tlt hc67).2.2.2) ?_
      show Steps p.tables e below (T65.setTop (mkF m 11 #[.val (.int p1), .val (.int p2), .val (.int p3), .val (.ref b65), .unset, .unset, .unset, .unset] [])) _
      refine XS.aloadN X65.here hx rfl (hb hby at_11) rfl rfl ?_
      show Steps p.tables e below (T65.setTop (mkF m 12 #[.val (.int p1), .val (.int p2), .val (.int p3), .val (.ref b65), .unset, .unset, .unset, .unset] [(.ref b65)])) _
      refine XS.iconst X65.here hx rfl (hb hby at_12) ?_
      show Steps p.tables e below (T65.setTop (mkF m 13 #[.val (.int p1), .val (.int p2), .val (.int p3), .val (.ref b65), .unset, .unset, .unset, .unset] [(.int (0 : Int32)), (.ref b65)])) _
      refine XS.iloadN X65.here hx rfl (hb hby at_13) rfl ?_
      show Steps p.tables e below (T65.setTop (mkF m 14 #[.val (.int p1), .val (.int p2), .val (.int p3), .val (.ref b65), .unset, .unset, .unset, .unset] [(.int p3), (.int (0 : Int32)), (.ref b65)])) _
      refine XS.i2b X65.here hx rfl (hb hby at_14) rfl ?_
      show Steps p.tables e below (T65.setTop (mkF m 15 #[.val (.int p1), .val (.int p2), .val (.int p3), .val (.ref b65), .unset, .unset, .unset, .unset] [(.int (p3.toInt8.toInt32)), (.int (0 : Int32)), (.ref b65)])) _
      exact k
    obtain ⟨cl68, Ar68, cq68, cS68, cN68, cH68, cG68⟩ := id V65
    have hin68 : ¬ ((0 : Int32) < 0 ∨ cl68.slots.size ≤ ((0 : Int32)).toNatClampNeg) := inb_of cS68 ⟨by decide, hc67⟩
    obtain ⟨T68, h68, X68, e68, W68, st68⟩ := stB X65 hx hZ e65 Ar68 (j := (0 : Int32)) hin68 (g := (mkF m 15 #[.val (.int p1), .val (.int p2), .val (.int p3), .val (.ref b65), .unset, .unset, .unset, .unset] [(.int (p3.toInt8.toInt32)), (.int (0 : Int32)), (.ref b65)])) rfl rfl (hb hby at_15)
    refine own_go st68 ?_
    have K68 : Keep h0 h68 [] := Keep.wr K65 W68 (Or.inr (Nat.le_of_eq g65.symm))
    have N68 := Fr.snoc X68 N0 (Nat.le_trans Z0 (Nat.le_of_eq g65.symm))
    refine own_go (B := T68.setTop (mkF m 21 #[.val (.int p1), .val (.int p2), .val (.int p3), .val (.ref b65), .unset, .unset, .unset, .unset] [(.int (((p2.toUInt32 >>> ((2 : Int32) &&& 31).toUInt32).toInt32) &&& (3 : Int32)))])) (fun t k => ?_) ?_
    · show Steps p.tables e below (T68.setTop (mkF m 16 #[.val (.int p1), .val (.int p2), .val (.int p3), .val (.ref b65), .unset, .unset, .unset, .unset] [])) _
      refine XS.iloadN X68.here hx rfl (hb hby at_16) rfl ?_
      show Steps p.tables e below (T68.setTop (mkF m 17 #[.val (.int p1), .val (.int p2), .val (.int p3), .val (.ref b65), .unset, .unset, .unset, .unset] [(.int p2)])) _
      refine XS.iconst X68.here hx rfl (hb hby at_17) ?_
      show Steps p.tables e below (T68.setTop (mkF m 18 #[.val (.int p1), .val (.int p2), .val (.int p3), .val (.ref b65), .unset, .unset, .unset, .unset] [(.int (2 : Int32)), (.int p2)])) _
      refine XS.iushr X68.here hx rfl (hb hby at_18) rfl ?_
      show Steps p.tables e below (T68.setTop (mkF m 19 #[.val (.int p1), .val (.int p2), .val (.int p3), .val (.ref b65), .unset, .unset, .unset, .unset] [(.int ((p2.toUInt32 >>> ((2 : Int32) &&& 31).toUInt32).toInt32))])) _
      refine XS.iconst X68.here hx rfl (hb hby at_19) ?_
      show Steps p.tables e below (T68.setTop (mkF m 20 #[.val (.int p1), .val (.int p2), .val (.int p3), .val (.ref b65), .unset, .unset, .unset, .unset] [(.int (3 : Int32)), (.int ((p2.toUInt32 >>> ((2 : Int32) &&& 31).toUInt32).toInt32))])) _
      refine XS.iand X68.here hx rfl (hb hby at_20) rfl ?_
      show Steps p.tables e below (T68.setTop (mkF m 21 #[.val (.int p1), .val (.int p2), .val (.int p3), .val (.ref b65), .unset, .unset, .unset, .unset] [(.int (((p2.toUInt32 >>> ((2 : Int32) &&& 31).toUInt32).toInt32) &&& (3 : Int32)))])) _
      exact k
    obtain ⟨T69, h69, k69, X69, e69, E69, A69, st69⟩ := newP X68 hx hZ (hw _ (List.mem_of_getElem? (i := 0) rfl)) e68 (g := (mkF m 21 #[.val (.int p1), .val (.int p2), .val (.int p3), .val (.ref b65), .unset, .unset, .unset, .unset] [(.int (((p2.toUInt32 >>> ((2 : Int32) &&& 31).toUInt32).toInt32) &&& (3 : Int32)))])) rfl (hb hby at_21) rfl (own_m3 ((p2.toUInt32 >>> ((2 : Int32) &&& 31).toUInt32).toInt32)).1 (cap := 3) (own_m3 ((p2.toUInt32 >>> ((2 : Int32) &&& 31).toUInt32).toInt32)).2 (by decide) (by decide) (by decide)
    obtain ⟨b69, g69⟩ : ∃ z, z = h68.size := ⟨_, rfl⟩
    rw [← g69] at A69 st69
    refine own_go st69 ?_
    have K69 : Keep h0 h69 [] := Keep.ext K68 E69
    have V69 : Arv Z h69 b69 k69 .byte (((p2.toUInt32 >>> ((2 : Int32) &&& 31).toUInt32).toInt32) &&& (3 : Int32)) [] (.int (0 : Int32)) := Arv.new A69 (own_m3 ((p2.toUInt32 >>> ((2 : Int32) &&& 31).toUInt32).toInt32)).1
    refine own_go (B := T69.setTop (mkF m 37 #[.val (.int p1), .val (.int p2), .val (.int p3), .val (.ref b65), .val (.ref b69), .val .null, .val (.int (p1 &&& (7 : Int32))), .unset] [(.int (1 : Int32)), (.int (p1 &&& (7 : Int32)))])) (fun t k => ?_) ?_
    · show Steps p.tables e below (T69.setTop (mkF m 23 #[.val (.int p1), .val (.int p2), .val (.int p3), .val (.ref b65), .unset, .unset, .unset, .unset] [(.ref b69)])) _
      refine XS.astore X69.here hx rfl (hb hby at_23) rfl rfl (l' := #[.val (.int p1), .val (.int p2), .val (.int p3), .val (.ref b65), .val (.ref b69), .unset, .unset, .unset]) rfl ?_
      show Steps p.tables e below (T69.setTop (mkF m 25 #[.val (.int p1), .val (.int p2), .val (.int p3), .val (.ref b65), .val (.ref b69), .unset, .unset, .unset] [])) _
      refine XS.aconstNull X69.here hx rfl (hb hby at_25) ?_
      show Steps p.tables e below (T69.setTop (mkF m 26 #[.val (.int p1), .val (.int p2), .val (.int p3), .val (.ref b65), .val (.ref b69), .unset, .unset, .unset] [.null])) _
      refine XS.astore X69.here hx rfl (hb hby at_26) rfl rfl (l' := #[.val (.int p1), .val (.int p2), .val (.int p3), .val (.ref b65), .val (.ref b69), .val .null, .unset, .unset]) rfl ?_
      show Steps p.tables e below (T69.setTop (mkF m 28 #[.val (.int p1), .val (.int p2), .val (.int p3), .val (.ref b65), .val (.ref b69), .val .null, .unset, .unset] [])) _
      refine XS.iloadN X69.here hx rfl (hb hby at_28) rfl ?_
      show Steps p.tables e below (T69.setTop (mkF m 29 #[.val (.int p1), .val (.int p2), .val (.int p3), .val (.ref b65), .val (.ref b69), .val .null, .unset, .unset] [(.int p1)])) _
      refine XS.bipush X69.here hx rfl (hb hby at_29) ?_
      show Steps p.tables e below (T69.setTop (mkF m 31 #[.val (.int p1), .val (.int p2), .val (.int p3), .val (.ref b65), .val (.ref b69), .val .null, .unset, .unset] [(.int (7 : Int32)), (.int p1)])) _
      refine XS.iand X69.here hx rfl (hb hby at_31) rfl ?_
      show Steps p.tables e below (T69.setTop (mkF m 32 #[.val (.int p1), .val (.int p2), .val (.int p3), .val (.ref b65), .val (.ref b69), .val .null, .unset, .unset] [(.int (p1 &&& (7 : Int32)))])) _
      refine XS.istore X69.here hx rfl (hb hby at_32) rfl (l' := #[.val (.int p1), .val (.int p2), .val (.int p3), .val (.ref b65), .val (.ref b69), .val .null, .val (.int (p1 &&& (7 : Int32))), .unset]) rfl ?_
      show Steps p.tables e below (T69.setTop (mkF m 34 #[.val (.int p1), .val (.int p2), .val (.int p3), .val (.ref b65), .val (.ref b69), .val .null, .val (.int (p1 &&& (7 : Int32))), .unset] [])) _
      refine XS.iload X69.here hx rfl (hb hby at_34) rfl ?_
      show Steps p.tables e below (T69.setTop (mkF m 36 #[.val (.int p1), .val (.int p2), .val (.int p3), .val (.ref b65), .val (.ref b69), .val .null, .val (.int (p1 &&& (7 : Int32))), .unset] [(.int (p1 &&& (7 : Int32)))])) _
      refine XS.iconst X69.here hx rfl (hb hby at_36) ?_
      show Steps p.tables e below (T69.setTop (mkF m 37 #[.val (.int p1), .val (.int p2), .val (.int p3), .val (.ref b65), .val (.ref b69), .val .null, .val (.int (p1 &&& (7 : Int32))), .unset] [(.int (1 : Int32)), (.int (p1 &&& (7 : Int32)))])) _
      exact k
    by_cases hc70 : (p1 &&& (7 : Int32)) = (1 : Int32)
    · refine own_go (B := T69.setTop (mkF m 40 #[.val (.int p1), .val (.int p2), .val (.int p3), .val (.ref b65), .val (.ref b69), .val .null, .val (.int (p1 &&& (7 : Int32))), .unset] [])) (fun t k => ?_) ?_
      · show Steps p.tables e below (T69.setTop (mkF m 37 #[.val (.int p1), .val (.int p2), .val (.int p3), .val (.ref b65), .val (.ref b69), .val .null, .val (.int (p1 &&& (7 : Int32))), .unset] [(.int (1 : Int32)), (.int (p1 &&& (7 : Int32)))])) _
        refine XS.icmpNo X69.here hx rfl (hb hby at_37) rfl (teq hc70).2 ?_
        show Steps p.tables e below (T69.setTop (mkF m 40 #[.val (.int p1), .val (.int p2), .val (.int p3), .val (.ref b65), .val (.ref b69), .val .null, .val (.int (p1 &&& (7 : Int32))), .unset] [])) _
        exact k
      obtain ⟨T71, h71, X71, e71, E71, A71, D71, -, st71⟩ := newO X69 hx hZ hown (hw _ (List.mem_of_getElem? (i := 38) rfl)) (hw _ (List.mem_of_getElem? (i := 39) rfl)) (hw _ (List.mem_of_getElem? (i := 40) rfl)) e69 (g := (mkF m 40 #[.val (.int p1), .val (.int p2), .val (.int p3), .val (.ref b65), .val (.ref b69), .val .null, .val (.int (p1 &&& (7 : Int32))), .unset] [])) rfl (hb hby at_40) (by decide) (by decide)
      obtain ⟨b71, g71⟩ : ∃ z, z = h69.size := ⟨_, rfl⟩
      rw [← g71] at A71 D71 st71
      refine own_go st71 ?_
      have K71 : Keep h0 h71 [] := Keep.ext K69 E71
      have F71_61 : Fld Z h71 b71 "com/example/porthcurno/porthcurno/model/AmqpSections" "sections" "[B" .null := D71 (Or.inr (hw _ (List.mem_of_getElem? (i := 61) rfl))) (ty := (.array .byte)) (by decide)
      have F71_63 : Fld Z h71 b71 "com/example/porthcurno/porthcurno/model/AmqpSections" "body" "Lcom/example/porthcurno/porthcurno/model/AmqpSections$Body;" .null := D71 (Or.inr (hw _ (List.mem_of_getElem? (i := 63) rfl))) (ty := (.object "com/example/porthcurno/porthcurno/model/AmqpSections$Body")) (by decide)
      refine own_go (B := T71.setTop (mkF m 46 #[.val (.int p1), .val (.int p2), .val (.int p3), .val (.ref b65), .val (.ref b69), .val .null, .val (.int (p1 &&& (7 : Int32))), .unset] [(.ref b69), (.ref b71), (.ref b71)])) (fun t k => ?_) ?_
      · show Steps p.tables e below (T71.setTop (mkF m 43 #[.val (.int p1), .val (.int p2), .val (.int p3), .val (.ref b65), .val (.ref b69), .val .null, .val (.int (p1 &&& (7 : Int32))), .unset] [(.ref b71)])) _
        refine XS.dup X71.here hx rfl (hb hby at_43) rfl rfl ?_
        show Steps p.tables e below (T71.setTop (mkF m 44 #[.val (.int p1), .val (.int p2), .val (.int p3), .val (.ref b65), .val (.ref b69), .val .null, .val (.int (p1 &&& (7 : Int32))), .unset] [(.ref b71), (.ref b71)])) _
        refine XS.aload X71.here hx rfl (hb hby at_44) rfl rfl ?_
        show Steps p.tables e below (T71.setTop (mkF m 46 #[.val (.int p1), .val (.int p2), .val (.int p3), .val (.ref b65), .val (.ref b69), .val .null, .val (.int (p1 &&& (7 : Int32))), .unset] [(.ref b69), (.ref b71), (.ref b71)])) _
        exact k
      have f73 : Sta Z h71 "com/example/porthcurno/porthcurno/model/AmqpSections$Body" "DATA" "Lcom/example/porthcurno/porthcurno/model/AmqpSections$Body;" (.ref w_DATA) := ((((S_DATA.ext E65).wr W68).ext E69).ext E71)
      obtain ⟨T72, X72, e72, st72⟩ := getS2 X71 hx hZ hown (host := "") (Or.inl (hw _ (List.mem_of_getElem? (i := 41) rfl))) Via.refl e71 f73 (g := (mkF m 46 #[.val (.int p1), .val (.int p2), .val (.int p3), .val (.ref b65), .val (.ref b69), .val .null, .val (.int (p1 &&& (7 : Int32))), .unset] [(.ref b69), (.ref b71), (.ref b71)])) rfl (hb hby at_46)
      refine own_go st72 ?_
      have le75 : h0.size ≤ h69.size := (Nat.le_trans (Nat.le_trans E65.1 (Nat.le_of_eq (Wr.size W68).symm)) E69.1)
      have le76 : h0.size ≤ h71.size := (Nat.le_trans (Nat.le_trans (Nat.le_trans E65.1 (Nat.le_of_eq (Wr.size W68).symm)) E69.1) E71.1)
      obtain ⟨_, _, ⟨T74, L74, k74, n74⟩, -, X74, S74, G74, ⟨Lc74, hQ74, l74, y74, z74⟩, st74⟩ := X72.specialBackS hx (y := (⟨"com/example/porthcurno/porthcurno/model/AmqpSections", "<init>", "([BLcom/example/porthcurno/porthcurno/model/AmqpSections$Body;)V"⟩ : MethodName)) rfl hown (mvT hZ (hw _ (List.mem_of_getElem? (i := 44) rfl))) (mvT hZ (hw _ (List.mem_of_getElem? (i := 45) rfl))) (mvT hZ (hw _ (List.mem_of_getElem? (i := 46) rfl))) (by decide) (backOfS (W := 1) (rm7 l Z a0 hw [] b71 b69 w_DATA h71 n0 (Nat.le_trans Z0 le76) A71 F71_61 F71_63 (Nat.le_trans (Nat.le_trans Z0 le75) (Nat.le_of_eq g71.symm))) hZ (hw _ (List.mem_of_getElem? (i := 46) rfl)) (hw _ (List.mem_of_getElem? (i := 40) rfl)) (by decide) (by decide)) (g := (mkF m 49 #[.val (.int p1), .val (.int p2), .val (.int p3), .val (.ref b65), .val (.ref b69), .val .null, .val (.int (p1 &&& (7 : Int32))), .unset] [(.ref w_DATA), (.ref b69), (.ref b71), (.ref b71)])) rfl (by rw [hml]; rfl) (Steps.refl _) (a := b71) (argsL := [(.ref b69), (.ref w_DATA)]) (rest := [(.ref b71)]) (lenOf pd_3 rfl) rfl (by show 2 * 0 + _ ≤ _; exact Nat.le_of_eq rfl) (hb hby at_49) (fun _ _ => ⟨rfl, e72, (by decide : 3 + 4 ≤ _), (by decide : 8 + 56 ≤ _)⟩)
      dsimp only [Pt.U, Pt.locs, Pt.cells, Pt.slots] at X74 S74 G74 l74 y74 z74 st74 hQ74
      subst l74 y74 z74
      obtain ⟨rfl, M74, q74_0⟩ := hQ74
      have N74 := Fr.app N68 M74
      have hS74 : s.Since T74.vm T74.heap.size := S74
      have hZ74 : Z.Warmed39 (s.setVm T74.vm).vm := State.Warmed39.trans (t := s) hZ S74.1
      have ho74 : (s.setVm T74.vm).vm.findClass "com/example/porthcurno/porthcurno/model/SentMessageExpiresPinLaw" = some m.cls := by rw [show (s.setVm T74.vm).vm = T74.vm from rfl, S74.1.alike.findClass]; exact hown
      replace X74 : Stand p l e _ (s.setVm T74.vm) m _ below meth c T74 _ _ _ := X74
      have K74 : Keep h0 T74.heap [] := Keep.trans K71 q74_0 (allS (Or.inr (Nat.le_trans le75 (Nat.le_of_eq g71.symm))) all0)
      refine own_go (fun t k => st74.trans k) ?_
      refine own_go (B := T74.setTop (mkF m 123 #[.val (.int p1), .val (.int p2), .val (.int p3), .val (.ref b65), .val (.ref b69), .val (.ref b71), .val (.int (p1 &&& (7 : Int32))), .unset] [])) (fun t k => ?_) ?_
      · show Steps p.tables e below (T74.setTop (mkF m 52 #[.val (.int p1), .val (.int p2), .val (.int p3), .val (.ref b65), .val (.ref b69), .val .null, .val (.int (p1 &&& (7 : Int32))), .unset] [(.ref b71)])) _
        refine XS.astore X74.here hx rfl (hb hby at_52) rfl rfl (l' := #[.val (.int p1), .val (.int p2), .val (.int p3), .val (.ref b65), .val (.ref b69), .val (.ref b71), .val (.int (p1 &&& (7 : Int32))), .unset]) rfl ?_
        show Steps p.tables e below (T74.setTop (mkF m 54 #[.val (.int p1), .val (.int p2), .val (.int p3), .val (.ref b65), .val (.ref b69), .val (.ref b71), .val (.int (p1 &&& (7 : Int32))), .unset] [])) _
        refine XS.goto X74.here hx rfl (pc0 := 54) (pc' := 123) rfl (hb hby at_54) (by decide) (by decide) ?_
        show Steps p.tables e below (T74.setTop (mkF m 123 #[.val (.int p1), .val (.int p2), .val (.int p3), .val (.ref b65), .val (.ref b69), .val (.ref b71), .val (.int (p1 &&& (7 : Int32))), .unset] [])) _
        exact k
      obtain ⟨T77, h77, X77, e77, E77, A77, D77, -, st77⟩ := newO X74 hx hZ74 ho74 (hw _ (List.mem_of_getElem? (i := 1) rfl)) (hw _ (List.mem_of_getElem? (i := 2) rfl)) (hw _ (List.mem_of_getElem? (i := 3) rfl)) rfl (g := (mkF m 123 #[.val (.int p1), .val (.int p2), .val (.int p3), .val (.ref b65), .val (.ref b69), .val (.ref b71), .val (.int (p1 &&& (7 : Int32))), .unset] [])) rfl (hb hby at_123) (by decide) (by decide)
      obtain ⟨b77, g77⟩ : ∃ z, z = T74.heap.size := ⟨_, rfl⟩
      rw [← g77] at A77 D77 st77
      refine own_go st77 ?_
      have K77 : Keep h0 h77 [] := Keep.ext K74 E77
      have F77_19 : Fld Z h77 b77 "com/example/porthcurno/porthcurno/model/SentMessage" "properties" "Ljava/util/Map;" .null := D77 (Or.inr (hw _ (List.mem_of_getElem? (i := 19) rfl))) (ty := (.object "java/util/Map")) (by decide)
      have F77_21 : Fld Z h77 b77 "com/example/porthcurno/porthcurno/model/SentMessage" "body" "[B" .null := D77 (Or.inr (hw _ (List.mem_of_getElem? (i := 21) rfl))) (ty := (.array .byte)) (by decide)
      have F77_23 : Fld Z h77 b77 "com/example/porthcurno/porthcurno/model/SentMessage" "amqp" "Lcom/example/porthcurno/porthcurno/model/AmqpSections;" .null := D77 (Or.inr (hw _ (List.mem_of_getElem? (i := 23) rfl))) (ty := (.object "com/example/porthcurno/porthcurno/model/AmqpSections")) (by decide)
      have F77_25 : Fld Z h77 b77 "com/example/porthcurno/porthcurno/model/SentMessage" "timeToLive" "Ljava/time/Duration;" .null := D77 (Or.inr (hw _ (List.mem_of_getElem? (i := 25) rfl))) (ty := (.object "java/time/Duration")) (by decide)
      have F77_27 : Fld Z h77 b77 "com/example/porthcurno/porthcurno/model/SentMessage" "absoluteExpiryTime" "Ljava/time/Instant;" .null := D77 (Or.inr (hw _ (List.mem_of_getElem? (i := 27) rfl))) (ty := (.object "java/time/Instant")) (by decide)
      refine own_go (B := T77.setTop (mkF m 131 #[.val (.int p1), .val (.int p2), .val (.int p3), .val (.ref b65), .val (.ref b69), .val (.ref b71), .val (.int (p1 &&& (7 : Int32))), .unset] [(.ref b71), (.ref b65), .null, (.ref b77), (.ref b77)])) (fun t k => ?_) ?_
      · show Steps p.tables e below (T77.setTop (mkF m 126 #[.val (.int p1), .val (.int p2), .val (.int p3), .val (.ref b65), .val (.ref b69), .val (.ref b71), .val (.int (p1 &&& (7 : Int32))), .unset] [(.ref b77)])) _
        refine XS.dup X77.here hx rfl (hb hby at_126) rfl rfl ?_
        show Steps p.tables e below (T77.setTop (mkF m 127 #[.val (.int p1), .val (.int p2), .val (.int p3), .val (.ref b65), .val (.ref b69), .val (.ref b71), .val (.int (p1 &&& (7 : Int32))), .unset] [(.ref b77), (.ref b77)])) _
        refine XS.aconstNull X77.here hx rfl (hb hby at_127) ?_
        show Steps p.tables e below (T77.setTop (mkF m 128 #[.val (.int p1), .val (.int p2), .val (.int p3), .val (.ref b65), .val (.ref b69), .val (.ref b71), .val (.int (p1 &&& (7 : Int32))), .unset] [.null, (.ref b77), (.ref b77)])) _
        refine XS.aloadN X77.here hx rfl (hb hby at_128) rfl rfl ?_
        show Steps p.tables e below (T77.setTop (mkF m 129 #[.val (.int p1), .val (.int p2), .val (.int p3), .val (.ref b65), .val (.ref b69), .val (.ref b71), .val (.int (p1 &&& (7 : Int32))), .unset] [(.ref b65), .null, (.ref b77), (.ref b77)])) _
        refine XS.aload X77.here hx rfl (hb hby at_129) rfl rfl ?_
        show Steps p.tables e below (T77.setTop (mkF m 131 #[.val (.int p1), .val (.int p2), .val (.int p3), .val (.ref b65), .val (.ref b69), .val (.ref b71), .val (.int (p1 &&& (7 : Int32))), .unset] [(.ref b71), (.ref b65), .null, (.ref b77), (.ref b77)])) _
        exact k
      have le79 : h0.size ≤ T74.heap.size := (Nat.le_trans (Nat.le_trans (Nat.le_trans (Nat.le_trans E65.1 (Nat.le_of_eq (Wr.size W68).symm)) E69.1) E71.1) q74_0.1)
      have le80 : h0.size ≤ h77.size := (Nat.le_trans (Nat.le_trans (Nat.le_trans (Nat.le_trans (Nat.le_trans E65.1 (Nat.le_of_eq (Wr.size W68).symm)) E69.1) E71.1) q74_0.1) E77.1)
      obtain ⟨_, _, ⟨T78, L78, k78, n78⟩, -, X78, ⟨Lc78, hQ78, l78, y78, z78⟩, st78⟩ := X77.specialBack hx (y := (⟨"com/example/porthcurno/porthcurno/model/SentMessage", "<init>", "(Ljava/util/Map;[BLcom/example/porthcurno/porthcurno/model/AmqpSections;)V"⟩ : MethodName)) rfl ho74 (mvT hZ74 (hw _ (List.mem_of_getElem? (i := 4) rfl))) (mvT hZ74 (hw _ (List.mem_of_getElem? (i := 5) rfl))) (mvT hZ74 (hw _ (List.mem_of_getElem? (i := 6) rfl))) (by decide) (backOf (W := 1) (rm1 l Z a0 hw [] b77 b65 b71 h77 n0 (Nat.le_trans Z0 le80) A77 F77_19 F77_21 F77_23 F77_25 F77_27 (Nat.le_trans (Nat.le_trans Z0 le79) (Nat.le_of_eq g77.symm))) hZ74 (hw _ (List.mem_of_getElem? (i := 6) rfl)) (hw _ (List.mem_of_getElem? (i := 3) rfl)) (by decide) (by decide)) (g := (mkF m 131 #[.val (.int p1), .val (.int p2), .val (.int p3), .val (.ref b65), .val (.ref b69), .val (.ref b71), .val (.int (p1 &&& (7 : Int32))), .unset] [(.ref b71), (.ref b65), .null, (.ref b77), (.ref b77)])) rfl (by rw [hml]; rfl) (Steps.refl _) (a := b77) (argsL := [.null, (.ref b65), (.ref b71)]) (rest := [(.ref b77)]) (lenOf pd_4 rfl) rfl (by show 2 * 0 + _ ≤ _; exact Nat.le_of_eq rfl) (hb hby at_131) (fun _ _ => ⟨rfl, e77, (by decide : 8 + 0 ≤ _), (by decide : 69 + 0 ≤ _)⟩)
      dsimp only [Pt.U, Pt.locs, Pt.cells, Pt.slots] at X78 l78 y78 z78 st78 hQ78
      subst l78 y78 z78
      obtain ⟨rfl, M78, q78_0, q78_1, q78_2, q78_3⟩ := hQ78
      have N78 := Fr.app N74 M78
      have K78 : Keep h0 T78.heap [] := Keep.trans K77 q78_0 (allS (Or.inr (Nat.le_trans le79 (Nat.le_of_eq g77.symm))) all0)
      refine own_go (fun t k => st78.trans k) ?_
      refine own_go (B := T78.setTop (mkF m 138 #[.val (.int p1), .val (.int p2), .val (.int p3), .val (.ref b65), .val (.ref b69), .val (.ref b71), .val (.int (p1 &&& (7 : Int32))), .val (.ref b77)] [(.ref b77)])) (fun t k => ?_) ?_
      · show Steps p.tables e below (T78.setTop (mkF m 134 #[.val (.int p1), .val (.int p2), .val (.int p3), .val (.ref b65), .val (.ref b69), .val (.ref b71), .val (.int (p1 &&& (7 : Int32))), .unset] [(.ref b77)])) _
        refine XS.astore X78.here hx rfl (hb hby at_134) rfl rfl (l' := #[.val (.int p1), .val (.int p2), .val (.int p3), .val (.ref b65), .val (.ref b69), .val (.ref b71), .val (.int (p1 &&& (7 : Int32))), .val (.ref b77)]) rfl ?_
        show Steps p.tables e below (T78.setTop (mkF m 136 #[.val (.int p1), .val (.int p2), .val (.int p3), .val (.ref b65), .val (.ref b69), .val (.ref b71), .val (.int (p1 &&& (7 : Int32))), .val (.ref b77)] [])) _
        refine XS.aload X78.here hx rfl (hb hby at_136) rfl rfl ?_
        show Steps p.tables e below (T78.setTop (mkF m 138 #[.val (.int p1), .val (.int p2), .val (.int p3), .val (.ref b65), .val (.ref b69), .val (.ref b71), .val (.int (p1 &&& (7 : Int32))), .val (.ref b77)] [(.ref b77)])) _
        exact k
      have le82 : h0.size ≤ T78.heap.size := (Nat.le_trans (Nat.le_trans (Nat.le_trans (Nat.le_trans (Nat.le_trans (Nat.le_trans E65.1 (Nat.le_of_eq (Wr.size W68).symm)) E69.1) E71.1) q74_0.1) E77.1) q78_0.1)
      obtain ⟨cq81, kq81, q81a, q81b, q81c⟩ := isOf hZ74 rfl q78_1
      obtain ⟨_, _, ⟨T81, L81, k81, n81⟩, -, X81, ⟨Lc81, hQ81, l81, y81, z81⟩, st81⟩ := X78.virtualBack hx (y := (⟨"com/example/porthcurno/porthcurno/model/SentMessage", "expires", "()Z"⟩ : MethodName)) (z := (⟨"com/example/porthcurno/porthcurno/model/SentMessage", "expires", "()Z"⟩ : MethodName)) ho74 (mvT hZ74 (hw _ (List.mem_of_getElem? (i := 28) rfl))) (mvT hZ74 (hw _ (List.mem_of_getElem? (i := 29) rfl))) (notFace_of_selects (args := #[]) (mvT hZ74 (hw _ (List.mem_of_getElem? (i := 31) rfl)))) (mvT hZ74 (hw _ (List.mem_of_getElem? (i := 31) rfl))) (mvT hZ74 (hw _ (List.mem_of_getElem? (i := 30) rfl))) (by decide) (backOf (W := 0) (rm5 l Z a0 hw [] b77 T78.heap n0 (Nat.le_trans Z0 le82) q78_2 q78_3) hZ74 (hw _ (List.mem_of_getElem? (i := 32) rfl)) (hw _ (List.mem_of_getElem? (i := 3) rfl)) (by decide) (by decide)) q81a q81c (g := (mkF m 138 #[.val (.int p1), .val (.int p2), .val (.int p3), .val (.ref b65), .val (.ref b69), .val (.ref b71), .val (.int (p1 &&& (7 : Int32))), .val (.ref b77)] [(.ref b77)])) rfl (by rw [hml]; rfl) (Steps.refl _) (argsL := []) (rest := []) (lenOf pd_5 rfl) rfl (by show 2 * 0 + _ ≤ _; exact Nat.le_of_eq rfl) (hb hby at_138) (fun _ _ => ⟨rfl, rfl, (by decide : 8 + 0 ≤ _), (by decide : 69 + 0 ≤ _)⟩)
      dsimp only [Pt.U, Pt.locs, Pt.cells, Pt.slots] at X81 l81 y81 z81 st81 hQ81
      subst l81 y81 z81
      obtain ⟨rfl, M81, q81_0⟩ := hQ81
      have N81 := Fr.app N78 M81
      refine own_go (fun t k => st81.trans k) ?_
      refine own_go (B := T81.setTop (mkF m 147 #[.val (.int p1), .val (.int p2), .val (.int p3), .val (.ref b65), .val (.ref b69), .val (.ref b71), .val (.int (p1 &&& (7 : Int32))), .val (.ref b77)] [.null, (.ref b77)])) (fun t k => ?_) ?_
      · show Steps p.tables e below (T81.setTop (mkF m 141 #[.val (.int p1), .val (.int p2), .val (.int p3), .val (.ref b65), .val (.ref b69), .val (.ref b71), .val (.int (p1 &&& (7 : Int32))), .val (.ref b77)] [(.int (0 : Int32))])) _
        refine XS.ifNo X81.here hx rfl (hb hby at_141) rfl ((if0 _ _).trans (teq (by decide : (0 : Int32) = (0 : Int32))).2) ?_
        show Steps p.tables e below (T81.setTop (mkF m 144 #[.val (.int p1), .val (.int p2), .val (.int p3), .val (.ref b65), .val (.ref b69), .val (.ref b71), .val (.int (p1 &&& (7 : Int32))), .val (.ref b77)] [])) _
        refine XS.aload X81.here hx rfl (hb hby at_144) rfl rfl ?_
        show Steps p.tables e below (T81.setTop (mkF m 146 #[.val (.int p1), .val (.int p2), .val (.int p3), .val (.ref b65), .val (.ref b69), .val (.ref b71), .val (.int (p1 &&& (7 : Int32))), .val (.ref b77)] [(.ref b77)])) _
        refine XS.aconstNull X81.here hx rfl (hb hby at_146) ?_
        show Steps p.tables e below (T81.setTop (mkF m 147 #[.val (.int p1), .val (.int p2), .val (.int p3), .val (.ref b65), .val (.ref b69), .val (.ref b71), .val (.int (p1 &&& (7 : Int32))), .val (.ref b77)] [.null, (.ref b77)])) _
        exact k
      obtain ⟨cq83, kq83, q83a, q83b, q83c⟩ := isOf hZ74 q81_0 q78_1
      obtain ⟨_, _, ⟨T83, L83, k83, n83⟩, -, X83, ⟨Lc83, hQ83, l83, y83, z83⟩, st83⟩ := X81.virtualBack hx (y := (⟨"com/example/porthcurno/porthcurno/model/SentMessage", "timeToLiveFrom", "(Ljava/time/Instant;)Ljava/time/Duration;"⟩ : MethodName)) (z := (⟨"com/example/porthcurno/porthcurno/model/SentMessage", "timeToLiveFrom", "(Ljava/time/Instant;)Ljava/time/Duration;"⟩ : MethodName)) ho74 (mvT hZ74 (hw _ (List.mem_of_getElem? (i := 33) rfl))) (mvT hZ74 (hw _ (List.mem_of_getElem? (i := 34) rfl))) (notFace_of_selects (args := #[]) (mvT hZ74 (hw _ (List.mem_of_getElem? (i := 36) rfl)))) (mvT hZ74 (hw _ (List.mem_of_getElem? (i := 36) rfl))) (mvT hZ74 (hw _ (List.mem_of_getElem? (i := 35) rfl))) (by decide) (backOf (W := 0) (rm6 l Z a0 hw [] b77 T78.heap n0 (Nat.le_trans Z0 le82) q78_2 q78_3) hZ74 (hw _ (List.mem_of_getElem? (i := 37) rfl)) (hw _ (List.mem_of_getElem? (i := 3) rfl)) (by decide) (by decide)) q83a q83c (g := (mkF m 147 #[.val (.int p1), .val (.int p2), .val (.int p3), .val (.ref b65), .val (.ref b69), .val (.ref b71), .val (.int (p1 &&& (7 : Int32))), .val (.ref b77)] [.null, (.ref b77)])) rfl (by rw [hml]; rfl) (Steps.refl _) (argsL := [.null]) (rest := []) (lenOf pd_6 rfl) rfl (by show 2 * 0 + _ ≤ _; exact Nat.le_of_eq rfl) (hb hby at_147) (fun _ _ => ⟨rfl, q81_0, (by decide : 8 + 0 ≤ _), (by decide : 69 + 0 ≤ _)⟩)
      dsimp only [Pt.U, Pt.locs, Pt.cells, Pt.slots] at X83 l83 y83 z83 st83 hQ83
      subst l83 y83 z83
      obtain ⟨rfl, M83, q83_0⟩ := hQ83
      have N83 := Fr.app N81 M83
      refine own_go (fun t k => st83.trans k) ?_
      refine own_go (B := T83.setTop (mkF m 158 #[.val (.int p1), .val (.int p2), .val (.int p3), .val (.ref b65), .val (.ref b69), .val (.ref b71), .val (.int (p1 &&& (7 : Int32))), .val (.ref b77)] [(.int (1 : Int32))])) (fun t k => ?_) ?_
      · show Steps p.tables e below (T83.setTop (mkF m 150 #[.val (.int p1), .val (.int p2), .val (.int p3), .val (.ref b65), .val (.ref b69), .val (.ref b71), .val (.int (p1 &&& (7 : Int32))), .val (.ref b77)] [.null])) _
        refine XS.ifnonnullNo X83.here hx rfl (hb hby at_150) rfl ?_
        show Steps p.tables e below (T83.setTop (mkF m 153 #[.val (.int p1), .val (.int p2), .val (.int p3), .val (.ref b65), .val (.ref b69), .val (.ref b71), .val (.int (p1 &&& (7 : Int32))), .val (.ref b77)] [])) _
        refine XS.iconst X83.here hx rfl (hb hby at_153) ?_
        show Steps p.tables e below (T83.setTop (mkF m 154 #[.val (.int p1), .val (.int p2), .val (.int p3), .val (.ref b65), .val (.ref b69), .val (.ref b71), .val (.int (p1 &&& (7 : Int32))), .val (.ref b77)] [(.int (1 : Int32))])) _
        refine XS.goto X83.here hx rfl (pc0 := 154) (pc' := 158) rfl (hb hby at_154) (by decide) (by decide) ?_
        show Steps p.tables e below (T83.setTop (mkF m 158 #[.val (.int p1), .val (.int p2), .val (.int p3), .val (.ref b65), .val (.ref b69), .val (.ref b71), .val (.int (p1 &&& (7 : Int32))), .val (.ref b77)] [(.int (1 : Int32))])) _
        exact k
      have le85 : T74.heap.size ≤ T78.heap.size := (Nat.le_trans E77.1 q78_0.1)
      obtain ⟨fs, hr, hrun, hended, hW⟩ := X83.leaveW hS74 (show _ ≤ T83.heap.size by rw [q83_0]; exact (Nat.le_trans (Nat.le_refl _) le85)) (v := some (.int (1 : Int32))) (fun h => by rw [Bd.returns] at h; cases h)
      refine ⟨_, _, ?_, hrun, hended, _, _, rfl, ?_, ⟨hW.1, hW.2.1, hW.2.2.1, hW.2.2.2.mono (by decide) (by decide)⟩⟩
      · exact retN X83 hx (t := .boolean) Bd.returns (by simp) (hb hby at_158) hr
      · show Q0 Z p1 p2 p3 w_DATA w_STRING_VALUE w_SECTIONS w_BINARY_VALUE h0 n0 _ T83.heap _
        rw [q83_0]
        exact ⟨rfl, N83⟩
    · refine own_go (B := T69.setTop (mkF m 60 #[.val (.int p1), .val (.int p2), .val (.int p3), .val (.ref b65), .val (.ref b69), .val .null, .val (.int (p1 &&& (7 : Int32))), .unset] [(.int (2 : Int32)), (.int (p1 &&& (7 : Int32)))])) (fun t k => ?_) ?_
      · show Steps p.tables e below (T69.setTop (mkF m 37 #[.val (.int p1), .val (.int p2), .val (.int p3), .val (.ref b65), .val (.ref b69), .val .null, .val (.int (p1 &&& (7 : Int32))), .unset] [(.int (1 : Int32)), (.int (p1 &&& (7 : Int32)))])) _
        refine XS.icmpYes X69.here hx rfl (pc0 := 37) (pc' := 57) rfl (hb hby at_37) rfl (feq hc70).2 (by decide) (by decide) ?_
        show Steps p.tables e below (T69.setTop (mkF m 57 #[.val (.int p1), .val (.int p2), .val (.int p3), .val (.ref b65), .val (.ref b69), .val .null, .val (.int (p1 &&& (7 : Int32))), .unset] [])) _
        refine XS.iload X69.here hx rfl (hb hby at_57) rfl ?_
        show Steps p.tables e below (T69.setTop (mkF m 59 #[.val (.int p1), .val (.int p2), .val (.int p3), .val (.ref b65), .val (.ref b69), .val .null, .val (.int (p1 &&& (7 : Int32))), .unset] [(.int (p1 &&& (7 : Int32)))])) _
        refine XS.iconst X69.here hx rfl (hb hby at_59) ?_
        show Steps p.tables e below (T69.setTop (mkF m 60 #[.val (.int p1), .val (.int p2), .val (.int p3), .val (.ref b65), .val (.ref b69), .val .null, .val (.int (p1 &&& (7 : Int32))), .unset] [(.int (2 : Int32)), (.int (p1 &&& (7 : Int32)))])) _
        exact k
      by_cases hc86 : (p1 &&& (7 : Int32)) = (2 : Int32)
      · refine own_go (B := T69.setTop (mkF m 63 #[.val (.int p1), .val (.int p2), .val (.int p3), .val (.ref b65), .val (.ref b69), .val .null, .val (.int (p1 &&& (7 : Int32))), .unset] [])) (fun t k => ?_) ?_
        · show Steps p.tables e below (T69.setTop (mkF m 60 #[.val (.int p1), .val (.int p2), .val (.int p3), .val (.ref b65), .val (.ref b69), .val .null, .val (.int (p1 &&& (7 : Int32))), .unset] [(.int (2 : Int32)), (.int (p1 &&& (7 : Int32)))])) _
          refine XS.icmpNo X69.here hx rfl (hb hby at_60) rfl (teq hc86).2 ?_
          show Steps p.tables e below (T69.setTop (mkF m 63 #[.val (.int p1), .val (.int p2), .val (.int p3), .val (.ref b65), .val (.ref b69), .val .null, .val (.int (p1 &&& (7 : Int32))), .unset] [])) _
          exact k
        obtain ⟨T87, h87, X87, e87, E87, A87, D87, -, st87⟩ := newO X69 hx hZ hown (hw _ (List.mem_of_getElem? (i := 38) rfl)) (hw _ (List.mem_of_getElem? (i := 39) rfl)) (hw _ (List.mem_of_getElem? (i := 40) rfl)) e69 (g := (mkF m 63 #[.val (.int p1), .val (.int p2), .val (.int p3), .val (.ref b65), .val (.ref b69), .val .null, .val (.int (p1 &&& (7 : Int32))), .unset] [])) rfl (hb hby at_63) (by decide) (by decide)
        obtain ⟨b87, g87⟩ : ∃ z, z = h69.size := ⟨_, rfl⟩
        rw [← g87] at A87 D87 st87
        refine own_go st87 ?_
        have K87 : Keep h0 h87 [] := Keep.ext K69 E87
        have F87_61 : Fld Z h87 b87 "com/example/porthcurno/porthcurno/model/AmqpSections" "sections" "[B" .null := D87 (Or.inr (hw _ (List.mem_of_getElem? (i := 61) rfl))) (ty := (.array .byte)) (by decide)
        have F87_63 : Fld Z h87 b87 "com/example/porthcurno/porthcurno/model/AmqpSections" "body" "Lcom/example/porthcurno/porthcurno/model/AmqpSections$Body;" .null := D87 (Or.inr (hw _ (List.mem_of_getElem? (i := 63) rfl))) (ty := (.object "com/example/porthcurno/porthcurno/model/AmqpSections$Body")) (by decide)
        refine own_go (B := T87.setTop (mkF m 69 #[.val (.int p1), .val (.int p2), .val (.int p3), .val (.ref b65), .val (.ref b69), .val .null, .val (.int (p1 &&& (7 : Int32))), .unset] [(.ref b69), (.ref b87), (.ref b87)])) (fun t k => ?_) ?_
        · show Steps p.tables e below (T87.setTop (mkF m 66 #[.val (.int p1), .val (.int p2), .val (.int p3), .val (.ref b65), .val (.ref b69), .val .null, .val (.int (p1 &&& (7 : Int32))), .unset] [(.ref b87)])) _
          refine XS.dup X87.here hx rfl (hb hby at_66) rfl rfl ?_
          show Steps p.tables e below (T87.setTop (mkF m 67 #[.val (.int p1), .val (.int p2), .val (.int p3), .val (.ref b65), .val (.ref b69), .val .null, .val (.int (p1 &&& (7 : Int32))), .unset] [(.ref b87), (.ref b87)])) _
          refine XS.aload X87.here hx rfl (hb hby at_67) rfl rfl ?_
          show Steps p.tables e below (T87.setTop (mkF m 69 #[.val (.int p1), .val (.int p2), .val (.int p3), .val (.ref b65), .val (.ref b69), .val .null, .val (.int (p1 &&& (7 : Int32))), .unset] [(.ref b69), (.ref b87), (.ref b87)])) _
          exact k
        have f89 : Sta Z h87 "com/example/porthcurno/porthcurno/model/AmqpSections$Body" "SECTIONS" "Lcom/example/porthcurno/porthcurno/model/AmqpSections$Body;" (.ref w_SECTIONS) := ((((S_SECTIONS.ext E65).wr W68).ext E69).ext E87)
        obtain ⟨T88, X88, e88, st88⟩ := getS2 X87 hx hZ hown (host := "") (Or.inl (hw _ (List.mem_of_getElem? (i := 66) rfl))) Via.refl e87 f89 (g := (mkF m 69 #[.val (.int p1), .val (.int p2), .val (.int p3), .val (.ref b65), .val (.ref b69), .val .null, .val (.int (p1 &&& (7 : Int32))), .unset] [(.ref b69), (.ref b87), (.ref b87)])) rfl (hb hby at_69)
        refine own_go st88 ?_
        have le91 : h0.size ≤ h69.size := (Nat.le_trans (Nat.le_trans E65.1 (Nat.le_of_eq (Wr.size W68).symm)) E69.1)
        have le92 : h0.size ≤ h87.size := (Nat.le_trans (Nat.le_trans (Nat.le_trans E65.1 (Nat.le_of_eq (Wr.size W68).symm)) E69.1) E87.1)
        obtain ⟨_, _, ⟨T90, L90, k90, n90⟩, -, X90, S90, G90, ⟨Lc90, hQ90, l90, y90, z90⟩, st90⟩ := X88.specialBackS hx (y := (⟨"com/example/porthcurno/porthcurno/model/AmqpSections", "<init>", "([BLcom/example/porthcurno/porthcurno/model/AmqpSections$Body;)V"⟩ : MethodName)) rfl hown (mvT hZ (hw _ (List.mem_of_getElem? (i := 44) rfl))) (mvT hZ (hw _ (List.mem_of_getElem? (i := 45) rfl))) (mvT hZ (hw _ (List.mem_of_getElem? (i := 46) rfl))) (by decide) (backOfS (W := 1) (rm7 l Z a0 hw [] b87 b69 w_SECTIONS h87 n0 (Nat.le_trans Z0 le92) A87 F87_61 F87_63 (Nat.le_trans (Nat.le_trans Z0 le91) (Nat.le_of_eq g87.symm))) hZ (hw _ (List.mem_of_getElem? (i := 46) rfl)) (hw _ (List.mem_of_getElem? (i := 40) rfl)) (by decide) (by decide)) (g := (mkF m 72 #[.val (.int p1), .val (.int p2), .val (.int p3), .val (.ref b65), .val (.ref b69), .val .null, .val (.int (p1 &&& (7 : Int32))), .unset] [(.ref w_SECTIONS), (.ref b69), (.ref b87), (.ref b87)])) rfl (by rw [hml]; rfl) (Steps.refl _) (a := b87) (argsL := [(.ref b69), (.ref w_SECTIONS)]) (rest := [(.ref b87)]) (lenOf pd_3 rfl) rfl (by show 2 * 0 + _ ≤ _; exact Nat.le_of_eq rfl) (hb hby at_72) (fun _ _ => ⟨rfl, e88, (by decide : 3 + 4 ≤ _), (by decide : 8 + 56 ≤ _)⟩)
        dsimp only [Pt.U, Pt.locs, Pt.cells, Pt.slots] at X90 S90 G90 l90 y90 z90 st90 hQ90
        subst l90 y90 z90
        obtain ⟨rfl, M90, q90_0⟩ := hQ90
        have N90 := Fr.app N68 M90
        have hS90 : s.Since T90.vm T90.heap.size := S90
        have hZ90 : Z.Warmed39 (s.setVm T90.vm).vm := State.Warmed39.trans (t := s) hZ S90.1
        have ho90 : (s.setVm T90.vm).vm.findClass "com/example/porthcurno/porthcurno/model/SentMessageExpiresPinLaw" = some m.cls := by rw [show (s.setVm T90.vm).vm = T90.vm from rfl, S90.1.alike.findClass]; exact hown
        replace X90 : Stand p l e _ (s.setVm T90.vm) m _ below meth c T90 _ _ _ := X90
        have K90 : Keep h0 T90.heap [] := Keep.trans K87 q90_0 (allS (Or.inr (Nat.le_trans le91 (Nat.le_of_eq g87.symm))) all0)
        refine own_go (fun t k => st90.trans k) ?_
        refine own_go (B := T90.setTop (mkF m 123 #[.val (.int p1), .val (.int p2), .val (.int p3), .val (.ref b65), .val (.ref b69), .val (.ref b87), .val (.int (p1 &&& (7 : Int32))), .unset] [])) (fun t k => ?_) ?_
        · show Steps p.tables e below (T90.setTop (mkF m 75 #[.val (.int p1), .val (.int p2), .val (.int p3), .val (.ref b65), .val (.ref b69), .val .null, .val (.int (p1 &&& (7 : Int32))), .unset] [(.ref b87)])) _
          refine XS.astore X90.here hx rfl (hb hby at_75) rfl rfl (l' := #[.val (.int p1), .val (.int p2), .val (.int p3), .val (.ref b65), .val (.ref b69), .val (.ref b87), .val (.int (p1 &&& (7 : Int32))), .unset]) rfl ?_
          show Steps p.tables e below (T90.setTop (mkF m 77 #[.val (.int p1), .val (.int p2), .val (.int p3), .val (.ref b65), .val (.ref b69), .val (.ref b87), .val (.int (p1 &&& (7 : Int32))), .unset] [])) _
          refine XS.goto X90.here hx rfl (pc0 := 77) (pc' := 123) rfl (hb hby at_77) (by decide) (by decide) ?_
          show Steps p.tables e below (T90.setTop (mkF m 123 #[.val (.int p1), .val (.int p2), .val (.int p3), .val (.ref b65), .val (.ref b69), .val (.ref b87), .val (.int (p1 &&& (7 : Int32))), .unset] [])) _
          exact k
        obtain ⟨T93, h93, X93, e93, E93, A93, D93, -, st93⟩ := newO X90 hx hZ90 ho90 (hw _ (List.mem_of_getElem? (i := 1) rfl)) (hw _ (List.mem_of_getElem? (i := 2) rfl)) (hw _ (List.mem_of_getElem? (i := 3) rfl)) rfl (g := (mkF m 123 #[.val (.int p1), .val (.int p2), .val (.int p3), .val (.ref b65), .val (.ref b69), .val (.ref b87), .val (.int (p1 &&& (7 : Int32))), .unset] [])) rfl (hb hby at_123) (by decide) (by decide)
        obtain ⟨b93, g93⟩ : ∃ z, z = T90.heap.size := ⟨_, rfl⟩
        rw [← g93] at A93 D93 st93
        refine own_go st93 ?_
        have K93 : Keep h0 h93 [] := Keep.ext K90 E93
        have F93_19 : Fld Z h93 b93 "com/example/porthcurno/porthcurno/model/SentMessage" "properties" "Ljava/util/Map;" .null := D93 (Or.inr (hw _ (List.mem_of_getElem? (i := 19) rfl))) (ty := (.object "java/util/Map")) (by decide)
        have F93_21 : Fld Z h93 b93 "com/example/porthcurno/porthcurno/model/SentMessage" "body" "[B" .null := D93 (Or.inr (hw _ (List.mem_of_getElem? (i := 21) rfl))) (ty := (.array .byte)) (by decide)
        have F93_23 : Fld Z h93 b93 "com/example/porthcurno/porthcurno/model/SentMessage" "amqp" "Lcom/example/porthcurno/porthcurno/model/AmqpSections;" .null := D93 (Or.inr (hw _ (List.mem_of_getElem? (i := 23) rfl))) (ty := (.object "com/example/porthcurno/porthcurno/model/AmqpSections")) (by decide)
        have F93_25 : Fld Z h93 b93 "com/example/porthcurno/porthcurno/model/SentMessage" "timeToLive" "Ljava/time/Duration;" .null := D93 (Or.inr (hw _ (List.mem_of_getElem? (i := 25) rfl))) (ty := (.object "java/time/Duration")) (by decide)
        have F93_27 : Fld Z h93 b93 "com/example/porthcurno/porthcurno/model/SentMessage" "absoluteExpiryTime" "Ljava/time/Instant;" .null := D93 (Or.inr (hw _ (List.mem_of_getElem? (i := 27) rfl))) (ty := (.object "java/time/Instant")) (by decide)
        refine own_go (B := T93.setTop (mkF m 131 #[.val (.int p1), .val (.int p2), .val (.int p3), .val (.ref b65), .val (.ref b69), .val (.ref b87), .val (.int (p1 &&& (7 : Int32))), .unset] [(.ref b87), (.ref b65), .null, (.ref b93), (.ref b93)])) (fun t k => ?_) ?_
        · show Steps p.tables e below (T93.setTop (mkF m 126 #[.val (.int p1), .val (.int p2), .val (.int p3), .val (.ref b65), .val (.ref b69), .val (.ref b87), .val (.int (p1 &&& (7 : Int32))), .unset] [(.ref b93)])) _
          refine XS.dup X93.here hx rfl (hb hby at_126) rfl rfl ?_
          show Steps p.tables e below (T93.setTop (mkF m 127 #[.val (.int p1), .val (.int p2), .val (.int p3), .val (.ref b65), .val (.ref b69), .val (.ref b87), .val (.int (p1 &&& (7 : Int32))), .unset] [(.ref b93), (.ref b93)])) _
          refine XS.aconstNull X93.here hx rfl (hb hby at_127) ?_
          show Steps p.tables e below (T93.setTop (mkF m 128 #[.val (.int p1), .val (.int p2), .val (.int p3), .val (.ref b65), .val (.ref b69), .val (.ref b87), .val (.int (p1 &&& (7 : Int32))), .unset] [.null, (.ref b93), (.ref b93)])) _
          refine XS.aloadN X93.here hx rfl (hb hby at_128) rfl rfl ?_
          show Steps p.tables e below (T93.setTop (mkF m 129 #[.val (.int p1), .val (.int p2), .val (.int p3), .val (.ref b65), .val (.ref b69), .val (.ref b87), .val (.int (p1 &&& (7 : Int32))), .unset] [(.ref b65), .null, (.ref b93), (.ref b93)])) _
          refine XS.aload X93.here hx rfl (hb hby at_129) rfl rfl ?_
          show Steps p.tables e below (T93.setTop (mkF m 131 #[.val (.int p1), .val (.int p2), .val (.int p3), .val (.ref b65), .val (.ref b69), .val (.ref b87), .val (.int (p1 &&& (7 : Int32))), .unset] [(.ref b87), (.ref b65), .null, (.ref b93), (.ref b93)])) _
          exact k
        have le95 : h0.size ≤ T90.heap.size := (Nat.le_trans (Nat.le_trans (Nat.le_trans (Nat.le_trans E65.1 (Nat.le_of_eq (Wr.size W68).symm)) E69.1) E87.1) q90_0.1)
        have le96 : h0.size ≤ h93.size := (Nat.le_trans (Nat.le_trans (Nat.le_trans (Nat.le_trans (Nat.le_trans E65.1 (Nat.le_of_eq (Wr.size W68).symm)) E69.1) E87.1) q90_0.1) E93.1)
        obtain ⟨_, _, ⟨T94, L94, k94, n94⟩, -, X94, ⟨Lc94, hQ94, l94, y94, z94⟩, st94⟩ := X93.specialBack hx (y := (⟨"com/example/porthcurno/porthcurno/model/SentMessage", "<init>", "(Ljava/util/Map;[BLcom/example/porthcurno/porthcurno/model/AmqpSections;)V"⟩ : MethodName)) rfl ho90 (mvT hZ90 (hw _ (List.mem_of_getElem? (i := 4) rfl))) (mvT hZ90 (hw _ (List.mem_of_getElem? (i := 5) rfl))) (mvT hZ90 (hw _ (List.mem_of_getElem? (i := 6) rfl))) (by decide) (backOf (W := 1) (rm1 l Z a0 hw [] b93 b65 b87 h93 n0 (Nat.le_trans Z0 le96) A93 F93_19 F93_21 F93_23 F93_25 F93_27 (Nat.le_trans (Nat.le_trans Z0 le95) (Nat.le_of_eq g93.symm))) hZ90 (hw _ (List.mem_of_getElem? (i := 6) rfl)) (hw _ (List.mem_of_getElem? (i := 3) rfl)) (by decide) (by decide)) (g := (mkF m 131 #[.val (.int p1), .val (.int p2), .val (.int p3), .val (.ref b65), .val (.ref b69), .val (.ref b87), .val (.int (p1 &&& (7 : Int32))), .unset] [(.ref b87), (.ref b65), .null, (.ref b93), (.ref b93)])) rfl (by rw [hml]; rfl) (Steps.refl _) (a := b93) (argsL := [.null, (.ref b65), (.ref b87)]) (rest := [(.ref b93)]) (lenOf pd_4 rfl) rfl (by show 2 * 0 + _ ≤ _; exact Nat.le_of_eq rfl) (hb hby at_131) (fun _ _ => ⟨rfl, e93, (by decide : 8 + 0 ≤ _), (by decide : 69 + 0 ≤ _)⟩)
        dsimp only [Pt.U, Pt.locs, Pt.cells, Pt.slots] at X94 l94 y94 z94 st94 hQ94
        subst l94 y94 z94
        obtain ⟨rfl, M94, q94_0, q94_1, q94_2, q94_3⟩ := hQ94
        have N94 := Fr.app N90 M94
        have K94 : Keep h0 T94.heap [] := Keep.trans K93 q94_0 (allS (Or.inr (Nat.le_trans le95 (Nat.le_of_eq g93.symm))) all0)
        refine own_go (fun t k => st94.trans k) ?_
        refine own_go (B := T94.setTop (mkF m 138 #[.val (.int p1), .val (.int p2), .val (.int p3), .val (.ref b65), .val (.ref b69), .val (.ref b87), .val (.int (p1 &&& (7 : Int32))), .val (.ref b93)] [(.ref b93)])) (fun t k => ?_) ?_
        · show Steps p.tables e below (T94.setTop (mkF m 134 #[.val (.int p1), .val (.int p2), .val (.int p3), .val (.ref b65), .val (.ref b69), .val (.ref b87), .val (.int (p1 &&& (7 : Int32))), .unset] [(.ref b93)])) _
          refine XS.astore X94.here hx rfl (hb hby at_134) rfl rfl (l' := #[.val (.int p1), .val (.int p2), .val (.int p3), .val (.ref b65), .val (.ref b69), .val (.ref b87), .val (.int (p1 &&& (7 : Int32))), .val (.ref b93)]) rfl ?_
          show Steps p.tables e below (T94.setTop (mkF m 136 #[.val (.int p1), .val (.int p2), .val (.int p3), .val (.ref b65), .val (.ref b69), .val (.ref b87), .val (.int (p1 &&& (7 : Int32))), .val (.ref b93)] [])) _
          refine XS.aload X94.here hx rfl (hb hby at_136) rfl rfl ?_
          show Steps p.tables e below (T94.setTop (mkF m 138 #[.val (.int p1), .val (.int p2), .val (.int p3), .val (.ref b65), .val (.ref b69), .val (.ref b87), .val (.int (p1 &&& (7 : Int32))), .val (.ref b93)] [(.ref b93)])) _
          exact k
        have le98 : h0.size ≤ T94.heap.size := (Nat.le_trans (Nat.le_trans (Nat.le_trans (Nat.le_trans (Nat.le_trans (Nat.le_trans E65.1 (Nat.le_of_eq (Wr.size W68).symm)) E69.1) E87.1) q90_0.1) E93.1) q94_0.1)
        obtain ⟨cq97, kq97, q97a, q97b, q97c⟩ := isOf hZ90 rfl q94_1
        obtain ⟨_, _, ⟨T97, L97, k97, n97⟩, -, X97, ⟨Lc97, hQ97, l97, y97, z97⟩, st97⟩ := X94.virtualBack hx (y := (⟨"com/example/porthcurno/porthcurno/model/SentMessage", "expires", "()Z"⟩ : MethodName)) (z := (⟨"com/example/porthcurno/porthcurno/model/SentMessage", "expires", "()Z"⟩ : MethodName)) ho90 (mvT hZ90 (hw _ (List.mem_of_getElem? (i := 28) rfl))) (mvT hZ90 (hw _ (List.mem_of_getElem? (i := 29) rfl))) (notFace_of_selects (args := #[]) (mvT hZ90 (hw _ (List.mem_of_getElem? (i := 31) rfl)))) (mvT hZ90 (hw _ (List.mem_of_getElem? (i := 31) rfl))) (mvT hZ90 (hw _ (List.mem_of_getElem? (i := 30) rfl))) (by decide) (backOf (W := 0) (rm5 l Z a0 hw [] b93 T94.heap n0 (Nat.le_trans Z0 le98) q94_2 q94_3) hZ90 (hw _ (List.mem_of_getElem? (i := 32) rfl)) (hw _ (List.mem_of_getElem? (i := 3) rfl)) (by decide) (by decide)) q97a q97c (g := (mkF m 138 #[.val (.int p1), .val (.int p2), .val (.int p3), .val (.ref b65), .val (.ref b69), .val (.ref b87), .val (.int (p1 &&& (7 : Int32))), .val (.ref b93)] [(.ref b93)])) rfl (by rw [hml]; rfl) (Steps.refl _) (argsL := []) (rest := []) (lenOf pd_5 rfl) rfl (by show 2 * 0 + _ ≤ _; exact Nat.le_of_eq rfl) (hb hby at_138) (fun _ _ => ⟨rfl, rfl, (by decide : 8 + 0 ≤ _), (by decide : 69 + 0 ≤ _)⟩)
        dsimp only [Pt.U, Pt.locs, Pt.cells, Pt.slots] at X97 l97 y97 z97 st97 hQ97
        subst l97 y97 z97
        obtain ⟨rfl, M97, q97_0⟩ := hQ97
        have N97 := Fr.app N94 M97
        refine own_go (fun t k => st97.trans k) ?_
        refine own_go (B := T97.setTop (mkF m 147 #[.val (.int p1), .val (.int p2), .val (.int p3), .val (.ref b65), .val (.ref b69), .val (.ref b87), .val (.int (p1 &&& (7 : Int32))), .val (.ref b93)] [.null, (.ref b93)])) (fun t k => ?_) ?_
        · show Steps p.tables e below (T97.setTop (mkF m 141 #[.val (.int p1), .val (.int p2), .val (.int p3), .val (.ref b65), .val (.ref b69), .val (.ref b87), .val (.int (p1 &&& (7 : Int32))), .val (.ref b93)] [(.int (0 : Int32))])) _
          refine XS.ifNo X97.here hx rfl (hb hby at_141) rfl ((if0 _ _).trans (teq (by decide : (0 : Int32) = (0 : Int32))).2) ?_
          show Steps p.tables e below (T97.setTop (mkF m 144 #[.val (.int p1), .val (.int p2), .val (.int p3), .val (.ref b65), .val (.ref b69), .val (.ref b87), .val (.int (p1 &&& (7 : Int32))), .val (.ref b93)] [])) _
          refine XS.aload X97.here hx rfl (hb hby at_144) rfl rfl ?_
          show Steps p.tables e below (T97.setTop (mkF m 146 #[.val (.int p1), .val (.int p2), .val (.int p3), .val (.ref b65), .val (.ref b69), .val (.ref b87), .val (.int (p1 &&& (7 : Int32))), .val (.ref b93)] [(.ref b93)])) _
          refine XS.aconstNull X97.here hx rfl (hb hby at_146) ?_
          show Steps p.tables e below (T97.setTop (mkF m 147 #[.val (.int p1), .val (.int p2), .val (.int p3), .val (.ref b65), .val (.ref b69), .val (.ref b87), .val (.int (p1 &&& (7 : Int32))), .val (.ref b93)] [.null, (.ref b93)])) _
          exact k
        obtain ⟨cq99, kq99, q99a, q99b, q99c⟩ := isOf hZ90 q97_0 q94_1
        obtain ⟨_, _, ⟨T99, L99, k99, n99⟩, -, X99, ⟨Lc99, hQ99, l99, y99, z99⟩, st99⟩ := X97.virtualBack hx (y := (⟨"com/example/porthcurno/porthcurno/model/SentMessage", "timeToLiveFrom", "(Ljava/time/Instant;)Ljava/time/Duration;"⟩ : MethodName)) (z := (⟨"com/example/porthcurno/porthcurno/model/SentMessage", "timeToLiveFrom", "(Ljava/time/Instant;)Ljava/time/Duration;"⟩ : MethodName)) ho90 (mvT hZ90 (hw _ (List.mem_of_getElem? (i := 33) rfl))) (mvT hZ90 (hw _ (List.mem_of_getElem? (i := 34) rfl))) (notFace_of_selects (args := #[]) (mvT hZ90 (hw _ (List.mem_of_getElem? (i := 36) rfl)))) (mvT hZ90 (hw _ (List.mem_of_getElem? (i := 36) rfl))) (mvT hZ90 (hw _ (List.mem_of_getElem? (i := 35) rfl))) (by decide) (backOf (W := 0) (rm6 l Z a0 hw [] b93 T94.heap n0 (Nat.le_trans Z0 le98) q94_2 q94_3) hZ90 (hw _ (List.mem_of_getElem? (i := 37) rfl)) (hw _ (List.mem_of_getElem? (i := 3) rfl)) (by decide) (by decide)) q99a q99c (g := (mkF m 147 #[.val (.int p1), .val (.int p2), .val (.int p3), .val (.ref b65), .val (.ref b69), .val (.ref b87), .val (.int (p1 &&& (7 : Int32))), .val (.ref b93)] [.null, (.ref b93)])) rfl (by rw [hml]; rfl) (Steps.refl _) (argsL := [.null]) (rest := []) (lenOf pd_6 rfl) rfl (by show 2 * 0 + _ ≤ _; exact Nat.le_of_eq rfl) (hb hby at_147) (fun _ _ => ⟨rfl, q97_0, (by decide : 8 + 0 ≤ _), (by decide : 69 + 0 ≤ _)⟩)
        dsimp only [Pt.U, Pt.locs, Pt.cells, Pt.slots] at X99 l99 y99 z99 st99 hQ99
        subst l99 y99 z99
        obtain ⟨rfl, M99, q99_0⟩ := hQ99
        have N99 := Fr.app N97 M99
        refine own_go (fun t k => st99.trans k) ?_
        refine own_go (B := T99.setTop (mkF m 158 #[.val (.int p1), .val (.int p2), .val (.int p3), .val (.ref b65), .val (.ref b69), .val (.ref b87), .val (.int (p1 &&& (7 : Int32))), .val (.ref b93)] [(.int (1 : Int32))])) (fun t k => ?_) ?_
        · show Steps p.tables e below (T99.setTop (mkF m 150 #[.val (.int p1), .val (.int p2), .val (.int p3), .val (.ref b65), .val (.ref b69), .val (.ref b87), .val (.int (p1 &&& (7 : Int32))), .val (.ref b93)] [.null])) _
          refine XS.ifnonnullNo X99.here hx rfl (hb hby at_150) rfl ?_
          show Steps p.tables e below (T99.setTop (mkF m 153 #[.val (.int p1), .val (.int p2), .val (.int p3), .val (.ref b65), .val (.ref b69), .val (.ref b87), .val (.int (p1 &&& (7 : Int32))), .val (.ref b93)] [])) _
          refine XS.iconst X99.here hx rfl (hb hby at_153) ?_
          show Steps p.tables e below (T99.setTop (mkF m 154 #[.val (.int p1), .val (.int p2), .val (.int p3), .val (.ref b65), .val (.ref b69), .val (.ref b87), .val (.int (p1 &&& (7 : Int32))), .val (.ref b93)] [(.int (1 : Int32))])) _
          refine XS.goto X99.here hx rfl (pc0 := 154) (pc' := 158) rfl (hb hby at_154) (by decide) (by decide) ?_
          show Steps p.tables e below (T99.setTop (mkF m 158 #[.val (.int p1), .val (.int p2), .val (.int p3), .val (.ref b65), .val (.ref b69), .val (.ref b87), .val (.int (p1 &&& (7 : Int32))), .val (.ref b93)] [(.int (1 : Int32))])) _
          exact k
        have le101 : T90.heap.size ≤ T94.heap.size := (Nat.le_trans E93.1 q94_0.1)
        obtain ⟨fs, hr, hrun, hended, hW⟩ := X99.leaveW hS90 (show _ ≤ T99.heap.size by rw [q99_0]; exact (Nat.le_trans (Nat.le_refl _) le101)) (v := some (.int (1 : Int32))) (fun h => by rw [Bd.returns] at h; cases h)
        refine ⟨_, _, ?_, hrun, hended, _, _, rfl, ?_, ⟨hW.1, hW.2.1, hW.2.2.1, hW.2.2.2.mono (by decide) (by decide)⟩⟩
        · exact retN X99 hx (t := .boolean) Bd.returns (by simp) (hb hby at_158) hr
        · show Q0 Z p1 p2 p3 w_DATA w_STRING_VALUE w_SECTIONS w_BINARY_VALUE h0 n0 _ T99.heap _
          rw [q99_0]
          exact ⟨rfl, N99⟩
      · refine own_go (B := T69.setTop (mkF m 83 #[.val (.int p1), .val (.int p2), .val (.int p3), .val (.ref b65), .val (.ref b69), .val .null, .val (.int (p1 &&& (7 : Int32))), .unset] [(.int (3 : Int32)), (.int (p1 &&& (7 : Int32)))])) (fun t k => ?_) ?_
        · show Steps p.tables e below (T69.setTop (mkF m 60 #[.val (.int p1), .val (.int p2), .val (.int p3), .val (.ref b65), .val (.ref b69), .val .null, .val (.int (p1 &&& (7 : Int32))), .unset] [(.int (2 : Int32)), (.int (p1 &&& (7 : Int32)))])) _
          refine XS.icmpYes X69.here hx rfl (pc0 := 60) (pc' := 80) rfl (hb hby at_60) rfl (feq hc86).2 (by decide) (by decide) ?_
          show Steps p.tables e below (T69.setTop (mkF m 80 #[.val (.int p1), .val (.int p2), .val (.int p3), .val (.ref b65), .val (.ref b69), .val .null, .val (.int (p1 &&& (7 : Int32))), .unset] [])) _
          refine XS.iload X69.here hx rfl (hb hby at_80) rfl ?_
          show Steps p.tables e below (T69.setTop (mkF m 82 #[.val (.int p1), .val (.int p2), .val (.int p3), .val (.ref b65), .val (.ref b69), .val .null, .val (.int (p1 &&& (7 : Int32))), .unset] [(.int (p1 &&& (7 : Int32)))])) _
          refine XS.iconst X69.here hx rfl (hb hby at_82) ?_
          show Steps p.tables e below (T69.setTop (mkF m 83 #[.val (.int p1), .val (.int p2), .val (.int p3), .val (.ref b65), .val (.ref b69), .val .null, .val (.int (p1 &&& (7 : Int32))), .unset] [(.int (3 : Int32)), (.int (p1 &&& (7 : Int32)))])) _
          exact k
        by_cases hc102 : (p1 &&& (7 : Int32)) = (3 : Int32)
        · refine own_go (B := T69.setTop (mkF m 86 #[.val (.int p1), .val (.int p2), .val (.int p3), .val (.ref b65), .val (.ref b69), .val .null, .val (.int (p1 &&& (7 : Int32))), .unset] [])) (fun t k => ?_) ?_
          · show Steps p.tables e below (T69.setTop (mkF m 83 #[.val (.int p1), .val (.int p2), .val (.int p3), .val (.ref b65), .val (.ref b69), .val .null, .val (.int (p1 &&& (7 : Int32))), .unset] [(.int (3 : Int32)), (.int (p1 &&& (7 : Int32)))])) _
            refine XS.icmpNo X69.here hx rfl (hb hby at_83) rfl (teq hc102).2 ?_
            show Steps p.tables e below (T69.setTop (mkF m 86 #[.val (.int p1), .val (.int p2), .val (.int p3), .val (.ref b65), .val (.ref b69), .val .null, .val (.int (p1 &&& (7 : Int32))), .unset] [])) _
            exact k
          obtain ⟨T103, h103, X103, e103, E103, A103, D103, -, st103⟩ := newO X69 hx hZ hown (hw _ (List.mem_of_getElem? (i := 38) rfl)) (hw _ (List.mem_of_getElem? (i := 39) rfl)) (hw _ (List.mem_of_getElem? (i := 40) rfl)) e69 (g := (mkF m 86 #[.val (.int p1), .val (.int p2), .val (.int p3), .val (.ref b65), .val (.ref b69), .val .null, .val (.int (p1 &&& (7 : Int32))), .unset] [])) rfl (hb hby at_86) (by decide) (by decide)
          obtain ⟨b103, g103⟩ : ∃ z, z = h69.size := ⟨_, rfl⟩
          rw [← g103] at A103 D103 st103
          refine own_go st103 ?_
          have K103 : Keep h0 h103 [] := Keep.ext K69 E103
          have F103_61 : Fld Z h103 b103 "com/example/porthcurno/porthcurno/model/AmqpSections" "sections" "[B" .null := D103 (Or.inr (hw _ (List.mem_of_getElem? (i := 61) rfl))) (ty := (.array .byte)) (by decide)
          have F103_63 : Fld Z h103 b103 "com/example/porthcurno/porthcurno/model/AmqpSections" "body" "Lcom/example/porthcurno/porthcurno/model/AmqpSections$Body;" .null := D103 (Or.inr (hw _ (List.mem_of_getElem? (i := 63) rfl))) (ty := (.object "com/example/porthcurno/porthcurno/model/AmqpSections$Body")) (by decide)
          refine own_go (B := T103.setTop (mkF m 92 #[.val (.int p1), .val (.int p2), .val (.int p3), .val (.ref b65), .val (.ref b69), .val .null, .val (.int (p1 &&& (7 : Int32))), .unset] [(.ref b69), (.ref b103), (.ref b103)])) (fun t k => ?_) ?_
          · show Steps p.tables e below (T103.setTop (mkF m 89 #[.val (.int p1), .val (.int p2), .val (.int p3), .val (.ref b65), .val (.ref b69), .val .null, .val (.int (p1 &&& (7 : Int32))), .unset] [(.ref b103)])) _
            refine XS.dup X103.here hx rfl (hb hby at_89) rfl rfl ?_
            show Steps p.tables e below (T103.setTop (mkF m 90 #[.val (.int p1), .val (.int p2), .val (.int p3), .val (.ref b65), .val (.ref b69), .val .null, .val (.int (p1 &&& (7 : Int32))), .unset] [(.ref b103), (.ref b103)])) _
            refine XS.aload X103.here hx rfl (hb hby at_90) rfl rfl ?_
            show Steps p.tables e below (T103.setTop (mkF m 92 #[.val (.int p1), .val (.int p2), .val (.int p3), .val (.ref b65), .val (.ref b69), .val .null, .val (.int (p1 &&& (7 : Int32))), .unset] [(.ref b69), (.ref b103), (.ref b103)])) _
            exact k
          have f105 : Sta Z h103 "com/example/porthcurno/porthcurno/model/AmqpSections$Body" "BINARY_VALUE" "Lcom/example/porthcurno/porthcurno/model/AmqpSections$Body;" (.ref w_BINARY_VALUE) := ((((S_BINARY_VALUE.ext E65).wr W68).ext E69).ext E103)
          obtain ⟨T104, X104, e104, st104⟩ := getS2 X103 hx hZ hown (host := "") (Or.inl (hw _ (List.mem_of_getElem? (i := 68) rfl))) Via.refl e103 f105 (g := (mkF m 92 #[.val (.int p1), .val (.int p2), .val (.int p3), .val (.ref b65), .val (.ref b69), .val .null, .val (.int (p1 &&& (7 : Int32))), .unset] [(.ref b69), (.ref b103), (.ref b103)])) rfl (hb hby at_92)
          refine own_go st104 ?_
          have le107 : h0.size ≤ h69.size := (Nat.le_trans (Nat.le_trans E65.1 (Nat.le_of_eq (Wr.size W68).symm)) E69.1)
          have le108 : h0.size ≤ h103.size := (Nat.le_trans (Nat.le_trans (Nat.le_trans E65.1 (Nat.le_of_eq (Wr.size W68).symm)) E69.1) E103.1)
          obtain ⟨_, _, ⟨T106, L106, k106, n106⟩, -, X106, S106, G106, ⟨Lc106, hQ106, l106, y106, z106⟩, st106⟩ := X104.specialBackS hx (y := (⟨"com/example/porthcurno/porthcurno/model/AmqpSections", "<init>", "([BLcom/example/porthcurno/porthcurno/model/AmqpSections$Body;)V"⟩ : MethodName)) rfl hown (mvT hZ (hw _ (List.mem_of_getElem? (i := 44) rfl))) (mvT hZ (hw _ (List.mem_of_getElem? (i := 45) rfl))) (mvT hZ (hw _ (List.mem_of_getElem? (i := 46) rfl))) (by decide) (backOfS (W := 1) (rm7 l Z a0 hw [] b103 b69 w_BINARY_VALUE h103 n0 (Nat.le_trans Z0 le108) A103 F103_61 F103_63 (Nat.le_trans (Nat.le_trans Z0 le107) (Nat.le_of_eq g103.symm))) hZ (hw _ (List.mem_of_getElem? (i := 46) rfl)) (hw _ (List.mem_of_getElem? (i := 40) rfl)) (by decide) (by decide)) (g := (mkF m 95 #[.val (.int p1), .val (.int p2), .val (.int p3), .val (.ref b65), .val (.ref b69), .val .null, .val (.int (p1 &&& (7 : Int32))), .unset] [(.ref w_BINARY_VALUE), (.ref b69), (.ref b103), (.ref b103)])) rfl (by rw [hml]; rfl) (Steps.refl _) (a := b103) (argsL := [(.ref b69), (.ref w_BINARY_VALUE)]) (rest := [(.ref b103)]) (lenOf pd_3 rfl) rfl (by show 2 * 0 + _ ≤ _; exact Nat.le_of_eq rfl) (hb hby at_95) (fun _ _ => ⟨rfl, e104, (by decide : 3 + 4 ≤ _), (by decide : 8 + 56 ≤ _)⟩)
          dsimp only [Pt.U, Pt.locs, Pt.cells, Pt.slots] at X106 S106 G106 l106 y106 z106 st106 hQ106
          subst l106 y106 z106
          obtain ⟨rfl, M106, q106_0⟩ := hQ106
          have N106 := Fr.app N68 M106
          have hS106 : s.Since T106.vm T106.heap.size := S106
          have hZ106 : Z.Warmed39 (s.setVm T106.vm).vm := State.Warmed39.trans (t := s) hZ S106.1
          have ho106 : (s.setVm T106.vm).vm.findClass "com/example/porthcurno/porthcurno/model/SentMessageExpiresPinLaw" = some m.cls := by rw [show (s.setVm T106.vm).vm = T106.vm from rfl, S106.1.alike.findClass]; exact hown
          replace X106 : Stand p l e _ (s.setVm T106.vm) m _ below meth c T106 _ _ _ := X106
          have K106 : Keep h0 T106.heap [] := Keep.trans K103 q106_0 (allS (Or.inr (Nat.le_trans le107 (Nat.le_of_eq g103.symm))) all0)
          refine own_go (fun t k => st106.trans k) ?_
          refine own_go (B := T106.setTop (mkF m 123 #[.val (.int p1), .val (.int p2), .val (.int p3), .val (.ref b65), .val (.ref b69), .val (.ref b103), .val (.int (p1 &&& (7 : Int32))), .unset] [])) (fun t k => ?_) ?_
          · show Steps p.tables e below (T106.setTop (mkF m 98 #[.val (.int p1), .val (.int p2), .val (.int p3), .val (.ref b65), .val (.ref b69), .val .null, .val (.int (p1 &&& (7 : Int32))), .unset] [(.ref b103)])) _
            refine XS.astore X106.here hx rfl (hb hby at_98) rfl rfl (l' := #[.val (.int p1), .val (.int p2), .val (.int p3), .val (.ref b65), .val (.ref b69), .val (.ref b103), .val (.int (p1 &&& (7 : Int32))), .unset]) rfl ?_
            show Steps p.tables e below (T106.setTop (mkF m 100 #[.val (.int p1), .val (.int p2), .val (.int p3), .val (.ref b65), .val (.ref b69), .val (.ref b103), .val (.int (p1 &&& (7 : Int32))), .unset] [])) _
            refine XS.goto X106.here hx rfl (pc0 := 100) (pc' := 123) rfl (hb hby at_100) (by decide) (by decide) ?_
            show Steps p.tables e below (T106.setTop (mkF m 123 #[.val (.int p1), .val (.int p2), .val (.int p3), .val (.ref b65), .val (.ref b69), .val (.ref b103), .val (.int (p1 &&& (7 : Int32))), .unset] [])) _
            exact k
          obtain ⟨T109, h109, X109, e109, E109, A109, D109, -, st109⟩ := newO X106 hx hZ106 ho106 (hw _ (List.mem_of_getElem? (i := 1) rfl)) (hw _ (List.mem_of_getElem? (i := 2) rfl)) (hw _ (List.mem_of_getElem? (i := 3) rfl)) rfl (g := (mkF m 123 #[.val (.int p1), .val (.int p2), .val (.int p3), .val (.ref b65), .val (.ref b69), .val (.ref b103), .val (.int (p1 &&& (7 : Int32))), .unset] [])) rfl (hb hby at_123) (by decide) (by decide)
          obtain ⟨b109, g109⟩ : ∃ z, z = T106.heap.size := ⟨_, rfl⟩
          rw [← g109] at A109 D109 st109
          refine own_go st109 ?_
          have K109 : Keep h0 h109 [] := Keep.ext K106 E109
          have F109_19 : Fld Z h109 b109 "com/example/porthcurno/porthcurno/model/SentMessage" "properties" "Ljava/util/Map;" .null := D109 (Or.inr (hw _ (List.mem_of_getElem? (i := 19) rfl))) (ty := (.object "java/util/Map")) (by decide)
          have F109_21 : Fld Z h109 b109 "com/example/porthcurno/porthcurno/model/SentMessage" "body" "[B" .null := D109 (Or.inr (hw _ (List.mem_of_getElem? (i := 21) rfl))) (ty := (.array .byte)) (by decide)
          have F109_23 : Fld Z h109 b109 "com/example/porthcurno/porthcurno/model/SentMessage" "amqp" "Lcom/example/porthcurno/porthcurno/model/AmqpSections;" .null := D109 (Or.inr (hw _ (List.mem_of_getElem? (i := 23) rfl))) (ty := (.object "com/example/porthcurno/porthcurno/model/AmqpSections")) (by decide)
          have F109_25 : Fld Z h109 b109 "com/example/porthcurno/porthcurno/model/SentMessage" "timeToLive" "Ljava/time/Duration;" .null := D109 (Or.inr (hw _ (List.mem_of_getElem? (i := 25) rfl))) (ty := (.object "java/time/Duration")) (by decide)
          have F109_27 : Fld Z h109 b109 "com/example/porthcurno/porthcurno/model/SentMessage" "absoluteExpiryTime" "Ljava/time/Instant;" .null := D109 (Or.inr (hw _ (List.mem_of_getElem? (i := 27) rfl))) (ty := (.object "java/time/Instant")) (by decide)
          refine own_go (B := T109.setTop (mkF m 131 #[.val (.int p1), .val (.int p2), .val (.int p3), .val (.ref b65), .val (.ref b69), .val (.ref b103), .val (.int (p1 &&& (7 : Int32))), .unset] [(.ref b103), (.ref b65), .null, (.ref b109), (.ref b109)])) (fun t k => ?_) ?_
          · show Steps p.tables e below (T109.setTop (mkF m 126 #[.val (.int p1), .val (.int p2), .val (.int p3), .val (.ref b65), .val (.ref b69), .val (.ref b103), .val (.int (p1 &&& (7 : Int32))), .unset] [(.ref b109)])) _
            refine XS.dup X109.here hx rfl (hb hby at_126) rfl rfl ?_
            show Steps p.tables e below (T109.setTop (mkF m 127 #[.val (.int p1), .val (.int p2), .val (.int p3), .val (.ref b65), .val (.ref b69), .val (.ref b103), .val (.int (p1 &&& (7 : Int32))), .unset] [(.ref b109), (.ref b109)])) _
            refine XS.aconstNull X109.here hx rfl (hb hby at_127) ?_
            show Steps p.tables e below (T109.setTop (mkF m 128 #[.val (.int p1), .val (.int p2), .val (.int p3), .val (.ref b65), .val (.ref b69), .val (.ref b103), .val (.int (p1 &&& (7 : Int32))), .unset] [.null, (.ref b109), (.ref b109)])) _
            refine XS.aloadN X109.here hx rfl (hb hby at_128) rfl rfl ?_
            show Steps p.tables e below (T109.setTop (mkF m 129 #[.val (.int p1), .val (.int p2), .val (.int p3), .val (.ref b65), .val (.ref b69), .val (.ref b103), .val (.int (p1 &&& (7 : Int32))), .unset] [(.ref b65), .null, (.ref b109), (.ref b109)])) _
            refine XS.aload X109.here hx rfl (hb hby at_129) rfl rfl ?_
            show Steps p.tables e below (T109.setTop (mkF m 131 #[.val (.int p1), .val (.int p2), .val (.int p3), .val (.ref b65), .val (.ref b69), .val (.ref b103), .val (.int (p1 &&& (7 : Int32))), .unset] [(.ref b103), (.ref b65), .null, (.ref b109), (.ref b109)])) _
            exact k
          have le111 : h0.size ≤ T106.heap.size := (Nat.le_trans (Nat.le_trans (Nat.le_trans (Nat.le_trans E65.1 (Nat.le_of_eq (Wr.size W68).symm)) E69.1) E103.1) q106_0.1)
          have le112 : h0.size ≤ h109.size := (Nat.le_trans (Nat.le_trans (Nat.le_trans (Nat.le_trans (Nat.le_trans E65.1 (Nat.le_of_eq (Wr.size W68).symm)) E69.1) E103.1) q106_0.1) E109.1)
          obtain ⟨_, _, ⟨T110, L110, k110, n110⟩, -, X110, ⟨Lc110, hQ110, l110, y110, z110⟩, st110⟩ := X109.specialBack hx (y := (⟨"com/example/porthcurno/porthcurno/model/SentMessage", "<init>", "(Ljava/util/Map;[BLcom/example/porthcurno/porthcurno/model/AmqpSections;)V"⟩ : MethodName)) rfl ho106 (mvT hZ106 (hw _ (List.mem_of_getElem? (i := 4) rfl))) (mvT hZ106 (hw _ (List.mem_of_getElem? (i := 5) rfl))) (mvT hZ106 (hw _ (List.mem_of_getElem? (i := 6) rfl))) (by decide) (backOf (W := 1) (rm1 l Z a0 hw [] b109 b65 b103 h109 n0 (Nat.le_trans Z0 le112) A109 F109_19 F109_21 F109_23 F109_25 F109_27 (Nat.le_trans (Nat.le_trans Z0 le111) (Nat.le_of_eq g109.symm))) hZ106 (hw _ (List.mem_of_getElem? (i := 6) rfl)) (hw _ (List.mem_of_getElem? (i := 3) rfl)) (by decide) (by decide)) (g := (mkF m 131 #[.val (.int p1), .val (.int p2), .val (.int p3), .val (.ref b65), .val (.ref b69), .val (.ref b103), .val (.int (p1 &&& (7 : Int32))), .unset] [(.ref b103), (.ref b65), .null, (.ref b109), (.ref b109)])) rfl (by rw [hml]; rfl) (Steps.refl _) (a := b109) (argsL := [.null, (.ref b65), (.ref b103)]) (rest := [(.ref b109)]) (lenOf pd_4 rfl) rfl (by show 2 * 0 + _ ≤ _; exact Nat.le_of_eq rfl) (hb hby at_131) (fun _ _ => ⟨rfl, e109, (by decide : 8 + 0 ≤ _), (by decide : 69 + 0 ≤ _)⟩)
          dsimp only [Pt.U, Pt.locs, Pt.cells, Pt.slots] at X110 l110 y110 z110 st110 hQ110
          subst l110 y110 z110
          obtain ⟨rfl, M110, q110_0, q110_1, q110_2, q110_3⟩ := hQ110
          have N110 := Fr.app N106 M110
          have K110 : Keep h0 T110.heap [] := Keep.trans K109 q110_0 (allS (Or.inr (Nat.le_trans le111 (Nat.le_of_eq g109.symm))) all0)
          refine own_go (fun t k => st110.trans k) ?_
          refine own_go (B := T110.setTop (mkF m 138 #[.val (.int p1), .val (.int p2), .val (.int p3), .val (.ref b65), .val (.ref b69), .val (.ref b103), .val (.int (p1 &&& (7 : Int32))), .val (.ref b109)] [(.ref b109)])) (fun t k => ?_) ?_
          · show Steps p.tables e below (T110.setTop (mkF m 134 #[.val (.int p1), .val (.int p2), .val (.int p3), .val (.ref b65), .val (.ref b69), .val (.ref b103), .val (.int (p1 &&& (7 : Int32))), .unset] [(.ref b109)])) _
            refine XS.astore X110.here hx rfl (hb hby at_134) rfl rfl (l' := #[.val (.int p1), .val (.int p2), .val (.int p3), .val (.ref b65), .val (.ref b69), .val (.ref b103), .val (.int (p1 &&& (7 : Int32))), .val (.ref b109)]) rfl ?_
            show Steps p.tables e below (T110.setTop (mkF m 136 #[.val (.int p1), .val (.int p2), .val (.int p3), .val (.ref b65), .val (.ref b69), .val (.ref b103), .val (.int (p1 &&& (7 : Int32))), .val (.ref b109)] [])) _
            refine XS.aload X110.here hx rfl (hb hby at_136) rfl rfl ?_
            show Steps p.tables e below (T110.setTop (mkF m 138 #[.val (.int p1), .val (.int p2), .val (.int p3), .val (.ref b65), .val (.ref b69), .val (.ref b103), .val (.int (p1 &&& (7 : Int32))), .val (.ref b109)] [(.ref b109)])) _
            exact k
          have le114 : h0.size ≤ T110.heap.size := (Nat.le_trans (Nat.le_trans (Nat.le_trans (Nat.le_trans (Nat.le_trans (Nat.le_trans E65.1 (Nat.le_of_eq (Wr.size W68).symm)) E69.1) E103.1) q106_0.1) E109.1) q110_0.1)
          obtain ⟨cq113, kq113, q113a, q113b, q113c⟩ := isOf hZ106 rfl q110_1
          obtain ⟨_, _, ⟨T113, L113, k113, n113⟩, -, X113, ⟨Lc113, hQ113, l113, y113, z113⟩, st113⟩ := X110.virtualBack hx (y := (⟨"com/example/porthcurno/porthcurno/model/SentMessage", "expires", "()Z"⟩ : MethodName)) (z := (⟨"com/example/porthcurno/porthcurno/model/SentMessage", "expires", "()Z"⟩ : MethodName)) ho106 (mvT hZ106 (hw _ (List.mem_of_getElem? (i := 28) rfl))) (mvT hZ106 (hw _ (List.mem_of_getElem? (i := 29) rfl))) (notFace_of_selects (args := #[]) (mvT hZ106 (hw _ (List.mem_of_getElem? (i := 31) rfl)))) (mvT hZ106 (hw _ (List.mem_of_getElem? (i := 31) rfl))) (mvT hZ106 (hw _ (List.mem_of_getElem? (i := 30) rfl))) (by decide) (backOf (W := 0) (rm5 l Z a0 hw [] b109 T110.heap n0 (Nat.le_trans Z0 le114) q110_2 q110_3) hZ106 (hw _ (List.mem_of_getElem? (i := 32) rfl)) (hw _ (List.mem_of_getElem? (i := 3) rfl)) (by decide) (by decide)) q113a q113c (g := (mkF m 138 #[.val (.int p1), .val (.int p2), .val (.int p3), .val (.ref b65), .val (.ref b69), .val (.ref b103), .val (.int (p1 &&& (7 : Int32))), .val (.ref b109)] [(.ref b109)])) rfl (by rw [hml]; rfl) (Steps.refl _) (argsL := []) (rest := []) (lenOf pd_5 rfl) rfl (by show 2 * 0 + _ ≤ _; exact Nat.le_of_eq rfl) (hb hby at_138) (fun _ _ => ⟨rfl, rfl, (by decide : 8 + 0 ≤ _), (by decide : 69 + 0 ≤ _)⟩)
          dsimp only [Pt.U, Pt.locs, Pt.cells, Pt.slots] at X113 l113 y113 z113 st113 hQ113
          subst l113 y113 z113
          obtain ⟨rfl, M113, q113_0⟩ := hQ113
          have N113 := Fr.app N110 M113
          refine own_go (fun t k => st113.trans k) ?_
          refine own_go (B := T113.setTop (mkF m 147 #[.val (.int p1), .val (.int p2), .val (.int p3), .val (.ref b65), .val (.ref b69), .val (.ref b103), .val (.int (p1 &&& (7 : Int32))), .val (.ref b109)] [.null, (.ref b109)])) (fun t k => ?_) ?_
          · show Steps p.tables e below (T113.setTop (mkF m 141 #[.val (.int p1), .val (.int p2), .val (.int p3), .val (.ref b65), .val (.ref b69), .val (.ref b103), .val (.int (p1 &&& (7 : Int32))), .val (.ref b109)] [(.int (0 : Int32))])) _
            refine XS.ifNo X113.here hx rfl (hb hby at_141) rfl ((if0 _ _).trans (teq (by decide : (0 : Int32) = (0 : Int32))).2) ?_
            show Steps p.tables e below (T113.setTop (mkF m 144 #[.val (.int p1), .val (.int p2), .val (.int p3), .val (.ref b65), .val (.ref b69), .val (.ref b103), .val (.int (p1 &&& (7 : Int32))), .val (.ref b109)] [])) _
            refine XS.aload X113.here hx rfl (hb hby at_144) rfl rfl ?_
            show Steps p.tables e below (T113.setTop (mkF m 146 #[.val (.int p1), .val (.int p2), .val (.int p3), .val (.ref b65), .val (.ref b69), .val (.ref b103), .val (.int (p1 &&& (7 : Int32))), .val (.ref b109)] [(.ref b109)])) _
            refine XS.aconstNull X113.here hx rfl (hb hby at_146) ?_
            show Steps p.tables e below (T113.setTop (mkF m 147 #[.val (.int p1), .val (.int p2), .val (.int p3), .val (.ref b65), .val (.ref b69), .val (.ref b103), .val (.int (p1 &&& (7 : Int32))), .val (.ref b109)] [.null, (.ref b109)])) _
            exact k
          obtain ⟨cq115, kq115, q115a, q115b, q115c⟩ := isOf hZ106 q113_0 q110_1
          obtain ⟨_, _, ⟨T115, L115, k115, n115⟩, -, X115, ⟨Lc115, hQ115, l115, y115, z115⟩, st115⟩ := X113.virtualBack hx (y := (⟨"com/example/porthcurno/porthcurno/model/SentMessage", "timeToLiveFrom", "(Ljava/time/Instant;)Ljava/time/Duration;"⟩ : MethodName)) (z := (⟨"com/example/porthcurno/porthcurno/model/SentMessage", "timeToLiveFrom", "(Ljava/time/Instant;)Ljava/time/Duration;"⟩ : MethodName)) ho106 (mvT hZ106 (hw _ (List.mem_of_getElem? (i := 33) rfl))) (mvT hZ106 (hw _ (List.mem_of_getElem? (i := 34) rfl))) (notFace_of_selects (args := #[]) (mvT hZ106 (hw _ (List.mem_of_getElem? (i := 36) rfl)))) (mvT hZ106 (hw _ (List.mem_of_getElem? (i := 36) rfl))) (mvT hZ106 (hw _ (List.mem_of_getElem? (i := 35) rfl))) (by decide) (backOf (W := 0) (rm6 l Z a0 hw [] b109 T110.heap n0 (Nat.le_trans Z0 le114) q110_2 q110_3) hZ106 (hw _ (List.mem_of_getElem? (i := 37) rfl)) (hw _ (List.mem_of_getElem? (i := 3) rfl)) (by decide) (by decide)) q115a q115c (g := (mkF m 147 #[.val (.int p1), .val (.int p2), .val (.int p3), .val (.ref b65), .val (.ref b69), .val (.ref b103), .val (.int (p1 &&& (7 : Int32))), .val (.ref b109)] [.null, (.ref b109)])) rfl (by rw [hml]; rfl) (Steps.refl _) (argsL := [.null]) (rest := []) (lenOf pd_6 rfl) rfl (by show 2 * 0 + _ ≤ _; exact Nat.le_of_eq rfl) (hb hby at_147) (fun _ _ => ⟨rfl, q113_0, (by decide : 8 + 0 ≤ _), (by decide : 69 + 0 ≤ _)⟩)
          dsimp only [Pt.U, Pt.locs, Pt.cells, Pt.slots] at X115 l115 y115 z115 st115 hQ115
          subst l115 y115 z115
          obtain ⟨rfl, M115, q115_0⟩ := hQ115
          have N115 := Fr.app N113 M115
          refine own_go (fun t k => st115.trans k) ?_
          refine own_go (B := T115.setTop (mkF m 158 #[.val (.int p1), .val (.int p2), .val (.int p3), .val (.ref b65), .val (.ref b69), .val (.ref b103), .val (.int (p1 &&& (7 : Int32))), .val (.ref b109)] [(.int (1 : Int32))])) (fun t k => ?_) ?_
          · show Steps p.tables e below (T115.setTop (mkF m 150 #[.val (.int p1), .val (.int p2), .val (.int p3), .val (.ref b65), .val (.ref b69), .val (.ref b103), .val (.int (p1 &&& (7 : Int32))), .val (.ref b109)] [.null])) _
            refine XS.ifnonnullNo X115.here hx rfl (hb hby at_150) rfl ?_
            show Steps p.tables e below (T115.setTop (mkF m 153 #[.val (.int p1), .val (.int p2), .val (.int p3), .val (.ref b65), .val (.ref b69), .val (.ref b103), .val (.int (p1 &&& (7 : Int32))), .val (.ref b109)] [])) _
            refine XS.iconst X115.here hx rfl (hb hby at_153) ?_
            show Steps p.tables e below (T115.setTop (mkF m 154 #[.val (.int p1), .val (.int p2), .val (.int p3), .val (.ref b65), .val (.ref b69), .val (.ref b103), .val (.int (p1 &&& (7 : Int32))), .val (.ref b109)] [(.int (1 : Int32))])) _
            refine XS.goto X115.here hx rfl (pc0 := 154) (pc' := 158) rfl (hb hby at_154) (by decide) (by decide) ?_
            show Steps p.tables e below (T115.setTop (mkF m 158 #[.val (.int p1), .val (.int p2), .val (.int p3), .val (.ref b65), .val (.ref b69), .val (.ref b103), .val (.int (p1 &&& (7 : Int32))), .val (.ref b109)] [(.int (1 : Int32))])) _
            exact k
          have le117 : T106.heap.size ≤ T110.heap.size := (Nat.le_trans E109.1 q110_0.1)
          obtain ⟨fs, hr, hrun, hended, hW⟩ := X115.leaveW hS106 (show _ ≤ T115.heap.size by rw [q115_0]; exact (Nat.le_trans (Nat.le_refl _) le117)) (v := some (.int (1 : Int32))) (fun h => by rw [Bd.returns] at h; cases h)
          refine ⟨_, _, ?_, hrun, hended, _, _, rfl, ?_, ⟨hW.1, hW.2.1, hW.2.2.1, hW.2.2.2.mono (by decide) (by decide)⟩⟩
          · exact retN X115 hx (t := .boolean) Bd.returns (by simp) (hb hby at_158) hr
          · show Q0 Z p1 p2 p3 w_DATA w_STRING_VALUE w_SECTIONS w_BINARY_VALUE h0 n0 _ T115.heap _
            rw [q115_0]
            exact ⟨rfl, N115⟩
        · refine own_go (B := T69.setTop (mkF m 106 #[.val (.int p1), .val (.int p2), .val (.int p3), .val (.ref b65), .val (.ref b69), .val .null, .val (.int (p1 &&& (7 : Int32))), .unset] [(.int (4 : Int32)), (.int (p1 &&& (7 : Int32)))])) (fun t k => ?_) ?_
          · show Steps p.tables e below (T69.setTop (mkF m 83 #[.val (.int p1), .val (.int p2), .val (.int p3), .val (.ref b65), .val (.ref b69), .val .null, .val (.int (p1 &&& (7 : Int32))), .unset] [(.int (3 : Int32)), (.int (p1 &&& (7 : Int32)))])) _
            refine XS.icmpYes X69.here hx rfl (pc0 := 83) (pc' := 103) rfl (hb hby at_83) rfl (feq hc102).2 (by decide) (by decide) ?_
            show Steps p.tables e below (T69.setTop (mkF m 103 #[.val (.int p1), .val (.int p2), .val (.int p3), .val (.ref b65), .val (.ref b69), .val .null, .val (.int (p1 &&& (7 : Int32))), .unset] [])) _
            refine XS.iload X69.here hx rfl (hb hby at_103) rfl ?_
            show Steps p.tables e below (T69.setTop (mkF m 105 #[.val (.int p1), .val (.int p2), .val (.int p3), .val (.ref b65), .val (.ref b69), .val .null, .val (.int (p1 &&& (7 : Int32))), .unset] [(.int (p1 &&& (7 : Int32)))])) _
            refine XS.iconst X69.here hx rfl (hb hby at_105) ?_
            show Steps p.tables e below (T69.setTop (mkF m 106 #[.val (.int p1), .val (.int p2), .val (.int p3), .val (.ref b65), .val (.ref b69), .val .null, .val (.int (p1 &&& (7 : Int32))), .unset] [(.int (4 : Int32)), (.int (p1 &&& (7 : Int32)))])) _
            exact k
          by_cases hc118 : (p1 &&& (7 : Int32)) = (4 : Int32)
          · refine own_go (B := T69.setTop (mkF m 109 #[.val (.int p1), .val (.int p2), .val (.int p3), .val (.ref b65), .val (.ref b69), .val .null, .val (.int (p1 &&& (7 : Int32))), .unset] [])) (fun t k => ?_) ?_
            · show Steps p.tables e below (T69.setTop (mkF m 106 #[.val (.int p1), .val (.int p2), .val (.int p3), .val (.ref b65), .val (.ref b69), .val .null, .val (.int (p1 &&& (7 : Int32))), .unset] [(.int (4 : Int32)), (.int (p1 &&& (7 : Int32)))])) _
              refine XS.icmpNo X69.here hx rfl (hb hby at_106) rfl (teq hc118).2 ?_
              show Steps p.tables e below (T69.setTop (mkF m 109 #[.val (.int p1), .val (.int p2), .val (.int p3), .val (.ref b65), .val (.ref b69), .val .null, .val (.int (p1 &&& (7 : Int32))), .unset] [])) _
              exact k
            obtain ⟨T119, h119, X119, e119, E119, A119, D119, -, st119⟩ := newO X69 hx hZ hown (hw _ (List.mem_of_getElem? (i := 38) rfl)) (hw _ (List.mem_of_getElem? (i := 39) rfl)) (hw _ (List.mem_of_getElem? (i := 40) rfl)) e69 (g := (mkF m 109 #[.val (.int p1), .val (.int p2), .val (.int p3), .val (.ref b65), .val (.ref b69), .val .null, .val (.int (p1 &&& (7 : Int32))), .unset] [])) rfl (hb hby at_109) (by decide) (by decide)
            obtain ⟨b119, g119⟩ : ∃ z, z = h69.size := ⟨_, rfl⟩
            rw [← g119] at A119 D119 st119
            refine own_go st119 ?_
            have K119 : Keep h0 h119 [] := Keep.ext K69 E119
            have F119_61 : Fld Z h119 b119 "com/example/porthcurno/porthcurno/model/AmqpSections" "sections" "[B" .null := D119 (Or.inr (hw _ (List.mem_of_getElem? (i := 61) rfl))) (ty := (.array .byte)) (by decide)
            have F119_63 : Fld Z h119 b119 "com/example/porthcurno/porthcurno/model/AmqpSections" "body" "Lcom/example/porthcurno/porthcurno/model/AmqpSections$Body;" .null := D119 (Or.inr (hw _ (List.mem_of_getElem? (i := 63) rfl))) (ty := (.object "com/example/porthcurno/porthcurno/model/AmqpSections$Body")) (by decide)
            refine own_go (B := T119.setTop (mkF m 115 #[.val (.int p1), .val (.int p2), .val (.int p3), .val (.ref b65), .val (.ref b69), .val .null, .val (.int (p1 &&& (7 : Int32))), .unset] [(.ref b69), (.ref b119), (.ref b119)])) (fun t k => ?_) ?_
            · show Steps p.tables e below (T119.setTop (mkF m 112 #[.val (.int p1), .val (.int p2), .val (.int p3), .val (.ref b65), .val (.ref b69), .val .null, .val (.int (p1 &&& (7 : Int32))), .unset] [(.ref b119)])) _
              refine XS.dup X119.here hx rfl (hb hby at_112) rfl rfl ?_
              show Steps p.tables e below (T119.setTop (mkF m 113 #[.val (.int p1), .val (.int p2), .val (.int p3), .val (.ref b65), .val (.ref b69), .val .null, .val (.int (p1 &&& (7 : Int32))), .unset] [(.ref b119), (.ref b119)])) _
              refine XS.aload X119.here hx rfl (hb hby at_113) rfl rfl ?_
              show Steps p.tables e below (T119.setTop (mkF m 115 #[.val (.int p1), .val (.int p2), .val (.int p3), .val (.ref b65), .val (.ref b69), .val .null, .val (.int (p1 &&& (7 : Int32))), .unset] [(.ref b69), (.ref b119), (.ref b119)])) _
              exact k
            have f121 : Sta Z h119 "com/example/porthcurno/porthcurno/model/AmqpSections$Body" "STRING_VALUE" "Lcom/example/porthcurno/porthcurno/model/AmqpSections$Body;" (.ref w_STRING_VALUE) := ((((S_STRING_VALUE.ext E65).wr W68).ext E69).ext E119)
            obtain ⟨T120, X120, e120, st120⟩ := getS2 X119 hx hZ hown (host := "") (Or.inl (hw _ (List.mem_of_getElem? (i := 64) rfl))) Via.refl e119 f121 (g := (mkF m 115 #[.val (.int p1), .val (.int p2), .val (.int p3), .val (.ref b65), .val (.ref b69), .val .null, .val (.int (p1 &&& (7 : Int32))), .unset] [(.ref b69), (.ref b119), (.ref b119)])) rfl (hb hby at_115)
            refine own_go st120 ?_
            have le123 : h0.size ≤ h69.size := (Nat.le_trans (Nat.le_trans E65.1 (Nat.le_of_eq (Wr.size W68).symm)) E69.1)
            have le124 : h0.size ≤ h119.size := (Nat.le_trans (Nat.le_trans (Nat.le_trans E65.1 (Nat.le_of_eq (Wr.size W68).symm)) E69.1) E119.1)
            obtain ⟨_, _, ⟨T122, L122, k122, n122⟩, -, X122, S122, G122, ⟨Lc122, hQ122, l122, y122, z122⟩, st122⟩ := X120.specialBackS hx (y := (⟨"com/example/porthcurno/porthcurno/model/AmqpSections", "<init>", "([BLcom/example/porthcurno/porthcurno/model/AmqpSections$Body;)V"⟩ : MethodName)) rfl hown (mvT hZ (hw _ (List.mem_of_getElem? (i := 44) rfl))) (mvT hZ (hw _ (List.mem_of_getElem? (i := 45) rfl))) (mvT hZ (hw _ (List.mem_of_getElem? (i := 46) rfl))) (by decide) (backOfS (W := 1) (rm7 l Z a0 hw [] b119 b69 w_STRING_VALUE h119 n0 (Nat.le_trans Z0 le124) A119 F119_61 F119_63 (Nat.le_trans (Nat.le_trans Z0 le123) (Nat.le_of_eq g119.symm))) hZ (hw _ (List.mem_of_getElem? (i := 46) rfl)) (hw _ (List.mem_of_getElem? (i := 40) rfl)) (by decide) (by decide)) (g := (mkF m 118 #[.val (.int p1), .val (.int p2), .val (.int p3), .val (.ref b65), .val (.ref b69), .val .null, .val (.int (p1 &&& (7 : Int32))), .unset] [(.ref w_STRING_VALUE), (.ref b69), (.ref b119), (.ref b119)])) rfl (by rw [hml]; rfl) (Steps.refl _) (a := b119) (argsL := [(.ref b69), (.ref w_STRING_VALUE)]) (rest := [(.ref b119)]) (lenOf pd_3 rfl) rfl (by show 2 * 0 + _ ≤ _; exact Nat.le_of_eq rfl) (hb hby at_118) (fun _ _ => ⟨rfl, e120, (by decide : 3 + 4 ≤ _), (by decide : 8 + 56 ≤ _)⟩)
            dsimp only [Pt.U, Pt.locs, Pt.cells, Pt.slots] at X122 S122 G122 l122 y122 z122 st122 hQ122
            subst l122 y122 z122
            obtain ⟨rfl, M122, q122_0⟩ := hQ122
            have N122 := Fr.app N68 M122
            have hS122 : s.Since T122.vm T122.heap.size := S122
            have hZ122 : Z.Warmed39 (s.setVm T122.vm).vm := State.Warmed39.trans (t := s) hZ S122.1
            have ho122 : (s.setVm T122.vm).vm.findClass "com/example/porthcurno/porthcurno/model/SentMessageExpiresPinLaw" = some m.cls := by rw [show (s.setVm T122.vm).vm = T122.vm from rfl, S122.1.alike.findClass]; exact hown
            replace X122 : Stand p l e _ (s.setVm T122.vm) m _ below meth c T122 _ _ _ := X122
            have K122 : Keep h0 T122.heap [] := Keep.trans K119 q122_0 (allS (Or.inr (Nat.le_trans le123 (Nat.le_of_eq g119.symm))) all0)
            refine own_go (fun t k => st122.trans k) ?_
            refine own_go (B := T122.setTop (mkF m 123 #[.val (.int p1), .val (.int p2), .val (.int p3), .val (.ref b65), .val (.ref b69), .val (.ref b119), .val (.int (p1 &&& (7 : Int32))), .unset] [])) (fun t k => ?_) ?_
            · show Steps p.tables e below (T122.setTop (mkF m 121 #[.val (.int p1), .val (.int p2), .val (.int p3), .val (.ref b65), .val (.ref b69), .val .null, .val (.int (p1 &&& (7 : Int32))), .unset] [(.ref b119)])) _
              refine XS.astore X122.here hx rfl (hb hby at_121) rfl rfl (l' := #[.val (.int p1), .val (.int p2), .val (.int p3), .val (.ref b65), .val (.ref b69), .val (.ref b119), .val (.int (p1 &&& (7 : Int32))), .unset]) rfl ?_
              show Steps p.tables e below (T122.setTop (mkF m 123 #[.val (.int p1), .val (.int p2), .val (.int p3), .val (.ref b65), .val (.ref b69), .val (.ref b119), .val (.int (p1 &&& (7 : Int32))), .unset] [])) _
              exact k
            obtain ⟨T125, h125, X125, e125, E125, A125, D125, -, st125⟩ := newO X122 hx hZ122 ho122 (hw _ (List.mem_of_getElem? (i := 1) rfl)) (hw _ (List.mem_of_getElem? (i := 2) rfl)) (hw _ (List.mem_of_getElem? (i := 3) rfl)) rfl (g := (mkF m 123 #[.val (.int p1), .val (.int p2), .val (.int p3), .val (.ref b65), .val (.ref b69), .val (.ref b119), .val (.int (p1 &&& (7 : Int32))), .unset] [])) rfl (hb hby at_123) (by decide) (by decide)
            obtain ⟨b125, g125⟩ : ∃ z, z = T122.heap.size := ⟨_, rfl⟩
            rw [← g125] at A125 D125 st125
            refine own_go st125 ?_
            have K125 : Keep h0 h125 [] := Keep.ext K122 E125
            have F125_19 : Fld Z h125 b125 "com/example/porthcurno/porthcurno/model/SentMessage" "properties" "Ljava/util/Map;" .null := D125 (Or.inr (hw _ (List.mem_of_getElem? (i := 19) rfl))) (ty := (.object "java/util/Map")) (by decide)
            have F125_21 : Fld Z h125 b125 "com/example/porthcurno/porthcurno/model/SentMessage" "body" "[B" .null := D125 (Or.inr (hw _ (List.mem_of_getElem? (i := 21) rfl))) (ty := (.array .byte)) (by decide)
            have F125_23 : Fld Z h125 b125 "com/example/porthcurno/porthcurno/model/SentMessage" "amqp" "Lcom/example/porthcurno/porthcurno/model/AmqpSections;" .null := D125 (Or.inr (hw _ (List.mem_of_getElem? (i := 23) rfl))) (ty := (.object "com/example/porthcurno/porthcurno/model/AmqpSections")) (by decide)
            have F125_25 : Fld Z h125 b125 "com/example/porthcurno/porthcurno/model/SentMessage" "timeToLive" "Ljava/time/Duration;" .null := D125 (Or.inr (hw _ (List.mem_of_getElem? (i := 25) rfl))) (ty := (.object "java/time/Duration")) (by decide)
            have F125_27 : Fld Z h125 b125 "com/example/porthcurno/porthcurno/model/SentMessage" "absoluteExpiryTime" "Ljava/time/Instant;" .null := D125 (Or.inr (hw _ (List.mem_of_getElem? (i := 27) rfl))) (ty := (.object "java/time/Instant")) (by decide)
            refine own_go (B := T125.setTop (mkF m 131 #[.val (.int p1), .val (.int p2), .val (.int p3), .val (.ref b65), .val (.ref b69), .val (.ref b119), .val (.int (p1 &&& (7 : Int32))), .unset] [(.ref b119), (.ref b65), .null, (.ref b125), (.ref b125)])) (fun t k => ?_) ?_
            · show Steps p.tables e below (T125.setTop (mkF m 126 #[.val (.int p1), .val (.int p2), .val (.int p3), .val (.ref b65), .val (.ref b69), .val (.ref b119), .val (.int (p1 &&& (7 : Int32))), .unset] [(.ref b125)])) _
              refine XS.dup X125.here hx rfl (hb hby at_126) rfl rfl ?_
              show Steps p.tables e below (T125.setTop (mkF m 127 #[.val (.int p1), .val (.int p2), .val (.int p3), .val (.ref b65), .val (.ref b69), .val (.ref b119), .val (.int (p1 &&& (7 : Int32))), .unset] [(.ref b125), (.ref b125)])) _
              refine XS.aconstNull X125.here hx rfl (hb hby at_127) ?_
              show Steps p.tables e below (T125.setTop (mkF m 128 #[.val (.int p1), .val (.int p2), .val (.int p3), .val (.ref b65), .val (.ref b69), .val (.ref b119), .val (.int (p1 &&& (7 : Int32))), .unset] [.null, (.ref b125), (.ref b125)])) _
              refine XS.aloadN X125.here hx rfl (hb hby at_128) rfl rfl ?_
              show Steps p.tables e below (T125.setTop (mkF m 129 #[.val (.int p1), .val (.int p2), .val (.int p3), .val (.ref b65), .val (.ref b69), .val (.ref b119), .val (.int (p1 &&& (7 : Int32))), .unset] [(.ref b65), .null, (.ref b125), (.ref b125)])) _
              refine XS.aload X125.here hx rfl (hb hby at_129) rfl rfl ?_
              show Steps p.tables e below (T125.setTop (mkF m 131 #[.val (.int p1), .val (.int p2), .val (.int p3), .val (.ref b65), .val (.ref b69), .val (.ref b119), .val (.int (p1 &&& (7 : Int32))), .unset] [(.ref b119), (.ref b65), .null, (.ref b125), (.ref b125)])) _
              exact k
            have le127 : h0.size ≤ T122.heap.size := (Nat.le_trans (Nat.le_trans (Nat.le_trans (Nat.le_trans E65.1 (Nat.le_of_eq (Wr.size W68).symm)) E69.1) E119.1) q122_0.1)
            have le128 : h0.size ≤ h125.size := (Nat.le_trans (Nat.le_trans (Nat.le_trans (Nat.le_trans (Nat.le_trans E65.1 (Nat.le_of_eq (Wr.size W68).symm)) E69.1) E119.1) q122_0.1) E125.1)
            obtain ⟨_, _, ⟨T126, L126, k126, n126⟩, -, X126, ⟨Lc126, hQ126, l126, y126, z126⟩, st126⟩ := X125.specialBack hx (y := (⟨"com/example/porthcurno/porthcurno/model/SentMessage", "<init>", "(Ljava/util/Map;[BLcom/example/porthcurno/porthcurno/model/AmqpSections;)V"⟩ : MethodName)) rfl ho122 (mvT hZ122 (hw _ (List.mem_of_getElem? (i := 4) rfl))) (mvT hZ122 (hw _ (List.mem_of_getElem? (i := 5) rfl))) (mvT hZ122 (hw _ (List.mem_of_getElem? (i := 6) rfl))) (by decide) (backOf (W := 1) (rm1 l Z a0 hw [] b125 b65 b119 h125 n0 (Nat.le_trans Z0 le128) A125 F125_19 F125_21 F125_23 F125_25 F125_27 (Nat.le_trans (Nat.le_trans Z0 le127) (Nat.le_of_eq g125.symm))) hZ122 (hw _ (List.mem_of_getElem? (i := 6) rfl)) (hw _ (List.mem_of_getElem? (i := 3) rfl)) (by decide) (by decide)) (g := (mkF m 131 #[.val (.int p1), .val (.int p2), .val (.int p3), .val (.ref b65), .val (.ref b69), .val (.ref b119), .val (.int (p1 &&& (7 : Int32))), .unset] [(.ref b119), (.ref b65), .null, (.ref b125), (.ref b125)])) rfl (by rw [hml]; rfl) (Steps.refl _) (a := b125) (argsL := [.null, (.ref b65), (.ref b119)]) (rest := [(.ref b125)]) (lenOf pd_4 rfl) rfl (by show 2 * 0 + _ ≤ _; exact Nat.le_of_eq rfl) (hb hby at_131) (fun _ _ => ⟨rfl, e125, (by decide : 8 + 0 ≤ _), (by decide : 69 + 0 ≤ _)⟩)
            dsimp only [Pt.U, Pt.locs, Pt.cells, Pt.slots] at X126 l126 y126 z126 st126 hQ126
            subst l126 y126 z126
            obtain ⟨rfl, M126, q126_0, q126_1, q126_2, q126_3⟩ := hQ126
            have N126 := Fr.app N122 M126
            have K126 : Keep h0 T126.heap [] := Keep.trans K125 q126_0 (allS (Or.inr (Nat.le_trans le127 (Nat.le_of_eq g125.symm))) all0)
            refine own_go (fun t k => st126.trans k) ?_
            refine own_go (B := T126.setTop (mkF m 138 #[.val (.int p1), .val (.int p2), .val (.int p3), .val (.ref b65), .val (.ref b69), .val (.ref b119), .val (.int (p1 &&& (7 : Int32))), .val (.ref b125)] [(.ref b125)])) (fun t k => ?_) ?_
            · show Steps p.tables e below (T126.setTop (mkF m 134 #[.val (.int p1), .val (.int p2), .val (.int p3), .val (.ref b65), .val (.ref b69), .val (.ref b119), .val (.int (p1 &&& (7 : Int32))), .unset] [(.ref b125)])) _
              refine XS.astore X126.here hx rfl (hb hby at_134) rfl rfl (l' := #[.val (.int p1), .val (.int p2), .val (.int p3), .val (.ref b65), .val (.ref b69), .val (.ref b119), .val (.int (p1 &&& (7 : Int32))), .val (.ref b125)]) rfl ?_
              show Steps p.tables e below (T126.setTop (mkF m 136 #[.val (.int p1), .val (.int p2), .val (.int p3), .val (.ref b65), .val (.ref b69), .val (.ref b119), .val (.int (p1 &&& (7 : Int32))), .val (.ref b125)] [])) _
              refine XS.aload X126.here hx rfl (hb hby at_136) rfl rfl ?_
              show Steps p.tables e below (T126.setTop (mkF m 138 #[.val (.int p1), .val (.int p2), .val (.int p3), .val (.ref b65), .val (.ref b69), .val (.ref b119), .val (.int (p1 &&& (7 : Int32))), .val (.ref b125)] [(.ref b125)])) _
              exact k
            have le130 : h0.size ≤ T126.heap.size := (Nat.le_trans (Nat.le_trans (Nat.le_trans (Nat.le_trans (Nat.le_trans (Nat.le_trans E65.1 (Nat.le_of_eq (Wr.size W68).symm)) E69.1) E119.1) q122_0.1) E125.1) q126_0.1)
            obtain ⟨cq129, kq129, q129a, q129b, q129c⟩ := isOf hZ122 rfl q126_1
            obtain ⟨_, _, ⟨T129, L129, k129, n129⟩, -, X129, ⟨Lc129, hQ129, l129, y129, z129⟩, st129⟩ := X126.virtualBack hx (y := (⟨"com/example/porthcurno/porthcurno/model/SentMessage", "expires", "()Z"⟩ : MethodName)) (z := (⟨"com/example/porthcurno/porthcurno/model/SentMessage", "expires", "()Z"⟩ : MethodName)) ho122 (mvT hZ122 (hw _ (List.mem_of_getElem? (i := 28) rfl))) (mvT hZ122 (hw _ (List.mem_of_getElem? (i := 29) rfl))) (notFace_of_selects (args := #[]) (mvT hZ122 (hw _ (List.mem_of_getElem? (i := 31) rfl)))) (mvT hZ122 (hw _ (List.mem_of_getElem? (i := 31) rfl))) (mvT hZ122 (hw _ (List.mem_of_getElem? (i := 30) rfl))) (by decide) (backOf (W := 0) (rm5 l Z a0 hw [] b125 T126.heap n0 (Nat.le_trans Z0 le130) q126_2 q126_3) hZ122 (hw _ (List.mem_of_getElem? (i := 32) rfl)) (hw _ (List.mem_of_getElem? (i := 3) rfl)) (by decide) (by decide)) q129a q129c (g := (mkF m 138 #[.val (.int p1), .val (.int p2), .val (.int p3), .val (.ref b65), .val (.ref b69), .val (.ref b119), .val (.int (p1 &&& (7 : Int32))), .val (.ref b125)] [(.ref b125)])) rfl (by rw [hml]; rfl) (Steps.refl _) (argsL := []) (rest := []) (lenOf pd_5 rfl) rfl (by show 2 * 0 + _ ≤ _; exact Nat.le_of_eq rfl) (hb hby at_138) (fun _ _ => ⟨rfl, rfl, (by decide : 8 + 0 ≤ _), (by decide : 69 + 0 ≤ _)⟩)
            dsimp only [Pt.U, Pt.locs, Pt.cells, Pt.slots] at X129 l129 y129 z129 st129 hQ129
            subst l129 y129 z129
            obtain ⟨rfl, M129, q129_0⟩ := hQ129
            have N129 := Fr.app N126 M129
            refine own_go (fun t k => st129.trans k) ?_
            refine own_go (B := T129.setTop (mkF m 147 #[.val (.int p1), .val (.int p2), .val (.int p3), .val (.ref b65), .val (.ref b69), .val (.ref b119), .val (.int (p1 &&& (7 : Int32))), .val (.ref b125)] [.null, (.ref b125)])) (fun t k => ?_) ?_
            · show Steps p.tables e below (T129.setTop (mkF m 141 #[.val (.int p1), .val (.int p2), .val (.int p3), .val (.ref b65), .val (.ref b69), .val (.ref b119), .val (.int (p1 &&& (7 : Int32))), .val (.ref b125)] [(.int (0 : Int32))])) _
              refine XS.ifNo X129.here hx rfl (hb hby at_141) rfl ((if0 _ _).trans (teq (by decide : (0 : Int32) = (0 : Int32))).2) ?_
              show Steps p.tables e below (T129.setTop (mkF m 144 #[.val (.int p1), .val (.int p2), .val (.int p3), .val (.ref b65), .val (.ref b69), .val (.ref b119), .val (.int (p1 &&& (7 : Int32))), .val (.ref b125)] [])) _
              refine XS.aload X129.here hx rfl (hb hby at_144) rfl rfl ?_
              show Steps p.tables e below (T129.setTop (mkF m 146 #[.val (.int p1), .val (.int p2), .val (.int p3), .val (.ref b65), .val (.ref b69), .val (.ref b119), .val (.int (p1 &&& (7 : Int32))), .val (.ref b125)] [(.ref b125)])) _
              refine XS.aconstNull X129.here hx rfl (hb hby at_146) ?_
              show Steps p.tables e below (T129.setTop (mkF m 147 #[.val (.int p1), .val (.int p2), .val (.int p3), .val (.ref b65), .val (.ref b69), .val (.ref b119), .val (.int (p1 &&& (7 : Int32))), .val (.ref b125)] [.null, (.ref b125)])) _
              exact k
            obtain ⟨cq131, kq131, q131a, q131b, q131c⟩ := isOf hZ122 q129_0 q126_1
            obtain ⟨_, _, ⟨T131, L131, k131, n131⟩, -, X131, ⟨Lc131, hQ131, l131, y131, z131⟩, st131⟩ := X129.virtualBack hx (y := (⟨"com/example/porthcurno/porthcurno/model/SentMessage", "timeToLiveFrom", "(Ljava/time/Instant;)Ljava/time/Duration;"⟩ : MethodName)) (z := (⟨"com/example/porthcurno/porthcurno/model/SentMessage", "timeToLiveFrom", "(Ljava/time/Instant;)Ljava/time/Duration;"⟩ : MethodName)) ho122 (mvT hZ122 (hw _ (List.mem_of_getElem? (i := 33) rfl))) (mvT hZ122 (hw _ (List.mem_of_getElem? (i := 34) rfl))) (notFace_of_selects (args := #[]) (mvT hZ122 (hw _ (List.mem_of_getElem? (i := 36) rfl)))) (mvT hZ122 (hw _ (List.mem_of_getElem? (i := 36) rfl))) (mvT hZ122 (hw _ (List.mem_of_getElem? (i := 35) rfl))) (by decide) (backOf (W := 0) (rm6 l Z a0 hw [] b125 T126.heap n0 (Nat.le_trans Z0 le130) q126_2 q126_3) hZ122 (hw _ (List.mem_of_getElem? (i := 37) rfl)) (hw _ (List.mem_of_getElem? (i := 3) rfl)) (by decide) (by decide)) q131a q131c (g := (mkF m 147 #[.val (.int p1), .val (.int p2), .val (.int p3), .val (.ref b65), .val (.ref b69), .val (.ref b119), .val (.int (p1 &&& (7 : Int32))), .val (.ref b125)] [.null, (.ref b125)])) rfl (by rw [hml]; rfl) (Steps.refl _) (argsL := [.null]) (rest := []) (lenOf pd_6 rfl) rfl (by show 2 * 0 + _ ≤ _; exact Nat.le_of_eq rfl) (hb hby at_147) (fun _ _ => ⟨rfl, q129_0, (by decide : 8 + 0 ≤ _), (by decide : 69 + 0 ≤ _)⟩)
            dsimp only [Pt.U, Pt.locs, Pt.cells, Pt.slots] at X131 l131 y131 z131 st131 hQ131
            subst l131 y131 z131
            obtain ⟨rfl, M131, q131_0⟩ := hQ131
            have N131 := Fr.app N129 M131
            refine own_go (fun t k => st131.trans k) ?_
            refine own_go (B := T131.setTop (mkF m 158 #[.val (.int p1), .val (.int p2), .val (.int p3), .val (.ref b65), .val (.ref b69), .val (.ref b119), .val (.int (p1 &&& (7 : Int32))), .val (.ref b125)] [(.int (1 : Int32))])) (fun t k => ?_) ?_
            · show Steps p.tables e below (T131.setTop (mkF m 150 #[.val (.int p1), .val (.int p2), .val (.int p3), .val (.ref b65), .val (.ref b69), .val (.ref b119), .val (.int (p1 &&& (7 : Int32))), .val (.ref b125)] [.null])) _
              refine XS.ifnonnullNo X131.here hx rfl (hb hby at_150) rfl ?_
              show Steps p.tables e below (T131.setTop (mkF m 153 #[.val (.int p1), .val (.int p2), .val (.int p3), .val (.ref b65), .val (.ref b69), .val (.ref b119), .val (.int (p1 &&& (7 : Int32))), .val (.ref b125)] [])) _
              refine XS.iconst X131.here hx rfl (hb hby at_153) ?_
              show Steps p.tables e below (T131.setTop (mkF m 154 #[.val (.int p1), .val (.int p2), .val (.int p3), .val (.ref b65), .val (.ref b69), .val (.ref b119), .val (.int (p1 &&& (7 : Int32))), .val (.ref b125)] [(.int (1 : Int32))])) _
              refine XS.goto X131.here hx rfl (pc0 := 154) (pc' := 158) rfl (hb hby at_154) (by decide) (by decide) ?_
              show Steps p.tables e below (T131.setTop (mkF m 158 #[.val (.int p1), .val (.int p2), .val (.int p3), .val (.ref b65), .val (.ref b69), .val (.ref b119), .val (.int (p1 &&& (7 : Int32))), .val (.ref b125)] [(.int (1 : Int32))])) _
              exact k
            have le133 : T122.heap.size ≤ T126.heap.size := (Nat.le_trans E125.1 q126_0.1)
            obtain ⟨fs, hr, hrun, hended, hW⟩ := X131.leaveW hS122 (show _ ≤ T131.heap.size by rw [q131_0]; exact (Nat.le_trans (Nat.le_refl _) le133)) (v := some (.int (1 : Int32))) (fun h => by rw [Bd.returns] at h; cases h)
            refine ⟨_, _, ?_, hrun, hended, _, _, rfl, ?_, ⟨hW.1, hW.2.1, hW.2.2.1, hW.2.2.2.mono (by decide) (by decide)⟩⟩
            · exact retN X131 hx (t := .boolean) Bd.returns (by simp) (hb hby at_158) hr
            · show Q0 Z p1 p2 p3 w_DATA w_STRING_VALUE w_SECTIONS w_BINARY_VALUE h0 n0 _ T131.heap _
              rw [q131_0]
              exact ⟨rfl, N131⟩
          · refine own_go (B := T69.setTop (mkF m 123 #[.val (.int p1), .val (.int p2), .val (.int p3), .val (.ref b65), .val (.ref b69), .val .null, .val (.int (p1 &&& (7 : Int32))), .unset] [])) (fun t k => ?_) ?_
            · show Steps p.tables e below (T69.setTop (mkF m 106 #[.val (.int p1), .val (.int p2), .val (.int p3), .val (.ref b65), .val (.ref b69), .val .null, .val (.int (p1 &&& (7 : Int32))), .unset] [(.int (4 : Int32)), (.int (p1 &&& (7 : Int32)))])) _
              refine XS.icmpYes X69.here hx rfl (pc0 := 106) (pc' := 123) rfl (hb hby at_106) rfl (feq hc118).2 (by decide) (by decide) ?_
              show Steps p.tables e below (T69.setTop (mkF m 123 #[.val (.int p1), .val (.int p2), .val (.int p3), .val (.ref b65), .val (.ref b69), .val .null, .val (.int (p1 &&& (7 : Int32))), .unset] [])) _
              exact k
            obtain ⟨T134, h134, X134, e134, E134, A134, D134, -, st134⟩ := newO X69 hx hZ hown (hw _ (List.mem_of_getElem? (i := 1) rfl)) (hw _ (List.mem_of_getElem? (i := 2) rfl)) (hw _ (List.mem_of_getElem? (i := 3) rfl)) e69 (g := (mkF m 123 #[.val (.int p1), .val (.int p2), .val (.int p3), .val (.ref b65), .val (.ref b69), .val .null, .val (.int (p1 &&& (7 : Int32))), .unset] [])) rfl (hb hby at_123) (by decide) (by decide)
            obtain ⟨b134, g134⟩ : ∃ z, z = h69.size := ⟨_, rfl⟩
            rw [← g134] at A134 D134 st134
            refine own_go st134 ?_
            have K134 : Keep h0 h134 [] := Keep.ext K69 E134
            have F134_19 : Fld Z h134 b134 "com/example/porthcurno/porthcurno/model/SentMessage" "properties" "Ljava/util/Map;" .null := D134 (Or.inr (hw _ (List.mem_of_getElem? (i := 19) rfl))) (ty := (.object "java/util/Map")) (by decide)
            have F134_21 : Fld Z h134 b134 "com/example/porthcurno/porthcurno/model/SentMessage" "body" "[B" .null := D134 (Or.inr (hw _ (List.mem_of_getElem? (i := 21) rfl))) (ty := (.array .byte)) (by decide)
            have F134_23 : Fld Z h134 b134 "com/example/porthcurno/porthcurno/model/SentMessage" "amqp" "Lcom/example/porthcurno/porthcurno/model/AmqpSections;" .null := D134 (Or.inr (hw _ (List.mem_of_getElem? (i := 23) rfl))) (ty := (.object "com/example/porthcurno/porthcurno/model/AmqpSections")) (by decide)
            have F134_25 : Fld Z h134 b134 "com/example/porthcurno/porthcurno/model/SentMessage" "timeToLive" "Ljava/time/Duration;" .null := D134 (Or.inr (hw _ (List.mem_of_getElem? (i := 25) rfl))) (ty := (.object "java/time/Duration")) (by decide)
            have F134_27 : Fld Z h134 b134 "com/example/porthcurno/porthcurno/model/SentMessage" "absoluteExpiryTime" "Ljava/time/Instant;" .null := D134 (Or.inr (hw _ (List.mem_of_getElem? (i := 27) rfl))) (ty := (.object "java/time/Instant")) (by decide)
            refine own_go (B := T134.setTop (mkF m 131 #[.val (.int p1), .val (.int p2), .val (.int p3), .val (.ref b65), .val (.ref b69), .val .null, .val (.int (p1 &&& (7 : Int32))), .unset] [.null, (.ref b65), .null, (.ref b134), (.ref b134)])) (fun t k => ?_) ?_
            · show Steps p.tables e below (T134.setTop (mkF m 126 #[.val (.int p1), .val (.int p2), .val (.int p3), .val (.ref b65), .val (.ref b69), .val .null, .val (.int (p1 &&& (7 : Int32))), .unset] [(.ref b134)])) _
              refine XS.dup X134.here hx rfl (hb hby at_126) rfl rfl ?_
              show Steps p.tables e below (T134.setTop (mkF m 127 #[.val (.int p1), .val (.int p2), .val (.int p3), .val (.ref b65), .val (.ref b69), .val .null, .val (.int (p1 &&& (7 : Int32))), .unset] [(.ref b134), (.ref b134)])) _
              refine XS.aconstNull X134.here hx rfl (hb hby at_127) ?_
              show Steps p.tables e below (T134.setTop (mkF m 128 #[.val (.int p1), .val (.int p2), .val (.int p3), .val (.ref b65), .val (.ref b69), .val .null, .val (.int (p1 &&& (7 : Int32))), .unset] [.null, (.ref b134), (.ref b134)])) _
              refine XS.aloadN X134.here hx rfl (hb hby at_128) rfl rfl ?_
              show Steps p.tables e below (T134.setTop (mkF m 129 #[.val (.int p1), .val (.int p2), .val (.int p3), .val (.ref b65), .val (.ref b69), .val .null, .val (.int (p1 &&& (7 : Int32))), .unset] [(.ref b65), .null, (.ref b134), (.ref b134)])) _
              refine XS.aload X134.here hx rfl (hb hby at_129) rfl rfl ?_
              show Steps p.tables e below (T134.setTop (mkF m 131 #[.val (.int p1), .val (.int p2), .val (.int p3), .val (.ref b65), .val (.ref b69), .val .null, .val (.int (p1 &&& (7 : Int32))), .unset] [.null, (.ref b65), .null, (.ref b134), (.ref b134)])) _
              exact k
            have le136 : h0.size ≤ h69.size := (Nat.le_trans (Nat.le_trans E65.1 (Nat.le_of_eq (Wr.size W68).symm)) E69.1)
            have le137 : h0.size ≤ h134.size := (Nat.le_trans (Nat.le_trans (Nat.le_trans E65.1 (Nat.le_of_eq (Wr.size W68).symm)) E69.1) E134.1)
            obtain ⟨_, _, ⟨T135, L135, k135, n135⟩, -, X135, ⟨Lc135, hQ135, l135, y135, z135⟩, st135⟩ := X134.specialBack hx (y := (⟨"com/example/porthcurno/porthcurno/model/SentMessage", "<init>", "(Ljava/util/Map;[BLcom/example/porthcurno/porthcurno/model/AmqpSections;)V"⟩ : MethodName)) rfl hown (mvT hZ (hw _ (List.mem_of_getElem? (i := 4) rfl))) (mvT hZ (hw _ (List.mem_of_getElem? (i := 5) rfl))) (mvT hZ (hw _ (List.mem_of_getElem? (i := 6) rfl))) (by decide) (backOf (W := 1) (rm1n l Z a0 hw [] b134 b65 h134 n0 (Nat.le_trans Z0 le137) A134 F134_19 F134_21 F134_23 F134_25 F134_27 (Nat.le_trans (Nat.le_trans Z0 le136) (Nat.le_of_eq g134.symm))) hZ (hw _ (List.mem_of_getElem? (i := 6) rfl)) (hw _ (List.mem_of_getElem? (i := 3) rfl)) (by decide) (by decide)) (g := (mkF m 131 #[.val (.int p1), .val (.int p2), .val (.int p3), .val (.ref b65), .val (.ref b69), .val .null, .val (.int (p1 &&& (7 : Int32))), .unset] [.null, (.ref b65), .null, (.ref b134), (.ref b134)])) rfl (by rw [hml]; rfl) (Steps.refl _) (a := b134) (argsL := [.null, (.ref b65), .null]) (rest := [(.ref b134)]) (lenOf pd_4 rfl) rfl (by show 2 * 0 + _ ≤ _; exact Nat.le_of_eq rfl) (hb hby at_131) (fun _ _ => ⟨rfl, e134, (by decide : 3 + 0 ≤ _), (by decide : 11 + 0 ≤ _)⟩)
            dsimp only [Pt.U, Pt.locs, Pt.cells, Pt.slots] at X135 l135 y135 z135 st135 hQ135
            subst l135 y135 z135
            obtain ⟨rfl, M135, q135_0, q135_1, q135_2, q135_3⟩ := hQ135
            have N135 := Fr.app N68 M135
            have K135 : Keep h0 T135.heap [] := Keep.trans K134 q135_0 (allS (Or.inr (Nat.le_trans le136 (Nat.le_of_eq g134.symm))) all0)
            refine own_go (fun t k => st135.trans k) ?_
            refine own_go (B := T135.setTop (mkF m 138 #[.val (.int p1), .val (.int p2), .val (.int p3), .val (.ref b65), .val (.ref b69), .val .null, .val (.int (p1 &&& (7 : Int32))), .val (.ref b134)] [(.ref b134)])) (fun t k => ?_) ?_
            · show Steps p.tables e below (T135.setTop (mkF m 134 #[.val (.int p1), .val (.int p2), .val (.int p3), .val (.ref b65), .val (.ref b69), .val .null, .val (.int (p1 &&& (7 : Int32))), .unset] [(.ref b134)])) _
              refine XS.astore X135.here hx rfl (hb hby at_134) rfl rfl (l' := #[.val (.int p1), .val (.int p2), .val (.int p3), .val (.ref b65), .val (.ref b69), .val .null, .val (.int (p1 &&& (7 : Int32))), .val (.ref b134)]) rfl ?_
              show Steps p.tables e below (T135.setTop (mkF m 136 #[.val (.int p1), .val (.int p2), .val (.int p3), .val (.ref b65), .val (.ref b69), .val .null, .val (.int (p1 &&& (7 : Int32))), .val (.ref b134)] [])) _
              refine XS.aload X135.here hx rfl (hb hby at_136) rfl rfl ?_
              show Steps p.tables e below (T135.setTop (mkF m 138 #[.val (.int p1), .val (.int p2), .val (.int p3), .val (.ref b65), .val (.ref b69), .val .null, .val (.int (p1 &&& (7 : Int32))), .val (.ref b134)] [(.ref b134)])) _
              exact k
            have le139 : h0.size ≤ T135.heap.size := (Nat.le_trans (Nat.le_trans (Nat.le_trans (Nat.le_trans E65.1 (Nat.le_of_eq (Wr.size W68).symm)) E69.1) E134.1) q135_0.1)
            obtain ⟨cq138, kq138, q138a, q138b, q138c⟩ := isOf hZ rfl q135_1
            obtain ⟨_, _, ⟨T138, L138, k138, n138⟩, -, X138, ⟨Lc138, hQ138, l138, y138, z138⟩, st138⟩ := X135.virtualBack hx (y := (⟨"com/example/porthcurno/porthcurno/model/SentMessage", "expires", "()Z"⟩ : MethodName)) (z := (⟨"com/example/porthcurno/porthcurno/model/SentMessage", "expires", "()Z"⟩ : MethodName)) hown (mvT hZ (hw _ (List.mem_of_getElem? (i := 28) rfl))) (mvT hZ (hw _ (List.mem_of_getElem? (i := 29) rfl))) (notFace_of_selects (args := #[]) (mvT hZ (hw _ (List.mem_of_getElem? (i := 31) rfl)))) (mvT hZ (hw _ (List.mem_of_getElem? (i := 31) rfl))) (mvT hZ (hw _ (List.mem_of_getElem? (i := 30) rfl))) (by decide) (backOf (W := 0) (rm5 l Z a0 hw [] b134 T135.heap n0 (Nat.le_trans Z0 le139) q135_2 q135_3) hZ (hw _ (List.mem_of_getElem? (i := 32) rfl)) (hw _ (List.mem_of_getElem? (i := 3) rfl)) (by decide) (by decide)) q138a q138c (g := (mkF m 138 #[.val (.int p1), .val (.int p2), .val (.int p3), .val (.ref b65), .val (.ref b69), .val .null, .val (.int (p1 &&& (7 : Int32))), .val (.ref b134)] [(.ref b134)])) rfl (by rw [hml]; rfl) (Steps.refl _) (argsL := []) (rest := []) (lenOf pd_5 rfl) rfl (by show 2 * 0 + _ ≤ _; exact Nat.le_of_eq rfl) (hb hby at_138) (fun _ _ => ⟨rfl, rfl, (by decide : 3 + 0 ≤ _), (by decide : 11 + 0 ≤ _)⟩)
            dsimp only [Pt.U, Pt.locs, Pt.cells, Pt.slots] at X138 l138 y138 z138 st138 hQ138
            subst l138 y138 z138
            obtain ⟨rfl, M138, q138_0⟩ := hQ138
            have N138 := Fr.app N135 M138
            refine own_go (fun t k => st138.trans k) ?_
            refine own_go (B := T138.setTop (mkF m 147 #[.val (.int p1), .val (.int p2), .val (.int p3), .val (.ref b65), .val (.ref b69), .val .null, .val (.int (p1 &&& (7 : Int32))), .val (.ref b134)] [.null, (.ref b134)])) (fun t k => ?_) ?_
            · show Steps p.tables e below (T138.setTop (mkF m 141 #[.val (.int p1), .val (.int p2), .val (.int p3), .val (.ref b65), .val (.ref b69), .val .null, .val (.int (p1 &&& (7 : Int32))), .val (.ref b134)] [(.int (0 : Int32))])) _
              refine XS.ifNo X138.here hx rfl (hb hby at_141) rfl ((if0 _ _).trans (teq (by decide : (0 : Int32) = (0 : Int32))).2) ?_
              show Steps p.tables e below (T138.setTop (mkF m 144 #[.val (.int p1), .val (.int p2), .val (.int p3), .val (.ref b65), .val (.ref b69), .val .null, .val (.int (p1 &&& (7 : Int32))), .val (.ref b134)] [])) _
              refine XS.aload X138.here hx rfl (hb hby at_144) rfl rfl ?_
              show Steps p.tables e below (T138.setTop (mkF m 146 #[.val (.int p1), .val (.int p2), .val (.int p3), .val (.ref b65), .val (.ref b69), .val .null, .val (.int (p1 &&& (7 : Int32))), .val (.ref b134)] [(.ref b134)])) _
              refine XS.aconstNull X138.here hx rfl (hb hby at_146) ?_
              show Steps p.tables e below (T138.setTop (mkF m 147 #[.val (.int p1), .val (.int p2), .val (.int p3), .val (.ref b65), .val (.ref b69), .val .null, .val (.int (p1 &&& (7 : Int32))), .val (.ref b134)] [.null, (.ref b134)])) _
              exact k
            obtain ⟨cq140, kq140, q140a, q140b, q140c⟩ := isOf hZ q138_0 q135_1
            obtain ⟨_, _, ⟨T140, L140, k140, n140⟩, -, X140, ⟨Lc140, hQ140, l140, y140, z140⟩, st140⟩ := X138.virtualBack hx (y := (⟨"com/example/porthcurno/porthcurno/model/SentMessage", "timeToLiveFrom", "(Ljava/time/Instant;)Ljava/time/Duration;"⟩ : MethodName)) (z := (⟨"com/example/porthcurno/porthcurno/model/SentMessage", "timeToLiveFrom", "(Ljava/time/Instant;)Ljava/time/Duration;"⟩ : MethodName)) hown (mvT hZ (hw _ (List.mem_of_getElem? (i := 33) rfl))) (mvT hZ (hw _ (List.mem_of_getElem? (i := 34) rfl))) (notFace_of_selects (args := #[]) (mvT hZ (hw _ (List.mem_of_getElem? (i := 36) rfl)))) (mvT hZ (hw _ (List.mem_of_getElem? (i := 36) rfl))) (mvT hZ (hw _ (List.mem_of_getElem? (i := 35) rfl))) (by decide) (backOf (W := 0) (rm6 l Z a0 hw [] b134 T135.heap n0 (Nat.le_trans Z0 le139) q135_2 q135_3) hZ (hw _ (List.mem_of_getElem? (i := 37) rfl)) (hw _ (List.mem_of_getElem? (i := 3) rfl)) (by decide) (by decide)) q140a q140c (g := (mkF m 147 #[.val (.int p1), .val (.int p2), .val (.int p3), .val (.ref b65), .val (.ref b69), .val .null, .val (.int (p1 &&& (7 : Int32))), .val (.ref b134)] [.null, (.ref b134)])) rfl (by rw [hml]; rfl) (Steps.refl _) (argsL := [.null]) (rest := []) (lenOf pd_6 rfl) rfl (by show 2 * 0 + _ ≤ _; exact Nat.le_of_eq rfl) (hb hby at_147) (fun _ _ => ⟨rfl, q138_0, (by decide : 3 + 0 ≤ _), (by decide : 11 + 0 ≤ _)⟩)
            dsimp only [Pt.U, Pt.locs, Pt.cells, Pt.slots] at X140 l140 y140 z140 st140 hQ140
            subst l140 y140 z140
            obtain ⟨rfl, M140, q140_0⟩ := hQ140
            have N140 := Fr.app N138 M140
            refine own_go (fun t k => st140.trans k) ?_
            refine own_go (B := T140.setTop (mkF m 158 #[.val (.int p1), .val (.int p2), .val (.int p3), .val (.ref b65), .val (.ref b69), .val .null, .val (.int (p1 &&& (7 : Int32))), .val (.ref b134)] [(.int (1 : Int32))])) (fun t k => ?_) ?_
            · show Steps p.tables e below (T140.setTop (mkF m 150 #[.val (.int p1), .val (.int p2), .val (.int p3), .val (.ref b65), .val (.ref b69), .val .null, .val (.int (p1 &&& (7 : Int32))), .val (.ref b134)] [.null])) _
              refine XS.ifnonnullNo X140.here hx rfl (hb hby at_150) rfl ?_
              show Steps p.tables e below (T140.setTop (mkF m 153 #[.val (.int p1), .val (.int p2), .val (.int p3), .val (.ref b65), .val (.ref b69), .val .null, .val (.int (p1 &&& (7 : Int32))), .val (.ref b134)] [])) _
              refine XS.iconst X140.here hx rfl (hb hby at_153) ?_
              show Steps p.tables e below (T140.setTop (mkF m 154 #[.val (.int p1), .val (.int p2), .val (.int p3), .val (.ref b65), .val (.ref b69), .val .null, .val (.int (p1 &&& (7 : Int32))), .val (.ref b134)] [(.int (1 : Int32))])) _
              refine XS.goto X140.here hx rfl (pc0 := 154) (pc' := 158) rfl (hb hby at_154) (by decide) (by decide) ?_
              show Steps p.tables e below (T140.setTop (mkF m 158 #[.val (.int p1), .val (.int p2), .val (.int p3), .val (.ref b65), .val (.ref b69), .val .null, .val (.int (p1 &&& (7 : Int32))), .val (.ref b134)] [(.int (1 : Int32))])) _
              exact k
            obtain ⟨fs, hr, hrun, hended, hW, hsame⟩ := X140.leave (v := some (.int (1 : Int32))) (fun h => by rw [Bd.returns] at h; cases h)
            refine ⟨_, _, ?_, hrun, hended, _, _, rfl, ?_, (ReturnedEndW.of_narrow ⟨_, rfl⟩ hW (hsame.mono (by decide) (by decide)))⟩
            · exact retN X140 hx (t := .boolean) Bd.returns (by simp) (hb hby at_158) hr
            · show Q0 Z p1 p2 p3 w_DATA w_STRING_VALUE w_SECTIONS w_BINARY_VALUE h0 n0 _ T140.heap _
              rw [q140_0]
              exact ⟨rfl, N140⟩
  · refine own_go (B := T65.setTop (mkF m 21 #[.val (.int p1), .val (.int p2), .val (.int p3), .val (.ref b65), .unset, .unset, .unset, .unset] [(.int (((p2.toUInt32 >>> ((2 : Int32) &&& 31).toUInt32).toInt32) &&& (3 : Int32)))])) (fun t k => ?_) ?_
    · show Steps p.tables e below (T65.setTop (mkF m 8 #[.val (.int p1), .val (.int p2), .val (.int p3), .val (.ref b65), .unset, .unset, .unset, .unset] [(.int (p2 &&& (3 : Int32)))])) _
      refine XS.ifYes X65.here hx rfl (pc0 := 8) (pc' := 16) rfl (hb hby at_8) rfl ((if0 _ _).trans (flt hc67).2.2.2) (by decide) (by decide) ?_
      show Steps p.tables e below (T65.setTop (mkF m 16 #[.val (.int p1), .val (.int p2), .val (.int p3), .val (.ref b65), .unset, .unset, .unset, .unset] [])) _
      refine XS.iloadN X65.here hx rfl (hb hby at_16) rfl ?_
      show Steps p.tables e below (T65.setTop (mkF m 17 #[.val (.int p1), .val (.int p2), .val (.int p3), .val (.ref b65), .unset, .unset, .unset, .unset] [(.int p2)])) _
      refine XS.iconst X65.here hx rfl (hb hby at_17) ?_
      show Steps p.tables e below (T65.setTop (mkF m 18 #[.val (.int p1), .val (.int p2), .val (.int p3), .val (.ref b65), .unset, .unset, .unset, .unset] [(.int (2 : Int32)), (.int p2)])) _
      refine XS.iushr X65.here hx rfl (hb hby at_18) rfl ?_
      show Steps p.tables e below (T65.setTop (mkF m 19 #[.val (.int p1), .val (.int p2), .val (.int p3), .val (.ref b65), .unset, .unset, .unset, .unset] [(.int ((p2.toUInt32 >>> ((2 : Int32) &&& 31).toUInt32).toInt32))])) _
      refine XS.iconst X65.here hx rfl (hb hby at_19) ?_
      show Steps p.tables e below (T65.setTop (mkF m 20 #[.val (.int p1), .val (.int p2), .val (.int p3), .val (.ref b65), .unset, .unset, .unset, .unset] [(.int (3 : Int32)), (.int ((p2.toUInt32 >>> ((2 : Int32) &&& 31).toUInt32).toInt32))])) _
      refine XS.iand X65.here hx rfl (hb hby at_20) rfl ?_
      show Steps p.tables e below (T65.setTop (mkF m 21 #[.val (.int p1), .val (.int p2), .val (.int p3), .val (.ref b65), .unset, .unset, .unset, .unset] [(.int (((p2.toUInt32 >>> ((2 : Int32) &&& 31).toUInt32).toInt32) &&& (3 : Int32)))])) _
      exact k
    obtain ⟨T142, h142, k142, X142, e142, E142, A142, st142⟩ := newP X65 hx hZ (hw _ (List.mem_of_getElem? (i := 0) rfl)) e65 (g := (mkF m 21 #[.val (.int p1), .val (.int p2), .val (.int p3), .val (.ref b65), .unset, .unset, .unset, .unset] [(.int (((p2.toUInt32 >>> ((2 : Int32) &&& 31).toUInt32).toInt32) &&& (3 : Int32)))])) rfl (hb hby at_21) rfl (own_m3 ((p2.toUInt32 >>> ((2 : Int32) &&& 31).toUInt32).toInt32)).1 (cap := 3) (own_m3 ((p2.toUInt32 >>> ((2 : Int32) &&& 31).toUInt32).toInt32)).2 (by decide) (by decide) (by decide)
    obtain ⟨b142, g142⟩ : ∃ z, z = h65.size := ⟨_, rfl⟩
    rw [← g142] at A142 st142
    refine own_go st142 ?_
    have K142 : Keep h0 h142 [] := Keep.ext K65 E142
    have V142 : Arv Z h142 b142 k142 .byte (((p2.toUInt32 >>> ((2 : Int32) &&& 31).toUInt32).toInt32) &&& (3 : Int32)) [] (.int (0 : Int32)) := Arv.new A142 (own_m3 ((p2.toUInt32 >>> ((2 : Int32) &&& 31).toUInt32).toInt32)).1
    refine own_go (B := T142.setTop (mkF m 37 #[.val (.int p1), .val (.int p2), .val (.int p3), .val (.ref b65), .val (.ref b142), .val .null, .val (.int (p1 &&& (7 : Int32))), .unset] [(.int (1 : Int32)), (.int (p1 &&& (7 : Int32)))])) (fun t k => ?_) ?_
    · show Steps p.tables e below (T142.setTop (mkF m 23 #[.val (.int p1), .val (.int p2), .val (.int p3), .val (.ref b65), .unset, .unset, .unset, .unset] [(.ref b142)])) _
      refine XS.astore X142.here hx rfl (hb hby at_23) rfl rfl (l' := #[.val (.int p1), .val (.int p2), .val (.int p3), .val (.ref b65), .val (.ref b142), .unset, .unset, .unset]) rfl ?_
      show Steps p.tables e below (T142.setTop (mkF m 25 #[.val (.int p1), .val (.int p2), .val (.int p3), .val (.ref b65), .val (.ref b142), .unset, .unset, .unset] [])) _
      refine XS.aconstNull X142.here hx rfl (hb hby at_25) ?_
      show Steps p.tables e below (T142.setTop (mkF m 26 #[.val (.int p1), .val (.int p2), .val (.int p3), .val (.ref b65), .val (.ref b142), .unset, .unset, .unset] [.null])) _
      refine XS.astore X142.here hx rfl (hb hby at_26) rfl rfl (l' := #[.val (.int p1), .val (.int p2), .val (.int p3), .val (.ref b65), .val (.ref b142), .val .null, .unset, .unset]) rfl ?_
      show Steps p.tables e below (T142.setTop (mkF m 28 #[.val (.int p1), .val (.int p2), .val (.int p3), .val (.ref b65), .val (.ref b142), .val .null, .unset, .unset] [])) _
      refine XS.iloadN X142.here hx rfl (hb hby at_28) rfl ?_
      show Steps p.tables e below (T142.setTop (mkF m 29 #[.val (.int p1), .val (.int p2), .val (.int p3), .val (.ref b65), .val (.ref b142), .val .null, .unset, .unset] [(.int p1)])) _
      refine XS.bipush X142.here hx rfl (hb hby at_29) ?_
      show Steps p.tables e below (T142.setTop (mkF m 31 #[.val (.int p1), .val (.int p2), .val (.int p3), .val (.ref b65), .val (.ref b142), .val .null, .unset, .unset] [(.int (7 : Int32)), (.int p1)])) _
      refine XS.iand X142.here hx rfl (hb hby at_31) rfl ?_
      show Steps p.tables e below (T142.setTop (mkF m 32 #[.val (.int p1), .val (.int p2), .val (.int p3), .val (.ref b65), .val (.ref b142), .val .null, .unset, .unset] [(.int (p1 &&& (7 : Int32)))])) _
      refine XS.istore X142.here hx rfl (hb hby at_32) rfl (l' := #[.val (.int p1), .val (.int p2), .val (.int p3), .val (.ref b65), .val (.ref b142), .val .null, .val (.int (p1 &&& (7 : Int32))), .unset]) rfl ?_
      show Steps p.tables e below (T142.setTop (mkF m 34 #[.val (.int p1), .val (.int p2), .val (.int p3), .val (.ref b65), .val (.ref b142), .val .null, .val (.int (p1 &&& (7 : Int32))), .unset] [])) _
      refine XS.iload X142.here hx rfl (hb hby at_34) rfl ?_
      show Steps p.tables e below (T142.setTop (mkF m 36 #[.val (.int p1), .val (.int p2), .val (.int p3), .val (.ref b65), .val (.ref b142), .val .null, .val (.int (p1 &&& (7 : Int32))), .unset] [(.int (p1 &&& (7 : Int32)))])) _
      refine XS.iconst X142.here hx rfl (hb hby at_36) ?_
      show Steps p.tables e below (T142.setTop (mkF m 37 #[.val (.int p1), .val (.int p2), .val (.int p3), .val (.ref b65), .val (.ref b142), .val .null, .val (.int (p1 &&& (7 : Int32))), .unset] [(.int (1 : Int32)), (.int (p1 &&& (7 : Int32)))])) _
      exact k
    by_cases hc143 : (p1 &&& (7 : Int32)) = (1 : Int32)
    · refine own_go (B := T142.setTop (mkF m 40 #[.val (.int p1), .val (.int p2), .val (.int p3), .val (.ref b65), .val (.ref b142), .val .null, .val (.int (p1 &&& (7 : Int32))), .unset] [])) (fun t k => ?_) ?_
      · show Steps p.tables e below (T142.setTop (mkF m 37 #[.val (.int p1), .val (.int p2), .val (.int p3), .val (.ref b65), .val (.ref b142), .val .null, .val (.int (p1 &&& (7 : Int32))), .unset] [(.int (1 : Int32)), (.int (p1 &&& (7 : Int32)))])) _
        refine XS.icmpNo X142.here hx rfl (hb hby at_37) rfl (teq hc143).2 ?_
        show Steps p.tables e below (T142.setTop (mkF m 40 #[.val (.int p1), .val (.int p2), .val (.int p3), .val (.ref b65), .val (.ref b142), .val .null, .val (.int (p1 &&& (7 : Int32))), .unset] [])) _
        exact k
      obtain ⟨T144, h144, X144, e144, E144, A144, D144, -, st144⟩ := newO X142 hx hZ hown (hw _ (List.mem_of_getElem? (i := 38) rfl)) (hw _ (List.mem_of_getElem? (i := 39) rfl)) (hw _ (List.mem_of_getElem? (i := 40) rfl)) e142 (g := (mkF m 40 #[.val (.int p1), .val (.int p2), .val (.int p3), .val (.ref b65), .val (.ref b142), .val .null, .val (.int (p1 &&& (7 : Int32))), .unset] [])) rfl (hb hby at_40) (by decide) (by decide)
      obtain ⟨b144, g144⟩ : ∃ z, z = h142.size := ⟨_, rfl⟩
      rw [← g144] at A144 D144 st144
      refine own_go st144 ?_
      have K144 : Keep h0 h144 [] := Keep.ext K142 E144
      have F144_61 : Fld Z h144 b144 "com/example/porthcurno/porthcurno/model/AmqpSections" "sections" "[B" .null := D144 (Or.inr (hw _ (List.mem_of_getElem? (i := 61) rfl))) (ty := (.array .byte)) (by decide)
      have F144_63 : Fld Z h144 b144 "com/example/porthcurno/porthcurno/model/AmqpSections" "body" "Lcom/example/porthcurno/porthcurno/model/AmqpSections$Body;" .null := D144 (Or.inr (hw _ (List.mem_of_getElem? (i := 63) rfl))) (ty := (.object "com/example/porthcurno/porthcurno/model/AmqpSections$Body")) (by decide)
      refine own_go (B := T144.setTop (mkF m 46 #[.val (.int p1), .val (.int p2), .val (.int p3), .val (.ref b65), .val (.ref b142), .val .null, .val (.int (p1 &&& (7 : Int32))), .unset] [(.ref b142), (.ref b144), (.ref b144)])) (fun t k => ?_) ?_
      · show Steps p.tables e below (T144.setTop (mkF m 43 #[.val (.int p1), .val (.int p2), .val (.int p3), .val (.ref b65), .val (.ref b142), .val .null, .val (.int (p1 &&& (7 : Int32))), .unset] [(.ref b144)])) _
        refine XS.dup X144.here hx rfl (hb hby at_43) rfl rfl ?_
        show Steps p.tables e below (T144.setTop (mkF m 44 #[.val (.int p1), .val (.int p2), .val (.int p3), .val (.ref b65), .val (.ref b142), .val .null, .val (.int (p1 &&& (7 : Int32))), .unset] [(.ref b144), (.ref b144)])) _
        refine XS.aload X144.here hx rfl (hb hby at_44) rfl rfl ?_
        show Steps p.tables e below (T144.setTop (mkF m 46 #[.val (.int p1), .val (.int p2), .val (.int p3), .val (.ref b65), .val (.ref b142), .val .null, .val (.int (p1 &&& (7 : Int32))), .unset] [(.ref b142), (.ref b144), (.ref b144)])) _
        exact k
      have f146 : Sta Z h144 "com/example/porthcurno/porthcurno/model/AmqpSections$Body" "DATA" "Lcom/example/porthcurno/porthcurno/model/AmqpSections$Body;" (.ref w_DATA) := (((S_DATA.ext E65).ext E142).ext E144)
      obtain ⟨T145, X145, e145, st145⟩ := getS2 X144 hx hZ hown (host := "") (Or.inl (hw _ (List.mem_of_getElem? (i := 41) rfl))) Via.refl e144 f146 (g := (mkF m 46 #[.val (.int p1), .val (.int p2), .val (.int p3), .val (.ref b65), .val (.ref b142), .val .null, .val (.int (p1 &&& (7 : Int32))), .unset] [(.ref b142), (.ref b144), (.ref b144)])) rfl (hb hby at_46)
      refine own_go st145 ?_
      have le148 : h0.size ≤ h142.size := (Nat.le_trans E65.1 E142.1)
      have le149 : h0.size ≤ h144.size := (Nat.le_trans (Nat.le_trans E65.1 E142.1) E144.1)
      obtain ⟨_, _, ⟨T147, L147, k147, n147⟩, -, X147, S147, G147, ⟨Lc147, hQ147, l147, y147, z147⟩, st147⟩ := X145.specialBackS hx (y := (⟨"com/example/porthcurno/porthcurno/model/AmqpSections", "<init>", "([BLcom/example/porthcurno/porthcurno/model/AmqpSections$Body;)V"⟩ : MethodName)) rfl hown (mvT hZ (hw _ (List.mem_of_getElem? (i := 44) rfl))) (mvT hZ (hw _ (List.mem_of_getElem? (i := 45) rfl))) (mvT hZ (hw _ (List.mem_of_getElem? (i := 46) rfl))) (by decide) (backOfS (W := 1) (rm7 l Z a0 hw [] b144 b142 w_DATA h144 n0 (Nat.le_trans Z0 le149) A144 F144_61 F144_63 (Nat.le_trans (Nat.le_trans Z0 le148) (Nat.le_of_eq g144.symm))) hZ (hw _ (List.mem_of_getElem? (i := 46) rfl)) (hw _ (List.mem_of_getElem? (i := 40) rfl)) (by decide) (by decide)) (g := (mkF m 49 #[.val (.int p1), .val (.int p2), .val (.int p3), .val (.ref b65), .val (.ref b142), .val .null, .val (.int (p1 &&& (7 : Int32))), .unset] [(.ref w_DATA), (.ref b142), (.ref b144), (.ref b144)])) rfl (by rw [hml]; rfl) (Steps.refl _) (a := b144) (argsL := [(.ref b142), (.ref w_DATA)]) (rest := [(.ref b144)]) (lenOf pd_3 rfl) rfl (by show 2 * 0 + _ ≤ _; exact Nat.le_of_eq rfl) (hb hby at_49) (fun _ _ => ⟨rfl, e145, (by decide : 3 + 4 ≤ _), (by decide : 8 + 56 ≤ _)⟩)
      dsimp only [Pt.U, Pt.locs, Pt.cells, Pt.slots] at X147 S147 G147 l147 y147 z147 st147 hQ147
      subst l147 y147 z147
      obtain ⟨rfl, M147, q147_0⟩ := hQ147
      have N147 := Fr.app N0 M147
      have hS147 : s.Since T147.vm T147.heap.size := S147
      have hZ147 : Z.Warmed39 (s.setVm T147.vm).vm := State.Warmed39.trans (t := s) hZ S147.1
      have ho147 : (s.setVm T147.vm).vm.findClass "com/example/porthcurno/porthcurno/model/SentMessageExpiresPinLaw" = some m.cls := by rw [show (s.setVm T147.vm).vm = T147.vm from rfl, S147.1.alike.findClass]; exact hown
      replace X147 : Stand p l e _ (s.setVm T147.vm) m _ below meth c T147 _ _ _ := X147
      have K147 : Keep h0 T147.heap [] := Keep.trans K144 q147_0 (allS (Or.inr (Nat.le_trans le148 (Nat.le_of_eq g144.symm))) all0)
      refine own_go (fun t k => st147.trans k) ?_
      refine own_go (B := T147.setTop (mkF m 123 #[.val (.int p1), .val (.int p2), .val (.int p3), .val (.ref b65), .val (.ref b142), .val (.ref b144), .val (.int (p1 &&& (7 : Int32))), .unset] [])) (fun t k => ?_) ?_
      · show Steps p.tables e below (T147.setTop (mkF m 52 #[.val (.int p1), .val (.int p2), .val (.int p3), .val (.ref b65), .val (.ref b142), .val .null, .val (.int (p1 &&& (7 : Int32))), .unset] [(.ref b144)])) _
        refine XS.astore X147.here hx rfl (hb hby at_52) rfl rfl (l' := #[.val (.int p1), .val (.int p2), .val (.int p3), .val (.ref b65), .val (.ref b142), .val (.ref b144), .val (.int (p1 &&& (7 : Int32))), .unset]) rfl ?_
        show Steps p.tables e below (T147.setTop (mkF m 54 #[.val (.int p1), .val (.int p2), .val (.int p3), .val (.ref b65), .val (.ref b142), .val (.ref b144), .val (.int (p1 &&& (7 : Int32))), .unset] [])) _
        refine XS.goto X147.here hx rfl (pc0 := 54) (pc' := 123) rfl (hb hby at_54) (by decide) (by decide) ?_
        show Steps p.tables e below (T147.setTop (mkF m 123 #[.val (.int p1), .val (.int p2), .val (.int p3), .val (.ref b65), .val (.ref b142), .val (.ref b144), .val (.int (p1 &&& (7 : Int32))), .unset] [])) _
        exact k
      obtain ⟨T150, h150, X150, e150, E150, A150, D150, -, st150⟩ := newO X147 hx hZ147 ho147 (hw _ (List.mem_of_getElem? (i := 1) rfl)) (hw _ (List.mem_of_getElem? (i := 2) rfl)) (hw _ (List.mem_of_getElem? (i := 3) rfl)) rfl (g := (mkF m 123 #[.val (.int p1), .val (.int p2), .val (.int p3), .val (.ref b65), .val (.ref b142), .val (.ref b144), .val (.int (p1 &&& (7 : Int32))), .unset] [])) rfl (hb hby at_123) (by decide) (by decide)
      obtain ⟨b150, g150⟩ : ∃ z, z = T147.heap.size := ⟨_, rfl⟩
      rw [← g150] at A150 D150 st150
      refine own_go st150 ?_
      have K150 : Keep h0 h150 [] := Keep.ext K147 E150
      have F150_19 : Fld Z h150 b150 "com/example/porthcurno/porthcurno/model/SentMessage" "properties" "Ljava/util/Map;" .null := D150 (Or.inr (hw _ (List.mem_of_getElem? (i := 19) rfl))) (ty := (.object "java/util/Map")) (by decide)
      have F150_21 : Fld Z h150 b150 "com/example/porthcurno/porthcurno/model/SentMessage" "body" "[B" .null := D150 (Or.inr (hw _ (List.mem_of_getElem? (i := 21) rfl))) (ty := (.array .byte)) (by decide)
      have F150_23 : Fld Z h150 b150 "com/example/porthcurno/porthcurno/model/SentMessage" "amqp" "Lcom/example/porthcurno/porthcurno/model/AmqpSections;" .null := D150 (Or.inr (hw _ (List.mem_of_getElem? (i := 23) rfl))) (ty := (.object "com/example/porthcurno/porthcurno/model/AmqpSections")) (by decide)
      have F150_25 : Fld Z h150 b150 "com/example/porthcurno/porthcurno/model/SentMessage" "timeToLive" "Ljava/time/Duration;" .null := D150 (Or.inr (hw _ (List.mem_of_getElem? (i := 25) rfl))) (ty := (.object "java/time/Duration")) (by decide)
      have F150_27 : Fld Z h150 b150 "com/example/porthcurno/porthcurno/model/SentMessage" "absoluteExpiryTime" "Ljava/time/Instant;" .null := D150 (Or.inr (hw _ (List.mem_of_getElem? (i := 27) rfl))) (ty := (.object "java/time/Instant")) (by decide)
      refine own_go (B := T150.setTop (mkF m 131 #[.val (.int p1), .val (.int p2), .val (.int p3), .val (.ref b65), .val (.ref b142), .val (.ref b144), .val (.int (p1 &&& (7 : Int32))), .unset] [(.ref b144), (.ref b65), .null, (.ref b150), (.ref b150)])) (fun t k => ?_) ?_
      · show Steps p.tables e below (T150.setTop (mkF m 126 #[.val (.int p1), .val (.int p2), .val (.int p3), .val (.ref b65), .val (.ref b142), .val (.ref b144), .val (.int (p1 &&& (7 : Int32))), .unset] [(.ref b150)])) _
        refine XS.dup X150.here hx rfl (hb hby at_126) rfl rfl ?_
        show Steps p.tables e below (T150.setTop (mkF m 127 #[.val (.int p1), .val (.int p2), .val (.int p3), .val (.ref b65), .val (.ref b142), .val (.ref b144), .val (.int (p1 &&& (7 : Int32))), .unset] [(.ref b150), (.ref b150)])) _
        refine XS.aconstNull X150.here hx rfl (hb hby at_127) ?_
        show Steps p.tables e below (T150.setTop (mkF m 128 #[.val (.int p1), .val (.int p2), .val (.int p3), .val (.ref b65), .val (.ref b142), .val (.ref b144), .val (.int (p1 &&& (7 : Int32))), .unset] [.null, (.ref b150), (.ref b150)])) _
        refine XS.aloadN X150.here hx rfl (hb hby at_128) rfl rfl ?_
        show Steps p.tables e below (T150.setTop (mkF m 129 #[.val (.int p1), .val (.int p2), .val (.int p3), .val (.ref b65), .val (.ref b142), .val (.ref b144), .val (.int (p1 &&& (7 : Int32))), .unset] [(.ref b65), .null, (.ref b150), (.ref b150)])) _
        refine XS.aload X150.here hx rfl (hb hby at_129) rfl rfl ?_
        show Steps p.tables e below (T150.setTop (mkF m 131 #[.val (.int p1), .val (.int p2), .val (.int p3), .val (.ref b65), .val (.ref b142), .val (.ref b144), .val (.int (p1 &&& (7 : Int32))), .unset] [(.ref b144), (.ref b65), .null, (.ref b150), (.ref b150)])) _
        exact k
      have le152 : h0.size ≤ T147.heap.size := (Nat.le_trans (Nat.le_trans (Nat.le_trans E65.1 E142.1) E144.1) q147_0.1)
      have le153 : h0.size ≤ h150.size := (Nat.le_trans (Nat.le_trans (Nat.le_trans (Nat.le_trans E65.1 E142.1) E144.1) q147_0.1) E150.1)
      obtain ⟨_, _, ⟨T151, L151, k151, n151⟩, -, X151, ⟨Lc151, hQ151, l151, y151, z151⟩, st151⟩ := X150.specialBack hx (y := (⟨"com/example/porthcurno/porthcurno/model/SentMessage", "<init>", "(Ljava/util/Map;[BLcom/example/porthcurno/porthcurno/model/AmqpSections;)V"⟩ : MethodName)) rfl ho147 (mvT hZ147 (hw _ (List.mem_of_getElem? (i := 4) rfl))) (mvT hZ147 (hw _ (List.mem_of_getElem? (i := 5) rfl))) (mvT hZ147 (hw _ (List.mem_of_getElem? (i := 6) rfl))) (by decide) (backOf (W := 1) (rm1 l Z a0 hw [] b150 b65 b144 h150 n0 (Nat.le_trans Z0 le153) A150 F150_19 F150_21 F150_23 F150_25 F150_27 (Nat.le_trans (Nat.le_trans Z0 le152) (Nat.le_of_eq g150.symm))) hZ147 (hw _ (List.mem_of_getElem? (i := 6) rfl)) (hw _ (List.mem_of_getElem? (i := 3) rfl)) (by decide) (by decide)) (g := (mkF m 131 #[.val (.int p1), .val (.int p2), .val (.int p3), .val (.ref b65), .val (.ref b142), .val (.ref b144), .val (.int (p1 &&& (7 : Int32))), .unset] [(.ref b144), (.ref b65), .null, (.ref b150), (.ref b150)])) rfl (by rw [hml]; rfl) (Steps.refl _) (a := b150) (argsL := [.null, (.ref b65), (.ref b144)]) (rest := [(.ref b150)]) (lenOf pd_4 rfl) rfl (by show 2 * 0 + _ ≤ _; exact Nat.le_of_eq rfl) (hb hby at_131) (fun _ _ => ⟨rfl, e150, (by decide : 8 + 0 ≤ _), (by decide : 69 + 0 ≤ _)⟩)
      dsimp only [Pt.U, Pt.locs, Pt.cells, Pt.slots] at X151 l151 y151 z151 st151 hQ151
      subst l151 y151 z151
      obtain ⟨rfl, M151, q151_0, q151_1, q151_2, q151_3⟩ := hQ151
      have N151 := Fr.app N147 M151
      have K151 : Keep h0 T151.heap [] := Keep.trans K150 q151_0 (allS (Or.inr (Nat.le_trans le152 (Nat.le_of_eq g150.symm))) all0)
      refine own_go (fun t k => st151.trans k) ?_
      refine own_go (B := T151.setTop (mkF m 138 #[.val (.int p1), .val (.int p2), .val (.int p3), .val (.ref b65), .val (.ref b142), .val (.ref b144), .val (.int (p1 &&& (7 : Int32))), .val (.ref b150)] [(.ref b150)])) (fun t k => ?_) ?_
      · show Steps p.tables e below (T151.setTop (mkF m 134 #[.val (.int p1), .val (.int p2), .val (.int p3), .val (.ref b65), .val (.ref b142), .val (.ref b144), .val (.int (p1 &&& (7 : Int32))), .unset] [(.ref b150)])) _
        refine XS.astore X151.here hx rfl (hb hby at_134) rfl rfl (l' := #[.val (.int p1), .val (.int p2), .val (.int p3), .val (.ref b65), .val (.ref b142), .val (.ref b144), .val (.int (p1 &&& (7 : Int32))), .val (.ref b150)]) rfl ?_
        show Steps p.tables e below (T151.setTop (mkF m 136 #[.val (.int p1), .val (.int p2), .val (.int p3), .val (.ref b65), .val (.ref b142), .val (.ref b144), .val (.int (p1 &&& (7 : Int32))), .val (.ref b150)] [])) _
        refine XS.aload X151.here hx rfl (hb hby at_136) rfl rfl ?_
        show Steps p.tables e below (T151.setTop (mkF m 138 #[.val (.int p1), .val (.int p2), .val (.int p3), .val (.ref b65), .val (.ref b142), .val (.ref b144), .val (.int (p1 &&& (7 : Int32))), .val (.ref b150)] [(.ref b150)])) _
        exact k
      have le155 : h0.size ≤ T151.heap.size := (Nat.le_trans (Nat.le_trans (Nat.le_trans (Nat.le_trans (Nat.le_trans E65.1 E142.1) E144.1) q147_0.1) E150.1) q151_0.1)
      obtain ⟨cq154, kq154, q154a, q154b, q154c⟩ := isOf hZ147 rfl q151_1
      obtain ⟨_, _, ⟨T154, L154, k154, n154⟩, -, X154, ⟨Lc154, hQ154, l154, y154, z154⟩, st154⟩ := X151.virtualBack hx (y := (⟨"com/example/porthcurno/porthcurno/model/SentMessage", "expires", "()Z"⟩ : MethodName)) (z := (⟨"com/example/porthcurno/porthcurno/model/SentMessage", "expires", "()Z"⟩ : MethodName)) ho147 (mvT hZ147 (hw _ (List.mem_of_getElem? (i := 28) rfl))) (mvT hZ147 (hw _ (List.mem_of_getElem? (i := 29) rfl))) (notFace_of_selects (args := #[]) (mvT hZ147 (hw _ (List.mem_of_getElem? (i := 31) rfl)))) (mvT hZ147 (hw _ (List.mem_of_getElem? (i := 31) rfl))) (mvT hZ147 (hw _ (List.mem_of_getElem? (i := 30) rfl))) (by decide) (backOf (W := 0) (rm5 l Z a0 hw [] b150 T151.heap n0 (Nat.le_trans Z0 le155) q151_2 q151_3) hZ147 (hw _ (List.mem_of_getElem? (i := 32) rfl)) (hw _ (List.mem_of_getElem? (i := 3) rfl)) (by decide) (by decide)) q154a q154c (g := (mkF m 138 #[.val (.int p1), .val (.int p2), .val (.int p3), .val (.ref b65), .val (.ref b142), .val (.ref b144), .val (.int (p1 &&& (7 : Int32))), .val (.ref b150)] [(.ref b150)])) rfl (by rw [hml]; rfl) (Steps.refl _) (argsL := []) (rest := []) (lenOf pd_5 rfl) rfl (by show 2 * 0 + _ ≤ _; exact Nat.le_of_eq rfl) (hb hby at_138) (fun _ _ => ⟨rfl, rfl, (by decide : 8 + 0 ≤ _), (by decide : 69 + 0 ≤ _)⟩)
      dsimp only [Pt.U, Pt.locs, Pt.cells, Pt.slots] at X154 l154 y154 z154 st154 hQ154
      subst l154 y154 z154
      obtain ⟨rfl, M154, q154_0⟩ := hQ154
      have N154 := Fr.app N151 M154
      refine own_go (fun t k => st154.trans k) ?_
      refine own_go (B := T154.setTop (mkF m 147 #[.val (.int p1), .val (.int p2), .val (.int p3), .val (.ref b65), .val (.ref b142), .val (.ref b144), .val (.int (p1 &&& (7 : Int32))), .val (.ref b150)] [.null, (.ref b150)])) (fun t k => ?_) ?_
      · show Steps p.tables e below (T154.setTop (mkF m 141 #[.val (.int p1), .val (.int p2), .val (.int p3), .val (.ref b65), .val (.ref b142), .val (.ref b144), .val (.int (p1 &&& (7 : Int32))), .val (.ref b150)] [(.int (0 : Int32))])) _
        refine XS.ifNo X154.here hx rfl (hb hby at_141) rfl ((if0 _ _).trans (teq (by decide : (0 : Int32) = (0 : Int32))).2) ?_
        show Steps p.tables e below (T154.setTop (mkF m 144 #[.val (.int p1), .val (.int p2), .val (.int p3), .val (.ref b65), .val (.ref b142), .val (.ref b144), .val (.int (p1 &&& (7 : Int32))), .val (.ref b150)] [])) _
        refine XS.aload X154.here hx rfl (hb hby at_144) rfl rfl ?_
        show Steps p.tables e below (T154.setTop (mkF m 146 #[.val (.int p1), .val (.int p2), .val (.int p3), .val (.ref b65), .val (.ref b142), .val (.ref b144), .val (.int (p1 &&& (7 : Int32))), .val (.ref b150)] [(.ref b150)])) _
        refine XS.aconstNull X154.here hx rfl (hb hby at_146) ?_
        show Steps p.tables e below (T154.setTop (mkF m 147 #[.val (.int p1), .val (.int p2), .val (.int p3), .val (.ref b65), .val (.ref b142), .val (.ref b144), .val (.int (p1 &&& (7 : Int32))), .val (.ref b150)] [.null, (.ref b150)])) _
        exact k
      obtain ⟨cq156, kq156, q156a, q156b, q156c⟩ := isOf hZ147 q154_0 q151_1
      obtain ⟨_, _, ⟨T156, L156, k156, n156⟩, -, X156, ⟨Lc156, hQ156, l156, y156, z156⟩, st156⟩ := X154.virtualBack hx (y := (⟨"com/example/porthcurno/porthcurno/model/SentMessage", "timeToLiveFrom", "(Ljava/time/Instant;)Ljava/time/Duration;"⟩ : MethodName)) (z := (⟨"com/example/porthcurno/porthcurno/model/SentMessage", "timeToLiveFrom", "(Ljava/time/Instant;)Ljava/time/Duration;"⟩ : MethodName)) ho147 (mvT hZ147 (hw _ (List.mem_of_getElem? (i := 33) rfl))) (mvT hZ147 (hw _ (List.mem_of_getElem? (i := 34) rfl))) (notFace_of_selects (args := #[]) (mvT hZ147 (hw _ (List.mem_of_getElem? (i := 36) rfl)))) (mvT hZ147 (hw _ (List.mem_of_getElem? (i := 36) rfl))) (mvT hZ147 (hw _ (List.mem_of_getElem? (i := 35) rfl))) (by decide) (backOf (W := 0) (rm6 l Z a0 hw [] b150 T151.heap n0 (Nat.le_trans Z0 le155) q151_2 q151_3) hZ147 (hw _ (List.mem_of_getElem? (i := 37) rfl)) (hw _ (List.mem_of_getElem? (i := 3) rfl)) (by decide) (by decide)) q156a q156c (g := (mkF m 147 #[.val (.int p1), .val (.int p2), .val (.int p3), .val (.ref b65), .val (.ref b142), .val (.ref b144), .val (.int (p1 &&& (7 : Int32))), .val (.ref b150)] [.null, (.ref b150)])) rfl (by rw [hml]; rfl) (Steps.refl _) (argsL := [.null]) (rest := []) (lenOf pd_6 rfl) rfl (by show 2 * 0 + _ ≤ _; exact Nat.le_of_eq rfl) (hb hby at_147) (fun _ _ => ⟨rfl, q154_0, (by decide : 8 + 0 ≤ _), (by decide : 69 + 0 ≤ _)⟩)
      dsimp only [Pt.U, Pt.locs, Pt.cells, Pt.slots] at X156 l156 y156 z156 st156 hQ156
      subst l156 y156 z156
      obtain ⟨rfl, M156, q156_0⟩ := hQ156
      have N156 := Fr.app N154 M156
      refine own_go (fun t k => st156.trans k) ?_
      refine own_go (B := T156.setTop (mkF m 158 #[.val (.int p1), .val (.int p2), .val (.int p3), .val (.ref b65), .val (.ref b142), .val (.ref b144), .val (.int (p1 &&& (7 : Int32))), .val (.ref b150)] [(.int (1 : Int32))])) (fun t k => ?_) ?_
      · show Steps p.tables e below (T156.setTop (mkF m 150 #[.val (.int p1), .val (.int p2), .val (.int p3), .val (.ref b65), .val (.ref b142), .val (.ref b144), .val (.int (p1 &&& (7 : Int32))), .val (.ref b150)] [.null])) _
        refine XS.ifnonnullNo X156.here hx rfl (hb hby at_150) rfl ?_
        show Steps p.tables e below (T156.setTop (mkF m 153 #[.val (.int p1), .val (.int p2), .val (.int p3), .val (.ref b65), .val (.ref b142), .val (.ref b144), .val (.int (p1 &&& (7 : Int32))), .val (.ref b150)] [])) _
        refine XS.iconst X156.here hx rfl (hb hby at_153) ?_
        show Steps p.tables e below (T156.setTop (mkF m 154 #[.val (.int p1), .val (.int p2), .val (.int p3), .val (.ref b65), .val (.ref b142), .val (.ref b144), .val (.int (p1 &&& (7 : Int32))), .val (.ref b150)] [(.int (1 : Int32))])) _
        refine XS.goto X156.here hx rfl (pc0 := 154) (pc' := 158) rfl (hb hby at_154) (by decide) (by decide) ?_
        show Steps p.tables e below (T156.setTop (mkF m 158 #[.val (.int p1), .val (.int p2), .val (.int p3), .val (.ref b65), .val (.ref b142), .val (.ref b144), .val (.int (p1 &&& (7 : Int32))), .val (.ref b150)] [(.int (1 : Int32))])) _
        exact k
      have le158 : T147.heap.size ≤ T151.heap.size := (Nat.le_trans E150.1 q151_0.1)
      obtain ⟨fs, hr, hrun, hended, hW⟩ := X156.leaveW hS147 (show _ ≤ T156.heap.size by rw [q156_0]; exact (Nat.le_trans (Nat.le_refl _) le158)) (v := some (.int (1 : Int32))) (fun h => by rw [Bd.returns] at h; cases h)
      refine ⟨_, _, ?_, hrun, hended, _, _, rfl, ?_, ⟨hW.1, hW.2.1, hW.2.2.1, hW.2.2.2.mono (by decide) (by decide)⟩⟩
      · exact retN X156 hx (t := .boolean) Bd.returns (by simp) (hb hby at_158) hr
      · show Q0 Z p1 p2 p3 w_DATA w_STRING_VALUE w_SECTIONS w_BINARY_VALUE h0 n0 _ T156.heap _
        rw [q156_0]
        exact ⟨rfl, N156⟩
    · refine own_go (B := T142.setTop (mkF m 60 #[.val (.int p1), .val (.int p2), .val (.int p3), .val (.ref b65), .val (.ref b142), .val .null, .val (.int (p1 &&& (7 : Int32))), .unset] [(.int (2 : Int32)), (.int (p1 &&& (7 : Int32)))])) (fun t k => ?_) ?_
      · show Steps p.tables e below (T142.setTop (mkF m 37 #[.val (.int p1), .val (.int p2), .val (.int p3), .val (.ref b65), .val (.ref b142), .val .null, .val (.int (p1 &&& (7 : Int32))), .unset] [(.int (1 : Int32)), (.int (p1 &&& (7 : Int32)))])) _
        refine XS.icmpYes X142.here hx rfl (pc0 := 37) (pc' := 57) rfl (hb hby at_37) rfl (feq hc143).2 (by decide) (by decide) ?_
        show Steps p.tables e below (T142.setTop (mkF m 57 #[.val (.int p1), .val (.int p2), .val (.int p3), .val (.ref b65), .val (.ref b142), .val .null, .val (.int (p1 &&& (7 : Int32))), .unset] [])) _
        refine XS.iload X142.here hx rfl (hb hby at_57) rfl ?_
        show Steps p.tables e below (T142.setTop (mkF m 59 #[.val (.int p1), .val (.int p2), .val (.int p3), .val (.ref b65), .val (.ref b142), .val .null, .val (.int (p1 &&& (7 : Int32))), .unset] [(.int (p1 &&& (7 : Int32)))])) _
        refine XS.iconst X142.here hx rfl (hb hby at_59) ?_
        show Steps p.tables e below (T142.setTop (mkF m 60 #[.val (.int p1), .val (.int p2), .val (.int p3), .val (.ref b65), .val (.ref b142), .val .null, .val (.int (p1 &&& (7 : Int32))), .unset] [(.int (2 : Int32)), (.int (p1 &&& (7 : Int32)))])) _
        exact k
      by_cases hc159 : (p1 &&& (7 : Int32)) = (2 : Int32)
      · refine own_go (B := T142.setTop (mkF m 63 #[.val (.int p1), .val (.int p2), .val (.int p3), .val (.ref b65), .val (.ref b142), .val .null, .val (.int (p1 &&& (7 : Int32))), .unset] [])) (fun t k => ?_) ?_
        · show Steps p.tables e below (T142.setTop (mkF m 60 #[.val (.int p1), .val (.int p2), .val (.int p3), .val (.ref b65), .val (.ref b142), .val .null, .val (.int (p1 &&& (7 : Int32))), .unset] [(.int (2 : Int32)), (.int (p1 &&& (7 : Int32)))])) _
          refine XS.icmpNo X142.here hx rfl (hb hby at_60) rfl (teq hc159).2 ?_
          show Steps p.tables e below (T142.setTop (mkF m 63 #[.val (.int p1), .val (.int p2), .val (.int p3), .val (.ref b65), .val (.ref b142), .val .null, .val (.int (p1 &&& (7 : Int32))), .unset] [])) _
          exact k
        obtain ⟨T160, h160, X160, e160, E160, A160, D160, -, st160⟩ := newO X142 hx hZ hown (hw _ (List.mem_of_getElem? (i := 38) rfl)) (hw _ (List.mem_of_getElem? (i := 39) rfl)) (hw _ (List.mem_of_getElem? (i := 40) rfl)) e142 (g := (mkF m 63 #[.val (.int p1), .val (.int p2), .val (.int p3), .val (.ref b65), .val (.ref b142), .val .null, .val (.int (p1 &&& (7 : Int32))), .unset] [])) rfl (hb hby at_63) (by decide) (by decide)
        obtain ⟨b160, g160⟩ : ∃ z, z = h142.size := ⟨_, rfl⟩
        rw [← g160] at A160 D160 st160
        refine own_go st160 ?_
        have K160 : Keep h0 h160 [] := Keep.ext K142 E160
        have F160_61 : Fld Z h160 b160 "com/example/porthcurno/porthcurno/model/AmqpSections" "sections" "[B" .null := D160 (Or.inr (hw _ (List.mem_of_getElem? (i := 61) rfl))) (ty := (.array .byte)) (by decide)
        have F160_63 : Fld Z h160 b160 "com/example/porthcurno/porthcurno/model/AmqpSections" "body" "Lcom/example/porthcurno/porthcurno/model/AmqpSections$Body;" .null := D160 (Or.inr (hw _ (List.mem_of_getElem? (i := 63) rfl))) (ty := (.object "com/example/porthcurno/porthcurno/model/AmqpSections$Body")) (by decide)
        refine own_go (B := T160.setTop (mkF m 69 #[.val (.int p1), .val (.int p2), .val (.int p3), .val (.ref b65), .val (.ref b142), .val .null, .val (.int (p1 &&& (7 : Int32))), .unset] [(.ref b142), (.ref b160), (.ref b160)])) (fun t k => ?_) ?_
        · show Steps p.tables e below (T160.setTop (mkF m 66 #[.val (.int p1), .val (.int p2), .val (.int p3), .val (.ref b65), .val (.ref b142), .val .null, .val (.int (p1 &&& (7 : Int32))), .unset] [(.ref b160)])) _
          refine XS.dup X160.here hx rfl (hb hby at_66) rfl rfl ?_
          show Steps p.tables e below (T160.setTop (mkF m 67 #[.val (.int p1), .val (.int p2), .val (.int p3), .val (.ref b65), .val (.ref b142), .val .null, .val (.int (p1 &&& (7 : Int32))), .unset] [(.ref b160), (.ref b160)])) _
          refine XS.aload X160.here hx rfl (hb hby at_67) rfl rfl ?_
          show Steps p.tables e below (T160.setTop (mkF m 69 #[.val (.int p1), .val (.int p2), .val (.int p3), .val (.ref b65), .val (.ref b142), .val .null, .val (.int (p1 &&& (7 : Int32))), .unset] [(.ref b142), (.ref b160), (.ref b160)])) _
          exact k
        have f162 : Sta Z h160 "com/example/porthcurno/porthcurno/model/AmqpSections$Body" "SECTIONS" "Lcom/example/porthcurno/porthcurno/model/AmqpSections$Body;" (.ref w_SECTIONS) := (((S_SECTIONS.ext E65).ext E142).ext E160)
        obtain ⟨T161, X161, e161, st161⟩ := getS2 X160 hx hZ hown (host := "") (Or.inl (hw _ (List.mem_of_getElem? (i := 66) rfl))) Via.refl e160 f162 (g := (mkF m 69 #[.val (.int p1), .val (.int p2), .val (.int p3), .val (.ref b65), .val (.ref b142), .val .null, .val (.int (p1 &&& (7 : Int32))), .unset] [(.ref b142), (.ref b160), (.ref b160)])) rfl (hb hby at_69)
        refine own_go st161 ?_
        have le164 : h0.size ≤ h142.size := (Nat.le_trans E65.1 E142.1)
        have le165 : h0.size ≤ h160.size := (Nat.le_trans (Nat.le_trans E65.1 E142.1) E160.1)
        obtain ⟨_, _, ⟨T163, L163, k163, n163⟩, -, X163, S163, G163, ⟨Lc163, hQ163, l163, y163, z163⟩, st163⟩ := X161.specialBackS hx (y := (⟨"com/example/porthcurno/porthcurno/model/AmqpSections", "<init>", "([BLcom/example/porthcurno/porthcurno/model/AmqpSections$Body;)V"⟩ : MethodName)) rfl hown (mvT hZ (hw _ (List.mem_of_getElem? (i := 44) rfl))) (mvT hZ (hw _ (List.mem_of_getElem? (i := 45) rfl))) (mvT hZ (hw _ (List.mem_of_getElem? (i := 46) rfl))) (by decide) (backOfS (W := 1) (rm7 l Z a0 hw [] b160 b142 w_SECTIONS h160 n0 (Nat.le_trans Z0 le165) A160 F160_61 F160_63 (Nat.le_trans (Nat.le_trans Z0 le164) (Nat.le_of_eq g160.symm))) hZ (hw _ (List.mem_of_getElem? (i := 46) rfl)) (hw _ (List.mem_of_getElem? (i := 40) rfl)) (by decide) (by decide)) (g := (mkF m 72 #[.val (.int p1), .val (.int p2), .val (.int p3), .val (.ref b65), .val (.ref b142), .val .null, .val (.int (p1 &&& (7 : Int32))), .unset] [(.ref w_SECTIONS), (.ref b142), (.ref b160), (.ref b160)])) rfl (by rw [hml]; rfl) (Steps.refl _) (a := b160) (argsL := [(.ref b142), (.ref w_SECTIONS)]) (rest := [(.ref b160)]) (lenOf pd_3 rfl) rfl (by show 2 * 0 + _ ≤ _; exact Nat.le_of_eq rfl) (hb hby at_72) (fun _ _ => ⟨rfl, e161, (by decide : 3 + 4 ≤ _), (by decide : 8 + 56 ≤ _)⟩)
        dsimp only [Pt.U, Pt.locs, Pt.cells, Pt.slots] at X163 S163 G163 l163 y163 z163 st163 hQ163
        subst l163 y163 z163
        obtain ⟨rfl, M163, q163_0⟩ := hQ163
        have N163 := Fr.app N0 M163
        have hS163 : s.Since T163.vm T163.heap.size := S163
        have hZ163 : Z.Warmed39 (s.setVm T163.vm).vm := State.Warmed39.trans (t := s) hZ S163.1
        have ho163 : (s.setVm T163.vm).vm.findClass "com/example/porthcurno/porthcurno/model/SentMessageExpiresPinLaw" = some m.cls := by rw [show (s.setVm T163.vm).vm = T163.vm from rfl, S163.1.alike.findClass]; exact hown
        replace X163 : Stand p l e _ (s.setVm T163.vm) m _ below meth c T163 _ _ _ := X163
        have K163 : Keep h0 T163.heap [] := Keep.trans K160 q163_0 (allS (Or.inr (Nat.le_trans le164 (Nat.le_of_eq g160.symm))) all0)
        refine own_go (fun t k => st163.trans k) ?_
        refine own_go (B := T163.setTop (mkF m 123 #[.val (.int p1), .val (.int p2), .val (.int p3), .val (.ref b65), .val (.ref b142), .val (.ref b160), .val (.int (p1 &&& (7 : Int32))), .unset] [])) (fun t k => ?_) ?_
        · show Steps p.tables e below (T163.setTop (mkF m 75 #[.val (.int p1), .val (.int p2), .val (.int p3), .val (.ref b65), .val (.ref b142), .val .null, .val (.int (p1 &&& (7 : Int32))), .unset] [(.ref b160)])) _
          refine XS.astore X163.here hx rfl (hb hby at_75) rfl rfl (l' := #[.val (.int p1), .val (.int p2), .val (.int p3), .val (.ref b65), .val (.ref b142), .val (.ref b160), .val (.int (p1 &&& (7 : Int32))), .unset]) rfl ?_
          show Steps p.tables e below (T163.setTop (mkF m 77 #[.val (.int p1), .val (.int p2), .val (.int p3), .val (.ref b65), .val (.ref b142), .val (.ref b160), .val (.int (p1 &&& (7 : Int32))), .unset] [])) _
          refine XS.goto X163.here hx rfl (pc0 := 77) (pc' := 123) rfl (hb hby at_77) (by decide) (by decide) ?_
          show Steps p.tables e below (T163.setTop (mkF m 123 #[.val (.int p1), .val (.int p2), .val (.int p3), .val (.ref b65), .val (.ref b142), .val (.ref b160), .val (.int (p1 &&& (7 : Int32))), .unset] [])) _
          exact k
        obtain ⟨T166, h166, X166, e166, E166, A166, D166, -, st166⟩ := newO X163 hx hZ163 ho163 (hw _ (List.mem_of_getElem? (i := 1) rfl)) (hw _ (List.mem_of_getElem? (i := 2) rfl)) (hw _ (List.mem_of_getElem? (i := 3) rfl)) rfl (g := (mkF m 123 #[.val (.int p1), .val (.int p2), .val (.int p3), .val (.ref b65), .val (.ref b142), .val (.ref b160), .val (.int (p1 &&& (7 : Int32))), .unset] [])) rfl (hb hby at_123) (by decide) (by decide)
        obtain ⟨b166, g166⟩ : ∃ z, z = T163.heap.size := ⟨_, rfl⟩
        rw [← g166] at A166 D166 st166
        refine own_go st166 ?_
        have K166 : Keep h0 h166 [] := Keep.ext K163 E166
        have F166_19 : Fld Z h166 b166 "com/example/porthcurno/porthcurno/model/SentMessage" "properties" "Ljava/util/Map;" .null := D166 (Or.inr (hw _ (List.mem_of_getElem? (i := 19) rfl))) (ty := (.object "java/util/Map")) (by decide)
        have F166_21 : Fld Z h166 b166 "com/example/porthcurno/porthcurno/model/SentMessage" "body" "[B" .null := D166 (Or.inr (hw _ (List.mem_of_getElem? (i := 21) rfl))) (ty := (.array .byte)) (by decide)
        have F166_23 : Fld Z h166 b166 "com/example/porthcurno/porthcurno/model/SentMessage" "amqp" "Lcom/example/porthcurno/porthcurno/model/AmqpSections;" .null := D166 (Or.inr (hw _ (List.mem_of_getElem? (i := 23) rfl))) (ty := (.object "com/example/porthcurno/porthcurno/model/AmqpSections")) (by decide)
        have F166_25 : Fld Z h166 b166 "com/example/porthcurno/porthcurno/model/SentMessage" "timeToLive" "Ljava/time/Duration;" .null := D166 (Or.inr (hw _ (List.mem_of_getElem? (i := 25) rfl))) (ty := (.object "java/time/Duration")) (by decide)
        have F166_27 : Fld Z h166 b166 "com/example/porthcurno/porthcurno/model/SentMessage" "absoluteExpiryTime" "Ljava/time/Instant;" .null := D166 (Or.inr (hw _ (List.mem_of_getElem? (i := 27) rfl))) (ty := (.object "java/time/Instant")) (by decide)
        refine own_go (B := T166.setTop (mkF m 131 #[.val (.int p1), .val (.int p2), .val (.int p3), .val (.ref b65), .val (.ref b142), .val (.ref b160), .val (.int (p1 &&& (7 : Int32))), .unset] [(.ref b160), (.ref b65), .null, (.ref b166), (.ref b166)])) (fun t k => ?_) ?_
        · show Steps p.tables e below (T166.setTop (mkF m 126 #[.val (.int p1), .val (.int p2), .val (.int p3), .val (.ref b65), .val (.ref b142), .val (.ref b160), .val (.int (p1 &&& (7 : Int32))), .unset] [(.ref b166)])) _
          refine XS.dup X166.here hx rfl (hb hby at_126) rfl rfl ?_
          show Steps p.tables e below (T166.setTop (mkF m 127 #[.val (.int p1), .val (.int p2), .val (.int p3), .val (.ref b65), .val (.ref b142), .val (.ref b160), .val (.int (p1 &&& (7 : Int32))), .unset] [(.ref b166), (.ref b166)])) _
          refine XS.aconstNull X166.here hx rfl (hb hby at_127) ?_
          show Steps p.tables e below (T166.setTop (mkF m 128 #[.val (.int p1), .val (.int p2), .val (.int p3), .val (.ref b65), .val (.ref b142), .val (.ref b160), .val (.int (p1 &&& (7 : Int32))), .unset] [.null, (.ref b166), (.ref b166)])) _
          refine XS.aloadN X166.here hx rfl (hb hby at_128) rfl rfl ?_
          show Steps p.tables e below (T166.setTop (mkF m 129 #[.val (.int p1), .val (.int p2), .val (.int p3), .val (.ref b65), .val (.ref b142), .val (.ref b160), .val (.int (p1 &&& (7 : Int32))), .unset] [(.ref b65), .null, (.ref b166), (.ref b166)])) _
          refine XS.aload X166.here hx rfl (hb hby at_129) rfl rfl ?_
          show Steps p.tables e below (T166.setTop (mkF m 131 #[.val (.int p1), .val (.int p2), .val (.int p3), .val (.ref b65), .val (.ref b142), .val (.ref b160), .val (.int (p1 &&& (7 : Int32))), .unset] [(.ref b160), (.ref b65), .null, (.ref b166), (.ref b166)])) _
          exact k
        have le168 : h0.size ≤ T163.heap.size := (Nat.le_trans (Nat.le_trans (Nat.le_trans E65.1 E142.1) E160.1) q163_0.1)
        have le169 : h0.size ≤ h166.size := (Nat.le_trans (Nat.le_trans (Nat.le_trans (Nat.le_trans E65.1 E142.1) E160.1) q163_0.1) E166.1)
        obtain ⟨_, _, ⟨T167, L167, k167, n167⟩, -, X167, ⟨Lc167, hQ167, l167, y167, z167⟩, st167⟩ := X166.specialBack hx (y := (⟨"com/example/porthcurno/porthcurno/model/SentMessage", "<init>", "(Ljava/util/Map;[BLcom/example/porthcurno/porthcurno/model/AmqpSections;)V"⟩ : MethodName)) rfl ho163 (mvT hZ163 (hw _ (List.mem_of_getElem? (i := 4) rfl))) (mvT hZ163 (hw _ (List.mem_of_getElem? (i := 5) rfl))) (mvT hZ163 (hw _ (List.mem_of_getElem? (i := 6) rfl))) (by decide) (backOf (W := 1) (rm1 l Z a0 hw [] b166 b65 b160 h166 n0 (Nat.le_trans Z0 le169) A166 F166_19 F166_21 F166_23 F166_25 F166_27 (Nat.le_trans (Nat.le_trans Z0 le168) (Nat.le_of_eq g166.symm))) hZ163 (hw _ (List.mem_of_getElem? (i := 6) rfl)) (hw _ (List.mem_of_getElem? (i := 3) rfl)) (by decide) (by decide)) (g := (mkF m 131 #[.val (.int p1), .val (.int p2), .val (.int p3), .val (.ref b65), .val (.ref b142), .val (.ref b160), .val (.int (p1 &&& (7 : Int32))), .unset] [(.ref b160), (.ref b65), .null, (.ref b166), (.ref b166)])) rfl (by rw [hml]; rfl) (Steps.refl _) (a := b166) (argsL := [.null, (.ref b65), (.ref b160)]) (rest := [(.ref b166)]) (lenOf pd_4 rfl) rfl (by show 2 * 0 + _ ≤ _; exact Nat.le_of_eq rfl) (hb hby at_131) (fun _ _ => ⟨rfl, e166, (by decide : 8 + 0 ≤ _), (by decide : 69 + 0 ≤ _)⟩)
        dsimp only [Pt.U, Pt.locs, Pt.cells, Pt.slots] at X167 l167 y167 z167 st167 hQ167
        subst l167 y167 z167
        obtain ⟨rfl, M167, q167_0, q167_1, q167_2, q167_3⟩ := hQ167
        have N167 := Fr.app N163 M167
        have K167 : Keep h0 T167.heap [] := Keep.trans K166 q167_0 (allS (Or.inr (Nat.le_trans le168 (Nat.le_of_eq g166.symm))) all0)
        refine own_go (fun t k => st167.trans k) ?_
        refine own_go (B := T167.setTop (mkF m 138 #[.val (.int p1), .val (.int p2), .val (.int p3), .val (.ref b65), .val (.ref b142), .val (.ref b160), .val (.int (p1 &&& (7 : Int32))), .val (.ref b166)] [(.ref b166)])) (fun t k => ?_) ?_
        · show Steps p.tables e below (T167.setTop (mkF m 134 #[.val (.int p1), .val (.int p2), .val (.int p3), .val (.ref b65), .val (.ref b142), .val (.ref b160), .val (.int (p1 &&& (7 : Int32))), .unset] [(.ref b166)])) _
          refine XS.astore X167.here hx rfl (hb hby at_134) rfl rfl (l' := #[.val (.int p1), .val (.int p2), .val (.int p3), .val (.ref b65), .val (.ref b142), .val (.ref b160), .val (.int (p1 &&& (7 : Int32))), .val (.ref b166)]) rfl ?_
          show Steps p.tables e below (T167.setTop (mkF m 136 #[.val (.int p1), .val (.int p2), .val (.int p3), .val (.ref b65), .val (.ref b142), .val (.ref b160), .val (.int (p1 &&& (7 : Int32))), .val (.ref b166)] [])) _
          refine XS.aload X167.here hx rfl (hb hby at_136) rfl rfl ?_
          show Steps p.tables e below (T167.setTop (mkF m 138 #[.val (.int p1), .val (.int p2), .val (.int p3), .val (.ref b65), .val (.ref b142), .val (.ref b160), .val (.int (p1 &&& (7 : Int32))), .val (.ref b166)] [(.ref b166)])) _
          exact k
        have le171 : h0.size ≤ T167.heap.size := (Nat.le_trans (Nat.le_trans (Nat.le_trans (Nat.le_trans (Nat.le_trans E65.1 E142.1) E160.1) q163_0.1) E166.1) q167_0.1)
        obtain ⟨cq170, kq170, q170a, q170b, q170c⟩ := isOf hZ163 rfl q167_1
        obtain ⟨_, _, ⟨T170, L170, k170, n170⟩, -, X170, ⟨Lc170, hQ170, l170, y170, z170⟩, st170⟩ := X167.virtualBack hx (y := (⟨"com/example/porthcurno/porthcurno/model/SentMessage", "expires", "()Z"⟩ : MethodName)) (z := (⟨"com/example/porthcurno/porthcurno/model/SentMessage", "expires", "()Z"⟩ : MethodName)) ho163 (mvT hZ163 (hw _ (List.mem_of_getElem? (i := 28) rfl))) (mvT hZ163 (hw _ (List.mem_of_getElem? (i := 29) rfl))) (notFace_of_selects (args := #[]) (mvT hZ163 (hw _ (List.mem_of_getElem? (i := 31) rfl)))) (mvT hZ163 (hw _ (List.mem_of_getElem? (i := 31) rfl))) (mvT hZ163 (hw _ (List.mem_of_getElem? (i := 30) rfl))) (by decide) (backOf (W := 0) (rm5 l Z a0 hw [] b166 T167.heap n0 (Nat.le_trans Z0 le171) q167_2 q167_3) hZ163 (hw _ (List.mem_of_getElem? (i := 32) rfl)) (hw _ (List.mem_of_getElem? (i := 3) rfl)) (by decide) (by decide)) q170a q170c (g := (mkF m 138 #[.val (.int p1), .val (.int p2), .val (.int p3), .val (.ref b65), .val (.ref b142), .val (.ref b160), .val (.int (p1 &&& (7 : Int32))), .val (.ref b166)] [(.ref b166)])) rfl (by rw [hml]; rfl) (Steps.refl _) (argsL := []) (rest := []) (lenOf pd_5 rfl) rfl (by show 2 * 0 + _ ≤ _; exact Nat.le_of_eq rfl) (hb hby at_138) (fun _ _ => ⟨rfl, rfl, (by decide : 8 + 0 ≤ _), (by decide : 69 + 0 ≤ _)⟩)
        dsimp only [Pt.U, Pt.locs, Pt.cells, Pt.slots] at X170 l170 y170 z170 st170 hQ170
        subst l170 y170 z170
        obtain ⟨rfl, M170, q170_0⟩ := hQ170
        have N170 := Fr.app N167 M170
        refine own_go (fun t k => st170.trans k) ?_
        refine own_go (B := T170.setTop (mkF m 147 #[.val (.int p1), .val (.int p2), .val (.int p3), .val (.ref b65), .val (.ref b142), .val (.ref b160), .val (.int (p1 &&& (7 : Int32))), .val (.ref b166)] [.null, (.ref b166)])) (fun t k => ?_) ?_
        · show Steps p.tables e below (T170.setTop (mkF m 141 #[.val (.int p1), .val (.int p2), .val (.int p3), .val (.ref b65), .val (.ref b142), .val (.ref b160), .val (.int (p1 &&& (7 : Int32))), .val (.ref b166)] [(.int (0 : Int32))])) _
          refine XS.ifNo X170.here hx rfl (hb hby at_141) rfl ((if0 _ _).trans (teq (by decide : (0 : Int32) = (0 : Int32))).2) ?_
          show Steps p.tables e below (T170.setTop (mkF m 144 #[.val (.int p1), .val (.int p2), .val (.int p3), .val (.ref b65), .val (.ref b142), .val (.ref b160), .val (.int (p1 &&& (7 : Int32))), .val (.ref b166)] [])) _
          refine XS.aload X170.here hx rfl (hb hby at_144) rfl rfl ?_
          show Steps p.tables e below (T170.setTop (mkF m 146 #[.val (.int p1), .val (.int p2), .val (.int p3), .val (.ref b65), .val (.ref b142), .val (.ref b160), .val (.int (p1 &&& (7 : Int32))), .val (.ref b166)] [(.ref b166)])) _
          refine XS.aconstNull X170.here hx rfl (hb hby at_146) ?_
          show Steps p.tables e below (T170.setTop (mkF m 147 #[.val (.int p1), .val (.int p2), .val (.int p3), .val (.ref b65), .val (.ref b142), .val (.ref b160), .val (.int (p1 &&& (7 : Int32))), .val (.ref b166)] [.null, (.ref b166)])) _
          exact k
        obtain ⟨cq172, kq172, q172a, q172b, q172c⟩ := isOf hZ163 q170_0 q167_1
        obtain ⟨_, _, ⟨T172, L172, k172, n172⟩, -, X172, ⟨Lc172, hQ172, l172, y172, z172⟩, st172⟩ := X170.virtualBack hx (y := (⟨"com/example/porthcurno/porthcurno/model/SentMessage", "timeToLiveFrom", "(Ljava/time/Instant;)Ljava/time/Duration;"⟩ : MethodName)) (z := (⟨"com/example/porthcurno/porthcurno/model/SentMessage", "timeToLiveFrom", "(Ljava/time/Instant;)Ljava/time/Duration;"⟩ : MethodName)) ho163 (mvT hZ163 (hw _ (List.mem_of_getElem? (i := 33) rfl))) (mvT hZ163 (hw _ (List.mem_of_getElem? (i := 34) rfl))) (notFace_of_selects (args := #[]) (mvT hZ163 (hw _ (List.mem_of_getElem? (i := 36) rfl)))) (mvT hZ163 (hw _ (List.mem_of_getElem? (i := 36) rfl))) (mvT hZ163 (hw _ (List.mem_of_getElem? (i := 35) rfl))) (by decide) (backOf (W := 0) (rm6 l Z a0 hw [] b166 T167.heap n0 (Nat.le_trans Z0 le171) q167_2 q167_3) hZ163 (hw _ (List.mem_of_getElem? (i := 37) rfl)) (hw _ (List.mem_of_getElem? (i := 3) rfl)) (by decide) (by decide)) q172a q172c (g := (mkF m 147 #[.val (.int p1), .val (.int p2), .val (.int p3), .val (.ref b65), .val (.ref b142), .val (.ref b160), .val (.int (p1 &&& (7 : Int32))), .val (.ref b166)] [.null, (.ref b166)])) rfl (by rw [hml]; rfl) (Steps.refl _) (argsL := [.null]) (rest := []) (lenOf pd_6 rfl) rfl (by show 2 * 0 + _ ≤ _; exact Nat.le_of_eq rfl) (hb hby at_147) (fun _ _ => ⟨rfl, q170_0, (by decide : 8 + 0 ≤ _), (by decide : 69 + 0 ≤ _)⟩)
        dsimp only [Pt.U, Pt.locs, Pt.cells, Pt.slots] at X172 l172 y172 z172 st172 hQ172
        subst l172 y172 z172
        obtain ⟨rfl, M172, q172_0⟩ := hQ172
        have N172 := Fr.app N170 M172
        refine own_go (fun t k => st172.trans k) ?_
        refine own_go (B := T172.setTop (mkF m 158 #[.val (.int p1), .val (.int p2), .val (.int p3), .val (.ref b65), .val (.ref b142), .val (.ref b160), .val (.int (p1 &&& (7 : Int32))), .val (.ref b166)] [(.int (1 : Int32))])) (fun t k => ?_) ?_
        · show Steps p.tables e below (T172.setTop (mkF m 150 #[.val (.int p1), .val (.int p2), .val (.int p3), .val (.ref b65), .val (.ref b142), .val (.ref b160), .val (.int (p1 &&& (7 : Int32))), .val (.ref b166)] [.null])) _
          refine XS.ifnonnullNo X172.here hx rfl (hb hby at_150) rfl ?_
          show Steps p.tables e below (T172.setTop (mkF m 153 #[.val (.int p1), .val (.int p2), .val (.int p3), .val (.ref b65), .val (.ref b142), .val (.ref b160), .val (.int (p1 &&& (7 : Int32))), .val (.ref b166)] [])) _
          refine XS.iconst X172.here hx rfl (hb hby at_153) ?_
          show Steps p.tables e below (T172.setTop (mkF m 154 #[.val (.int p1), .val (.int p2), .val (.int p3), .val (.ref b65), .val (.ref b142), .val (.ref b160), .val (.int (p1 &&& (7 : Int32))), .val (.ref b166)] [(.int (1 : Int32))])) _
          refine XS.goto X172.here hx rfl (pc0 := 154) (pc' := 158) rfl (hb hby at_154) (by decide) (by decide) ?_
          show Steps p.tables e below (T172.setTop (mkF m 158 #[.val (.int p1), .val (.int p2), .val (.int p3), .val (.ref b65), .val (.ref b142), .val (.ref b160), .val (.int (p1 &&& (7 : Int32))), .val (.ref b166)] [(.int (1 : Int32))])) _
          exact k
        have le174 : T163.heap.size ≤ T167.heap.size := (Nat.le_trans E166.1 q167_0.1)
        obtain ⟨fs, hr, hrun, hended, hW⟩ := X172.leaveW hS163 (show _ ≤ T172.heap.size by rw [q172_0]; exact (Nat.le_trans (Nat.le_refl _) le174)) (v := some (.int (1 : Int32))) (fun h => by rw [Bd.returns] at h; cases h)
        refine ⟨_, _, ?_, hrun, hended, _, _, rfl, ?_, ⟨hW.1, hW.2.1, hW.2.2.1, hW.2.2.2.mono (by decide) (by decide)⟩⟩
        · exact retN X172 hx (t := .boolean) Bd.returns (by simp) (hb hby at_158) hr
        · show Q0 Z p1 p2 p3 w_DATA w_STRING_VALUE w_SECTIONS w_BINARY_VALUE h0 n0 _ T172.heap _
          rw [q172_0]
          exact ⟨rfl, N172⟩
      · refine own_go (B := T142.setTop (mkF m 83 #[.val (.int p1), .val (.int p2), .val (.int p3), .val (.ref b65), .val (.ref b142), .val .null, .val (.int (p1 &&& (7 : Int32))), .unset] [(.int (3 : Int32)), (.int (p1 &&& (7 : Int32)))])) (fun t k => ?_) ?_
        · show Steps p.tables e below (T142.setTop (mkF m 60 #[.val (.int p1), .val (.int p2), .val (.int p3), .val (.ref b65), .val (.ref b142), .val .null, .val (.int (p1 &&& (7 : Int32))), .unset] [(.int (2 : Int32)), (.int (p1 &&& (7 : Int32)))])) _
          refine XS.icmpYes X142.here hx rfl (pc0 := 60) (pc' := 80) rfl (hb hby at_60) rfl (feq hc159).2 (by decide) (by decide) ?_
          show Steps p.tables e below (T142.setTop (mkF m 80 #[.val (.int p1), .val (.int p2), .val (.int p3), .val (.ref b65), .val (.ref b142), .val .null, .val (.int (p1 &&& (7 : Int32))), .unset] [])) _
          refine XS.iload X142.here hx rfl (hb hby at_80) rfl ?_
          show Steps p.tables e below (T142.setTop (mkF m 82 #[.val (.int p1), .val (.int p2), .val (.int p3), .val (.ref b65), .val (.ref b142), .val .null, .val (.int (p1 &&& (7 : Int32))), .unset] [(.int (p1 &&& (7 : Int32)))])) _
          refine XS.iconst X142.here hx rfl (hb hby at_82) ?_
          show Steps p.tables e below (T142.setTop (mkF m 83 #[.val (.int p1), .val (.int p2), .val (.int p3), .val (.ref b65), .val (.ref b142), .val .null, .val (.int (p1 &&& (7 : Int32))), .unset] [(.int (3 : Int32)), (.int (p1 &&& (7 : Int32)))])) _
          exact k
        by_cases hc175 : (p1 &&& (7 : Int32)) = (3 : Int32)
        · refine own_go (B := T142.setTop (mkF m 86 #[.val (.int p1), .val (.int p2), .val (.int p3), .val (.ref b65), .val (.ref b142), .val .null, .val (.int (p1 &&& (7 : Int32))), .unset] [])) (fun t k => ?_) ?_
          · show Steps p.tables e below (T142.setTop (mkF m 83 #[.val (.int p1), .val (.int p2), .val (.int p3), .val (.ref b65), .val (.ref b142), .val .null, .val (.int (p1 &&& (7 : Int32))), .unset] [(.int (3 : Int32)), (.int (p1 &&& (7 : Int32)))])) _
            refine XS.icmpNo X142.here hx rfl (hb hby at_83) rfl (teq hc175).2 ?_
            show Steps p.tables e below (T142.setTop (mkF m 86 #[.val (.int p1), .val (.int p2), .val (.int p3), .val (.ref b65), .val (.ref b142), .val .null, .val (.int (p1 &&& (7 : Int32))), .unset] [])) _
            exact k
          obtain ⟨T176, h176, X176, e176, E176, A176, D176, -, st176⟩ := newO X142 hx hZ hown (hw _ (List.mem_of_getElem? (i := 38) rfl)) (hw _ (List.mem_of_getElem? (i := 39) rfl)) (hw _ (List.mem_of_getElem? (i := 40) rfl)) e142 (g := (mkF m 86 #[.val (.int p1), .val (.int p2), .val (.int p3), .val (.ref b65), .val (.ref b142), .val .null, .val (.int (p1 &&& (7 : Int32))), .unset] [])) rfl (hb hby at_86) (by decide) (by decide)
          obtain ⟨b176, g176⟩ : ∃ z, z = h142.size := ⟨_, rfl⟩
          rw [← g176] at A176 D176 st176
          refine own_go st176 ?_
          have K176 : Keep h0 h176 [] := Keep.ext K142 E176
          have F176_61 : Fld Z h176 b176 "com/example/porthcurno/porthcurno/model/AmqpSections" "sections" "[B" .null := D176 (Or.inr (hw _ (List.mem_of_getElem? (i := 61) rfl))) (ty := (.array .byte)) (by decide)
          have F176_63 : Fld Z h176 b176 "com/example/porthcurno/porthcurno/model/AmqpSections" "body" "Lcom/example/porthcurno/porthcurno/model/AmqpSections$Body;" .null := D176 (Or.inr (hw _ (List.mem_of_getElem? (i := 63) rfl))) (ty := (.object "com/example/porthcurno/porthcurno/model/AmqpSections$Body")) (by decide)
          refine own_go (B := T176.setTop (mkF m 92 #[.val (.int p1), .val (.int p2), .val (.int p3), .val (.ref b65), .val (.ref b142), .val .null, .val (.int (p1 &&& (7 : Int32))), .unset] [(.ref b142), (.ref b176), (.ref b176)])) (fun t k => ?_) ?_
          · show Steps p.tables e below (T176.setTop (mkF m 89 #[.val (.int p1), .val (.int p2), .val (.int p3), .val (.ref b65), .val (.ref b142), .val .null, .val (.int (p1 &&& (7 : Int32))), .unset] [(.ref b176)])) _
            refine XS.dup X176.here hx rfl (hb hby at_89) rfl rfl ?_
            show Steps p.tables e below (T176.setTop (mkF m 90 #[.val (.int p1), .val (.int p2), .val (.int p3), .val (.ref b65), .val (.ref b142), .val .null, .val (.int (p1 &&& (7 : Int32))), .unset] [(.ref b176), (.ref b176)])) _
            refine XS.aload X176.here hx rfl (hb hby at_90) rfl rfl ?_
            show Steps p.tables e below (T176.setTop (mkF m 92 #[.val (.int p1), .val (.int p2), .val (.int p3), .val (.ref b65), .val (.ref b142), .val .null, .val (.int (p1 &&& (7 : Int32))), .unset] [(.ref b142), (.ref b176), (.ref b176)])) _
            exact k
          have f178 : Sta Z h176 "com/example/porthcurno/porthcurno/model/AmqpSections$Body" "BINARY_VALUE" "Lcom/example/porthcurno/porthcurno/model/AmqpSections$Body;" (.ref w_BINARY_VALUE) := (((S_BINARY_VALUE.ext E65).ext E142).ext E176)
          obtain ⟨T177, X177, e177, st177⟩ := getS2 X176 hx hZ hown (host := "") (Or.inl (hw _ (List.mem_of_getElem? (i := 68) rfl))) Via.refl e176 f178 (g := (mkF m 92 #[.val (.int p1), .val (.int p2), .val (.int p3), .val (.ref b65), .val (.ref b142), .val .null, .val (.int (p1 &&& (7 : Int32))), .unset] [(.ref b142), (.ref b176), (.ref b176)])) rfl (hb hby at_92)
          refine own_go st177 ?_
          have le180 : h0.size ≤ h142.size := (Nat.le_trans E65.1 E142.1)
          have le181 : h0.size ≤ h176.size := (Nat.le_trans (Nat.le_trans E65.1 E142.1) E176.1)
          obtain ⟨_, _, ⟨T179, L179, k179, n179⟩, -, X179, S179, G179, ⟨Lc179, hQ179, l179, y179, z179⟩, st179⟩ := X177.specialBackS hx (y := (⟨"com/example/porthcurno/porthcurno/model/AmqpSections", "<init>", "([BLcom/example/porthcurno/porthcurno/model/AmqpSections$Body;)V"⟩ : MethodName)) rfl hown (mvT hZ (hw _ (List.mem_of_getElem? (i := 44) rfl))) (mvT hZ (hw _ (List.mem_of_getElem? (i := 45) rfl))) (mvT hZ (hw _ (List.mem_of_getElem? (i := 46) rfl))) (by decide) (backOfS (W := 1) (rm7 l Z a0 hw [] b176 b142 w_BINARY_VALUE h176 n0 (Nat.le_trans Z0 le181) A176 F176_61 F176_63 (Nat.le_trans (Nat.le_trans Z0 le180) (Nat.le_of_eq g176.symm))) hZ (hw _ (List.mem_of_getElem? (i := 46) rfl)) (hw _ (List.mem_of_getElem? (i := 40) rfl)) (by decide) (by decide)) (g := (mkF m 95 #[.val (.int p1), .val (.int p2), .val (.int p3), .val (.ref b65), .val (.ref b142), .val .null, .val (.int (p1 &&& (7 : Int32))), .unset] [(.ref w_BINARY_VALUE), (.ref b142), (.ref b176), (.ref b176)])) rfl (by rw [hml]; rfl) (Steps.refl _) (a := b176) (argsL := [(.ref b142), (.ref w_BINARY_VALUE)]) (rest := [(.ref b176)]) (lenOf pd_3 rfl) rfl (by show 2 * 0 + _ ≤ _; exact Nat.le_of_eq rfl) (hb hby at_95) (fun _ _ => ⟨rfl, e177, (by decide : 3 + 4 ≤ _), (by decide : 8 + 56 ≤ _)⟩)
          dsimp only [Pt.U, Pt.locs, Pt.cells, Pt.slots] at X179 S179 G179 l179 y179 z179 st179 hQ179
          subst l179 y179 z179
          obtain ⟨rfl, M179, q179_0⟩ := hQ179
          have N179 := Fr.app N0 M179
          have hS179 : s.Since T179.vm T179.heap.size := S179
          have hZ179 : Z.Warmed39 (s.setVm T179.vm).vm := State.Warmed39.trans (t := s) hZ S179.1
          have ho179 : (s.setVm T179.vm).vm.findClass "com/example/porthcurno/porthcurno/model/SentMessageExpiresPinLaw" = some m.cls := by rw [show (s.setVm T179.vm).vm = T179.vm from rfl, S179.1.alike.findClass]; exact hown
          replace X179 : Stand p l e _ (s.setVm T179.vm) m _ below meth c T179 _ _ _ := X179
          have K179 : Keep h0 T179.heap [] := Keep.trans K176 q179_0 (allS (Or.inr (Nat.le_trans le180 (Nat.le_of_eq g176.symm))) all0)
          refine own_go (fun t k => st179.trans k) ?_
          refine own_go (B := T179.setTop (mkF m 123 #[.val (.int p1), .val (.int p2), .val (.int p3), .val (.ref b65), .val (.ref b142), .val (.ref b176), .val (.int (p1 &&& (7 : Int32))), .unset] [])) (fun t k => ?_) ?_
          · show Steps p.tables e below (T179.setTop (mkF m 98 #[.val (.int p1), .val (.int p2), .val (.int p3), .val (.ref b65), .val (.ref b142), .val .null, .val (.int (p1 &&& (7 : Int32))), .unset] [(.ref b176)])) _
            refine XS.astore X179.here hx rfl (hb hby at_98) rfl rfl (l' := #[.val (.int p1), .val (.int p2), .val (.int p3), .val (.ref b65), .val (.ref b142), .val (.ref b176), .val (.int (p1 &&& (7 : Int32))), .unset]) rfl ?_
            show Steps p.tables e below (T179.setTop (mkF m 100 #[.val (.int p1), .val (.int p2), .val (.int p3), .val (.ref b65), .val (.ref b142), .val (.ref b176), .val (.int (p1 &&& (7 : Int32))), .unset] [])) _
            refine XS.goto X179.here hx rfl (pc0 := 100) (pc' := 123) rfl (hb hby at_100) (by decide) (by decide) ?_
            show Steps p.tables e below (T179.setTop (mkF m 123 #[.val (.int p1), .val (.int p2), .val (.int p3), .val (.ref b65), .val (.ref b142), .val (.ref b176), .val (.int (p1 &&& (7 : Int32))), .unset] [])) _
            exact k
          obtain ⟨T182, h182, X182, e182, E182, A182, D182, -, st182⟩ := newO X179 hx hZ179 ho179 (hw _ (List.mem_of_getElem? (i := 1) rfl)) (hw _ (List.mem_of_getElem? (i := 2) rfl)) (hw _ (List.mem_of_getElem? (i := 3) rfl)) rfl (g := (mkF m 123 #[.val (.int p1), .val (.int p2), .val (.int p3), .val (.ref b65), .val (.ref b142), .val (.ref b176), .val (.int (p1 &&& (7 : Int32))), .unset] [])) rfl (hb hby at_123) (by decide) (by decide)
          obtain ⟨b182, g182⟩ : ∃ z, z = T179.heap.size := ⟨_, rfl⟩
          rw [← g182] at A182 D182 st182
          refine own_go st182 ?_
          have K182 : Keep h0 h182 [] := Keep.ext K179 E182
          have F182_19 : Fld Z h182 b182 "com/example/porthcurno/porthcurno/model/SentMessage" "properties" "Ljava/util/Map;" .null := D182 (Or.inr (hw _ (List.mem_of_getElem? (i := 19) rfl))) (ty := (.object "java/util/Map")) (by decide)
          have F182_21 : Fld Z h182 b182 "com/example/porthcurno/porthcurno/model/SentMessage" "body" "[B" .null := D182 (Or.inr (hw _ (List.mem_of_getElem? (i := 21) rfl))) (ty := (.array .byte)) (by decide)
          have F182_23 : Fld Z h182 b182 "com/example/porthcurno/porthcurno/model/SentMessage" "amqp" "Lcom/example/porthcurno/porthcurno/model/AmqpSections;" .null := D182 (Or.inr (hw _ (List.mem_of_getElem? (i := 23) rfl))) (ty := (.object "com/example/porthcurno/porthcurno/model/AmqpSections")) (by decide)
          have F182_25 : Fld Z h182 b182 "com/example/porthcurno/porthcurno/model/SentMessage" "timeToLive" "Ljava/time/Duration;" .null := D182 (Or.inr (hw _ (List.mem_of_getElem? (i := 25) rfl))) (ty := (.object "java/time/Duration")) (by decide)
          have F182_27 : Fld Z h182 b182 "com/example/porthcurno/porthcurno/model/SentMessage" "absoluteExpiryTime" "Ljava/time/Instant;" .null := D182 (Or.inr (hw _ (List.mem_of_getElem? (i := 27) rfl))) (ty := (.object "java/time/Instant")) (by decide)
          refine own_go (B := T182.setTop (mkF m 131 #[.val (.int p1), .val (.int p2), .val (.int p3), .val (.ref b65), .val (.ref b142), .val (.ref b176), .val (.int (p1 &&& (7 : Int32))), .unset] [(.ref b176), (.ref b65), .null, (.ref b182), (.ref b182)])) (fun t k => ?_) ?_
          · show Steps p.tables e below (T182.setTop (mkF m 126 #[.val (.int p1), .val (.int p2), .val (.int p3), .val (.ref b65), .val (.ref b142), .val (.ref b176), .val (.int (p1 &&& (7 : Int32))), .unset] [(.ref b182)])) _
            refine XS.dup X182.here hx rfl (hb hby at_126) rfl rfl ?_
            show Steps p.tables e below (T182.setTop (mkF m 127 #[.val (.int p1), .val (.int p2), .val (.int p3), .val (.ref b65), .val (.ref b142), .val (.ref b176), .val (.int (p1 &&& (7 : Int32))), .unset] [(.ref b182), (.ref b182)])) _
            refine XS.aconstNull X182.here hx rfl (hb hby at_127) ?_
            show Steps p.tables e below (T182.setTop (mkF m 128 #[.val (.int p1), .val (.int p2), .val (.int p3), .val (.ref b65), .val (.ref b142), .val (.ref b176), .val (.int (p1 &&& (7 : Int32))), .unset] [.null, (.ref b182), (.ref b182)])) _
            refine XS.aloadN X182.here hx rfl (hb hby at_128) rfl rfl ?_
            show Steps p.tables e below (T182.setTop (mkF m 129 #[.val (.int p1), .val (.int p2), .val (.int p3), .val (.ref b65), .val (.ref b142), .val (.ref b176), .val (.int (p1 &&& (7 : Int32))), .unset] [(.ref b65), .null, (.ref b182), (.ref b182)])) _
            refine XS.aload X182.here hx rfl (hb hby at_129) rfl rfl ?_
            show Steps p.tables e below (T182.setTop (mkF m 131 #[.val (.int p1), .val (.int p2), .val (.int p3), .val (.ref b65), .val (.ref b142), .val (.ref b176), .val (.int (p1 &&& (7 : Int32))), .unset] [(.ref b176), (.ref b65), .null, (.ref b182), (.ref b182)])) _
            exact k
          have le184 : h0.size ≤ T179.heap.size := (Nat.le_trans (Nat.le_trans (Nat.le_trans E65.1 E142.1) E176.1) q179_0.1)
          have le185 : h0.size ≤ h182.size := (Nat.le_trans (Nat.le_trans (Nat.le_trans (Nat.le_trans E65.1 E142.1) E176.1) q179_0.1) E182.1)
          obtain ⟨_, _, ⟨T183, L183, k183, n183⟩, -, X183, ⟨Lc183, hQ183, l183, y183, z183⟩, st183⟩ := X182.specialBack hx (y := (⟨"com/example/porthcurno/porthcurno/model/SentMessage", "<init>", "(Ljava/util/Map;[BLcom/example/porthcurno/porthcurno/model/AmqpSections;)V"⟩ : MethodName)) rfl ho179 (mvT hZ179 (hw _ (List.mem_of_getElem? (i := 4) rfl))) (mvT hZ179 (hw _ (List.mem_of_getElem? (i := 5) rfl))) (mvT hZ179 (hw _ (List.mem_of_getElem? (i := 6) rfl))) (by decide) (backOf (W := 1) (rm1 l Z a0 hw [] b182 b65 b176 h182 n0 (Nat.le_trans Z0 le185) A182 F182_19 F182_21 F182_23 F182_25 F182_27 (Nat.le_trans (Nat.le_trans Z0 le184) (Nat.le_of_eq g182.symm))) hZ179 (hw _ (List.mem_of_getElem? (i := 6) rfl)) (hw _ (List.mem_of_getElem? (i := 3) rfl)) (by decide) (by decide)) (g := (mkF m 131 #[.val (.int p1), .val (.int p2), .val (.int p3), .val (.ref b65), .val (.ref b142), .val (.ref b176), .val (.int (p1 &&& (7 : Int32))), .unset] [(.ref b176), (.ref b65), .null, (.ref b182), (.ref b182)])) rfl (by rw [hml]; rfl) (Steps.refl _) (a := b182) (argsL := [.null, (.ref b65), (.ref b176)]) (rest := [(.ref b182)]) (lenOf pd_4 rfl) rfl (by show 2 * 0 + _ ≤ _; exact Nat.le_of_eq rfl) (hb hby at_131) (fun _ _ => ⟨rfl, e182, (by decide : 8 + 0 ≤ _), (by decide : 69 + 0 ≤ _)⟩)
          dsimp only [Pt.U, Pt.locs, Pt.cells, Pt.slots] at X183 l183 y183 z183 st183 hQ183
          subst l183 y183 z183
          obtain ⟨rfl, M183, q183_0, q183_1, q183_2, q183_3⟩ := hQ183
          have N183 := Fr.app N179 M183
          have K183 : Keep h0 T183.heap [] := Keep.trans K182 q183_0 (allS (Or.inr (Nat.le_trans le184 (Nat.le_of_eq g182.symm))) all0)
          refine own_go (fun t k => st183.trans k) ?_
          refine own_go (B := T183.setTop (mkF m 138 #[.val (.int p1), .val (.int p2), .val (.int p3), .val (.ref b65), .val (.ref b142), .val (.ref b176), .val (.int (p1 &&& (7 : Int32))), .val (.ref b182)] [(.ref b182)])) (fun t k => ?_) ?_
          · show Steps p.tables e below (T183.setTop (mkF m 134 #[.val (.int p1), .val (.int p2), .val (.int p3), .val (.ref b65), .val (.ref b142), .val (.ref b176), .val (.int (p1 &&& (7 : Int32))), .unset] [(.ref b182)])) _
            refine XS.astore X183.here hx rfl (hb hby at_134) rfl rfl (l' := #[.val (.int p1), .val (.int p2), .val (.int p3), .val (.ref b65), .val (.ref b142), .val (.ref b176), .val (.int (p1 &&& (7 : Int32))), .val (.ref b182)]) rfl ?_
            show Steps p.tables e below (T183.setTop (mkF m 136 #[.val (.int p1), .val (.int p2), .val (.int p3), .val (.ref b65), .val (.ref b142), .val (.ref b176), .val (.int (p1 &&& (7 : Int32))), .val (.ref b182)] [])) _
            refine XS.aload X183.here hx rfl (hb hby at_136) rfl rfl ?_
            show Steps p.tables e below (T183.setTop (mkF m 138 #[.val (.int p1), .val (.int p2), .val (.int p3), .val (.ref b65), .val (.ref b142), .val (.ref b176), .val (.int (p1 &&& (7 : Int32))), .val (.ref b182)] [(.ref b182)])) _
            exact k
          have le187 : h0.size ≤ T183.heap.size := (Nat.le_trans (Nat.le_trans (Nat.le_trans (Nat.le_trans (Nat.le_trans E65.1 E142.1) E176.1) q179_0.1) E182.1) q183_0.1)
          obtain ⟨cq186, kq186, q186a, q186b, q186c⟩ := isOf hZ179 rfl q183_1
          obtain ⟨_, _, ⟨T186, L186, k186, n186⟩, -, X186, ⟨Lc186, hQ186, l186, y186, z186⟩, st186⟩ := X183.virtualBack hx (y := (⟨"com/example/porthcurno/porthcurno/model/SentMessage", "expires", "()Z"⟩ : MethodName)) (z := (⟨"com/example/porthcurno/porthcurno/model/SentMessage", "expires", "()Z"⟩ : MethodName)) ho179 (mvT hZ179 (hw _ (List.mem_of_getElem? (i := 28) rfl))) (mvT hZ179 (hw _ (List.mem_of_getElem? (i := 29) rfl))) (notFace_of_selects (args := #[]) (mvT hZ179 (hw _ (List.mem_of_getElem? (i := 31) rfl)))) (mvT hZ179 (hw _ (List.mem_of_getElem? (i := 31) rfl))) (mvT hZ179 (hw _ (List.mem_of_getElem? (i := 30) rfl))) (by decide) (backOf (W := 0) (rm5 l Z a0 hw [] b182 T183.heap n0 (Nat.le_trans Z0 le187) q183_2 q183_3) hZ179 (hw _ (List.mem_of_getElem? (i := 32) rfl)) (hw _ (List.mem_of_getElem? (i := 3) rfl)) (by decide) (by decide)) q186a q186c (g := (mkF m 138 #[.val (.int p1), .val (.int p2), .val (.int p3), .val (.ref b65), .val (.ref b142), .val (.ref b176), .val (.int (p1 &&& (7 : Int32))), .val (.ref b182)] [(.ref b182)])) rfl (by rw [hml]; rfl) (Steps.refl _) (argsL := []) (rest := []) (lenOf pd_5 rfl) rfl (by show 2 * 0 + _ ≤ _; exact Nat.le_of_eq rfl) (hb hby at_138) (fun _ _ => ⟨rfl, rfl, (by decide : 8 + 0 ≤ _), (by decide : 69 + 0 ≤ _)⟩)
          dsimp only [Pt.U, Pt.locs, Pt.cells, Pt.slots] at X186 l186 y186 z186 st186 hQ186
          subst l186 y186 z186
          obtain ⟨rfl, M186, q186_0⟩ := hQ186
          have N186 := Fr.app N183 M186
          refine own_go (fun t k => st186.trans k) ?_
          refine own_go (B := T186.setTop (mkF m 147 #[.val (.int p1), .val (.int p2), .val (.int p3), .val (.ref b65), .val (.ref b142), .val (.ref b176), .val (.int (p1 &&& (7 : Int32))), .val (.ref b182)] [.null, (.ref b182)])) (fun t k => ?_) ?_
          · show Steps p.tables e below (T186.setTop (mkF m 141 #[.val (.int p1), .val (.int p2), .val (.int p3), .val (.ref b65), .val (.ref b142), .val (.ref b176), .val (.int (p1 &&& (7 : Int32))), .val (.ref b182)] [(.int (0 : Int32))])) _
            refine XS.ifNo X186.here hx rfl (hb hby at_141) rfl ((if0 _ _).trans (teq (by decide : (0 : Int32) = (0 : Int32))).2) ?_
            show Steps p.tables e below (T186.setTop (mkF m 144 #[.val (.int p1), .val (.int p2), .val (.int p3), .val (.ref b65), .val (.ref b142), .val (.ref b176), .val (.int (p1 &&& (7 : Int32))), .val (.ref b182)] [])) _
            refine XS.aload X186.here hx rfl (hb hby at_144) rfl rfl ?_
            show Steps p.tables e below (T186.setTop (mkF m 146 #[.val (.int p1), .val (.int p2), .val (.int p3), .val (.ref b65), .val (.ref b142), .val (.ref b176), .val (.int (p1 &&& (7 : Int32))), .val (.ref b182)] [(.ref b182)])) _
            refine XS.aconstNull X186.here hx rfl (hb hby at_146) ?_
            show Steps p.tables e below (T186.setTop (mkF m 147 #[.val (.int p1), .val (.int p2), .val (.int p3), .val (.ref b65), .val (.ref b142), .val (.ref b176), .val (.int (p1 &&& (7 : Int32))), .val (.ref b182)] [.null, (.ref b182)])) _
            exact k
          obtain ⟨cq188, kq188, q188a, q188b, q188c⟩ := isOf hZ179 q186_0 q183_1
          obtain ⟨_, _, ⟨T188, L188, k188, n188⟩, -, X188, ⟨Lc188, hQ188, l188, y188, z188⟩, st188⟩ := X186.virtualBack hx (y := (⟨"com/example/porthcurno/porthcurno/model/SentMessage", "timeToLiveFrom", "(Ljava/time/Instant;)Ljava/time/Duration;"⟩ : MethodName)) (z := (⟨"com/example/porthcurno/porthcurno/model/SentMessage", "timeToLiveFrom", "(Ljava/time/Instant;)Ljava/time/Duration;"⟩ : MethodName)) ho179 (mvT hZ179 (hw _ (List.mem_of_getElem? (i := 33) rfl))) (mvT hZ179 (hw _ (List.mem_of_getElem? (i := 34) rfl))) (notFace_of_selects (args := #[]) (mvT hZ179 (hw _ (List.mem_of_getElem? (i := 36) rfl)))) (mvT hZ179 (hw _ (List.mem_of_getElem? (i := 36) rfl))) (mvT hZ179 (hw _ (List.mem_of_getElem? (i := 35) rfl))) (by decide) (backOf (W := 0) (rm6 l Z a0 hw [] b182 T183.heap n0 (Nat.le_trans Z0 le187) q183_2 q183_3) hZ179 (hw _ (List.mem_of_getElem? (i := 37) rfl)) (hw _ (List.mem_of_getElem? (i := 3) rfl)) (by decide) (by decide)) q188a q188c (g := (mkF m 147 #[.val (.int p1), .val (.int p2), .val (.int p3), .val (.ref b65), .val (.ref b142), .val (.ref b176), .val (.int (p1 &&& (7 : Int32))), .val (.ref b182)] [.null, (.ref b182)])) rfl (by rw [hml]; rfl) (Steps.refl _) (argsL := [.null]) (rest := []) (lenOf pd_6 rfl) rfl (by show 2 * 0 + _ ≤ _; exact Nat.le_of_eq rfl) (hb hby at_147) (fun _ _ => ⟨rfl, q186_0, (by decide : 8 + 0 ≤ _), (by decide : 69 + 0 ≤ _)⟩)
          dsimp only [Pt.U, Pt.locs, Pt.cells, Pt.slots] at X188 l188 y188 z188 st188 hQ188
          subst l188 y188 z188
          obtain ⟨rfl, M188, q188_0⟩ := hQ188
          have N188 := Fr.app N186 M188
          refine own_go (fun t k => st188.trans k) ?_
          refine own_go (B := T188.setTop (mkF m 158 #[.val (.int p1), .val (.int p2), .val (.int p3), .val (.ref b65), .val (.ref b142), .val (.ref b176), .val (.int (p1 &&& (7 : Int32))), .val (.ref b182)] [(.int (1 : Int32))])) (fun t k => ?_) ?_
          · show Steps p.tables e below (T188.setTop (mkF m 150 #[.val (.int p1), .val (.int p2), .val (.int p3), .val (.ref b65), .val (.ref b142), .val (.ref b176), .val (.int (p1 &&& (7 : Int32))), .val (.ref b182)] [.null])) _
            refine XS.ifnonnullNo X188.here hx rfl (hb hby at_150) rfl ?_
            show Steps p.tables e below (T188.setTop (mkF m 153 #[.val (.int p1), .val (.int p2), .val (.int p3), .val (.ref b65), .val (.ref b142), .val (.ref b176), .val (.int (p1 &&& (7 : Int32))), .val (.ref b182)] [])) _
            refine XS.iconst X188.here hx rfl (hb hby at_153) ?_
            show Steps p.tables e below (T188.setTop (mkF m 154 #[.val (.int p1), .val (.int p2), .val (.int p3), .val (.ref b65), .val (.ref b142), .val (.ref b176), .val (.int (p1 &&& (7 : Int32))), .val (.ref b182)] [(.int (1 : Int32))])) _
            refine XS.goto X188.here hx rfl (pc0 := 154) (pc' := 158) rfl (hb hby at_154) (by decide) (by decide) ?_
            show Steps p.tables e below (T188.setTop (mkF m 158 #[.val (.int p1), .val (.int p2), .val (.int p3), .val (.ref b65), .val (.ref b142), .val (.ref b176), .val (.int (p1 &&& (7 : Int32))), .val (.ref b182)] [(.int (1 : Int32))])) _
            exact k
          have le190 : T179.heap.size ≤ T183.heap.size := (Nat.le_trans E182.1 q183_0.1)
          obtain ⟨fs, hr, hrun, hended, hW⟩ := X188.leaveW hS179 (show _ ≤ T188.heap.size by rw [q188_0]; exact (Nat.le_trans (Nat.le_refl _) le190)) (v := some (.int (1 : Int32))) (fun h => by rw [Bd.returns] at h; cases h)
          refine ⟨_, _, ?_, hrun, hended, _, _, rfl, ?_, ⟨hW.1, hW.2.1, hW.2.2.1, hW.2.2.2.mono (by decide) (by decide)⟩⟩
          · exact retN X188 hx (t := .boolean) Bd.returns (by simp) (hb hby at_158) hr
          · show Q0 Z p1 p2 p3 w_DATA w_STRING_VALUE w_SECTIONS w_BINARY_VALUE h0 n0 _ T188.heap _
            rw [q188_0]
            exact ⟨rfl, N188⟩
        · refine own_go (B := T142.setTop (mkF m 106 #[.val (.int p1), .val (.int p2), .val (.int p3), .val (.ref b65), .val (.ref b142), .val .null, .val (.int (p1 &&& (7 : Int32))), .unset] [(.int (4 : Int32)), (.int (p1 &&& (7 : Int32)))])) (fun t k => ?_) ?_
          · show Steps p.tables e below (T142.setTop (mkF m 83 #[.val (.int p1), .val (.int p2), .val (.int p3), .val (.ref b65), .val (.ref b142), .val .null, .val (.int (p1 &&& (7 : Int32))), .unset] [(.int (3 : Int32)), (.int (p1 &&& (7 : Int32)))])) _
            refine XS.icmpYes X142.here hx rfl (pc0 := 83) (pc' := 103) rfl (hb hby at_83) rfl (feq hc175).2 (by decide) (by decide) ?_
            show Steps p.tables e below (T142.setTop (mkF m 103 #[.val (.int p1), .val (.int p2), .val (.int p3), .val (.ref b65), .val (.ref b142), .val .null, .val (.int (p1 &&& (7 : Int32))), .unset] [])) _
            refine XS.iload X142.here hx rfl (hb hby at_103) rfl ?_
            show Steps p.tables e below (T142.setTop (mkF m 105 #[.val (.int p1), .val (.int p2), .val (.int p3), .val (.ref b65), .val (.ref b142), .val .null, .val (.int (p1 &&& (7 : Int32))), .unset] [(.int (p1 &&& (7 : Int32)))])) _
            refine XS.iconst X142.here hx rfl (hb hby at_105) ?_
            show Steps p.tables e below (T142.setTop (mkF m 106 #[.val (.int p1), .val (.int p2), .val (.int p3), .val (.ref b65), .val (.ref b142), .val .null, .val (.int (p1 &&& (7 : Int32))), .unset] [(.int (4 : Int32)), (.int (p1 &&& (7 : Int32)))])) _
            exact k
          by_cases hc191 : (p1 &&& (7 : Int32)) = (4 : Int32)
          · refine own_go (B := T142.setTop (mkF m 109 #[.val (.int p1), .val (.int p2), .val (.int p3), .val (.ref b65), .val (.ref b142), .val .null, .val (.int (p1 &&& (7 : Int32))), .unset] [])) (fun t k => ?_) ?_
            · show Steps p.tables e below (T142.setTop (mkF m 106 #[.val (.int p1), .val (.int p2), .val (.int p3), .val (.ref b65), .val (.ref b142), .val .null, .val (.int (p1 &&& (7 : Int32))), .unset] [(.int (4 : Int32)), (.int (p1 &&& (7 : Int32)))])) _
              refine XS.icmpNo X142.here hx rfl (hb hby at_106) rfl (teq hc191).2 ?_
              show Steps p.tables e below (T142.setTop (mkF m 109 #[.val (.int p1), .val (.int p2), .val (.int p3), .val (.ref b65), .val (.ref b142), .val .null, .val (.int (p1 &&& (7 : Int32))), .unset] [])) _
              exact k
            obtain ⟨T192, h192, X192, e192, E192, A192, D192, -, st192⟩ := newO X142 hx hZ hown (hw _ (List.mem_of_getElem? (i := 38) rfl)) (hw _ (List.mem_of_getElem? (i := 39) rfl)) (hw _ (List.mem_of_getElem? (i := 40) rfl)) e142 (g := (mkF m 109 #[.val (.int p1), .val (.int p2), .val (.int p3), .val (.ref b65), .val (.ref b142), .val .null, .val (.int (p1 &&& (7 : Int32))), .unset] [])) rfl (hb hby at_109) (by decide) (by decide)
            obtain ⟨b192, g192⟩ : ∃ z, z = h142.size := ⟨_, rfl⟩
            rw [← g192] at A192 D192 st192
            refine own_go st192 ?_
            have K192 : Keep h0 h192 [] := Keep.ext K142 E192
            have F192_61 : Fld Z h192 b192 "com/example/porthcurno/porthcurno/model/AmqpSections" "sections" "[B" .null := D192 (Or.inr (hw _ (List.mem_of_getElem? (i := 61) rfl))) (ty := (.array .byte)) (by decide)
            have F192_63 : Fld Z h192 b192 "com/example/porthcurno/porthcurno/model/AmqpSections" "body" "Lcom/example/porthcurno/porthcurno/model/AmqpSections$Body;" .null := D192 (Or.inr (hw _ (List.mem_of_getElem? (i := 63) rfl))) (ty := (.object "com/example/porthcurno/porthcurno/model/AmqpSections$Body")) (by decide)
            refine own_go (B := T192.setTop (mkF m 115 #[.val (.int p1), .val (.int p2), .val (.int p3), .val (.ref b65), .val (.ref b142), .val .null, .val (.int (p1 &&& (7 : Int32))), .unset] [(.ref b142), (.ref b192), (.ref b192)])) (fun t k => ?_) ?_
            · show Steps p.tables e below (T192.setTop (mkF m 112 #[.val (.int p1), .val (.int p2), .val (.int p3), .val (.ref b65), .val (.ref b142), .val .null, .val (.int (p1 &&& (7 : Int32))), .unset] [(.ref b192)])) _
              refine XS.dup X192.here hx rfl (hb hby at_112) rfl rfl ?_
              show Steps p.tables e below (T192.setTop (mkF m 113 #[.val (.int p1), .val (.int p2), .val (.int p3), .val (.ref b65), .val (.ref b142), .val .null, .val (.int (p1 &&& (7 : Int32))), .unset] [(.ref b192), (.ref b192)])) _
              refine XS.aload X192.here hx rfl (hb hby at_113) rfl rfl ?_
              show Steps p.tables e below (T192.setTop (mkF m 115 #[.val (.int p1), .val (.int p2), .val (.int p3), .val (.ref b65), .val (.ref b142), .val .null, .val (.int (p1 &&& (7 : Int32))), .unset] [(.ref b142), (.ref b192), (.ref b192)])) _
              exact k
            have f194 : Sta Z h192 "com/example/porthcurno/porthcurno/model/AmqpSections$Body" "STRING_VALUE" "Lcom/example/porthcurno/porthcurno/model/AmqpSections$Body;" (.ref w_STRING_VALUE) := (((S_STRING_VALUE.ext E65).ext E142).ext E192)
            obtain ⟨T193, X193, e193, st193⟩ := getS2 X192 hx hZ hown (host := "") (Or.inl (hw _ (List.mem_of_getElem? (i := 64) rfl))) Via.refl e192 f194 (g := (mkF m 115 #[.val (.int p1), .val (.int p2), .val (.int p3), .val (.ref b65), .val (.ref b142), .val .null, .val (.int (p1 &&& (7 : Int32))), .unset] [(.ref b142), (.ref b192), (.ref b192)])) rfl (hb hby at_115)
            refine own_go st193 ?_
            have le196 : h0.size ≤ h142.size := (Nat.le_trans E65.1 E142.1)
            have le197 : h0.size ≤ h192.size := (Nat.le_trans (Nat.le_trans E65.1 E142.1) E192.1)
            obtain ⟨_, _, ⟨T195, L195, k195, n195⟩, -, X195, S195, G195, ⟨Lc195, hQ195, l195, y195, z195⟩, st195⟩ := X193.specialBackS hx (y := (⟨"com/example/porthcurno/porthcurno/model/AmqpSections", "<init>", "([BLcom/example/porthcurno/porthcurno/model/AmqpSections$Body;)V"⟩ : MethodName)) rfl hown (mvT hZ (hw _ (List.mem_of_getElem? (i := 44) rfl))) (mvT hZ (hw _ (List.mem_of_getElem? (i := 45) rfl))) (mvT hZ (hw _ (List.mem_of_getElem? (i := 46) rfl))) (by decide) (backOfS (W := 1) (rm7 l Z a0 hw [] b192 b142 w_STRING_VALUE h192 n0 (Nat.le_trans Z0 le197) A192 F192_61 F192_63 (Nat.le_trans (Nat.le_trans Z0 le196) (Nat.le_of_eq g192.symm))) hZ (hw _ (List.mem_of_getElem? (i := 46) rfl)) (hw _ (List.mem_of_getElem? (i := 40) rfl)) (by decide) (by decide)) (g := (mkF m 118 #[.val (.int p1), .val (.int p2), .val (.int p3), .val (.ref b65), .val (.ref b142), .val .null, .val (.int (p1 &&& (7 : Int32))), .unset] [(.ref w_STRING_VALUE), (.ref b142), (.ref b192), (.ref b192)])) rfl (by rw [hml]; rfl) (Steps.refl _) (a := b192) (argsL := [(.ref b142), (.ref w_STRING_VALUE)]) (rest := [(.ref b192)]) (lenOf pd_3 rfl) rfl (by show 2 * 0 + _ ≤ _; exact Nat.le_of_eq rfl) (hb hby at_118) (fun _ _ => ⟨rfl, e193, (by decide : 3 + 4 ≤ _), (by decide : 8 + 56 ≤ _)⟩)
            dsimp only [Pt.U, Pt.locs, Pt.cells, Pt.slots] at X195 S195 G195 l195 y195 z195 st195 hQ195
            subst l195 y195 z195
            obtain ⟨rfl, M195, q195_0⟩ := hQ195
            have N195 := Fr.app N0 M195
            have hS195 : s.Since T195.vm T195.heap.size := S195
            have hZ195 : Z.Warmed39 (s.setVm T195.vm).vm := State.Warmed39.trans (t := s) hZ S195.1
            have ho195 : (s.setVm T195.vm).vm.findClass "com/example/porthcurno/porthcurno/model/SentMessageExpiresPinLaw" = some m.cls := by rw [show (s.setVm T195.vm).vm = T195.vm from rfl, S195.1.alike.findClass]; exact hown
            replace X195 : Stand p l e _ (s.setVm T195.vm) m _ below meth c T195 _ _ _ := X195
            have K195 : Keep h0 T195.heap [] := Keep.trans K192 q195_0 (allS (Or.inr (Nat.le_trans le196 (Nat.le_of_eq g192.symm))) all0)
            refine own_go (fun t k => st195.trans k) ?_
            refine own_go (B := T195.setTop (mkF m 123 #[.val (.int p1), .val (.int p2), .val (.int p3), .val (.ref b65), .val (.ref b142), .val (.ref b192), .val (.int (p1 &&& (7 : Int32))), .unset] [])) (fun t k => ?_) ?_
            · show Steps p.tables e below (T195.setTop (mkF m 121 #[.val (.int p1), .val (.int p2), .val (.int p3), .val (.ref b65), .val (.ref b142), .val .null, .val (.int (p1 &&& (7 : Int32))), .unset] [(.ref b192)])) _
              refine XS.astore X195.here hx rfl (hb hby at_121) rfl rfl (l' := #[.val (.int p1), .val (.int p2), .val (.int p3), .val (.ref b65), .val (.ref b142), .val (.ref b192), .val (.int (p1 &&& (7 : Int32))), .unset]) rfl ?_
              show Steps p.tables e below (T195.setTop (mkF m 123 #[.val (.int p1), .val (.int p2), .val (.int p3), .val (.ref b65), .val (.ref b142), .val (.ref b192), .val (.int (p1 &&& (7 : Int32))), .unset] [])) _
              exact k
            obtain ⟨T198, h198, X198, e198, E198, A198, D198, -, st198⟩ := newO X195 hx hZ195 ho195 (hw _ (List.mem_of_getElem? (i := 1) rfl)) (hw _ (List.mem_of_getElem? (i := 2) rfl)) (hw _ (List.mem_of_getElem? (i := 3) rfl)) rfl (g := (mkF m 123 #[.val (.int p1), .val (.int p2), .val (.int p3), .val (.ref b65), .val (.ref b142), .val (.ref b192), .val (.int (p1 &&& (7 : Int32))), .unset] [])) rfl (hb hby at_123) (by decide) (by decide)
            obtain ⟨b198, g198⟩ : ∃ z, z = T195.heap.size := ⟨_, rfl⟩
            rw [← g198] at A198 D198 st198
            refine own_go st198 ?_
            have K198 : Keep h0 h198 [] := Keep.ext K195 E198
            have F198_19 : Fld Z h198 b198 "com/example/porthcurno/porthcurno/model/SentMessage" "properties" "Ljava/util/Map;" .null := D198 (Or.inr (hw _ (List.mem_of_getElem? (i := 19) rfl))) (ty := (.object "java/util/Map")) (by decide)
            have F198_21 : Fld Z h198 b198 "com/example/porthcurno/porthcurno/model/SentMessage" "body" "[B" .null := D198 (Or.inr (hw _ (List.mem_of_getElem? (i := 21) rfl))) (ty := (.array .byte)) (by decide)
            have F198_23 : Fld Z h198 b198 "com/example/porthcurno/porthcurno/model/SentMessage" "amqp" "Lcom/example/porthcurno/porthcurno/model/AmqpSections;" .null := D198 (Or.inr (hw _ (List.mem_of_getElem? (i := 23) rfl))) (ty := (.object "com/example/porthcurno/porthcurno/model/AmqpSections")) (by decide)
            have F198_25 : Fld Z h198 b198 "com/example/porthcurno/porthcurno/model/SentMessage" "timeToLive" "Ljava/time/Duration;" .null := D198 (Or.inr (hw _ (List.mem_of_getElem? (i := 25) rfl))) (ty := (.object "java/time/Duration")) (by decide)
            have F198_27 : Fld Z h198 b198 "com/example/porthcurno/porthcurno/model/SentMessage" "absoluteExpiryTime" "Ljava/time/Instant;" .null := D198 (Or.inr (hw _ (List.mem_of_getElem? (i := 27) rfl))) (ty := (.object "java/time/Instant")) (by decide)
            refine own_go (B := T198.setTop (mkF m 131 #[.val (.int p1), .val (.int p2), .val (.int p3), .val (.ref b65), .val (.ref b142), .val (.ref b192), .val (.int (p1 &&& (7 : Int32))), .unset] [(.ref b192), (.ref b65), .null, (.ref b198), (.ref b198)])) (fun t k => ?_) ?_
            · show Steps p.tables e below (T198.setTop (mkF m 126 #[.val (.int p1), .val (.int p2), .val (.int p3), .val (.ref b65), .val (.ref b142), .val (.ref b192), .val (.int (p1 &&& (7 : Int32))), .unset] [(.ref b198)])) _
              refine XS.dup X198.here hx rfl (hb hby at_126) rfl rfl ?_
              show Steps p.tables e below (T198.setTop (mkF m 127 #[.val (.int p1), .val (.int p2), .val (.int p3), .val (.ref b65), .val (.ref b142), .val (.ref b192), .val (.int (p1 &&& (7 : Int32))), .unset] [(.ref b198), (.ref b198)])) _
              refine XS.aconstNull X198.here hx rfl (hb hby at_127) ?_
              show Steps p.tables e below (T198.setTop (mkF m 128 #[.val (.int p1), .val (.int p2), .val (.int p3), .val (.ref b65), .val (.ref b142), .val (.ref b192), .val (.int (p1 &&& (7 : Int32))), .unset] [.null, (.ref b198), (.ref b198)])) _
              refine XS.aloadN X198.here hx rfl (hb hby at_128) rfl rfl ?_
              show Steps p.tables e below (T198.setTop (mkF m 129 #[.val (.int p1), .val (.int p2), .val (.int p3), .val (.ref b65), .val (.ref b142), .val (.ref b192), .val (.int (p1 &&& (7 : Int32))), .unset] [(.ref b65), .null, (.ref b198), (.ref b198)])) _
              refine XS.aload X198.here hx rfl (hb hby at_129) rfl rfl ?_
              show Steps p.tables e below (T198.setTop (mkF m 131 #[.val (.int p1), .val (.int p2), .val (.int p3), .val (.ref b65), .val (.ref b142), .val (.ref b192), .val (.int (p1 &&& (7 : Int32))), .unset] [(.ref b192), (.ref b65), .null, (.ref b198), (.ref b198)])) _
              exact k
            have le200 : h0.size ≤ T195.heap.size := (Nat.le_trans (Nat.le_trans (Nat.le_trans E65.1 E142.1) E192.1) q195_0.1)
            have le201 : h0.size ≤ h198.size := (Nat.le_trans (Nat.le_trans (Nat.le_trans (Nat.le_trans E65.1 E142.1) E192.1) q195_0.1) E198.1)
            obtain ⟨_, _, ⟨T199, L199, k199, n199⟩, -, X199, ⟨Lc199, hQ199, l199, y199, z199⟩, st199⟩ := X198.specialBack hx (y := (⟨"com/example/porthcurno/porthcurno/model/SentMessage", "<init>", "(Ljava/util/Map;[BLcom/example/porthcurno/porthcurno/model/AmqpSections;)V"⟩ : MethodName)) rfl ho195 (mvT hZ195 (hw _ (List.mem_of_getElem? (i := 4) rfl))) (mvT hZ195 (hw _ (List.mem_of_getElem? (i := 5) rfl))) (mvT hZ195 (hw _ (List.mem_of_getElem? (i := 6) rfl))) (by decide) (backOf (W := 1) (rm1 l Z a0 hw [] b198 b65 b192 h198 n0 (Nat.le_trans Z0 le201) A198 F198_19 F198_21 F198_23 F198_25 F198_27 (Nat.le_trans (Nat.le_trans Z0 le200) (Nat.le_of_eq g198.symm))) hZ195 (hw _ (List.mem_of_getElem? (i := 6) rfl)) (hw _ (List.mem_of_getElem? (i := 3) rfl)) (by decide) (by decide)) (g := (mkF m 131 #[.val (.int p1), .val (.int p2), .val (.int p3), .val (.ref b65), .val (.ref b142), .val (.ref b192), .val (.int (p1 &&& (7 : Int32))), .unset] [(.ref b192), (.ref b65), .null, (.ref b198), (.ref b198)])) rfl (by rw [hml]; rfl) (Steps.refl _) (a := b198) (argsL := [.null, (.ref b65), (.ref b192)]) (rest := [(.ref b198)]) (lenOf pd_4 rfl) rfl (by show 2 * 0 + _ ≤ _; exact Nat.le_of_eq rfl) (hb hby at_131) (fun _ _ => ⟨rfl, e198, (by decide : 8 + 0 ≤ _), (by decide : 69 + 0 ≤ _)⟩)
            dsimp only [Pt.U, Pt.locs, Pt.cells, Pt.slots] at X199 l199 y199 z199 st199 hQ199
            subst l199 y199 z199
            obtain ⟨rfl, M199, q199_0, q199_1, q199_2, q199_3⟩ := hQ199
            have N199 := Fr.app N195 M199
            have K199 : Keep h0 T199.heap [] := Keep.trans K198 q199_0 (allS (Or.inr (Nat.le_trans le200 (Nat.le_of_eq g198.symm))) all0)
            refine own_go (fun t k => st199.trans k) ?_
            refine own_go (B := T199.setTop (mkF m 138 #[.val (.int p1), .val (.int p2), .val (.int p3), .val (.ref b65), .val (.ref b142), .val (.ref b192), .val (.int (p1 &&& (7 : Int32))), .val (.ref b198)] [(.ref b198)])) (fun t k => ?_) ?_
            · show Steps p.tables e below (T199.setTop (mkF m 134 #[.val (.int p1), .val (.int p2), .val (.int p3), .val (.ref b65), .val (.ref b142), .val (.ref b192), .val (.int (p1 &&& (7 : Int32))), .unset] [(.ref b198)])) _
              refine XS.astore X199.here hx rfl (hb hby at_134) rfl rfl (l' := #[.val (.int p1), .val (.int p2), .val (.int p3), .val (.ref b65), .val (.ref b142), .val (.ref b192), .val (.int (p1 &&& (7 : Int32))), .val (.ref b198)]) rfl ?_
              show Steps p.tables e below (T199.setTop (mkF m 136 #[.val (.int p1), .val (.int p2), .val (.int p3), .val (.ref b65), .val (.ref b142), .val (.ref b192), .val (.int (p1 &&& (7 : Int32))), .val (.ref b198)] [])) _
              refine XS.aload X199.here hx rfl (hb hby at_136) rfl rfl ?_
              show Steps p.tables e below (T199.setTop (mkF m 138 #[.val (.int p1), .val (.int p2), .val (.int p3), .val (.ref b65), .val (.ref b142), .val (.ref b192), .val (.int (p1 &&& (7 : Int32))), .val (.ref b198)] [(.ref b198)])) _
              exact k
            have le203 : h0.size ≤ T199.heap.size := (Nat.le_trans (Nat.le_trans (Nat.le_trans (Nat.le_trans (Nat.le_trans E65.1 E142.1) E192.1) q195_0.1) E198.1) q199_0.1)
            obtain ⟨cq202, kq202, q202a, q202b, q202c⟩ := isOf hZ195 rfl q199_1
            obtain ⟨_, _, ⟨T202, L202, k202, n202⟩, -, X202, ⟨Lc202, hQ202, l202, y202, z202⟩, st202⟩ := X199.virtualBack hx (y := (⟨"com/example/porthcurno/porthcurno/model/SentMessage", "expires", "()Z"⟩ : MethodName)) (z := (⟨"com/example/porthcurno/porthcurno/model/SentMessage", "expires", "()Z"⟩ : MethodName)) ho195 (mvT hZ195 (hw _ (List.mem_of_getElem? (i := 28) rfl))) (mvT hZ195 (hw _ (List.mem_of_getElem? (i := 29) rfl))) (notFace_of_selects (args := #[]) (mvT hZ195 (hw _ (List.mem_of_getElem? (i := 31) rfl)))) (mvT hZ195 (hw _ (List.mem_of_getElem? (i := 31) rfl))) (mvT hZ195 (hw _ (List.mem_of_getElem? (i := 30) rfl))) (by decide) (backOf (W := 0) (rm5 l Z a0 hw [] b198 T199.heap n0 (Nat.le_trans Z0 le203) q199_2 q199_3) hZ195 (hw _ (List.mem_of_getElem? (i := 32) rfl)) (hw _ (List.mem_of_getElem? (i := 3) rfl)) (by decide) (by decide)) q202a q202c (g := (mkF m 138 #[.val (.int p1), .val (.int p2), .val (.int p3), .val (.ref b65), .val (.ref b142), .val (.ref b192), .val (.int (p1 &&& (7 : Int32))), .val (.ref b198)] [(.ref b198)])) rfl (by rw [hml]; rfl) (Steps.refl _) (argsL := []) (rest := []) (lenOf pd_5 rfl) rfl (by show 2 * 0 + _ ≤ _; exact Nat.le_of_eq rfl) (hb hby at_138) (fun _ _ => ⟨rfl, rfl, (by decide : 8 + 0 ≤ _), (by decide : 69 + 0 ≤ _)⟩)
            dsimp only [Pt.U, Pt.locs, Pt.cells, Pt.slots] at X202 l202 y202 z202 st202 hQ202
            subst l202 y202 z202
            obtain ⟨rfl, M202, q202_0⟩ := hQ202
            have N202 := Fr.app N199 M202
            refine own_go (fun t k => st202.trans k) ?_
            refine own_go (B := T202.setTop (mkF m 147 #[.val (.int p1), .val (.int p2), .val (.int p3), .val (.ref b65), .val (.ref b142), .val (.ref b192), .val (.int (p1 &&& (7 : Int32))), .val (.ref b198)] [.null, (.ref b198)])) (fun t k => ?_) ?_
            · show Steps p.tables e below (T202.setTop (mkF m 141 #[.val (.int p1), .val (.int p2), .val (.int p3), .val (.ref b65), .val (.ref b142), .val (.ref b192), .val (.int (p1 &&& (7 : Int32))), .val (.ref b198)] [(.int (0 : Int32))])) _
              refine XS.ifNo X202.here hx rfl (hb hby at_141) rfl ((if0 _ _).trans (teq (by decide : (0 : Int32) = (0 : Int32))).2) ?_
              show Steps p.tables e below (T202.setTop (mkF m 144 #[.val (.int p1), .val (.int p2), .val (.int p3), .val (.ref b65), .val (.ref b142), .val (.ref b192), .val (.int (p1 &&& (7 : Int32))), .val (.ref b198)] [])) _
              refine XS.aload X202.here hx rfl (hb hby at_144) rfl rfl ?_
              show Steps p.tables e below (T202.setTop (mkF m 146 #[.val (.int p1), .val (.int p2), .val (.int p3), .val (.ref b65), .val (.ref b142), .val (.ref b192), .val (.int (p1 &&& (7 : Int32))), .val (.ref b198)] [(.ref b198)])) _
              refine XS.aconstNull X202.here hx rfl (hb hby at_146) ?_
              show Steps p.tables e below (T202.setTop (mkF m 147 #[.val (.int p1), .val (.int p2), .val (.int p3), .val (.ref b65), .val (.ref b142), .val (.ref b192), .val (.int (p1 &&& (7 : Int32))), .val (.ref b198)] [.null, (.ref b198)])) _
              exact k
            obtain ⟨cq204, kq204, q204a, q204b, q204c⟩ := isOf hZ195 q202_0 q199_1
            obtain ⟨_, _, ⟨T204, L204, k204, n204⟩, -, X204, ⟨Lc204, hQ204, l204, y204, z204⟩, st204⟩ := X202.virtualBack hx (y := (⟨"com/example/porthcurno/porthcurno/model/SentMessage", "timeToLiveFrom", "(Ljava/time/Instant;)Ljava/time/Duration;"⟩ : MethodName)) (z := (⟨"com/example/porthcurno/porthcurno/model/SentMessage", "timeToLiveFrom", "(Ljava/time/Instant;)Ljava/time/Duration;"⟩ : MethodName)) ho195 (mvT hZ195 (hw _ (List.mem_of_getElem? (i := 33) rfl))) (mvT hZ195 (hw _ (List.mem_of_getElem? (i := 34) rfl))) (notFace_of_selects (args := #[]) (mvT hZ195 (hw _ (List.mem_of_getElem? (i := 36) rfl)))) (mvT hZ195 (hw _ (List.mem_of_getElem? (i := 36) rfl))) (mvT hZ195 (hw _ (List.mem_of_getElem? (i := 35) rfl))) (by decide) (backOf (W := 0) (rm6 l Z a0 hw [] b198 T199.heap n0 (Nat.le_trans Z0 le203) q199_2 q199_3) hZ195 (hw _ (List.mem_of_getElem? (i := 37) rfl)) (hw _ (List.mem_of_getElem? (i := 3) rfl)) (by decide) (by decide)) q204a q204c (g := (mkF m 147 #[.val (.int p1), .val (.int p2), .val (.int p3), .val (.ref b65), .val (.ref b142), .val (.ref b192), .val (.int (p1 &&& (7 : Int32))), .val (.ref b198)] [.null, (.ref b198)])) rfl (by rw [hml]; rfl) (Steps.refl _) (argsL := [.null]) (rest := []) (lenOf pd_6 rfl) rfl (by show 2 * 0 + _ ≤ _; exact Nat.le_of_eq rfl) (hb hby at_147) (fun _ _ => ⟨rfl, q202_0, (by decide : 8 + 0 ≤ _), (by decide : 69 + 0 ≤ _)⟩)
            dsimp only [Pt.U, Pt.locs, Pt.cells, Pt.slots] at X204 l204 y204 z204 st204 hQ204
            subst l204 y204 z204
            obtain ⟨rfl, M204, q204_0⟩ := hQ204
            have N204 := Fr.app N202 M204
            refine own_go (fun t k => st204.trans k) ?_
            refine own_go (B := T204.setTop (mkF m 158 #[.val (.int p1), .val (.int p2), .val (.int p3), .val (.ref b65), .val (.ref b142), .val (.ref b192), .val (.int (p1 &&& (7 : Int32))), .val (.ref b198)] [(.int (1 : Int32))])) (fun t k => ?_) ?_
            · show Steps p.tables e below (T204.setTop (mkF m 150 #[.val (.int p1), .val (.int p2), .val (.int p3), .val (.ref b65), .val (.ref b142), .val (.ref b192), .val (.int (p1 &&& (7 : Int32))), .val (.ref b198)] [.null])) _
              refine XS.ifnonnullNo X204.here hx rfl (hb hby at_150) rfl ?_
              show Steps p.tables e below (T204.setTop (mkF m 153 #[.val (.int p1), .val (.int p2), .val (.int p3), .val (.ref b65), .val (.ref b142), .val (.ref b192), .val (.int (p1 &&& (7 : Int32))), .val (.ref b198)] [])) _
              refine XS.iconst X204.here hx rfl (hb hby at_153) ?_
              show Steps p.tables e below (T204.setTop (mkF m 154 #[.val (.int p1), .val (.int p2), .val (.int p3), .val (.ref b65), .val (.ref b142), .val (.ref b192), .val (.int (p1 &&& (7 : Int32))), .val (.ref b198)] [(.int (1 : Int32))])) _
              refine XS.goto X204.here hx rfl (pc0 := 154) (pc' := 158) rfl (hb hby at_154) (by decide) (by decide) ?_
              show Steps p.tables e below (T204.setTop (mkF m 158 #[.val (.int p1), .val (.int p2), .val (.int p3), .val (.ref b65), .val (.ref b142), .val (.ref b192), .val (.int (p1 &&& (7 : Int32))), .val (.ref b198)] [(.int (1 : Int32))])) _
              exact k
            have le206 : T195.heap.size ≤ T199.heap.size := (Nat.le_trans E198.1 q199_0.1)
            obtain ⟨fs, hr, hrun, hended, hW⟩ := X204.leaveW hS195 (show _ ≤ T204.heap.size by rw [q204_0]; exact (Nat.le_trans (Nat.le_refl _) le206)) (v := some (.int (1 : Int32))) (fun h => by rw [Bd.returns] at h; cases h)
            refine ⟨_, _, ?_, hrun, hended, _, _, rfl, ?_, ⟨hW.1, hW.2.1, hW.2.2.1, hW.2.2.2.mono (by decide) (by decide)⟩⟩
            · exact retN X204 hx (t := .boolean) Bd.returns (by simp) (hb hby at_158) hr
            · show Q0 Z p1 p2 p3 w_DATA w_STRING_VALUE w_SECTIONS w_BINARY_VALUE h0 n0 _ T204.heap _
              rw [q204_0]
              exact ⟨rfl, N204⟩
          · refine own_go (B := T142.setTop (mkF m 123 #[.val (.int p1), .val (.int p2), .val (.int p3), .val (.ref b65), .val (.ref b142), .val .null, .val (.int (p1 &&& (7 : Int32))), .unset] [])) (fun t k => ?_) ?_
            · show Steps p.tables e below (T142.setTop (mkF m 106 #[.val (.int p1), .val (.int p2), .val (.int p3), .val (.ref b65), .val (.ref b142), .val .null, .val (.int (p1 &&& (7 : Int32))), .unset] [(.int (4 : Int32)), (.int (p1 &&& (7 : Int32)))])) _
              refine XS.icmpYes X142.here hx rfl (pc0 := 106) (pc' := 123) rfl (hb hby at_106) rfl (feq hc191).2 (by decide) (by decide) ?_
              show Steps p.tables e below (T142.setTop (mkF m 123 #[.val (.int p1), .val (.int p2), .val (.int p3), .val (.ref b65), .val (.ref b142), .val .null, .val (.int (p1 &&& (7 : Int32))), .unset] [])) _
              exact k
            obtain ⟨T207, h207, X207, e207, E207, A207, D207, -, st207⟩ := newO X142 hx hZ hown (hw _ (List.mem_of_getElem? (i := 1) rfl)) (hw _ (List.mem_of_getElem? (i := 2) rfl)) (hw _ (List.mem_of_getElem? (i := 3) rfl)) e142 (g := (mkF m 123 #[.val (.int p1), .val (.int p2), .val (.int p3), .val (.ref b65), .val (.ref b142), .val .null, .val (.int (p1 &&& (7 : Int32))), .unset] [])) rfl (hb hby at_123) (by decide) (by decide)
            obtain ⟨b207, g207⟩ : ∃ z, z = h142.size := ⟨_, rfl⟩
            rw [← g207] at A207 D207 st207
            refine own_go st207 ?_
            have K207 : Keep h0 h207 [] := Keep.ext K142 E207
            have F207_19 : Fld Z h207 b207 "com/example/porthcurno/porthcurno/model/SentMessage" "properties" "Ljava/util/Map;" .null := D207 (Or.inr (hw _ (List.mem_of_getElem? (i := 19) rfl))) (ty := (.object "java/util/Map")) (by decide)
            have F207_21 : Fld Z h207 b207 "com/example/porthcurno/porthcurno/model/SentMessage" "body" "[B" .null := D207 (Or.inr (hw _ (List.mem_of_getElem? (i := 21) rfl))) (ty := (.array .byte)) (by decide)
            have F207_23 : Fld Z h207 b207 "com/example/porthcurno/porthcurno/model/SentMessage" "amqp" "Lcom/example/porthcurno/porthcurno/model/AmqpSections;" .null := D207 (Or.inr (hw _ (List.mem_of_getElem? (i := 23) rfl))) (ty := (.object "com/example/porthcurno/porthcurno/model/AmqpSections")) (by decide)
            have F207_25 : Fld Z h207 b207 "com/example/porthcurno/porthcurno/model/SentMessage" "timeToLive" "Ljava/time/Duration;" .null := D207 (Or.inr (hw _ (List.mem_of_getElem? (i := 25) rfl))) (ty := (.object "java/time/Duration")) (by decide)
            have F207_27 : Fld Z h207 b207 "com/example/porthcurno/porthcurno/model/SentMessage" "absoluteExpiryTime" "Ljava/time/Instant;" .null := D207 (Or.inr (hw _ (List.mem_of_getElem? (i := 27) rfl))) (ty := (.object "java/time/Instant")) (by decide)
            refine own_go (B := T207.setTop (mkF m 131 #[.val (.int p1), .val (.int p2), .val (.int p3), .val (.ref b65), .val (.ref b142), .val .null, .val (.int (p1 &&& (7 : Int32))), .unset] [.null, (.ref b65), .null, (.ref b207), (.ref b207)])) (fun t k => ?_) ?_
            · show Steps p.tables e below (T207.setTop (mkF m 126 #[.val (.int p1), .val (.int p2), .val (.int p3), .val (.ref b65), .val (.ref b142), .val .null, .val (.int (p1 &&& (7 : Int32))), .unset] [(.ref b207)])) _
              refine XS.dup X207.here hx rfl (hb hby at_126) rfl rfl ?_
              show Steps p.tables e below (T207.setTop (mkF m 127 #[.val (.int p1), .val (.int p2), .val (.int p3), .val (.ref b65), .val (.ref b142), .val .null, .val (.int (p1 &&& (7 : Int32))), .unset] [(.ref b207), (.ref b207)])) _
              refine XS.aconstNull X207.here hx rfl (hb hby at_127) ?_
              show Steps p.tables e below (T207.setTop (mkF m 128 #[.val (.int p1), .val (.int p2), .val (.int p3), .val (.ref b65), .val (.ref b142), .val .null, .val (.int (p1 &&& (7 : Int32))), .unset] [.null, (.ref b207), (.ref b207)])) _
              refine XS.aloadN X207.here hx rfl (hb hby at_128) rfl rfl ?_
              show Steps p.tables e below (T207.setTop (mkF m 129 #[.val (.int p1), .val (.int p2), .val (.int p3), .val (.ref b65), .val (.ref b142), .val .null, .val (.int (p1 &&& (7 : Int32))), .unset] [(.ref b65), .null, (.ref b207), (.ref b207)])) _
              refine XS.aload X207.here hx rfl (hb hby at_129) rfl rfl ?_
              show Steps p.tables e below (T207.setTop (mkF m 131 #[.val (.int p1), .val (.int p2), .val (.int p3), .val (.ref b65), .val (.ref b142), .val .null, .val (.int (p1 &&& (7 : Int32))), .unset] [.null, (.ref b65), .null, (.ref b207), (.ref b207)])) _
              exact k
            have le209 : h0.size ≤ h142.size := (Nat.le_trans E65.1 E142.1)
            have le210 : h0.size ≤ h207.size := (Nat.le_trans (Nat.le_trans E65.1 E142.1) E207.1)
            obtain ⟨_, _, ⟨T208, L208, k208, n208⟩, -, X208, ⟨Lc208, hQ208, l208, y208, z208⟩, st208⟩ := X207.specialBack hx (y := (⟨"com/example/porthcurno/porthcurno/model/SentMessage", "<init>", "(Ljava/util/Map;[BLcom/example/porthcurno/porthcurno/model/AmqpSections;)V"⟩ : MethodName)) rfl hown (mvT hZ (hw _ (List.mem_of_getElem? (i := 4) rfl))) (mvT hZ (hw _ (List.mem_of_getElem? (i := 5) rfl))) (mvT hZ (hw _ (List.mem_of_getElem? (i := 6) rfl))) (by decide) (backOf (W := 1) (rm1n l Z a0 hw [] b207 b65 h207 n0 (Nat.le_trans Z0 le210) A207 F207_19 F207_21 F207_23 F207_25 F207_27 (Nat.le_trans (Nat.le_trans Z0 le209) (Nat.le_of_eq g207.symm))) hZ (hw _ (List.mem_of_getElem? (i := 6) rfl)) (hw _ (List.mem_of_getElem? (i := 3) rfl)) (by decide) (by decide)) (g := (mkF m 131 #[.val (.int p1), .val (.int p2), .val (.int p3), .val (.ref b65), .val (.ref b142), .val .null, .val (.int (p1 &&& (7 : Int32))), .unset] [.null, (.ref b65), .null, (.ref b207), (.ref b207)])) rfl (by rw [hml]; rfl) (Steps.refl _) (a := b207) (argsL := [.null, (.ref b65), .null]) (rest := [(.ref b207)]) (lenOf pd_4 rfl) rfl (by show 2 * 0 + _ ≤ _; exact Nat.le_of_eq rfl) (hb hby at_131) (fun _ _ => ⟨rfl, e207, (by decide : 3 + 0 ≤ _), (by decide : 11 + 0 ≤ _)⟩)
            dsimp only [Pt.U, Pt.locs, Pt.cells, Pt.slots] at X208 l208 y208 z208 st208 hQ208
            subst l208 y208 z208
            obtain ⟨rfl, M208, q208_0, q208_1, q208_2, q208_3⟩ := hQ208
            have N208 := Fr.app N0 M208
            have K208 : Keep h0 T208.heap [] := Keep.trans K207 q208_0 (allS (Or.inr (Nat.le_trans le209 (Nat.le_of_eq g207.symm))) all0)
            refine own_go (fun t k => st208.trans k) ?_
            refine own_go (B := T208.setTop (mkF m 138 #[.val (.int p1), .val (.int p2), .val (.int p3), .val (.ref b65), .val (.ref b142), .val .null, .val (.int (p1 &&& (7 : Int32))), .val (.ref b207)] [(.ref b207)])) (fun t k => ?_) ?_
            · show Steps p.tables e below (T208.setTop (mkF m 134 #[.val (.int p1), .val (.int p2), .val (.int p3), .val (.ref b65), .val (.ref b142), .val .null, .val (.int (p1 &&& (7 : Int32))), .unset] [(.ref b207)])) _
              refine XS.astore X208.here hx rfl (hb hby at_134) rfl rfl (l' := #[.val (.int p1), .val (.int p2), .val (.int p3), .val (.ref b65), .val (.ref b142), .val .null, .val (.int (p1 &&& (7 : Int32))), .val (.ref b207)]) rfl ?_
              show Steps p.tables e below (T208.setTop (mkF m 136 #[.val (.int p1), .val (.int p2), .val (.int p3), .val (.ref b65), .val (.ref b142), .val .null, .val (.int (p1 &&& (7 : Int32))), .val (.ref b207)] [])) _
              refine XS.aload X208.here hx rfl (hb hby at_136) rfl rfl ?_
              show Steps p.tables e below (T208.setTop (mkF m 138 #[.val (.int p1), .val (.int p2), .val (.int p3), .val (.ref b65), .val (.ref b142), .val .null, .val (.int (p1 &&& (7 : Int32))), .val (.ref b207)] [(.ref b207)])) _
              exact k
            have le212 : h0.size ≤ T208.heap.size := (Nat.le_trans (Nat.le_trans (Nat.le_trans E65.1 E142.1) E207.1) q208_0.1)
            obtain ⟨cq211, kq211, q211a, q211b, q211c⟩ := isOf hZ rfl q208_1
            obtain ⟨_, _, ⟨T211, L211, k211, n211⟩, -, X211, ⟨Lc211, hQ211, l211, y211, z211⟩, st211⟩ := X208.virtualBack hx (y := (⟨"com/example/porthcurno/porthcurno/model/SentMessage", "expires", "()Z"⟩ : MethodName)) (z := (⟨"com/example/porthcurno/porthcurno/model/SentMessage", "expires", "()Z"⟩ : MethodName)) hown (mvT hZ (hw _ (List.mem_of_getElem? (i := 28) rfl))) (mvT hZ (hw _ (List.mem_of_getElem? (i := 29) rfl))) (notFace_of_selects (args := #[]) (mvT hZ (hw _ (List.mem_of_getElem? (i := 31) rfl)))) (mvT hZ (hw _ (List.mem_of_getElem? (i := 31) rfl))) (mvT hZ (hw _ (List.mem_of_getElem? (i := 30) rfl))) (by decide) (backOf (W := 0) (rm5 l Z a0 hw [] b207 T208.heap n0 (Nat.le_trans Z0 le212) q208_2 q208_3) hZ (hw _ (List.mem_of_getElem? (i := 32) rfl)) (hw _ (List.mem_of_getElem? (i := 3) rfl)) (by decide) (by decide)) q211a q211c (g := (mkF m 138 #[.val (.int p1), .val (.int p2), .val (.int p3), .val (.ref b65), .val (.ref b142), .val .null, .val (.int (p1 &&& (7 : Int32))), .val (.ref b207)] [(.ref b207)])) rfl (by rw [hml]; rfl) (Steps.refl _) (argsL := []) (rest := []) (lenOf pd_5 rfl) rfl (by show 2 * 0 + _ ≤ _; exact Nat.le_of_eq rfl) (hb hby at_138) (fun _ _ => ⟨rfl, rfl, (by decide : 3 + 0 ≤ _), (by decide : 11 + 0 ≤ _)⟩)
            dsimp only [Pt.U, Pt.locs, Pt.cells, Pt.slots] at X211 l211 y211 z211 st211 hQ211
            subst l211 y211 z211
            obtain ⟨rfl, M211, q211_0⟩ := hQ211
            have N211 := Fr.app N208 M211
            refine own_go (fun t k => st211.trans k) ?_
            refine own_go (B := T211.setTop (mkF m 147 #[.val (.int p1), .val (.int p2), .val (.int p3), .val (.ref b65), .val (.ref b142), .val .null, .val (.int (p1 &&& (7 : Int32))), .val (.ref b207)] [.null, (.ref b207)])) (fun t k => ?_) ?_
            · show Steps p.tables e below (T211.setTop (mkF m 141 #[.val (.int p1), .val (.int p2), .val (.int p3), .val (.ref b65), .val (.ref b142), .val .null, .val (.int (p1 &&& (7 : Int32))), .val (.ref b207)] [(.int (0 : Int32))])) _
              refine XS.ifNo X211.here hx rfl (hb hby at_141) rfl ((if0 _ _).trans (teq (by decide : (0 : Int32) = (0 : Int32))).2) ?_
              show Steps p.tables e below (T211.setTop (mkF m 144 #[.val (.int p1), .val (.int p2), .val (.int p3), .val (.ref b65), .val (.ref b142), .val .null, .val (.int (p1 &&& (7 : Int32))), .val (.ref b207)] [])) _
              refine XS.aload X211.here hx rfl (hb hby at_144) rfl rfl ?_
              show Steps p.tables e below (T211.setTop (mkF m 146 #[.val (.int p1), .val (.int p2), .val (.int p3), .val (.ref b65), .val (.ref b142), .val .null, .val (.int (p1 &&& (7 : Int32))), .val (.ref b207)] [(.ref b207)])) _
              refine XS.aconstNull X211.here hx rfl (hb hby at_146) ?_
              show Steps p.tables e below (T211.setTop (mkF m 147 #[.val (.int p1), .val (.int p2), .val (.int p3), .val (.ref b65), .val (.ref b142), .val .null, .val (.int (p1 &&& (7 : Int32))), .val (.ref b207)] [.null, (.ref b207)])) _
              exact k
            obtain ⟨cq213, kq213, q213a, q213b, q213c⟩ := isOf hZ q211_0 q208_1
            obtain ⟨_, _, ⟨T213, L213, k213, n213⟩, -, X213, ⟨Lc213, hQ213, l213, y213, z213⟩, st213⟩ := X211.virtualBack hx (y := (⟨"com/example/porthcurno/porthcurno/model/SentMessage", "timeToLiveFrom", "(Ljava/time/Instant;)Ljava/time/Duration;"⟩ : MethodName)) (z := (⟨"com/example/porthcurno/porthcurno/model/SentMessage", "timeToLiveFrom", "(Ljava/time/Instant;)Ljava/time/Duration;"⟩ : MethodName)) hown (mvT hZ (hw _ (List.mem_of_getElem? (i := 33) rfl))) (mvT hZ (hw _ (List.mem_of_getElem? (i := 34) rfl))) (notFace_of_selects (args := #[]) (mvT hZ (hw _ (List.mem_of_getElem? (i := 36) rfl)))) (mvT hZ (hw _ (List.mem_of_getElem? (i := 36) rfl))) (mvT hZ (hw _ (List.mem_of_getElem? (i := 35) rfl))) (by decide) (backOf (W := 0) (rm6 l Z a0 hw [] b207 T208.heap n0 (Nat.le_trans Z0 le212) q208_2 q208_3) hZ (hw _ (List.mem_of_getElem? (i := 37) rfl)) (hw _ (List.mem_of_getElem? (i := 3) rfl)) (by decide) (by decide)) q213a q213c (g := (mkF m 147 #[.val (.int p1), .val (.int p2), .val (.int p3), .val (.ref b65), .val (.ref b142), .val .null, .val (.int (p1 &&& (7 : Int32))), .val (.ref b207)] [.null, (.ref b207)])) rfl (by rw [hml]; rfl) (Steps.refl _) (argsL := [.null]) (rest := []) (lenOf pd_6 rfl) rfl (by show 2 * 0 + _ ≤ _; exact Nat.le_of_eq rfl) (hb hby at_147) (fun _ _ => ⟨rfl, q211_0, (by decide : 3 + 0 ≤ _), (by decide : 11 + 0 ≤ _)⟩)
            dsimp only [Pt.U, Pt.locs, Pt.cells, Pt.slots] at X213 l213 y213 z213 st213 hQ213
            subst l213 y213 z213
            obtain ⟨rfl, M213, q213_0⟩ := hQ213
            have N213 := Fr.app N211 M213
            refine own_go (fun t k => st213.trans k) ?_
            refine own_go (B := T213.setTop (mkF m 158 #[.val (.int p1), .val (.int p2), .val (.int p3), .val (.ref b65), .val (.ref b142), .val .null, .val (.int (p1 &&& (7 : Int32))), .val (.ref b207)] [(.int (1 : Int32))])) (fun t k => ?_) ?_
            · show Steps p.tables e below (T213.setTop (mkF m 150 #[.val (.int p1), .val (.int p2), .val (.int p3), .val (.ref b65), .val (.ref b142), .val .null, .val (.int (p1 &&& (7 : Int32))), .val (.ref b207)] [.null])) _
              refine XS.ifnonnullNo X213.here hx rfl (hb hby at_150) rfl ?_
              show Steps p.tables e below (T213.setTop (mkF m 153 #[.val (.int p1), .val (.int p2), .val (.int p3), .val (.ref b65), .val (.ref b142), .val .null, .val (.int (p1 &&& (7 : Int32))), .val (.ref b207)] [])) _
              refine XS.iconst X213.here hx rfl (hb hby at_153) ?_
              show Steps p.tables e below (T213.setTop (mkF m 154 #[.val (.int p1), .val (.int p2), .val (.int p3), .val (.ref b65), .val (.ref b142), .val .null, .val (.int (p1 &&& (7 : Int32))), .val (.ref b207)] [(.int (1 : Int32))])) _
              refine XS.goto X213.here hx rfl (pc0 := 154) (pc' := 158) rfl (hb hby at_154) (by decide) (by decide) ?_
              show Steps p.tables e below (T213.setTop (mkF m 158 #[.val (.int p1), .val (.int p2), .val (.int p3), .val (.ref b65), .val (.ref b142), .val .null, .val (.int (p1 &&& (7 : Int32))), .val (.ref b207)] [(.int (1 : Int32))])) _
              exact k
            obtain ⟨fs, hr, hrun, hended, hW, hsame⟩ := X213.leave (v := some (.int (1 : Int32))) (fun h => by rw [Bd.returns] at h; cases h)
            refine ⟨_, _, ?_, hrun, hended, _, _, rfl, ?_, (ReturnedEndW.of_narrow ⟨_, rfl⟩ hW (hsame.mono (by decide) (by decide)))⟩
            · exact retN X213 hx (t := .boolean) Bd.returns (by simp) (hb hby at_158) hr
            · show Q0 Z p1 p2 p3 w_DATA w_STRING_VALUE w_SECTIONS w_BINARY_VALUE h0 n0 _ T213.heap _
              rw [q213_0]
              exact ⟨rfl, N213⟩
set_option maxRecDepth 65536 in
set_option maxHeartbeats 40000000 in
theorem comes_1 {Post : Tables → Env → Array Value → State → Outcome → State → Prop} (hpost : ∀ tb e args s v u, (limb_1_1.after args s (.returned v) u = true ∧ limb_1_2.after args s (.returned v) u = true ∧ True) → ReturnedEndW s (.returned v) u (Jvm.fieldLocs frame_1_writes args s ++ Jvm.arrayLocs frame_1_arrays args s ++ Jvm.staticLocs frame_1_statics s) 24 2176 → Post tb e args s (.returned v) u) :
    ArmFor flags0 classFile x code maxLocals ret World_1 tables_1 room_1 Calls_1 rest_1 Pre_1 Post := by
  intro l hfl _ _ p e ha hc hk s m args below hf hA hF happ hP
  obtain ⟨hcalls, hrest, hpre⟩ := hP
  obtain ⟨-, -, -, hnamed, -, -, -, hat⟩ := (Spec.applies_iff hf).mp happ
  obtain ⟨hg, hn⟩ := and_e (Cond.before_iff.mp (show (Jvm.Cond.and given_1 narrow_1).before args s = true from hpre))
  obtain ⟨g0, hg0⟩ := and_e hg
  obtain ⟨g1, hg1⟩ := and_e hg0
  obtain ⟨g2, hg2⟩ := and_e hg1
  obtain ⟨w0, w1, w2, rfl⟩ : ∃ w0 w1 w2 : Value, args = #[w0, w1, w2] := by
    have hs : args.size = 3 := by simpa [Cond.value, given_1] using g0
    obtain ⟨L⟩ := args
    match L, hs with
    | [w0, w1, w2], _ => exact ⟨w0, w1, w2, rfl⟩
  have hw := fun d (hd : d ∈ tables_1) => atoms_spec (ws := Jvm.Cond.code x code maxLocals ret :: tables_1) hat d (List.mem_cons_of_mem _ hd)
  obtain ⟨i0, ei0⟩ := is_v g1
  obtain rfl : w0 = (.int i0) := Option.some.inj ei0
  obtain ⟨i1, ei1⟩ := is_v g2
  obtain rfl : w1 = (.int i1) := Option.some.inj ei1
  obtain ⟨i2, ei2⟩ := is_v hg2
  obtain rfl : w2 = (.int i2) := Option.some.inj ei2
  obtain ⟨u1a, u1b⟩ := and_e hn
  obtain ⟨w_DATA, ev_DATA⟩ := exa_v u1a
  have E_DATA := Exa.start ev_DATA u1a
  obtain ⟨u2a, u2b⟩ := and_e u1b
  obtain ⟨w_STRING_VALUE, ev_STRING_VALUE⟩ := exa_v u2a
  have E_STRING_VALUE := Exa.start ev_STRING_VALUE u2a
  obtain ⟨u3a, u3b⟩ := and_e u2b
  obtain ⟨w_SECTIONS, ev_SECTIONS⟩ := exa_v u3a
  have E_SECTIONS := Exa.start ev_SECTIONS u3a
  obtain ⟨w_BINARY_VALUE, ev_BINARY_VALUE⟩ := exa_v u3b
  have E_BINARY_VALUE := Exa.start ev_BINARY_VALUE u3b
  have S_DATA := Sta.start ev_DATA (Or.inr ⟨(hw _ (List.mem_of_getElem? (i := 42) rfl)), (hw _ (List.mem_of_getElem? (i := 43) rfl))⟩)
  have S_STRING_VALUE := Sta.start ev_STRING_VALUE (Or.inr ⟨(hw _ (List.mem_of_getElem? (i := 42) rfl)), (hw _ (List.mem_of_getElem? (i := 65) rfl))⟩)
  have S_SECTIONS := Sta.start ev_SECTIONS (Or.inr ⟨(hw _ (List.mem_of_getElem? (i := 42) rfl)), (hw _ (List.mem_of_getElem? (i := 67) rfl))⟩)
  have S_BINARY_VALUE := Sta.start ev_BINARY_VALUE (Or.inr ⟨(hw _ (List.mem_of_getElem? (i := 42) rfl)), (hw _ (List.mem_of_getElem? (i := 69) rfl))⟩)
  obtain ⟨n, o, h1, h2, h3, _, L, rfl, ⟨rfl, N⟩, hq⟩ := rm0 l s _ hw tables_1 i0 i1 i2 w_DATA w_STRING_VALUE w_SECTIONS w_BINARY_VALUE s.heap s.heap.size (Nat.le_refl _) S_DATA S_STRING_VALUE S_SECTIONS S_BINARY_VALUE p e ha hc hk s m _ below hf ((Spec.applies_iff_loose hf).mp happ).1 ⟨rfl, State.Warmed39.refl s, rfl⟩ trivial
  refine ⟨n, _, h1, h2, h3, hpost _ _ _ _ _ _ ⟨Cond.after_iff.mpr rfl, Cond.after_iff.mpr (eq_i res_at (Term.int_eval (1)) rfl), trivial⟩ ⟨hq.1, hq.2.1, hq.2.2.1, (hq.2.2.2.sift fun y hy => Or.inr (N y hy)).mono (by decide) (by decide)⟩⟩
theorem main_1_1 : Claimed_1_1 := comes_1 fun _ _ _ _ _ _ h hF => ⟨h.1, hF⟩
theorem main_1_2 : Claimed_1_2 := comes_1 fun _ _ _ _ _ _ h hF => ⟨h.2.1, hF⟩
end Jvm.Pilot.@@N@@
namespace Jvm.Pilot.@@N@@
open Jvm Jvm.ClassFile Sem Op Lib Jvm.Free Jvm.Stand Jvm.Pilot.@@N@@.Jvm.D
/-! MADE BY PROGRAM (witnessworld.py) out of the Statement's table words and the real class files: 19 classes; the members and pool entries that the words name. The judged class is class 1, her method 1. -/
namespace start1
open Jvm.ClassFile
def u (s : String) : CpInfo := .utf8 (stringToUtf16 s)
/-- a pool by its gaps: so many unusable entries, then the entry; so many at the end -/
def gap : Nat → List CpInfo → List CpInfo
  | 0, r => r
  | n + 1, r => .unusable :: gap n r
def poolList (es : List (Nat × CpInfo)) (last : Nat) : List CpInfo := es.foldr (fun e r => gap e.1 (e.2 :: r)) (gap last [])
def pool (es : List (Nat × CpInfo)) (last : Nat) : Array CpInfo := ⟨poolList es last⟩
def fileOf (pool : Array CpInfo) (this : Nat) (attrs : Array Attribute := #[]) (ms : Array MethodInfo := #[]) (fl : Nat := 33) (sup : Nat := 0) (ifs : Array Nat := #[]) (fds : Array FieldInfo := #[]) : ClassFile where
  minorVersion := 0
  majorVersion := 65
  constantPool := pool
  accessFlags := fl
  thisClass := this
  superClass := sup
  interfaces := ifs
  fields := fds
  methods := ms
  attributes := attrs
def plain (name : String) (sup : Option ClassId) : Class where
  name := name
  kind := .ordinary
  loader := none
  accessFlags := 33
  super := sup
  interfaces := #[]
  cf := none
  fields := #[]
  methods := #[]
  instanceTypes := #[]
  staticTypes := #[]
  resolved := #[]
  callSites := []
  init := .initialized
  statics := none
  mirror := none

def pool0 : Array CpInfo := pool [(5, u "<init>"), (0, u "()V"), (1, .class_ 10), (1, u "java/lang/Object")] 113

def k0c0 : Code := { maxStack := 0, maxLocals := 1, code := object_method_1_code, exceptionTable := #[], attributes := #[] }
def k0m0 : Method := { name := "<init>", desc := "()V", sig := { parameters := [], returnType := none }, accessFlags := 1, code := some k0c0 }
/-- java/lang/Object -/
def k0 : Class := { plain "java/lang/Object" none with
  accessFlags := 33
  interfaces := #[]
  cf := some (fileOf pool0 8 #[] #[{ accessFlags := 1, nameIndex := 5, descriptorIndex := 6, attributes := #[] }] 33 0 #[] #[])
  fields := #[]
  methods := #[k0m0]
  instanceTypes := #[]
  staticTypes := #[]
  resolved := Array.replicate 124 none
  statics := none }

def pool1 : Array CpInfo := pool [(2, .class_ 4), (1, u "java/lang/Object"), (0, u "<init>"), (0, u "()V"), (0, .class_ 8), (0, u "com/example/porthcurno/porthcurno/model/AmqpSections"), (0, .fieldref 10 11), (0, .class_ 12), (0, .nameAndType 13 14), (0, u "com/example/porthcurno/porthcurno/model/AmqpSections$Body"), (0, u "DATA"), (0, u "Lcom/example/porthcurno/porthcurno/model/AmqpSections$Body;"), (0, .methodref 7 16), (0, .nameAndType 5 17), (0, u "([BLcom/example/porthcurno/porthcurno/model/AmqpSections$Body;)V"), (0, .fieldref 10 19), (0, .nameAndType 20 14), (0, u "SECTIONS"), (0, .fieldref 10 22), (0, .nameAndType 23 14), (0, u "BINARY_VALUE"), (0, .fieldref 10 25), (0, .nameAndType 26 14), (0, u "STRING_VALUE"), (0, .class_ 28), (0, u "com/example/porthcurno/porthcurno/model/SentMessage"), (0, .methodref 27 30), (0, .nameAndType 5 31), (0, u "(Ljava/util/Map;[BLcom/example/porthcurno/porthcurno/model/AmqpSections;)V"), (0, .methodref 27 33), (0, .nameAndType 34 35), (0, u "expires"), (0, u "()Z"), (0, .methodref 27 37), (0, .nameAndType 38 39), (0, u "timeToLiveFrom"), (0, u "(Ljava/time/Instant;)Ljava/time/Duration;"), (0, .class_ 41), (0, u "com/example/porthcurno/porthcurno/model/SentMessageExpiresPinLaw"), (2, u "law"), (0, u "(III)Z")] 7

def k1m0 : Method := { name := "<init>", desc := "()V", sig := { parameters := [], returnType := none }, accessFlags := 1, code := none }
def k1c1 : Code := { maxStack := 5, maxLocals := 8, code := code, exceptionTable := #[], attributes := #[] }
def k1m1 : Method := { name := "law", desc := "(III)Z", sig := { parameters := [.int, .int, .int], returnType := some .boolean }, accessFlags := 9, code := some k1c1 }
/-- com/example/porthcurno/porthcurno/model/SentMessageExpiresPinLaw -/
def k1 : Class := { plain "com/example/porthcurno/porthcurno/model/SentMessageExpiresPinLaw" (some 0) with
  accessFlags := 49
  interfaces := #[]
  cf := some (fileOf pool1 40 #[] #[{ accessFlags := 1, nameIndex := 5, descriptorIndex := 6, attributes := #[] }, { accessFlags := 9, nameIndex := 44, descriptorIndex := 45, attributes := #[] }] 49 2 #[] #[])
  fields := #[]
  methods := #[k1m0, k1m1]
  instanceTypes := #[]
  staticTypes := #[]
  resolved := Array.replicate 53 none
  statics := none }

def pool2 : Array CpInfo := pool [(1, .methodref 2 3), (0, .class_ 4), (0, .nameAndType 5 6), (0, u "java/lang/Object"), (0, u "<init>"), (0, u "()V"), (0, .class_ 8), (0, u "java/lang/Record")] 13

def k2c0 : Code := { maxStack := 1, maxLocals := 1, code := jdk_30_method_1_code, exceptionTable := #[], attributes := #[] }
def k2m0 : Method := { name := "<init>", desc := "()V", sig := { parameters := [], returnType := none }, accessFlags := 4, code := some k2c0 }
/-- java/lang/Record -/
def k2 : Class := { plain "java/lang/Record" (some 0) with
  accessFlags := 1057
  interfaces := #[]
  cf := some (fileOf pool2 7 #[] #[{ accessFlags := 4, nameIndex := 5, descriptorIndex := 6, attributes := #[] }] 1057 2 #[] #[])
  fields := #[]
  methods := #[k2m0]
  instanceTypes := #[]
  staticTypes := #[]
  resolved := Array.replicate 22 none
  statics := none }

def pool3 : Array CpInfo := pool [(1, .methodref 2 3), (0, .class_ 4), (0, .nameAndType 5 6), (0, u "java/lang/Record"), (0, u "<init>"), (0, u "()V"), (5, u "()Z"), (15, .fieldref 29 30), (0, .class_ 31), (0, .nameAndType 32 33), (0, u "com/example/porthcurno/porthcurno/model/SentMessage"), (0, u "properties"), (0, u "Ljava/util/Map;"), (0, .fieldref 29 35), (0, .nameAndType 36 37), (0, u "body"), (0, u "[B"), (0, .fieldref 29 39), (0, .nameAndType 40 41), (0, u "amqp"), (0, u "Lcom/example/porthcurno/porthcurno/model/AmqpSections;"), (0, .fieldref 29 43), (0, .nameAndType 44 45), (0, u "timeToLive"), (0, u "Ljava/time/Duration;"), (0, .fieldref 29 47), (0, .nameAndType 48 49), (0, u "absoluteExpiryTime"), (0, u "Ljava/time/Instant;"), (0, .methodref 29 51), (0, .nameAndType 5 52), (0, u "(Ljava/util/Map;[BLcom/example/porthcurno/porthcurno/model/AmqpSections;Ljava/time/Duration;Ljava/time/Instant;)V"), (37, u "(Ljava/util/Map;[BLcom/example/porthcurno/porthcurno/model/AmqpSections;)V"), (1, u "expires"), (0, u "timeToLiveFrom"), (0, u "(Ljava/time/Instant;)Ljava/time/Duration;")] 41

def k3c0 : Code := { maxStack := 3, maxLocals := 6, code := prog_14_method_1_code, exceptionTable := #[], attributes := #[] }
def k3m0 : Method := { name := "<init>", desc := "(Ljava/util/Map;[BLcom/example/porthcurno/porthcurno/model/AmqpSections;Ljava/time/Duration;Ljava/time/Instant;)V", sig := { parameters := [(.object "java/util/Map"), (.array .byte), (.object "com/example/porthcurno/porthcurno/model/AmqpSections"), (.object "java/time/Duration"), (.object "java/time/Instant")], returnType := none }, accessFlags := 1, code := some k3c0 }
def k3c1 : Code := { maxStack := 6, maxLocals := 4, code := prog_14_method_2_code, exceptionTable := #[], attributes := #[] }
def k3m1 : Method := { name := "<init>", desc := "(Ljava/util/Map;[BLcom/example/porthcurno/porthcurno/model/AmqpSections;)V", sig := { parameters := [(.object "java/util/Map"), (.array .byte), (.object "com/example/porthcurno/porthcurno/model/AmqpSections")], returnType := none }, accessFlags := 1, code := some k3c1 }
def k3c2 : Code := { maxStack := 1, maxLocals := 1, code := prog_14_method_3_code, exceptionTable := #[], attributes := #[] }
def k3m2 : Method := { name := "expires", desc := "()Z", sig := { parameters := [], returnType := some .boolean }, accessFlags := 1, code := some k3c2 }
def k3c3 : Code := { maxStack := 2, maxLocals := 4, code := prog_14_method_4_code, exceptionTable := #[], attributes := #[] }
def k3m3 : Method := { name := "timeToLiveFrom", desc := "(Ljava/time/Instant;)Ljava/time/Duration;", sig := { parameters := [(.object "java/time/Instant")], returnType := some (.object "java/time/Duration") }, accessFlags := 1, code := some k3c3 }
/-- com/example/porthcurno/porthcurno/model/SentMessage -/
def k3 : Class := { plain "com/example/porthcurno/porthcurno/model/SentMessage" (some 2) with
  accessFlags := 49
  interfaces := #[]
  cf := some (fileOf pool3 29 #[] #[{ accessFlags := 1, nameIndex := 5, descriptorIndex := 52, attributes := #[] }, { accessFlags := 1, nameIndex := 5, descriptorIndex := 90, attributes := #[] }, { accessFlags := 1, nameIndex := 92, descriptorIndex := 12, attributes := #[] }, { accessFlags := 1, nameIndex := 93, descriptorIndex := 94, attributes := #[] }] 49 2 #[] #[{ accessFlags := 18, nameIndex := 32, descriptorIndex := 33, attributes := #[] }, { accessFlags := 18, nameIndex := 36, descriptorIndex := 37, attributes := #[] }, { accessFlags := 18, nameIndex := 40, descriptorIndex := 41, attributes := #[] }, { accessFlags := 18, nameIndex := 44, descriptorIndex := 45, attributes := #[] }, { accessFlags := 18, nameIndex := 48, descriptorIndex := 49, attributes := #[] }])
  fields := #[{ name := "properties", type := (.object "java/util/Map"), accessFlags := 18, slot := 0, constantValue := 0 }, { name := "body", type := (.array .byte), accessFlags := 18, slot := 1, constantValue := 0 }, { name := "amqp", type := (.object "com/example/porthcurno/porthcurno/model/AmqpSections"), accessFlags := 18, slot := 2, constantValue := 0 }, { name := "timeToLive", type := (.object "java/time/Duration"), accessFlags := 18, slot := 3, constantValue := 0 }, { name := "absoluteExpiryTime", type := (.object "java/time/Instant"), accessFlags := 18, slot := 4, constantValue := 0 }]
  methods := #[k3m0, k3m1, k3m2, k3m3]
  instanceTypes := #[(.object "java/util/Map"), (.array .byte), (.object "com/example/porthcurno/porthcurno/model/AmqpSections"), (.object "java/time/Duration"), (.object "java/time/Instant")]
  staticTypes := #[]
  resolved := Array.replicate 136 none
  statics := none }

def pool4 : Array CpInfo := pool [(1, .methodref 2 3), (0, .class_ 4), (0, .nameAndType 5 6), (0, u "java/lang/Record"), (0, u "<init>"), (0, u "()V"), (0, .string 8), (0, u "sections"), (0, .methodref 10 11), (0, .class_ 12), (0, .nameAndType 13 14), (0, u "java/util/Objects"), (0, u "requireNonNull"), (0, u "(Ljava/lang/Object;Ljava/lang/String;)Ljava/lang/Object;"), (0, .string 16), (0, u "body"), (0, .fieldref 18 19), (0, .class_ 20), (0, .nameAndType 8 21), (0, u "com/example/porthcurno/porthcurno/model/AmqpSections"), (0, u "[B"), (0, .fieldref 18 23), (0, .nameAndType 16 24), (0, u "Lcom/example/porthcurno/porthcurno/model/AmqpSections$Body;"), (31, u "([BLcom/example/porthcurno/porthcurno/model/AmqpSections$Body;)V"), (13, .class_ 71), (0, u "com/example/porthcurno/porthcurno/model/AmqpSections$Body")] 17

def k4c0 : Code := { maxStack := 2, maxLocals := 3, code := prog_2_method_1_code, exceptionTable := #[], attributes := #[] }
def k4m0 : Method := { name := "<init>", desc := "([BLcom/example/porthcurno/porthcurno/model/AmqpSections$Body;)V", sig := { parameters := [(.array .byte), (.object "com/example/porthcurno/porthcurno/model/AmqpSections$Body")], returnType := none }, accessFlags := 1, code := some k4c0 }
/-- com/example/porthcurno/porthcurno/model/AmqpSections -/
def k4 : Class := { plain "com/example/porthcurno/porthcurno/model/AmqpSections" (some 2) with
  accessFlags := 49
  interfaces := #[]
  cf := some (fileOf pool4 18 #[.nestMembers #[70]] #[{ accessFlags := 1, nameIndex := 5, descriptorIndex := 56, attributes := #[] }] 49 2 #[] #[{ accessFlags := 18, nameIndex := 8, descriptorIndex := 21, attributes := #[] }, { accessFlags := 18, nameIndex := 16, descriptorIndex := 24, attributes := #[] }])
  fields := #[{ name := "sections", type := (.array .byte), accessFlags := 18, slot := 0, constantValue := 0 }, { name := "body", type := (.object "com/example/porthcurno/porthcurno/model/AmqpSections$Body"), accessFlags := 18, slot := 1, constantValue := 0 }]
  methods := #[k4m0]
  instanceTypes := #[(.array .byte), (.object "com/example/porthcurno/porthcurno/model/AmqpSections$Body")]
  staticTypes := #[]
  resolved := Array.replicate 89 none
  statics := none }

def pool5 : Array CpInfo := pool [(1, .class_ 2), (0, u "java/lang/constant/Constable"), (0, .class_ 4), (0, u "java/lang/Object")] 6

/-- java/lang/constant/Constable -/
def k5 : Class := { plain "java/lang/constant/Constable" (some 0) with
  accessFlags := 1537
  interfaces := #[]
  cf := some (fileOf pool5 1 #[] #[] 1537 3 #[] #[])
  fields := #[]
  methods := #[]
  instanceTypes := #[]
  staticTypes := #[]
  resolved := Array.replicate 11 none
  statics := none }

def pool6 : Array CpInfo := pool [(1, .class_ 2), (0, u "java/lang/Comparable"), (0, .class_ 4), (0, u "java/lang/Object")] 7

/-- java/lang/Comparable -/
def k6 : Class := { plain "java/lang/Comparable" (some 0) with
  accessFlags := 1537
  interfaces := #[]
  cf := some (fileOf pool6 1 #[] #[] 1537 3 #[] #[])
  fields := #[]
  methods := #[]
  instanceTypes := #[]
  staticTypes := #[]
  resolved := Array.replicate 12 none
  statics := none }

def pool7 : Array CpInfo := pool [(1, .class_ 2), (0, u "java/io/Serializable"), (0, .class_ 4), (0, u "java/lang/Object")] 2

/-- java/io/Serializable -/
def k7 : Class := { plain "java/io/Serializable" (some 0) with
  accessFlags := 1537
  interfaces := #[]
  cf := some (fileOf pool7 1 #[] #[] 1537 3 #[] #[])
  fields := #[]
  methods := #[]
  instanceTypes := #[]
  staticTypes := #[]
  resolved := Array.replicate 7 none
  statics := none }

def pool8 : Array CpInfo := pool [(2, .class_ 4), (1, u "java/lang/Enum"), (0, u "name"), (0, u "Ljava/lang/String;"), (2, u "ordinal"), (0, u "I"), (1, .class_ 14), (1, u "java/lang/Object"), (4, u "hash"), (86, .class_ 108), (1, u "java/lang/Enum$EnumDesc"), (2, .class_ 112), (0, u "java/lang/constant/Constable"), (0, .class_ 114), (0, u "java/lang/Comparable"), (0, .class_ 116), (0, u "java/io/Serializable")] 87

/-- java/lang/Enum -/
def k8 : Class := { plain "java/lang/Enum" (some 0) with
  accessFlags := 1057
  interfaces := #[5, 6, 7]
  cf := some (fileOf pool8 2 #[.nestMembers #[106]] #[] 1057 12 #[111, 113, 115] #[{ accessFlags := 18, nameIndex := 5, descriptorIndex := 6, attributes := #[] }, { accessFlags := 18, nameIndex := 9, descriptorIndex := 10, attributes := #[] }, { accessFlags := 2, nameIndex := 19, descriptorIndex := 10, attributes := #[] }])
  fields := #[{ name := "name", type := (.object "java/lang/String"), accessFlags := 18, slot := 0, constantValue := 0 }, { name := "ordinal", type := .int, accessFlags := 18, slot := 1, constantValue := 0 }, { name := "hash", type := .int, accessFlags := 2, slot := 2, constantValue := 0 }]
  methods := #[]
  instanceTypes := #[(.object "java/lang/String"), .int, .int]
  staticTypes := #[]
  resolved := Array.replicate 204 none
  statics := none }

def pool9 : Array CpInfo := pool [(1, .class_ 2), (0, u "com/example/porthcurno/porthcurno/model/AmqpSections$Body"), (2, u "DATA"), (0, u "Lcom/example/porthcurno/porthcurno/model/AmqpSections$Body;"), (2, u "SECTIONS"), (2, u "BINARY_VALUE"), (2, u "STRING_VALUE"), (2, u "$VALUES"), (0, u "[Lcom/example/porthcurno/porthcurno/model/AmqpSections$Body;"), (6, .class_ 28), (1, u "java/lang/Enum"), (8, u "code"), (0, u "I"), (41, .class_ 81), (0, u "com/example/porthcurno/porthcurno/model/AmqpSections")] 2

/-- com/example/porthcurno/porthcurno/model/AmqpSections$Body -/
def k9 : Class := { plain "com/example/porthcurno/porthcurno/model/AmqpSections$Body" (some 8) with
  accessFlags := 16433
  interfaces := #[]
  cf := some (fileOf pool9 1 #[.nestHost 80] #[] 16433 26 #[] #[{ accessFlags := 16409, nameIndex := 5, descriptorIndex := 6, attributes := #[] }, { accessFlags := 16409, nameIndex := 9, descriptorIndex := 6, attributes := #[] }, { accessFlags := 16409, nameIndex := 12, descriptorIndex := 6, attributes := #[] }, { accessFlags := 16409, nameIndex := 15, descriptorIndex := 6, attributes := #[] }, { accessFlags := 18, nameIndex := 37, descriptorIndex := 38, attributes := #[] }, { accessFlags := 4122, nameIndex := 18, descriptorIndex := 19, attributes := #[] }])
  fields := #[{ name := "DATA", type := (.object "com/example/porthcurno/porthcurno/model/AmqpSections$Body"), accessFlags := 16409, slot := 0, constantValue := 0 }, { name := "SECTIONS", type := (.object "com/example/porthcurno/porthcurno/model/AmqpSections$Body"), accessFlags := 16409, slot := 1, constantValue := 0 }, { name := "BINARY_VALUE", type := (.object "com/example/porthcurno/porthcurno/model/AmqpSections$Body"), accessFlags := 16409, slot := 2, constantValue := 0 }, { name := "STRING_VALUE", type := (.object "com/example/porthcurno/porthcurno/model/AmqpSections$Body"), accessFlags := 16409, slot := 3, constantValue := 0 }, { name := "code", type := .int, accessFlags := 18, slot := 3, constantValue := 0 }, { name := "$VALUES", type := (.array (.object "com/example/porthcurno/porthcurno/model/AmqpSections$Body")), accessFlags := 4122, slot := 4, constantValue := 0 }]
  methods := #[]
  instanceTypes := #[(.object "java/lang/String"), .int, .int, .int]
  staticTypes := #[(.object "com/example/porthcurno/porthcurno/model/AmqpSections$Body"), (.object "com/example/porthcurno/porthcurno/model/AmqpSections$Body"), (.object "com/example/porthcurno/porthcurno/model/AmqpSections$Body"), (.object "com/example/porthcurno/porthcurno/model/AmqpSections$Body"), (.array (.object "com/example/porthcurno/porthcurno/model/AmqpSections$Body"))]
  resolved := Array.replicate 84 none
  statics := some 0 }

def pool10 : Array CpInfo := pool [(2, .class_ 4), (1, u "java/lang/CharSequence"), (42, .class_ 48), (0, u "java/lang/CharSequence$1CodePointIterator"), (10, .class_ 60), (0, u "java/lang/CharSequence$1CharIterator"), (5, .class_ 67), (0, u "java/lang/Object")] 63

/-- java/lang/CharSequence -/
def k10 : Class := { plain "java/lang/CharSequence" (some 0) with
  accessFlags := 1537
  interfaces := #[]
  cf := some (fileOf pool10 2 #[.nestMembers #[47, 59]] #[] 1537 66 #[] #[])
  fields := #[]
  methods := #[]
  instanceTypes := #[]
  staticTypes := #[]
  resolved := Array.replicate 131 none
  statics := none }

def pool11 : Array CpInfo := pool [(1, .class_ 2), (0, u "java/lang/constant/ConstantDesc"), (0, .class_ 4), (0, u "java/lang/Object")] 32

/-- java/lang/constant/ConstantDesc -/
def k11 : Class := { plain "java/lang/constant/ConstantDesc" (some 0) with
  accessFlags := 1537
  interfaces := #[]
  cf := some (fileOf pool11 1 #[] #[] 1537 3 #[] #[])
  fields := #[]
  methods := #[]
  instanceTypes := #[]
  staticTypes := #[]
  resolved := Array.replicate 37 none
  statics := none }

def pool12 : Array CpInfo := pool [(2, .class_ 4), (1, u "java/lang/Object"), (0, u "<init>"), (0, u "()V"), (3, .class_ 12), (1, u "java/lang/String"), (0, u "value"), (0, u "[B"), (2, u "coder"), (0, u "B"), (2, u "hash"), (0, u "I"), (2, u "hashIsZero"), (0, u "Z"), (13, u "COMPACT_STRINGS"), (534, .class_ 576), (0, u "java/lang/CharSequence"), (22, u "CASE_INSENSITIVE_ORDER"), (0, u "Ljava/util/Comparator;"), (500, u "serialPersistentFields"), (0, u "[Ljava/io/ObjectStreamField;"), (0, .class_ 1104), (0, u "java/lang/String$CaseInsensitiveComparator"), (1, .class_ 1107), (0, u "java/io/Serializable"), (0, .class_ 1109), (0, u "java/lang/Comparable"), (0, .class_ 1111), (0, u "java/lang/constant/Constable"), (0, .class_ 1113), (0, u "java/lang/constant/ConstantDesc"), (2, u "serialVersionUID"), (0, u "J"), (3, u "REPL"), (0, u "C"), (2, u "LATIN1"), (1, u "UTF16")] 323

def k12m0 : Method := { name := "<init>", desc := "()V", sig := { parameters := [], returnType := none }, accessFlags := 1, code := none }
/-- java/lang/String -/
def k12 : Class := { plain "java/lang/String" (some 0) with
  accessFlags := 49
  interfaces := #[7, 6, 10, 5, 11]
  cf := some (fileOf pool12 10 #[.nestMembers #[1103]] #[{ accessFlags := 1, nameIndex := 5, descriptorIndex := 6, attributes := #[] }] 49 2 #[1106, 1108, 575, 1110, 1112] #[{ accessFlags := 18, nameIndex := 13, descriptorIndex := 14, attributes := #[] }, { accessFlags := 18, nameIndex := 17, descriptorIndex := 18, attributes := #[] }, { accessFlags := 2, nameIndex := 21, descriptorIndex := 22, attributes := #[] }, { accessFlags := 2, nameIndex := 25, descriptorIndex := 26, attributes := #[] }, { accessFlags := 26, nameIndex := 1116, descriptorIndex := 1117, attributes := #[] }, { accessFlags := 24, nameIndex := 40, descriptorIndex := 26, attributes := #[] }, { accessFlags := 26, nameIndex := 1101, descriptorIndex := 1102, attributes := #[] }, { accessFlags := 26, nameIndex := 1121, descriptorIndex := 1122, attributes := #[] }, { accessFlags := 25, nameIndex := 599, descriptorIndex := 600, attributes := #[] }, { accessFlags := 24, nameIndex := 1125, descriptorIndex := 18, attributes := #[] }, { accessFlags := 24, nameIndex := 1127, descriptorIndex := 18, attributes := #[] }])
  fields := #[{ name := "value", type := (.array .byte), accessFlags := 18, slot := 0, constantValue := 0 }, { name := "coder", type := .byte, accessFlags := 18, slot := 1, constantValue := 0 }, { name := "hash", type := .int, accessFlags := 2, slot := 2, constantValue := 0 }, { name := "hashIsZero", type := .boolean, accessFlags := 2, slot := 3, constantValue := 0 }, { name := "serialVersionUID", type := .long, accessFlags := 26, slot := 0, constantValue := 0 }, { name := "COMPACT_STRINGS", type := .boolean, accessFlags := 24, slot := 1, constantValue := 0 }, { name := "serialPersistentFields", type := (.array (.object "java/io/ObjectStreamField")), accessFlags := 26, slot := 2, constantValue := 0 }, { name := "REPL", type := .char, accessFlags := 26, slot := 3, constantValue := 0 }, { name := "CASE_INSENSITIVE_ORDER", type := (.object "java/util/Comparator"), accessFlags := 25, slot := 4, constantValue := 0 }, { name := "LATIN1", type := .byte, accessFlags := 24, slot := 5, constantValue := 0 }, { name := "UTF16", type := .byte, accessFlags := 24, slot := 6, constantValue := 0 }]
  methods := #[k12m0]
  instanceTypes := #[(.array .byte), .byte, .int, .boolean]
  staticTypes := #[.long, .boolean, (.array (.object "java/io/ObjectStreamField")), .char, (.object "java/util/Comparator"), .byte, .byte]
  resolved := Array.replicate 1451 none
  statics := none }

def pool13 : Array CpInfo := pool [(2, .class_ 4), (1, u "java/lang/Object"), (0, u "<init>"), (0, u "()V"), (35, .class_ 44), (1, u "java/util/Objects"), (0, u "requireNonNull"), (48, u "(Ljava/lang/Object;Ljava/lang/String;)Ljava/lang/Object;")] 89

def k13m0 : Method := { name := "<init>", desc := "()V", sig := { parameters := [], returnType := none }, accessFlags := 2, code := none }
def k13c1 : Code := { maxStack := 3, maxLocals := 2, code := jdk_31_method_11_code, exceptionTable := #[], attributes := #[] }
def k13m1 : Method := { name := "requireNonNull", desc := "(Ljava/lang/Object;Ljava/lang/String;)Ljava/lang/Object;", sig := { parameters := [(.object "java/lang/Object"), (.object "java/lang/String")], returnType := some (.object "java/lang/Object") }, accessFlags := 9, code := some k13c1 }
/-- java/util/Objects -/
def k13 : Class := { plain "java/util/Objects" (some 0) with
  accessFlags := 49
  interfaces := #[]
  cf := some (fileOf pool13 42 #[] #[{ accessFlags := 2, nameIndex := 5, descriptorIndex := 6, attributes := #[] }, { accessFlags := 9, nameIndex := 45, descriptorIndex := 94, attributes := #[] }] 49 2 #[] #[])
  fields := #[]
  methods := #[k13m0, k13m1]
  instanceTypes := #[]
  staticTypes := #[]
  resolved := Array.replicate 184 none
  statics := none }

def pool14 : Array CpInfo := pool [(1, u "java/lang/Cloneable"), (0, .class_ 1), (0, u "java/lang/Object"), (0, .class_ 3)] 3

/-- java/lang/Cloneable -/
def k14 : Class := { plain "java/lang/Cloneable" (some 0) with
  accessFlags := 1537
  interfaces := #[]
  cf := some (fileOf pool14 2 #[] #[] 1537 4 #[] #[])
  fields := #[]
  methods := #[]
  instanceTypes := #[]
  staticTypes := #[]
  resolved := Array.replicate 8 none
  statics := none }

/-- the primitive byte -/
def k15 : Class := { plain "byte" none with kind := .primitive 'B', accessFlags := 0x411 }
/-- [B -/
def k16 : Class := { plain "[B" (some 0) with kind := .array 15 .byte, interfaces := #[14, 7], accessFlags := 1041 }

/-- the primitive int -/
def k17 : Class := { plain "int" none with kind := .primitive 'I', accessFlags := 0x411 }
/-- [I -/
def k18 : Class := { plain "[I" (some 0) with kind := .array 17 .int, interfaces := #[14, 7], accessFlags := 1041 }

def heap : Heap := #[{ cls := 9, slots := #[.ref 1, .ref 1, .ref 1, .ref 1, .null], vm := .statics 9 },
  { cls := 9, slots := #[.null, .int 0, .int 0, .int 0], vm := .none }]
def classes : Array Class := #[k0, k1, k2, k3, k4, k5, k6, k7, k8, k9, k10, k11, k12, k13, k14, k15, k16, k17, k18]
def interned : List (Array UInt16 × Addr) := []
def slotsUsed : Nat := 9
def theMethod : MethodId := ⟨1, 1⟩
def args0 : Array Value := #[.int 5, .int 7, .int 9]
def aboutOver (below : List Frame) : State where
  vm := { classes := classes, interned := interned.toArray }
  heap := heap
  slotsUsed := slotsUsed
  threads := #[{ frames := .invoking theMethod args0 :: below }]
def below0 : List Frame := [.native { method := ⟨0, 0⟩, args := #[] }]
def about1 : State := aboutOver below0
def p0 : Program := .bare "" "" ""
def e0 : Env := launch0.env 0 0 0
theorem w_frames : about1.frames = Frame.invoking theMethod args0 :: below0 := rfl
set_option maxRecDepth 65536 in
theorem w_args : argsFit about1.vm theMethod args0 = true := by decide +kernel
set_option maxRecDepth 65536 in
theorem w_heap : heapFits about1 = true := by decide +kernel
set_option maxRecDepth 65536 in
theorem w_runnable : about1.curStatus? = some .runnable := by decide +kernel
set_option maxRecDepth 65536 in
theorem w_alone : about1.alone = true := by decide +kernel
set_option maxRecDepth 65536 in
theorem w_named : about1.methodNamed? x = some theMethod := by decide +kernel
set_option maxRecDepth 65536 in
theorem w_hears : about1.hears theMethod below0 = true := by decide +kernel
set_option maxRecDepth 65536 in
theorem w_ripe : about1.ripe theMethod args0 below0 = true := by decide +kernel
theorem w_running : about1.status = .running := rfl
set_option maxRecDepth 65536 in
theorem w_room : about1.hasRoom e0.platform room_1 = true :=
  launch0.hasRoom_least _ room_1 (by decide +kernel) (by decide +kernel) (by decide +kernel) (by decide +kernel) (by decide +kernel) (by decide +kernel)
theorem allAtoms_all (ts : List Jvm.Cond) (a : Array Jvm.Value) (st : Jvm.State) : (allAtoms ts).before a st = ts.all (fun c => c.before a st) := by
  induction ts with
  | nil => rfl
  | cons c t ih =>
    show (Jvm.Cond.and c (allAtoms t)).before a st = _
    rw [Jvm.Cond.before_and, ih, List.all_cons]
def words1 : List Jvm.Cond := Jvm.Cond.code x code maxLocals ret :: tables_1
/-- a 'code' word, met by the world's own term for the bytes: nothing is compared byte by byte -/
theorem code_word {y : MethodName} {bytes : ByteArray} {mx : Nat} {rt : Option FieldType} {a : Array Value} {s : State} {m : MethodId} {meth : Method} {c : Code} (h1 : s.methodNamed? y = some m) (h2 : s.vm.method? m = some meth) (h3 : meth.code = some c) (h4 : c.code = bytes)
    (h5 : (c.maxLocals == mx && c.exceptionTable.isEmpty && decide (c.maxStack ≤ mostOperands) && decide (meth.sig.returnType = rt) && !meth.locks && decide (parseMethodDescriptor y.desc = some meth.sig)) = true) : (Jvm.Cond.code y bytes mx rt).before a s = true := by
  simp only [Bool.and_eq_true, beq_iff_eq, Bool.not_eq_true', decide_eq_true_eq] at h5
  obtain ⟨⟨⟨⟨⟨g1, g2⟩, g3⟩, g4⟩, g5⟩, g6⟩ := h5
  simp [Cond.before, Cond.holds, Cond.value, h1, h2, h3, h4, g1, g2, g3, g4, g5, g6]
def isCode : Jvm.Cond → Bool
  | .code _ _ _ _ => true
  | _ => false
theorem all_split {L : List Jvm.Cond} {P : Jvm.Cond → Bool} (h1 : L.all (fun c => isCode c || P c) = true) (h2 : ∀ c ∈ L.filter isCode, P c = true) : L.all P = true := by
  refine List.all_eq_true.mpr fun c hc => ?_
  have h := List.all_eq_true.mp h1 c hc
  rcases Bool.eq_false_or_eq_true (isCode c) with hi | hi
  · exact h2 c (List.mem_filter.mpr ⟨hc, hi⟩)
  · simpa [hi] using h
set_option maxRecDepth 65536 in
theorem w_c0 : (Jvm.Cond.code x code maxLocals ret).before args0 about1 = true := code_word (m := ⟨1, 1⟩) (meth := k1m1) (c := k1c1) (by decide +kernel) rfl rfl rfl (by decide +kernel)
set_option maxRecDepth 65536 in
theorem w_c1 : (Jvm.Cond.code ({ cls := "com/example/porthcurno/porthcurno/model/SentMessage", name := "<init>", desc := "(Ljava/util/Map;[BLcom/example/porthcurno/porthcurno/model/AmqpSections;)V" } : Jvm.MethodName) prog_14_method_2_code (4 : Nat) (Option.none : Option Jvm.ClassFile.FieldType)).before args0 about1 = true := code_word (m := ⟨3, 1⟩) (meth := k3m1) (c := k3c1) (by decide +kernel) rfl rfl rfl (by decide +kernel)
set_option maxRecDepth 65536 in
theorem w_c2 : (Jvm.Cond.code ({ cls := "com/example/porthcurno/porthcurno/model/SentMessage", name := "<init>", desc := "(Ljava/util/Map;[BLcom/example/porthcurno/porthcurno/model/AmqpSections;Ljava/time/Duration;Ljava/time/Instant;)V" } : Jvm.MethodName) prog_14_method_1_code (6 : Nat) (Option.none : Option Jvm.ClassFile.FieldType)).before args0 about1 = true := code_word (m := ⟨3, 0⟩) (meth := k3m0) (c := k3c0) (by decide +kernel) rfl rfl rfl (by decide +kernel)
set_option maxRecDepth 65536 in
theorem w_c3 : (Jvm.Cond.code ({ cls := "java/lang/Record", name := "<init>", desc := "()V" } : Jvm.MethodName) jdk_30_method_1_code (1 : Nat) (Option.none : Option Jvm.ClassFile.FieldType)).before args0 about1 = true := code_word (m := ⟨2, 0⟩) (meth := k2m0) (c := k2c0) (by decide +kernel) rfl rfl rfl (by decide +kernel)
set_option maxRecDepth 65536 in
theorem w_c4 : (Jvm.Cond.code ({ cls := "java/lang/Object", name := "<init>", desc := "()V" } : Jvm.MethodName) object_method_1_code (1 : Nat) (Option.none : Option Jvm.ClassFile.FieldType)).before args0 about1 = true := code_word (m := ⟨0, 0⟩) (meth := k0m0) (c := k0c0) (by decide +kernel) rfl rfl rfl (by decide +kernel)
set_option maxRecDepth 65536 in
theorem w_c5 : (Jvm.Cond.code ({ cls := "com/example/porthcurno/porthcurno/model/SentMessage", name := "expires", desc := "()Z" } : Jvm.MethodName) prog_14_method_3_code (1 : Nat) (Option.some Jvm.ClassFile.FieldType.boolean)).before args0 about1 = true := code_word (m := ⟨3, 2⟩) (meth := k3m2) (c := k3c2) (by decide +kernel) rfl rfl rfl (by decide +kernel)
set_option maxRecDepth 65536 in
theorem w_c6 : (Jvm.Cond.code ({ cls := "com/example/porthcurno/porthcurno/model/SentMessage", name := "timeToLiveFrom", desc := "(Ljava/time/Instant;)Ljava/time/Duration;" } : Jvm.MethodName) prog_14_method_4_code (4 : Nat) (Option.some (Jvm.ClassFile.FieldType.object "java/time/Duration"))).before args0 about1 = true := code_word (m := ⟨3, 3⟩) (meth := k3m3) (c := k3c3) (by decide +kernel) rfl rfl rfl (by decide +kernel)
set_option maxRecDepth 65536 in
theorem w_c7 : (Jvm.Cond.code ({ cls := "com/example/porthcurno/porthcurno/model/AmqpSections", name := "<init>", desc := "([BLcom/example/porthcurno/porthcurno/model/AmqpSections$Body;)V" } : Jvm.MethodName) prog_2_method_1_code (3 : Nat) (Option.none : Option Jvm.ClassFile.FieldType)).before args0 about1 = true := code_word (m := ⟨4, 0⟩) (meth := k4m0) (c := k4c0) (by decide +kernel) rfl rfl rfl (by decide +kernel)
set_option maxRecDepth 65536 in
theorem w_c8 : (Jvm.Cond.code ({ cls := "java/util/Objects", name := "requireNonNull", desc := "(Ljava/lang/Object;Ljava/lang/String;)Ljava/lang/Object;" } : Jvm.MethodName) jdk_31_method_11_code (2 : Nat) (Option.some (Jvm.ClassFile.FieldType.object "java/lang/Object"))).before args0 about1 = true := code_word (m := ⟨13, 1⟩) (meth := k13m1) (c := k13c1) (by decide +kernel) rfl rfl rfl (by decide +kernel)
def codes1 : List Jvm.Cond := [Jvm.Cond.code x code maxLocals ret, Jvm.Cond.code ({ cls := "com/example/porthcurno/porthcurno/model/SentMessage", name := "<init>", desc := "(Ljava/util/Map;[BLcom/example/porthcurno/porthcurno/model/AmqpSections;)V" } : Jvm.MethodName) prog_14_method_2_code (4 : Nat) (Option.none : Option Jvm.ClassFile.FieldType), Jvm.Cond.code ({ cls := "com/example/porthcurno/porthcurno/model/SentMessage", name := "<init>", desc := "(Ljava/util/Map;[BLcom/example/porthcurno/porthcurno/model/AmqpSections;Ljava/time/Duration;Ljava/time/Instant;)V" } : Jvm.MethodName) prog_14_method_1_code (6 : Nat) (Option.none : Option Jvm.ClassFile.FieldType), Jvm.Cond.code ({ cls := "java/lang/Record", name := "<init>", desc := "()V" } : Jvm.MethodName) jdk_30_method_1_code (1 : Nat) (Option.none : Option Jvm.ClassFile.FieldType), Jvm.Cond.code ({ cls := "java/lang/Object", name := "<init>", desc := "()V" } : Jvm.MethodName) object_method_1_code (1 : Nat) (Option.none : Option Jvm.ClassFile.FieldType), Jvm.Cond.code ({ cls := "com/example/porthcurno/porthcurno/model/SentMessage", name := "expires", desc := "()Z" } : Jvm.MethodName) prog_14_method_3_code (1 : Nat) (Option.some Jvm.ClassFile.FieldType.boolean), Jvm.Cond.code ({ cls := "com/example/porthcurno/porthcurno/model/SentMessage", name := "timeToLiveFrom", desc := "(Ljava/time/Instant;)Ljava/time/Duration;" } : Jvm.MethodName) prog_14_method_4_code (4 : Nat) (Option.some (Jvm.ClassFile.FieldType.object "java/time/Duration")), Jvm.Cond.code ({ cls := "com/example/porthcurno/porthcurno/model/AmqpSections", name := "<init>", desc := "([BLcom/example/porthcurno/porthcurno/model/AmqpSections$Body;)V" } : Jvm.MethodName) prog_2_method_1_code (3 : Nat) (Option.none : Option Jvm.ClassFile.FieldType), Jvm.Cond.code ({ cls := "java/util/Objects", name := "requireNonNull", desc := "(Ljava/lang/Object;Ljava/lang/String;)Ljava/lang/Object;" } : Jvm.MethodName) jdk_31_method_11_code (2 : Nat) (Option.some (Jvm.ClassFile.FieldType.object "java/lang/Object"))]
set_option maxRecDepth 65536 in
theorem codes_eq : words1.filter isCode = codes1 := rfl
theorem w_codes : ∀ c ∈ words1.filter isCode, c.before args0 about1 = true := by
  rw [codes_eq]
  intro c hc
  simp only [codes1, List.mem_cons, List.not_mem_nil, or_false] at hc
  rcases hc with rfl | rfl | rfl | rfl | rfl | rfl | rfl | rfl | rfl
  · exact w_c0
  · exact w_c1
  · exact w_c2
  · exact w_c3
  · exact w_c4
  · exact w_c5
  · exact w_c6
  · exact w_c7
  · exact w_c8
set_option maxRecDepth 65536 in
theorem w_t1 : (words1.take 24).all (fun c => isCode c || c.before args0 about1) = true := by decide +kernel
set_option maxRecDepth 65536 in
theorem w_t2 : ((words1.drop 24).take 24).all (fun c => isCode c || c.before args0 about1) = true := by decide +kernel
set_option maxRecDepth 65536 in
theorem w_t3 : ((words1.drop 24).drop 24).all (fun c => isCode c || c.before args0 about1) = true := by decide +kernel
theorem w_tables : (allAtoms (Jvm.Cond.code x code maxLocals ret :: tables_1)).before args0 about1 = true := by
  rw [allAtoms_all]
  show words1.all (fun c => c.before args0 about1) = true
  refine all_split ?_ w_codes
  rw [← List.take_append_drop 24 words1, List.all_append, w_t1, ← List.take_append_drop 24 (words1.drop 24), List.all_append, w_t2, w_t3]
  rfl
set_option maxRecDepth 65536 in
theorem w_case : (Jvm.Cond.and given_1 narrow_1).before args0 about1 = true := by decide +kernel
theorem w_applies : (headSpec (Jvm.Cond.code x code maxLocals ret :: tables_1) room_1).applies x e0.platform about1 = true :=
  (Spec.applies_iff w_frames).mpr ⟨w_running, w_runnable, w_alone, w_named, w_hears, w_ripe, w_room, w_tables⟩
theorem atStart : AtStart classFile x code maxLocals ret World_1 tables_1 room_1 Calls_1 rest_1 Pre_1 launch0 p0 e0 about1 theMethod args0 below0 :=
  ⟨lists_1, trivial, launch0.admits_env _ _ _, launch0.least_env, fairChoices_fair.cas, fairChoices_fair.clock, w_frames, w_args, w_heap, w_applies, trivial, trivial, w_case⟩
end start1
theorem witness_1 : WitnessClaimed_1 := ⟨start1.p0, start1.e0, start1.about1, start1.theMethod, start1.args0, start1.below0, start1.atStart⟩
end Jvm.Pilot.@@N@@
