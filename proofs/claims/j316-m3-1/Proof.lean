import JvmDerived
import JvmDerived.Pilot.@@N@@Statement
import JvmDerived.Pilot.@@N@@Code
set_option linter.unusedVariables false
set_option linter.unusedSimpArgs false
namespace Jvm.RoadKit
open Sem ClassFile Op Lib Jvm.Stand Jvm.Free Jvm.LawKit
section New
variable {p : Program} {l : Launch} {e : Env} {R : Room} {s : State} {m : MethodId} {args : Array Value} {below : List Frame} {meth : Method} {c : Code} {T : State} {locs : List Loc} {cells slots : Nat}
theorem retI (X : Stand p l e R s m args below meth c T locs cells slots) (hx : p.tables.exec = Jvm.exec) {pc : Nat} {Ls : Array Slot} {z : Int32} {rest : List Value} (hret : meth.sig.returnType = some .int) (hd : decode c.code pc = .ok (.ireturn, 1)) {fs : List Frame}
    (hl : ∀ (f : JFrame) (acts : List Action), f.method = m → f.locked = none → f.entered = [] → (doReturn e (T.setTop f) acts (some (.int z))).1 = T.setFrames fs) : Steps p.tables e below (T.setTop (mkF m pc Ls (.int z :: rest))) (T.setFrames fs) := by
  have hm' : T.vm.method? m = some meth := X.method'
  have hn : narrow .int (.int z) = .int z := rfl
  show Steps p.tables e below (T.setTop { method := m, pc := pc, locals := Ls, stack := _ :: rest, locked := none }) _
  jvm_step X.here [X.here.top, hx, hd, hm', hret, hn]
  first | (intro acts; rw [hl _ acts rfl rfl rfl]) | rw [hl _ _ rfl rfl rfl]
  exact Steps.refl _
theorem own_retJ (X : Stand p l e R s m args below meth c T locs cells slots) (hx : p.tables.exec = Jvm.exec) {pc : Nat} {Ls : Array Slot} {z : Int64} {rest : List Value} (hret : meth.sig.returnType = some .long) (hd : decode c.code pc = .ok (.lreturn, 1)) {fs : List Frame}
    (hl : ∀ (f : JFrame) (acts : List Action), f.method = m → f.locked = none → f.entered = [] → (doReturn e (T.setTop f) acts (some (.long z))).1 = T.setFrames fs) : Steps p.tables e below (T.setTop (mkF m pc Ls (.long z :: rest))) (T.setFrames fs) :=
  retOut X hx hret rfl (Or.inr (Or.inl ⟨rfl, rfl, z, rfl⟩)) hd hl
theorem own_retR (X : Stand p l e R s m args below meth c T locs cells slots) (hx : p.tables.exec = Jvm.exec) {pc : Nat} {Ls : Array Slot} {w : Value} {t : FieldType} {rest : List Value} (hret : meth.sig.returnType = some t) (ht : t.isReference = true) (hw : w.isRef = true) (hd : decode c.code pc = .ok (.areturn, 1)) {fs : List Frame}
    (hl : ∀ (f : JFrame) (acts : List Action), f.method = m → f.locked = none → f.entered = [] → (doReturn e (T.setTop f) acts (some w)).1 = T.setFrames fs) : Steps p.tables e below (T.setTop (mkF m pc Ls (w :: rest))) (T.setFrames fs) :=
  retOut X hx hret (by cases t <;> first | rfl | cases ht) (Or.inr (Or.inr (Or.inr (Or.inr ⟨rfl, ht, hw⟩)))) hd hl
theorem own_lrem {tb : Tables} [Ours tb] {e : Env} {below : List Frame} {T target : State} {m : MethodId} {c : Code} {g : JFrame} (h : At T m c below) (hx : tb.exec = Jvm.exec) (hg : g.method = m) {x y : Int64} {rest : List Value} (hd : decode c.code g.pc = .ok (.lrem, 1)) (hs : g.stack = .long y :: .long x :: rest) (hy : y ≠ 0)
    (hr : Steps tb e below (T.setTop { g with pc := g.pc + 1, stack := .long (x % y) :: rest }) target) : Steps tb e below (T.setTop g) target :=
  XS.lrem h hx hg hd hs hy (by rw [lrem_mod]; exact hr)
theorem own_go {tb : Tables} {e : Env} {below : List Frame} {A B : State} {P : State → Outcome → Prop} (h : ∀ t, Steps tb e below B t → Steps tb e below A t) (k : ∃ s₂ o, Steps tb e below B s₂ ∧ P s₂ o) : ∃ s₂ o, Steps tb e below A s₂ ∧ P s₂ o := by
  obtain ⟨s₂, o, h1, h2⟩ := k
  exact ⟨s₂, o, h _ h1, h2⟩
theorem own_cut {α : Type} {C : α → Prop} {B : α → State} {tb : Tables} {e : Env} {below : List Frame} {A : State} {P : State → Outcome → Prop} (h : ∀ a, C a → ∃ s₂ o, Steps tb e below (B a) s₂ ∧ P s₂ o) (k : (∀ a, C a → ∃ s₂ o, Steps tb e below (B a) s₂ ∧ P s₂ o) → ∃ s₂ o, Steps tb e below A s₂ ∧ P s₂ o) : ∃ s₂ o, Steps tb e below A s₂ ∧ P s₂ o := k h
theorem own_narZ (P : Prop) [Decidable P] : narrow .boolean (.int (if P then (1 : Int32) else 0)) = .int (if P then (1 : Int32) else 0) := by split <;> rfl
theorem own_fitZ (P : Prop) [Decidable P] : fits .boolean (.int (if P then (1 : Int32) else 0)) = true := by split <;> rfl
theorem own_retZ (P : Prop) [Decidable P] : (some (.int (nar .boolean (if P then (1 : Int32) else 0))) : Option Value) = some (.int (if P then (1 : Int32) else 0)) := by split <;> rfl
theorem own_staKeep {Z : State} {h h' : Heap} {C n d : String} {v : Value} {ws : List Addr} (F : Sta Z h C n d v) (K : Keep h h' ws) (q : ∀ x ∈ ws, ∃ c : Cell, h[x]? = some c ∧ c.vm.isStatics = false) : Sta Z h' C n d v := by
  obtain ⟨cf, i, k, f, st, cell, h1, h2, h3, h4, h5, h6, h7⟩ := F
  refine ⟨cf, i, k, f, st, cell, h1, h2, h3, h4, K.2.1 _ _ h5 fun hm => ?_, h6, h7⟩
  obtain ⟨c', g1, g2⟩ := q _ hm
  cases h5.symm.trans g1
  rw [h6] at g2
  cases g2
theorem own_arrKeep {Z : State} {h h' : Heap} {a : Addr} {c : Cell} {ty : FieldType} {ws : List Addr} (F : Arr Z h a c ty) (K : Keep h h' ws) (q : a ∉ ws) : Arr Z h' a c ty := ⟨K.2.1 _ _ F.1 q, F.2⟩
theorem own_ns0 {h : Heap} : ∀ x ∈ ([] : List Addr), ∃ c : Cell, h[x]? = some c ∧ c.vm.isStatics = false := fun _ q => nomatch q
theorem own_nsS {h : Heap} {y : Addr} {L : List Addr} (q : ∃ c : Cell, h[y]? = some c ∧ c.vm.isStatics = false) (r : ∀ x ∈ L, ∃ c : Cell, h[x]? = some c ∧ c.vm.isStatics = false) : ∀ x ∈ y :: L, ∃ c : Cell, h[x]? = some c ∧ c.vm.isStatics = false := fun x z => (List.mem_cons.mp z).elim (fun u => u ▸ q) (r x)
theorem own_nsE {Z : State} {h : Heap} {a : Addr} {C : String} (F : Exa Z h a C) : ∃ c : Cell, h[a]? = some c ∧ c.vm.isStatics = false := by
  obtain ⟨c, k, h1, h2, h3, h4, h5⟩ := F
  exact ⟨c, h1, h4⟩
theorem own_nsV {Z : State} {h : Heap} {a : Addr} {k : ClassId} {ty : FieldType} {z : Int32} {vs : List Value} {d : Value} (F : Arv Z h a k ty z vs d) : ∃ c : Cell, h[a]? = some c ∧ c.vm.isStatics = false := by
  obtain ⟨c, A, r⟩ := F
  exact ⟨c, A.1, A.plain⟩
theorem own_since (s : State) (n : Nat) : s.Since s.vm n := ⟨State.Warmed39.refl s, fun j p hj hp => absurd (Array.getElem?_eq_some_iff.mp hp).1 (Nat.not_lt.mpr hj)⟩
end New
end Jvm.RoadKit
namespace Jvm.Pilot.@@N@@
open Jvm Jvm.ClassFile Sem Op Lib Jvm.Free Jvm.Stand Jvm.LawKit Jvm.RoadKit Bundle Jvm.Pilot.@@N@@.Jvm.D
theorem own_in (y1 : Int32) : ¬ ((y1 &&& (16777215 : Int32)) + (1 : Int32)) < (1 : Int32) ∧ ¬ (16777216 : Int32) < ((y1 &&& (16777215 : Int32)) + (1 : Int32)) := by
  have e1 := c_mask y1 16777215 24 (by decide) (by decide)
  have e2 := c_iadd (y1 &&& 16777215) 1
  have e3 := rng32 ((y1 &&& (16777215 : Int32)) + (1 : Int32))
  have l1 : (1 : Int32).toInt = 1 := by decide
  have l2 : (16777216 : Int32).toInt = 16777216 := by decide
  rw [Int32.lt_iff_toInt_lt, Int32.lt_iff_toInt_lt]
  omega
theorem own_ab (y1 : Int32) : ¬ (¬ ((y1 &&& (1073741823 : Int32)) + (16777217 : Int32)) < (1 : Int32) ∧ ¬ (16777216 : Int32) < ((y1 &&& (1073741823 : Int32)) + (16777217 : Int32))) := by
  have e1 := c_mask y1 1073741823 30 (by decide) (by decide)
  have e2 := c_iadd (y1 &&& 1073741823) 16777217
  have e3 := rng32 ((y1 &&& (1073741823 : Int32)) + (16777217 : Int32))
  have l1 : (1 : Int32).toInt = 1 := by decide
  have l2 : (16777216 : Int32).toInt = 16777216 := by decide
  have l3 : (16777217 : Int32).toInt = 16777217 := by decide
  rw [Int32.lt_iff_toInt_lt, Int32.lt_iff_toInt_lt]
  omega
theorem own_np (y1 : Int32) : ¬ (¬ (-(y1 &&& (2147483647 : Int32))) < (1 : Int32) ∧ ¬ (16777216 : Int32) < (-(y1 &&& (2147483647 : Int32)))) := by
  have e1 := c_mask y1 2147483647 31 (by decide) (by decide)
  have e2 := c_ineg (y1 &&& 2147483647)
  have e3 := rng32 (-(y1 &&& (2147483647 : Int32)))
  have l1 : (1 : Int32).toInt = 1 := by decide
  have l2 : (16777216 : Int32).toInt = 16777216 := by decide
  rw [Int32.lt_iff_toInt_lt, Int32.lt_iff_toInt_lt]
  omega
theorem own_ref (x1 : Int32) : (¬ x1 < (1 : Int32) ∧ ¬ (16777216 : Int32) < x1) ↔ (((x1.toInt64) - (1 : Int64)) &&& (4294967295 : Int64)) < (16777216 : Int64) := by
  have e0 := c_i2l x1
  have e1 := c_maskL ((x1.toInt64) - (1 : Int64)) 4294967295 32 (by decide) (by decide)
  have e2 := c_lsub (x1.toInt64) 1
  have e3 := rng64 ((x1.toInt64) - (1 : Int64))
  have e4 := rng32 x1
  have l1 : (1 : Int32).toInt = 1 := by decide
  have l2 : (16777216 : Int32).toInt = 16777216 := by decide
  have l3 : (1 : Int64).toInt = 1 := by decide
  have l4 : (16777216 : Int64).toInt = 16777216 := by decide
  rw [Int32.lt_iff_toInt_lt, Int32.lt_iff_toInt_lt, Int64.lt_iff_toInt_lt]
  omega
theorem own_ref2 (x1 : Int32) : (if ¬ x1 < (1 : Int32) ∧ ¬ (16777216 : Int32) < x1 then (1 : Int32) else 0) = (if (((x1.toInt64) - (1 : Int64)) &&& (4294967295 : Int64)) < (16777216 : Int64) then (1 : Int32) else 0) := by
  by_cases h : (((x1.toInt64) - (1 : Int64)) &&& (4294967295 : Int64)) < (16777216 : Int64)
  · rw [if_pos h, if_pos ((own_ref x1).mpr h)]
  · rw [if_neg h, if_neg (fun q => h ((own_ref x1).mp q))]
theorem pn_10 : plainName "com/example/porthcurno/porthcurno/store/LogRecord" = true := by first | (simp [plainName, overriddenIn]; done) | decide +kernel
theorem d1_0 : decode prog_52_method_14_code 0 = .ok (.iload_n 0, 1) := by decide +kernel
theorem d1_1 : decode prog_52_method_14_code 1 = .ok (.iconst 1, 1) := by decide +kernel
theorem d1_2 : decode prog_52_method_14_code 2 = .ok (.if_icmp .lt 13, 3) := by decide +kernel
theorem d1_5 : decode prog_52_method_14_code 5 = .ok (.iload_n 0, 1) := by decide +kernel
theorem d1_6 : decode prog_52_method_14_code 6 = .ok (.ldc 121, 2) := by decide +kernel
theorem d1_8 : decode prog_52_method_14_code 8 = .ok (.if_icmp .gt 7, 3) := by decide +kernel
theorem d1_11 : decode prog_52_method_14_code 11 = .ok (.iconst 1, 1) := by decide +kernel
theorem d1_12 : decode prog_52_method_14_code 12 = .ok (.goto 4, 3) := by decide +kernel
theorem d1_15 : decode prog_52_method_14_code 15 = .ok (.iconst 0, 1) := by decide +kernel
theorem d1_16 : decode prog_52_method_14_code 16 = .ok (.ireturn, 1) := by decide +kernel
theorem ef_1 (m : MethodId) (p1 : Int32) : entryFrame m #[(.int p1)] 1 = mkF m 0 #[.val (.int p1)] [] := by first | (simp [entryFrame, mkF, argsToLocals, Value.category]; done) | rfl
def Q1 (Z : State) (p1 : Int32) (h0 : Heap) (n0 : Nat) (v : Option Value) (h : Heap) (L : List Loc) : Prop := v = some (.int (if ¬ p1 < (1 : Int32) ∧ ¬ (16777216 : Int32) < p1 then (1 : Int32) else 0)) ∧ Fr n0 L ∧ h = h0
set_option maxRecDepth 65536 in
set_option maxHeartbeats 40000000 in
theorem rm1 (l : Launch) (Z : State) (a0 : Array Value) (hw : ∀ d ∈ tables_1, d.before a0 Z = true) (ws : List Jvm.Cond) (p1 : Int32) (h0 : Heap) (n0 : Nat) (Z0 : n0 ≤ h0.size) :
    MetFree l (⟨"com/example/porthcurno/porthcurno/store/LogRecord", "isPayloadLength", "(I)Z"⟩ : MethodName) (head1 (Jvm.Cond.code (⟨"com/example/porthcurno/porthcurno/store/LogRecord", "isPayloadLength", "(I)Z"⟩ : MethodName) prog_52_method_14_code 1 (some .boolean) :: ws) ({ frames := 0, cells := 0, slots := 0, locals := 0 } : Room)) (fun a U => a = #[(.int p1)] ∧ Z.Warmed39 U.vm ∧ U.heap = h0) (fun _ _ _ _ _ => True) (fun _ U o U' => ∃ v L, o = .returned v ∧ Q1 Z p1 h0 n0 v U'.heap L ∧ FrameEnd U o U' L ({ frames := 0, cells := 0, slots := 0, locals := 0 } : Room).cells ({ frames := 0, cells := 0, slots := 0, locals := 0 } : Room).slots) := by
  refine MetFree.of_bodySF (plainFor_of_name pn_10) hisR ?_
  intro p e s m args below meth c s₁ Bd hml0 hP hK
  obtain ⟨rfl, hZ, hh⟩ := hP
  have hx := Bd.exec
  have hby := Bd.bytes
  have hml : c.maxLocals = 1 := hml0
  have hown : s.vm.findClass "com/example/porthcurno/porthcurno/store/LogRecord" = some m.cls := findClass_of_methodNamed Bd.named
  have hnm := (name_of_methodNamed Bd.named Bd.method).1
  have X0 : Stand p l e ({ frames := 0, cells := 0, slots := 0, locals := 0 } : Room) s m #[(.int p1)] below meth c s₁ [] 0 0 := Stand.of_body Bd
  have e0 : s₁.heap = h0 := by rw [← hh, Bd.state]; rfl
  have N0 := Fr.nil n0
  refine own_go (B := s₁.setTop (mkF m 0 #[.val (.int p1)] [])) (fun t k => castTop (ef_1 m p1) k) ?_
  refine own_go (B := s₁.setTop (mkF m 2 #[.val (.int p1)] [(.int (1 : Int32)), (.int p1)])) (fun t k => ?_) ?_
  · show Steps p.tables e below (s₁.setTop (mkF m 0 #[.val (.int p1)] [])) _
    refine XS.iloadN X0.here hx rfl (hb hby d1_0) rfl ?_
    show Steps p.tables e below (s₁.setTop (mkF m 1 #[.val (.int p1)] [(.int p1)])) _
    refine XS.iconst X0.here hx rfl (hb hby d1_1) ?_
    show Steps p.tables e below (s₁.setTop (mkF m 2 #[.val (.int p1)] [(.int (1 : Int32)), (.int p1)])) _
    exact k
  by_cases hc1 : p1 < (1 : Int32)
  · refine own_go (B := s₁.setTop (mkF m 16 #[.val (.int p1)] [(.int (0 : Int32))])) (fun t k => ?_) ?_
    · show Steps p.tables e below (s₁.setTop (mkF m 2 #[.val (.int p1)] [(.int (1 : Int32)), (.int p1)])) _
      refine XS.icmpYes X0.here hx rfl (pc0 := 2) (pc' := 15) rfl (hb hby d1_2) rfl (tlt hc1).1 (by decide) (by decide) ?_
      show Steps p.tables e below (s₁.setTop (mkF m 15 #[.val (.int p1)] [])) _
      refine XS.iconst X0.here hx rfl (hb hby d1_15) ?_
      show Steps p.tables e below (s₁.setTop (mkF m 16 #[.val (.int p1)] [(.int (0 : Int32))])) _
      exact k
    obtain ⟨fs, hr, hrun, hended, hW, hsame⟩ := X0.leave (v := some (.int (0 : Int32))) (fun h => by rw [Bd.returns] at h; cases h)
    refine ⟨_, _, ?_, hrun, hended, _, _, rfl, ?_, ⟨_, rfl⟩, hW, hsame.mono (by decide) (by decide)⟩
    · exact retN X0 hx (t := .boolean) Bd.returns (by simp) (hb hby d1_16) hr
    · show Q1 Z p1 h0 n0 _ s₁.heap _
      rw [e0]
      exact ⟨(by rw [if_neg (fun q => q.1 hc1)]), N0, rfl⟩
  · refine own_go (B := s₁.setTop (mkF m 8 #[.val (.int p1)] [(.int (16777216 : Int32)), (.int p1)])) (fun t k => ?_) ?_
    · show Steps p.tables e below (s₁.setTop (mkF m 2 #[.val (.int p1)] [(.int (1 : Int32)), (.int p1)])) _
      refine XS.icmpNo X0.here hx rfl (hb hby d1_2) rfl (flt hc1).1 ?_
      show Steps p.tables e below (s₁.setTop (mkF m 5 #[.val (.int p1)] [])) _
      refine XS.iloadN X0.here hx rfl (hb hby d1_5) rfl ?_
      show Steps p.tables e below (s₁.setTop (mkF m 6 #[.val (.int p1)] [(.int p1)])) _
      refine X0.ldcInt hx hown (mvT hZ (hw _ (List.mem_of_getElem? (i := 11) rfl))) (g := (mkF m 6 #[.val (.int p1)] [(.int p1)])) rfl (hb hby d1_6) _ ?_
      show Steps p.tables e below (s₁.setTop (mkF m 8 #[.val (.int p1)] [(.int (16777216 : Int32)), (.int p1)])) _
      exact k
    by_cases hc3 : (16777216 : Int32) < p1
    · refine own_go (B := s₁.setTop (mkF m 16 #[.val (.int p1)] [(.int (0 : Int32))])) (fun t k => ?_) ?_
      · show Steps p.tables e below (s₁.setTop (mkF m 8 #[.val (.int p1)] [(.int (16777216 : Int32)), (.int p1)])) _
        refine XS.icmpYes X0.here hx rfl (pc0 := 8) (pc' := 15) rfl (hb hby d1_8) rfl (tlt hc3).2.2.1 (by decide) (by decide) ?_
        show Steps p.tables e below (s₁.setTop (mkF m 15 #[.val (.int p1)] [])) _
        refine XS.iconst X0.here hx rfl (hb hby d1_15) ?_
        show Steps p.tables e below (s₁.setTop (mkF m 16 #[.val (.int p1)] [(.int (0 : Int32))])) _
        exact k
      obtain ⟨fs, hr, hrun, hended, hW, hsame⟩ := X0.leave (v := some (.int (0 : Int32))) (fun h => by rw [Bd.returns] at h; cases h)
      refine ⟨_, _, ?_, hrun, hended, _, _, rfl, ?_, ⟨_, rfl⟩, hW, hsame.mono (by decide) (by decide)⟩
      · exact retN X0 hx (t := .boolean) Bd.returns (by simp) (hb hby d1_16) hr
      · show Q1 Z p1 h0 n0 _ s₁.heap _
        rw [e0]
        exact ⟨(by rw [if_neg (fun q => q.2 hc3)]), N0, rfl⟩
    · refine own_go (B := s₁.setTop (mkF m 16 #[.val (.int p1)] [(.int (1 : Int32))])) (fun t k => ?_) ?_
      · show Steps p.tables e below (s₁.setTop (mkF m 8 #[.val (.int p1)] [(.int (16777216 : Int32)), (.int p1)])) _
        refine XS.icmpNo X0.here hx rfl (hb hby d1_8) rfl (flt hc3).2.2.1 ?_
        show Steps p.tables e below (s₁.setTop (mkF m 11 #[.val (.int p1)] [])) _
        refine XS.iconst X0.here hx rfl (hb hby d1_11) ?_
        show Steps p.tables e below (s₁.setTop (mkF m 12 #[.val (.int p1)] [(.int (1 : Int32))])) _
        refine XS.goto X0.here hx rfl (pc0 := 12) (pc' := 16) rfl (hb hby d1_12) (by decide) (by decide) ?_
        show Steps p.tables e below (s₁.setTop (mkF m 16 #[.val (.int p1)] [(.int (1 : Int32))])) _
        exact k
      obtain ⟨fs, hr, hrun, hended, hW, hsame⟩ := X0.leave (v := some (.int (1 : Int32))) (fun h => by rw [Bd.returns] at h; cases h)
      refine ⟨_, _, ?_, hrun, hended, _, _, rfl, ?_, ⟨_, rfl⟩, hW, hsame.mono (by decide) (by decide)⟩
      · exact retN X0 hx (t := .boolean) Bd.returns (by simp) (hb hby d1_16) hr
      · show Q1 Z p1 h0 n0 _ s₁.heap _
        rw [e0]
        exact ⟨(by rw [if_pos ⟨hc1, hc3⟩]), N0, rfl⟩
theorem pn_26 : plainName "com/example/porthcurno/porthcurno/store/LogRecordIsPayloadLengthPinLaw" = true := by first | (simp [plainName, overriddenIn]; done) | decide +kernel
theorem d2_0 : decode method_2_code 0 = .ok (.iload_n 0, 1) := by decide +kernel
theorem d2_1 : decode method_2_code 1 = .ok (.i2l, 1) := by decide +kernel
theorem d2_2 : decode method_2_code 2 = .ok (.lconst 1, 1) := by decide +kernel
theorem d2_3 : decode method_2_code 3 = .ok (.lsub, 1) := by decide +kernel
theorem d2_4 : decode method_2_code 4 = .ok (.ldc2_w 7, 3) := by decide +kernel
theorem d2_7 : decode method_2_code 7 = .ok (.land, 1) := by decide +kernel
theorem d2_8 : decode method_2_code 8 = .ok (.lstore_n 1, 1) := by decide +kernel
theorem d2_9 : decode method_2_code 9 = .ok (.lload_n 1, 1) := by decide +kernel
theorem d2_10 : decode method_2_code 10 = .ok (.ldc2_w 9, 3) := by decide +kernel
theorem d2_13 : decode method_2_code 13 = .ok (.lcmp, 1) := by decide +kernel
theorem d2_14 : decode method_2_code 14 = .ok (.ifCond .ge 7, 3) := by decide +kernel
theorem d2_17 : decode method_2_code 17 = .ok (.iconst 1, 1) := by decide +kernel
theorem d2_18 : decode method_2_code 18 = .ok (.goto 4, 3) := by decide +kernel
theorem d2_21 : decode method_2_code 21 = .ok (.iconst 0, 1) := by decide +kernel
theorem d2_22 : decode method_2_code 22 = .ok (.ireturn, 1) := by decide +kernel
theorem ef_2 (m : MethodId) (x1 : Int32) : entryFrame m #[(.int x1)] 3 = mkF m 0 #[.val (.int x1), .unset, .unset] [] := by first | (simp [entryFrame, mkF, argsToLocals, Value.category]; done) | rfl
def Q2 (Z : State) (x1 : Int32) (h0 : Heap) (n0 : Nat) (v : Option Value) (h : Heap) (L : List Loc) : Prop := v = some (.int (if (((x1.toInt64) - (1 : Int64)) &&& (4294967295 : Int64)) < (16777216 : Int64) then (1 : Int32) else 0)) ∧ Fr n0 L ∧ h = h0
set_option maxRecDepth 65536 in
set_option maxHeartbeats 40000000 in
theorem rm2 (l : Launch) (Z : State) (a0 : Array Value) (hw : ∀ d ∈ tables_1, d.before a0 Z = true) (ws : List Jvm.Cond) (x1 : Int32) (h0 : Heap) (n0 : Nat) (Z0 : n0 ≤ h0.size) :
    MetFree l (⟨"com/example/porthcurno/porthcurno/store/LogRecordIsPayloadLengthPinLaw", "reference", "(I)Z"⟩ : MethodName) (head1 (Jvm.Cond.code (⟨"com/example/porthcurno/porthcurno/store/LogRecordIsPayloadLengthPinLaw", "reference", "(I)Z"⟩ : MethodName) method_2_code 3 (some .boolean) :: ws) ({ frames := 0, cells := 0, slots := 0, locals := 0 } : Room)) (fun a U => a = #[(.int x1)] ∧ Z.Warmed39 U.vm ∧ U.heap = h0) (fun _ _ _ _ _ => True) (fun _ U o U' => ∃ v L, o = .returned v ∧ Q2 Z x1 h0 n0 v U'.heap L ∧ FrameEnd U o U' L ({ frames := 0, cells := 0, slots := 0, locals := 0 } : Room).cells ({ frames := 0, cells := 0, slots := 0, locals := 0 } : Room).slots) := by
  refine MetFree.of_bodySF (plainFor_of_name pn_26) hisR ?_
  intro p e s m args below meth c s₁ Bd hml0 hP hK
  obtain ⟨rfl, hZ, hh⟩ := hP
  have hx := Bd.exec
  have hby := Bd.bytes
  have hml : c.maxLocals = 3 := hml0
  have hown : s.vm.findClass "com/example/porthcurno/porthcurno/store/LogRecordIsPayloadLengthPinLaw" = some m.cls := findClass_of_methodNamed Bd.named
  have hnm := (name_of_methodNamed Bd.named Bd.method).1
  have X0 : Stand p l e ({ frames := 0, cells := 0, slots := 0, locals := 0 } : Room) s m #[(.int x1)] below meth c s₁ [] 0 0 := Stand.of_body Bd
  have e0 : s₁.heap = h0 := by rw [← hh, Bd.state]; rfl
  have N0 := Fr.nil n0
  refine own_go (B := s₁.setTop (mkF m 0 #[.val (.int x1), .unset, .unset] [])) (fun t k => castTop (ef_2 m x1) k) ?_
  refine own_go (B := s₁.setTop (mkF m 14 #[.val (.int x1), .val (.long (((x1.toInt64) - (1 : Int64)) &&& (4294967295 : Int64))), .second] [(.int (lcmpW (((x1.toInt64) - (1 : Int64)) &&& (4294967295 : Int64)) (16777216 : Int64)))])) (fun t k => ?_) ?_
  · show Steps p.tables e below (s₁.setTop (mkF m 0 #[.val (.int x1), .unset, .unset] [])) _
    refine XS.iloadN X0.here hx rfl (hb hby d2_0) rfl ?_
    show Steps p.tables e below (s₁.setTop (mkF m 1 #[.val (.int x1), .unset, .unset] [(.int x1)])) _
    refine XS.i2l X0.here hx rfl (hb hby d2_1) rfl ?_
    show Steps p.tables e below (s₁.setTop (mkF m 2 #[.val (.int x1), .unset, .unset] [(.long (x1.toInt64))])) _
    refine XS.lconst X0.here hx rfl (hb hby d2_2) ?_
    show Steps p.tables e below (s₁.setTop (mkF m 3 #[.val (.int x1), .unset, .unset] [(.long (1 : Int64)), (.long (x1.toInt64))])) _
    refine XS.lsub X0.here hx rfl (hb hby d2_3) rfl ?_
    show Steps p.tables e below (s₁.setTop (mkF m 4 #[.val (.int x1), .unset, .unset] [(.long ((x1.toInt64) - (1 : Int64)))])) _
    refine X0.ldc2Long hx hown (mvT hZ (hw _ (List.mem_of_getElem? (i := 8) rfl))) (g := (mkF m 4 #[.val (.int x1), .unset, .unset] [(.long ((x1.toInt64) - (1 : Int64)))])) rfl (hb hby d2_4) _ ?_
    show Steps p.tables e below (s₁.setTop (mkF m 7 #[.val (.int x1), .unset, .unset] [(.long (4294967295 : Int64)), (.long ((x1.toInt64) - (1 : Int64)))])) _
    refine XS.land X0.here hx rfl (hb hby d2_7) rfl ?_
    show Steps p.tables e below (s₁.setTop (mkF m 8 #[.val (.int x1), .unset, .unset] [(.long (((x1.toInt64) - (1 : Int64)) &&& (4294967295 : Int64)))])) _
    refine XS.lstoreN X0.here hx rfl (hb hby d2_8) rfl (l' := #[.val (.int x1), .val (.long (((x1.toInt64) - (1 : Int64)) &&& (4294967295 : Int64))), .second]) rfl ?_
    show Steps p.tables e below (s₁.setTop (mkF m 9 #[.val (.int x1), .val (.long (((x1.toInt64) - (1 : Int64)) &&& (4294967295 : Int64))), .second] [])) _
    refine XS.lloadN X0.here hx rfl (hb hby d2_9) rfl ?_
    show Steps p.tables e below (s₁.setTop (mkF m 10 #[.val (.int x1), .val (.long (((x1.toInt64) - (1 : Int64)) &&& (4294967295 : Int64))), .second] [(.long (((x1.toInt64) - (1 : Int64)) &&& (4294967295 : Int64)))])) _
    refine X0.ldc2Long hx hown (mvT hZ (hw _ (List.mem_of_getElem? (i := 9) rfl))) (g := (mkF m 10 #[.val (.int x1), .val (.long (((x1.toInt64) - (1 : Int64)) &&& (4294967295 : Int64))), .second] [(.long (((x1.toInt64) - (1 : Int64)) &&& (4294967295 : Int64)))])) rfl (hb hby d2_10) _ ?_
    show Steps p.tables e below (s₁.setTop (mkF m 13 #[.val (.int x1), .val (.long (((x1.toInt64) - (1 : Int64)) &&& (4294967295 : Int64))), .second] [(.long (16777216 : Int64)), (.long (((x1.toInt64) - (1 : Int64)) &&& (4294967295 : Int64)))])) _
    refine XS.lcmp X0.here hx rfl (hb hby d2_13) rfl ?_
    show Steps p.tables e below (s₁.setTop (mkF m 14 #[.val (.int x1), .val (.long (((x1.toInt64) - (1 : Int64)) &&& (4294967295 : Int64))), .second] [(.int (lcmpW (((x1.toInt64) - (1 : Int64)) &&& (4294967295 : Int64)) (16777216 : Int64)))])) _
    exact k
  by_cases hl6 : (((x1.toInt64) - (1 : Int64)) &&& (4294967295 : Int64)) < (16777216 : Int64)
  · refine own_go (B := s₁.setTop (mkF m 22 #[.val (.int x1), .val (.long (((x1.toInt64) - (1 : Int64)) &&& (4294967295 : Int64))), .second] [(.int (1 : Int32))])) (fun t k => ?_) ?_
    · show Steps p.tables e below (s₁.setTop (mkF m 14 #[.val (.int x1), .val (.long (((x1.toInt64) - (1 : Int64)) &&& (4294967295 : Int64))), .second] [(.int (lcmpW (((x1.toInt64) - (1 : Int64)) &&& (4294967295 : Int64)) (16777216 : Int64)))])) _
      refine XS.ifNo X0.here hx rfl (hb hby d2_14) rfl ((if0 _ _).trans (tlt (show (lcmpW (((x1.toInt64) - (1 : Int64)) &&& (4294967295 : Int64)) (16777216 : Int64)) < (0 : Int32) from ((lw_lt (((x1.toInt64) - (1 : Int64)) &&& (4294967295 : Int64)) (16777216 : Int64)).mpr hl6))).2.1) ?_
      show Steps p.tables e below (s₁.setTop (mkF m 17 #[.val (.int x1), .val (.long (((x1.toInt64) - (1 : Int64)) &&& (4294967295 : Int64))), .second] [])) _
      refine XS.iconst X0.here hx rfl (hb hby d2_17) ?_
      show Steps p.tables e below (s₁.setTop (mkF m 18 #[.val (.int x1), .val (.long (((x1.toInt64) - (1 : Int64)) &&& (4294967295 : Int64))), .second] [(.int (1 : Int32))])) _
      refine XS.goto X0.here hx rfl (pc0 := 18) (pc' := 22) rfl (hb hby d2_18) (by decide) (by decide) ?_
      show Steps p.tables e below (s₁.setTop (mkF m 22 #[.val (.int x1), .val (.long (((x1.toInt64) - (1 : Int64)) &&& (4294967295 : Int64))), .second] [(.int (1 : Int32))])) _
      exact k
    obtain ⟨fs, hr, hrun, hended, hW, hsame⟩ := X0.leave (v := some (.int (1 : Int32))) (fun h => by rw [Bd.returns] at h; cases h)
    refine ⟨_, _, ?_, hrun, hended, _, _, rfl, ?_, ⟨_, rfl⟩, hW, hsame.mono (by decide) (by decide)⟩
    · exact retN X0 hx (t := .boolean) Bd.returns (by simp) (hb hby d2_22) hr
    · show Q2 Z x1 h0 n0 _ s₁.heap _
      rw [e0]
      exact ⟨(by rw [if_pos hl6]), N0, rfl⟩
  · refine own_go (B := s₁.setTop (mkF m 22 #[.val (.int x1), .val (.long (((x1.toInt64) - (1 : Int64)) &&& (4294967295 : Int64))), .second] [(.int (0 : Int32))])) (fun t k => ?_) ?_
    · show Steps p.tables e below (s₁.setTop (mkF m 14 #[.val (.int x1), .val (.long (((x1.toInt64) - (1 : Int64)) &&& (4294967295 : Int64))), .second] [(.int (lcmpW (((x1.toInt64) - (1 : Int64)) &&& (4294967295 : Int64)) (16777216 : Int64)))])) _
      refine XS.ifYes X0.here hx rfl (pc0 := 14) (pc' := 21) rfl (hb hby d2_14) rfl ((if0 _ _).trans (flt (show ¬ ((lcmpW (((x1.toInt64) - (1 : Int64)) &&& (4294967295 : Int64)) (16777216 : Int64)) < (0 : Int32)) from (fun q => hl6 ((lw_lt (((x1.toInt64) - (1 : Int64)) &&& (4294967295 : Int64)) (16777216 : Int64)).mp q)))).2.1) (by decide) (by decide) ?_
      show Steps p.tables e below (s₁.setTop (mkF m 21 #[.val (.int x1), .val (.long (((x1.toInt64) - (1 : Int64)) &&& (4294967295 : Int64))), .second] [])) _
      refine XS.iconst X0.here hx rfl (hb hby d2_21) ?_
      show Steps p.tables e below (s₁.setTop (mkF m 22 #[.val (.int x1), .val (.long (((x1.toInt64) - (1 : Int64)) &&& (4294967295 : Int64))), .second] [(.int (0 : Int32))])) _
      exact k
    obtain ⟨fs, hr, hrun, hended, hW, hsame⟩ := X0.leave (v := some (.int (0 : Int32))) (fun h => by rw [Bd.returns] at h; cases h)
    refine ⟨_, _, ?_, hrun, hended, _, _, rfl, ?_, ⟨_, rfl⟩, hW, hsame.mono (by decide) (by decide)⟩
    · exact retN X0 hx (t := .boolean) Bd.returns (by simp) (hb hby d2_22) hr
    · show Q2 Z x1 h0 n0 _ s₁.heap _
      rw [e0]
      exact ⟨(by rw [if_neg hl6]), N0, rfl⟩
theorem pd_0 : parseMethodDescriptor "(I)Z" = some ⟨[.int], some .boolean⟩ := by decide +kernel
theorem ef_0 (m : MethodId) (x1 : Int32) (y1 : Int32) : entryFrame m #[(.int x1), (.int y1)] maxLocals = mkF m 0 #[.val (.int x1), .val (.int y1), .unset, .unset, .unset, .unset] [] := by first | (simp [entryFrame, mkF, argsToLocals, Value.category, maxLocals]; done) | rfl
def Q0 (Z : State) (x1 : Int32) (y1 : Int32) (h0 : Heap) (n0 : Nat) (v : Option Value) (h : Heap) (L : List Loc) : Prop := v = some (.int (1 : Int32)) ∧ Fr n0 L
set_option maxRecDepth 65536 in
set_option maxHeartbeats 40000000 in
theorem rm0 (l : Launch) (Z : State) (a0 : Array Value) (hw : ∀ d ∈ tables_1, d.before a0 Z = true) (ws : List Jvm.Cond) (x1 : Int32) (y1 : Int32) (h0 : Heap) (n0 : Nat) (Z0 : n0 ≤ h0.size) :
    MetFree l x (head1 (Jvm.Cond.code x code maxLocals ret :: ws) room_1) (fun a U => a = #[(.int x1), (.int y1)] ∧ Z.Warmed39 U.vm ∧ U.heap = h0) (fun _ _ _ _ _ => True) (fun _ U o U' => ∃ v L, o = .returned v ∧ Q0 Z x1 y1 h0 n0 v U'.heap L ∧ FrameEnd U o U' L room_1.cells room_1.slots) := by
  refine MetFree.of_bodySF (plainFor_of_name pn_26) hisR ?_
  intro p e s m args below meth c s₁ Bd hml0 hP hK
  obtain ⟨rfl, hZ, hh⟩ := hP
  have hx := Bd.exec
  have hby := Bd.bytes
  have hml : c.maxLocals = 6 := hml0
  have hown : s.vm.findClass "com/example/porthcurno/porthcurno/store/LogRecordIsPayloadLengthPinLaw" = some m.cls := findClass_of_methodNamed Bd.named
  have hnm := (name_of_methodNamed Bd.named Bd.method).1
  have X0 : Stand p l e room_1 s m #[(.int x1), (.int y1)] below meth c s₁ [] 0 0 := Stand.of_body Bd
  have e0 : s₁.heap = h0 := by rw [← hh, Bd.state]; rfl
  have N0 := Fr.nil n0
  refine own_go (B := s₁.setTop (mkF m 0 #[.val (.int x1), .val (.int y1), .unset, .unset, .unset, .unset] [])) (fun t k => castTop (ef_0 m x1 y1) k) ?_
  refine own_go (B := s₁.setTop (mkF m 1 #[.val (.int x1), .val (.int y1), .unset, .unset, .unset, .unset] [(.int x1)])) (fun t k => ?_) ?_
  · show Steps p.tables e below (s₁.setTop (mkF m 0 #[.val (.int x1), .val (.int y1), .unset, .unset, .unset, .unset] [])) _
    refine XS.iloadN X0.here hx rfl (hb hby at_0) rfl ?_
    show Steps p.tables e below (s₁.setTop (mkF m 1 #[.val (.int x1), .val (.int y1), .unset, .unset, .unset, .unset] [(.int x1)])) _
    exact k
  obtain ⟨_, _, ⟨T9, L9, k9, n9⟩, -, X9, ⟨Lc9, hQ9, l9, y9, z9⟩, st9⟩ := Jvm.LawKit.callS X0 hx (y := (⟨"com/example/porthcurno/porthcurno/store/LogRecord", "isPayloadLength", "(I)Z"⟩ : MethodName)) hown (mvT hZ (hw _ (List.mem_of_getElem? (i := 0) rfl))) (mvT hZ (hw _ (List.mem_of_getElem? (i := 1) rfl))) (mvT hZ (hw _ (List.mem_of_getElem? (i := 2) rfl))) (mvT hZ (hw _ (List.mem_of_getElem? (i := 3) rfl))) (by decide) (backOf (W := 0) (rm1 l Z a0 hw [] x1 h0 n0 Z0 ) hZ (hw _ (List.mem_of_getElem? (i := 3) rfl)) (hw _ (List.mem_of_getElem? (i := 2) rfl)) (by decide) (by decide)) (g := (mkF m 1 #[.val (.int x1), .val (.int y1), .unset, .unset, .unset, .unset] [(.int x1)])) rfl (by rw [hml]; rfl) (argsL := [(.int x1)]) (rest := []) (lenOf pd_0 rfl) rfl (by show 2 * 0 + _ ≤ _; exact Nat.le_of_eq rfl) (hb hby at_1) (fun _ _ => ⟨rfl, e0, (by decide : 0 + 0 ≤ _), (by decide : 0 + 0 ≤ _)⟩)
  dsimp only [Pt.U, Pt.locs, Pt.cells, Pt.slots] at X9 l9 y9 z9 st9 hQ9
  subst l9 y9 z9
  obtain ⟨rfl, M9, q9_0⟩ := hQ9
  have N9 := Fr.app N0 M9
  refine own_go st9 ?_
  refine own_go (B := T9.setTop (mkF m 5 #[.val (.int x1), .val (.int y1), .unset, .unset, .unset, .unset] [(.int x1), (.int (if ¬ x1 < (1 : Int32) ∧ ¬ (16777216 : Int32) < x1 then (1 : Int32) else 0))])) (fun t k => ?_) ?_
  · show Steps p.tables e below (T9.setTop (mkF m 4 #[.val (.int x1), .val (.int y1), .unset, .unset, .unset, .unset] [(.int (if ¬ x1 < (1 : Int32) ∧ ¬ (16777216 : Int32) < x1 then (1 : Int32) else 0))])) _
    refine XS.iloadN X9.here hx rfl (hb hby at_4) rfl ?_
    show Steps p.tables e below (T9.setTop (mkF m 5 #[.val (.int x1), .val (.int y1), .unset, .unset, .unset, .unset] [(.int x1), (.int (if ¬ x1 < (1 : Int32) ∧ ¬ (16777216 : Int32) < x1 then (1 : Int32) else 0))])) _
    exact k
  obtain ⟨_, _, ⟨T10, L10, k10, n10⟩, -, X10, ⟨Lc10, hQ10, l10, y10, z10⟩, st10⟩ := Jvm.LawKit.callS X9 hx (y := (⟨"com/example/porthcurno/porthcurno/store/LogRecordIsPayloadLengthPinLaw", "reference", "(I)Z"⟩ : MethodName)) hown (mvT hZ (hw _ (List.mem_of_getElem? (i := 4) rfl))) (mvT hZ (hw _ (List.mem_of_getElem? (i := 5) rfl))) (mvT hZ (hw _ (List.mem_of_getElem? (i := 6) rfl))) (mvT hZ (hw _ (List.mem_of_getElem? (i := 7) rfl))) (by decide) (backOf (W := 1) (rm2 l Z a0 hw [] x1 h0 n0 Z0 ) hZ (hw _ (List.mem_of_getElem? (i := 7) rfl)) (hw _ (List.mem_of_getElem? (i := 6) rfl)) (by decide) (by decide)) (g := (mkF m 5 #[.val (.int x1), .val (.int y1), .unset, .unset, .unset, .unset] [(.int x1), (.int (if ¬ x1 < (1 : Int32) ∧ ¬ (16777216 : Int32) < x1 then (1 : Int32) else 0))])) rfl (by rw [hml]; rfl) (argsL := [(.int x1)]) (rest := [(.int (if ¬ x1 < (1 : Int32) ∧ ¬ (16777216 : Int32) < x1 then (1 : Int32) else 0))]) (lenOf pd_0 rfl) rfl (by show 2 * 0 + _ ≤ _; exact Nat.le_of_eq rfl) (hb hby at_5) (fun _ _ => ⟨rfl, q9_0, (by decide : 0 + 0 ≤ _), (by decide : 0 + 0 ≤ _)⟩)
  dsimp only [Pt.U, Pt.locs, Pt.cells, Pt.slots] at X10 l10 y10 z10 st10 hQ10
  subst l10 y10 z10
  obtain ⟨rfl, M10, q10_0⟩ := hQ10
  have N10 := Fr.app N9 M10
  refine own_go st10 ?_
  refine own_go (B := T10.setTop (mkF m 29 #[.val (.int x1), .val (.int y1), .val (.int (1 : Int32)), .val (.int ((y1 &&& (16777215 : Int32)) + (1 : Int32))), .unset, .unset] [(.int ((y1 &&& (16777215 : Int32)) + (1 : Int32)))])) (fun t k => ?_) ?_
  · show Steps p.tables e below (T10.setTop (mkF m 8 #[.val (.int x1), .val (.int y1), .unset, .unset, .unset, .unset] [(.int (if (((x1.toInt64) - (1 : Int64)) &&& (4294967295 : Int64)) < (16777216 : Int64) then (1 : Int32) else 0)), (.int (if ¬ x1 < (1 : Int32) ∧ ¬ (16777216 : Int32) < x1 then (1 : Int32) else 0))])) _
    refine XS.icmpNo X10.here hx rfl (hb hby at_8) rfl (teq (show (if ¬ x1 < (1 : Int32) ∧ ¬ (16777216 : Int32) < x1 then (1 : Int32) else 0) = (if (((x1.toInt64) - (1 : Int64)) &&& (4294967295 : Int64)) < (16777216 : Int64) then (1 : Int32) else 0) from (own_ref2 x1))).2 ?_
    show Steps p.tables e below (T10.setTop (mkF m 11 #[.val (.int x1), .val (.int y1), .unset, .unset, .unset, .unset] [])) _
    refine XS.iconst X10.here hx rfl (hb hby at_11) ?_
    show Steps p.tables e below (T10.setTop (mkF m 12 #[.val (.int x1), .val (.int y1), .unset, .unset, .unset, .unset] [(.int (1 : Int32))])) _
    refine XS.goto X10.here hx rfl (pc0 := 12) (pc' := 16) rfl (hb hby at_12) (by decide) (by decide) ?_
    show Steps p.tables e below (T10.setTop (mkF m 16 #[.val (.int x1), .val (.int y1), .unset, .unset, .unset, .unset] [(.int (1 : Int32))])) _
    refine XS.istoreN X10.here hx rfl (hb hby at_16) rfl (l' := #[.val (.int x1), .val (.int y1), .val (.int (1 : Int32)), .unset, .unset, .unset]) rfl ?_
    show Steps p.tables e below (T10.setTop (mkF m 17 #[.val (.int x1), .val (.int y1), .val (.int (1 : Int32)), .unset, .unset, .unset] [])) _
    refine XS.iloadN X10.here hx rfl (hb hby at_17) rfl ?_
    show Steps p.tables e below (T10.setTop (mkF m 18 #[.val (.int x1), .val (.int y1), .val (.int (1 : Int32)), .unset, .unset, .unset] [(.int y1)])) _
    refine X10.ldcInt hx hown (mvT hZ (hw _ (List.mem_of_getElem? (i := 10) rfl))) (g := (mkF m 18 #[.val (.int x1), .val (.int y1), .val (.int (1 : Int32)), .unset, .unset, .unset] [(.int y1)])) rfl (hb hby at_18) _ ?_
    show Steps p.tables e below (T10.setTop (mkF m 20 #[.val (.int x1), .val (.int y1), .val (.int (1 : Int32)), .unset, .unset, .unset] [(.int (16777215 : Int32)), (.int y1)])) _
    refine XS.iand X10.here hx rfl (hb hby at_20) rfl ?_
    show Steps p.tables e below (T10.setTop (mkF m 21 #[.val (.int x1), .val (.int y1), .val (.int (1 : Int32)), .unset, .unset, .unset] [(.int (y1 &&& (16777215 : Int32)))])) _
    refine XS.iconst X10.here hx rfl (hb hby at_21) ?_
    show Steps p.tables e below (T10.setTop (mkF m 22 #[.val (.int x1), .val (.int y1), .val (.int (1 : Int32)), .unset, .unset, .unset] [(.int (1 : Int32)), (.int (y1 &&& (16777215 : Int32)))])) _
    refine XS.iadd X10.here hx rfl (hb hby at_22) rfl ?_
    show Steps p.tables e below (T10.setTop (mkF m 23 #[.val (.int x1), .val (.int y1), .val (.int (1 : Int32)), .unset, .unset, .unset] [(.int ((y1 &&& (16777215 : Int32)) + (1 : Int32)))])) _
    refine XS.istoreN X10.here hx rfl (hb hby at_23) rfl (l' := #[.val (.int x1), .val (.int y1), .val (.int (1 : Int32)), .val (.int ((y1 &&& (16777215 : Int32)) + (1 : Int32))), .unset, .unset]) rfl ?_
    show Steps p.tables e below (T10.setTop (mkF m 24 #[.val (.int x1), .val (.int y1), .val (.int (1 : Int32)), .val (.int ((y1 &&& (16777215 : Int32)) + (1 : Int32))), .unset, .unset] [])) _
    refine XS.iloadN X10.here hx rfl (hb hby at_24) rfl ?_
    show Steps p.tables e below (T10.setTop (mkF m 25 #[.val (.int x1), .val (.int y1), .val (.int (1 : Int32)), .val (.int ((y1 &&& (16777215 : Int32)) + (1 : Int32))), .unset, .unset] [(.int (1 : Int32))])) _
    refine XS.ifNo X10.here hx rfl (hb hby at_25) rfl ((if0 _ _).trans (feq (by decide : ¬ ((1 : Int32) = (0 : Int32)))).1) ?_
    show Steps p.tables e below (T10.setTop (mkF m 28 #[.val (.int x1), .val (.int y1), .val (.int (1 : Int32)), .val (.int ((y1 &&& (16777215 : Int32)) + (1 : Int32))), .unset, .unset] [])) _
    refine XS.iloadN X10.here hx rfl (hb hby at_28) rfl ?_
    show Steps p.tables e below (T10.setTop (mkF m 29 #[.val (.int x1), .val (.int y1), .val (.int (1 : Int32)), .val (.int ((y1 &&& (16777215 : Int32)) + (1 : Int32))), .unset, .unset] [(.int ((y1 &&& (16777215 : Int32)) + (1 : Int32)))])) _
    exact k
  obtain ⟨_, _, ⟨T11, L11, k11, n11⟩, -, X11, ⟨Lc11, hQ11, l11, y11, z11⟩, st11⟩ := Jvm.LawKit.callS X10 hx (y := (⟨"com/example/porthcurno/porthcurno/store/LogRecord", "isPayloadLength", "(I)Z"⟩ : MethodName)) hown (mvT hZ (hw _ (List.mem_of_getElem? (i := 0) rfl))) (mvT hZ (hw _ (List.mem_of_getElem? (i := 1) rfl))) (mvT hZ (hw _ (List.mem_of_getElem? (i := 2) rfl))) (mvT hZ (hw _ (List.mem_of_getElem? (i := 3) rfl))) (by decide) (backOf (W := 0) (rm1 l Z a0 hw [] ((y1 &&& (16777215 : Int32)) + (1 : Int32)) h0 n0 Z0 ) hZ (hw _ (List.mem_of_getElem? (i := 3) rfl)) (hw _ (List.mem_of_getElem? (i := 2) rfl)) (by decide) (by decide)) (g := (mkF m 29 #[.val (.int x1), .val (.int y1), .val (.int (1 : Int32)), .val (.int ((y1 &&& (16777215 : Int32)) + (1 : Int32))), .unset, .unset] [(.int ((y1 &&& (16777215 : Int32)) + (1 : Int32)))])) rfl (by rw [hml]; rfl) (argsL := [(.int ((y1 &&& (16777215 : Int32)) + (1 : Int32)))]) (rest := []) (lenOf pd_0 rfl) rfl (by show 2 * 0 + _ ≤ _; exact Nat.le_of_eq rfl) (hb hby at_29) (fun _ _ => ⟨rfl, q10_0, (by decide : 0 + 0 ≤ _), (by decide : 0 + 0 ≤ _)⟩)
  dsimp only [Pt.U, Pt.locs, Pt.cells, Pt.slots] at X11 l11 y11 z11 st11 hQ11
  subst l11 y11 z11
  obtain ⟨rfl, M11, q11_0⟩ := hQ11
  have N11 := Fr.app N10 M11
  refine own_go st11 ?_
  refine own_go (B := T11.setTop (mkF m 56 #[.val (.int x1), .val (.int y1), .val (.int (1 : Int32)), .val (.int ((y1 &&& (16777215 : Int32)) + (1 : Int32))), .val (.int ((y1 &&& (1073741823 : Int32)) + (16777217 : Int32))), .unset] [(.int ((y1 &&& (1073741823 : Int32)) + (16777217 : Int32)))])) (fun t k => ?_) ?_
  · show Steps p.tables e below (T11.setTop (mkF m 32 #[.val (.int x1), .val (.int y1), .val (.int (1 : Int32)), .val (.int ((y1 &&& (16777215 : Int32)) + (1 : Int32))), .unset, .unset] [(.int (if ¬ ((y1 &&& (16777215 : Int32)) + (1 : Int32)) < (1 : Int32) ∧ ¬ (16777216 : Int32) < ((y1 &&& (16777215 : Int32)) + (1 : Int32)) then (1 : Int32) else 0))])) _
    refine XS.ifNo X11.here hx rfl (hb hby at_32) rfl ((if0 _ _).trans (feq (show ¬ ((if ¬ ((y1 &&& (16777215 : Int32)) + (1 : Int32)) < (1 : Int32) ∧ ¬ (16777216 : Int32) < ((y1 &&& (16777215 : Int32)) + (1 : Int32)) then (1 : Int32) else 0) = (0 : Int32)) from (by rw [if_pos (show ¬ ((y1 &&& (16777215 : Int32)) + (1 : Int32)) < (1 : Int32) ∧ ¬ (16777216 : Int32) < ((y1 &&& (16777215 : Int32)) + (1 : Int32)) from (own_in y1))] <;> decide))).1) ?_
    show Steps p.tables e below (T11.setTop (mkF m 35 #[.val (.int x1), .val (.int y1), .val (.int (1 : Int32)), .val (.int ((y1 &&& (16777215 : Int32)) + (1 : Int32))), .unset, .unset] [])) _
    refine XS.iconst X11.here hx rfl (hb hby at_35) ?_
    show Steps p.tables e below (T11.setTop (mkF m 36 #[.val (.int x1), .val (.int y1), .val (.int (1 : Int32)), .val (.int ((y1 &&& (16777215 : Int32)) + (1 : Int32))), .unset, .unset] [(.int (1 : Int32))])) _
    refine XS.goto X11.here hx rfl (pc0 := 36) (pc' := 40) rfl (hb hby at_36) (by decide) (by decide) ?_
    show Steps p.tables e below (T11.setTop (mkF m 40 #[.val (.int x1), .val (.int y1), .val (.int (1 : Int32)), .val (.int ((y1 &&& (16777215 : Int32)) + (1 : Int32))), .unset, .unset] [(.int (1 : Int32))])) _
    refine XS.istoreN X11.here hx rfl (hb hby at_40) rfl (l' := #[.val (.int x1), .val (.int y1), .val (.int (1 : Int32)), .val (.int ((y1 &&& (16777215 : Int32)) + (1 : Int32))), .unset, .unset]) rfl ?_
    show Steps p.tables e below (T11.setTop (mkF m 41 #[.val (.int x1), .val (.int y1), .val (.int (1 : Int32)), .val (.int ((y1 &&& (16777215 : Int32)) + (1 : Int32))), .unset, .unset] [])) _
    refine XS.iloadN X11.here hx rfl (hb hby at_41) rfl ?_
    show Steps p.tables e below (T11.setTop (mkF m 42 #[.val (.int x1), .val (.int y1), .val (.int (1 : Int32)), .val (.int ((y1 &&& (16777215 : Int32)) + (1 : Int32))), .unset, .unset] [(.int y1)])) _
    refine X11.ldcInt hx hown (mvT hZ (hw _ (List.mem_of_getElem? (i := 12) rfl))) (g := (mkF m 42 #[.val (.int x1), .val (.int y1), .val (.int (1 : Int32)), .val (.int ((y1 &&& (16777215 : Int32)) + (1 : Int32))), .unset, .unset] [(.int y1)])) rfl (hb hby at_42) _ ?_
    show Steps p.tables e below (T11.setTop (mkF m 44 #[.val (.int x1), .val (.int y1), .val (.int (1 : Int32)), .val (.int ((y1 &&& (16777215 : Int32)) + (1 : Int32))), .unset, .unset] [(.int (1073741823 : Int32)), (.int y1)])) _
    refine XS.iand X11.here hx rfl (hb hby at_44) rfl ?_
    show Steps p.tables e below (T11.setTop (mkF m 45 #[.val (.int x1), .val (.int y1), .val (.int (1 : Int32)), .val (.int ((y1 &&& (16777215 : Int32)) + (1 : Int32))), .unset, .unset] [(.int (y1 &&& (1073741823 : Int32)))])) _
    refine X11.ldcInt hx hown (mvT hZ (hw _ (List.mem_of_getElem? (i := 13) rfl))) (g := (mkF m 45 #[.val (.int x1), .val (.int y1), .val (.int (1 : Int32)), .val (.int ((y1 &&& (16777215 : Int32)) + (1 : Int32))), .unset, .unset] [(.int (y1 &&& (1073741823 : Int32)))])) rfl (hb hby at_45) _ ?_
    show Steps p.tables e below (T11.setTop (mkF m 47 #[.val (.int x1), .val (.int y1), .val (.int (1 : Int32)), .val (.int ((y1 &&& (16777215 : Int32)) + (1 : Int32))), .unset, .unset] [(.int (16777217 : Int32)), (.int (y1 &&& (1073741823 : Int32)))])) _
    refine XS.iadd X11.here hx rfl (hb hby at_47) rfl ?_
    show Steps p.tables e below (T11.setTop (mkF m 48 #[.val (.int x1), .val (.int y1), .val (.int (1 : Int32)), .val (.int ((y1 &&& (16777215 : Int32)) + (1 : Int32))), .unset, .unset] [(.int ((y1 &&& (1073741823 : Int32)) + (16777217 : Int32)))])) _
    refine XS.istore X11.here hx rfl (hb hby at_48) rfl (l' := #[.val (.int x1), .val (.int y1), .val (.int (1 : Int32)), .val (.int ((y1 &&& (16777215 : Int32)) + (1 : Int32))), .val (.int ((y1 &&& (1073741823 : Int32)) + (16777217 : Int32))), .unset]) rfl ?_
    show Steps p.tables e below (T11.setTop (mkF m 50 #[.val (.int x1), .val (.int y1), .val (.int (1 : Int32)), .val (.int ((y1 &&& (16777215 : Int32)) + (1 : Int32))), .val (.int ((y1 &&& (1073741823 : Int32)) + (16777217 : Int32))), .unset] [])) _
    refine XS.iloadN X11.here hx rfl (hb hby at_50) rfl ?_
    show Steps p.tables e below (T11.setTop (mkF m 51 #[.val (.int x1), .val (.int y1), .val (.int (1 : Int32)), .val (.int ((y1 &&& (16777215 : Int32)) + (1 : Int32))), .val (.int ((y1 &&& (1073741823 : Int32)) + (16777217 : Int32))), .unset] [(.int (1 : Int32))])) _
    refine XS.ifNo X11.here hx rfl (hb hby at_51) rfl ((if0 _ _).trans (feq (by decide : ¬ ((1 : Int32) = (0 : Int32)))).1) ?_
    show Steps p.tables e below (T11.setTop (mkF m 54 #[.val (.int x1), .val (.int y1), .val (.int (1 : Int32)), .val (.int ((y1 &&& (16777215 : Int32)) + (1 : Int32))), .val (.int ((y1 &&& (1073741823 : Int32)) + (16777217 : Int32))), .unset] [])) _
    refine XS.iload X11.here hx rfl (hb hby at_54) rfl ?_
    show Steps p.tables e below (T11.setTop (mkF m 56 #[.val (.int x1), .val (.int y1), .val (.int (1 : Int32)), .val (.int ((y1 &&& (16777215 : Int32)) + (1 : Int32))), .val (.int ((y1 &&& (1073741823 : Int32)) + (16777217 : Int32))), .unset] [(.int ((y1 &&& (1073741823 : Int32)) + (16777217 : Int32)))])) _
    exact k
  obtain ⟨_, _, ⟨T12, L12, k12, n12⟩, -, X12, ⟨Lc12, hQ12, l12, y12, z12⟩, st12⟩ := Jvm.LawKit.callS X11 hx (y := (⟨"com/example/porthcurno/porthcurno/store/LogRecord", "isPayloadLength", "(I)Z"⟩ : MethodName)) hown (mvT hZ (hw _ (List.mem_of_getElem? (i := 0) rfl))) (mvT hZ (hw _ (List.mem_of_getElem? (i := 1) rfl))) (mvT hZ (hw _ (List.mem_of_getElem? (i := 2) rfl))) (mvT hZ (hw _ (List.mem_of_getElem? (i := 3) rfl))) (by decide) (backOf (W := 0) (rm1 l Z a0 hw [] ((y1 &&& (1073741823 : Int32)) + (16777217 : Int32)) h0 n0 Z0 ) hZ (hw _ (List.mem_of_getElem? (i := 3) rfl)) (hw _ (List.mem_of_getElem? (i := 2) rfl)) (by decide) (by decide)) (g := (mkF m 56 #[.val (.int x1), .val (.int y1), .val (.int (1 : Int32)), .val (.int ((y1 &&& (16777215 : Int32)) + (1 : Int32))), .val (.int ((y1 &&& (1073741823 : Int32)) + (16777217 : Int32))), .unset] [(.int ((y1 &&& (1073741823 : Int32)) + (16777217 : Int32)))])) rfl (by rw [hml]; rfl) (argsL := [(.int ((y1 &&& (1073741823 : Int32)) + (16777217 : Int32)))]) (rest := []) (lenOf pd_0 rfl) rfl (by show 2 * 0 + _ ≤ _; exact Nat.le_of_eq rfl) (hb hby at_56) (fun _ _ => ⟨rfl, q11_0, (by decide : 0 + 0 ≤ _), (by decide : 0 + 0 ≤ _)⟩)
  dsimp only [Pt.U, Pt.locs, Pt.cells, Pt.slots] at X12 l12 y12 z12 st12 hQ12
  subst l12 y12 z12
  obtain ⟨rfl, M12, q12_0⟩ := hQ12
  have N12 := Fr.app N11 M12
  refine own_go st12 ?_
  refine own_go (B := T12.setTop (mkF m 81 #[.val (.int x1), .val (.int y1), .val (.int (1 : Int32)), .val (.int ((y1 &&& (16777215 : Int32)) + (1 : Int32))), .val (.int ((y1 &&& (1073741823 : Int32)) + (16777217 : Int32))), .val (.int (-(y1 &&& (2147483647 : Int32))))] [(.int (-(y1 &&& (2147483647 : Int32))))])) (fun t k => ?_) ?_
  · show Steps p.tables e below (T12.setTop (mkF m 59 #[.val (.int x1), .val (.int y1), .val (.int (1 : Int32)), .val (.int ((y1 &&& (16777215 : Int32)) + (1 : Int32))), .val (.int ((y1 &&& (1073741823 : Int32)) + (16777217 : Int32))), .unset] [(.int (if ¬ ((y1 &&& (1073741823 : Int32)) + (16777217 : Int32)) < (1 : Int32) ∧ ¬ (16777216 : Int32) < ((y1 &&& (1073741823 : Int32)) + (16777217 : Int32)) then (1 : Int32) else 0))])) _
    refine XS.ifNo X12.here hx rfl (hb hby at_59) rfl ((if0 _ _).trans (teq (show (if ¬ ((y1 &&& (1073741823 : Int32)) + (16777217 : Int32)) < (1 : Int32) ∧ ¬ (16777216 : Int32) < ((y1 &&& (1073741823 : Int32)) + (16777217 : Int32)) then (1 : Int32) else 0) = (0 : Int32) from (by rw [if_neg (show ¬ (¬ ((y1 &&& (1073741823 : Int32)) + (16777217 : Int32)) < (1 : Int32) ∧ ¬ (16777216 : Int32) < ((y1 &&& (1073741823 : Int32)) + (16777217 : Int32))) from (own_ab y1))] <;> decide))).2) ?_
    show Steps p.tables e below (T12.setTop (mkF m 62 #[.val (.int x1), .val (.int y1), .val (.int (1 : Int32)), .val (.int ((y1 &&& (16777215 : Int32)) + (1 : Int32))), .val (.int ((y1 &&& (1073741823 : Int32)) + (16777217 : Int32))), .unset] [])) _
    refine XS.iconst X12.here hx rfl (hb hby at_62) ?_
    show Steps p.tables e below (T12.setTop (mkF m 63 #[.val (.int x1), .val (.int y1), .val (.int (1 : Int32)), .val (.int ((y1 &&& (16777215 : Int32)) + (1 : Int32))), .val (.int ((y1 &&& (1073741823 : Int32)) + (16777217 : Int32))), .unset] [(.int (1 : Int32))])) _
    refine XS.goto X12.here hx rfl (pc0 := 63) (pc' := 67) rfl (hb hby at_63) (by decide) (by decide) ?_
    show Steps p.tables e below (T12.setTop (mkF m 67 #[.val (.int x1), .val (.int y1), .val (.int (1 : Int32)), .val (.int ((y1 &&& (16777215 : Int32)) + (1 : Int32))), .val (.int ((y1 &&& (1073741823 : Int32)) + (16777217 : Int32))), .unset] [(.int (1 : Int32))])) _
    refine XS.istoreN X12.here hx rfl (hb hby at_67) rfl (l' := #[.val (.int x1), .val (.int y1), .val (.int (1 : Int32)), .val (.int ((y1 &&& (16777215 : Int32)) + (1 : Int32))), .val (.int ((y1 &&& (1073741823 : Int32)) + (16777217 : Int32))), .unset]) rfl ?_
    show Steps p.tables e below (T12.setTop (mkF m 68 #[.val (.int x1), .val (.int y1), .val (.int (1 : Int32)), .val (.int ((y1 &&& (16777215 : Int32)) + (1 : Int32))), .val (.int ((y1 &&& (1073741823 : Int32)) + (16777217 : Int32))), .unset] [])) _
    refine XS.iloadN X12.here hx rfl (hb hby at_68) rfl ?_
    show Steps p.tables e below (T12.setTop (mkF m 69 #[.val (.int x1), .val (.int y1), .val (.int (1 : Int32)), .val (.int ((y1 &&& (16777215 : Int32)) + (1 : Int32))), .val (.int ((y1 &&& (1073741823 : Int32)) + (16777217 : Int32))), .unset] [(.int y1)])) _
    refine X12.ldcInt hx hown (mvT hZ (hw _ (List.mem_of_getElem? (i := 14) rfl))) (g := (mkF m 69 #[.val (.int x1), .val (.int y1), .val (.int (1 : Int32)), .val (.int ((y1 &&& (16777215 : Int32)) + (1 : Int32))), .val (.int ((y1 &&& (1073741823 : Int32)) + (16777217 : Int32))), .unset] [(.int y1)])) rfl (hb hby at_69) _ ?_
    show Steps p.tables e below (T12.setTop (mkF m 71 #[.val (.int x1), .val (.int y1), .val (.int (1 : Int32)), .val (.int ((y1 &&& (16777215 : Int32)) + (1 : Int32))), .val (.int ((y1 &&& (1073741823 : Int32)) + (16777217 : Int32))), .unset] [(.int (2147483647 : Int32)), (.int y1)])) _
    refine XS.iand X12.here hx rfl (hb hby at_71) rfl ?_
    show Steps p.tables e below (T12.setTop (mkF m 72 #[.val (.int x1), .val (.int y1), .val (.int (1 : Int32)), .val (.int ((y1 &&& (16777215 : Int32)) + (1 : Int32))), .val (.int ((y1 &&& (1073741823 : Int32)) + (16777217 : Int32))), .unset] [(.int (y1 &&& (2147483647 : Int32)))])) _
    refine XS.ineg X12.here hx rfl (hb hby at_72) rfl ?_
    show Steps p.tables e below (T12.setTop (mkF m 73 #[.val (.int x1), .val (.int y1), .val (.int (1 : Int32)), .val (.int ((y1 &&& (16777215 : Int32)) + (1 : Int32))), .val (.int ((y1 &&& (1073741823 : Int32)) + (16777217 : Int32))), .unset] [(.int (-(y1 &&& (2147483647 : Int32))))])) _
    refine XS.istore X12.here hx rfl (hb hby at_73) rfl (l' := #[.val (.int x1), .val (.int y1), .val (.int (1 : Int32)), .val (.int ((y1 &&& (16777215 : Int32)) + (1 : Int32))), .val (.int ((y1 &&& (1073741823 : Int32)) + (16777217 : Int32))), .val (.int (-(y1 &&& (2147483647 : Int32))))]) rfl ?_
    show Steps p.tables e below (T12.setTop (mkF m 75 #[.val (.int x1), .val (.int y1), .val (.int (1 : Int32)), .val (.int ((y1 &&& (16777215 : Int32)) + (1 : Int32))), .val (.int ((y1 &&& (1073741823 : Int32)) + (16777217 : Int32))), .val (.int (-(y1 &&& (2147483647 : Int32))))] [])) _
    refine XS.iloadN X12.here hx rfl (hb hby at_75) rfl ?_
    show Steps p.tables e below (T12.setTop (mkF m 76 #[.val (.int x1), .val (.int y1), .val (.int (1 : Int32)), .val (.int ((y1 &&& (16777215 : Int32)) + (1 : Int32))), .val (.int ((y1 &&& (1073741823 : Int32)) + (16777217 : Int32))), .val (.int (-(y1 &&& (2147483647 : Int32))))] [(.int (1 : Int32))])) _
    refine XS.ifNo X12.here hx rfl (hb hby at_76) rfl ((if0 _ _).trans (feq (by decide : ¬ ((1 : Int32) = (0 : Int32)))).1) ?_
    show Steps p.tables e below (T12.setTop (mkF m 79 #[.val (.int x1), .val (.int y1), .val (.int (1 : Int32)), .val (.int ((y1 &&& (16777215 : Int32)) + (1 : Int32))), .val (.int ((y1 &&& (1073741823 : Int32)) + (16777217 : Int32))), .val (.int (-(y1 &&& (2147483647 : Int32))))] [])) _
    refine XS.iload X12.here hx rfl (hb hby at_79) rfl ?_
    show Steps p.tables e below (T12.setTop (mkF m 81 #[.val (.int x1), .val (.int y1), .val (.int (1 : Int32)), .val (.int ((y1 &&& (16777215 : Int32)) + (1 : Int32))), .val (.int ((y1 &&& (1073741823 : Int32)) + (16777217 : Int32))), .val (.int (-(y1 &&& (2147483647 : Int32))))] [(.int (-(y1 &&& (2147483647 : Int32))))])) _
    exact k
  obtain ⟨_, _, ⟨T13, L13, k13, n13⟩, -, X13, ⟨Lc13, hQ13, l13, y13, z13⟩, st13⟩ := Jvm.LawKit.callS X12 hx (y := (⟨"com/example/porthcurno/porthcurno/store/LogRecord", "isPayloadLength", "(I)Z"⟩ : MethodName)) hown (mvT hZ (hw _ (List.mem_of_getElem? (i := 0) rfl))) (mvT hZ (hw _ (List.mem_of_getElem? (i := 1) rfl))) (mvT hZ (hw _ (List.mem_of_getElem? (i := 2) rfl))) (mvT hZ (hw _ (List.mem_of_getElem? (i := 3) rfl))) (by decide) (backOf (W := 0) (rm1 l Z a0 hw [] (-(y1 &&& (2147483647 : Int32))) h0 n0 Z0 ) hZ (hw _ (List.mem_of_getElem? (i := 3) rfl)) (hw _ (List.mem_of_getElem? (i := 2) rfl)) (by decide) (by decide)) (g := (mkF m 81 #[.val (.int x1), .val (.int y1), .val (.int (1 : Int32)), .val (.int ((y1 &&& (16777215 : Int32)) + (1 : Int32))), .val (.int ((y1 &&& (1073741823 : Int32)) + (16777217 : Int32))), .val (.int (-(y1 &&& (2147483647 : Int32))))] [(.int (-(y1 &&& (2147483647 : Int32))))])) rfl (by rw [hml]; rfl) (argsL := [(.int (-(y1 &&& (2147483647 : Int32))))]) (rest := []) (lenOf pd_0 rfl) rfl (by show 2 * 0 + _ ≤ _; exact Nat.le_of_eq rfl) (hb hby at_81) (fun _ _ => ⟨rfl, q12_0, (by decide : 0 + 0 ≤ _), (by decide : 0 + 0 ≤ _)⟩)
  dsimp only [Pt.U, Pt.locs, Pt.cells, Pt.slots] at X13 l13 y13 z13 st13 hQ13
  subst l13 y13 z13
  obtain ⟨rfl, M13, q13_0⟩ := hQ13
  have N13 := Fr.app N12 M13
  refine own_go st13 ?_
  refine own_go (B := T13.setTop (mkF m 98 #[.val (.int x1), .val (.int y1), .val (.int (1 : Int32)), .val (.int ((y1 &&& (16777215 : Int32)) + (1 : Int32))), .val (.int ((y1 &&& (1073741823 : Int32)) + (16777217 : Int32))), .val (.int (-(y1 &&& (2147483647 : Int32))))] [(.int (0 : Int32))])) (fun t k => ?_) ?_
  · show Steps p.tables e below (T13.setTop (mkF m 84 #[.val (.int x1), .val (.int y1), .val (.int (1 : Int32)), .val (.int ((y1 &&& (16777215 : Int32)) + (1 : Int32))), .val (.int ((y1 &&& (1073741823 : Int32)) + (16777217 : Int32))), .val (.int (-(y1 &&& (2147483647 : Int32))))] [(.int (if ¬ (-(y1 &&& (2147483647 : Int32))) < (1 : Int32) ∧ ¬ (16777216 : Int32) < (-(y1 &&& (2147483647 : Int32))) then (1 : Int32) else 0))])) _
    refine XS.ifNo X13.here hx rfl (hb hby at_84) rfl ((if0 _ _).trans (teq (show (if ¬ (-(y1 &&& (2147483647 : Int32))) < (1 : Int32) ∧ ¬ (16777216 : Int32) < (-(y1 &&& (2147483647 : Int32))) then (1 : Int32) else 0) = (0 : Int32) from (by rw [if_neg (show ¬ (¬ (-(y1 &&& (2147483647 : Int32))) < (1 : Int32) ∧ ¬ (16777216 : Int32) < (-(y1 &&& (2147483647 : Int32)))) from (own_np y1))] <;> decide))).2) ?_
    show Steps p.tables e below (T13.setTop (mkF m 87 #[.val (.int x1), .val (.int y1), .val (.int (1 : Int32)), .val (.int ((y1 &&& (16777215 : Int32)) + (1 : Int32))), .val (.int ((y1 &&& (1073741823 : Int32)) + (16777217 : Int32))), .val (.int (-(y1 &&& (2147483647 : Int32))))] [])) _
    refine XS.iconst X13.here hx rfl (hb hby at_87) ?_
    show Steps p.tables e below (T13.setTop (mkF m 88 #[.val (.int x1), .val (.int y1), .val (.int (1 : Int32)), .val (.int ((y1 &&& (16777215 : Int32)) + (1 : Int32))), .val (.int ((y1 &&& (1073741823 : Int32)) + (16777217 : Int32))), .val (.int (-(y1 &&& (2147483647 : Int32))))] [(.int (1 : Int32))])) _
    refine XS.goto X13.here hx rfl (pc0 := 88) (pc' := 92) rfl (hb hby at_88) (by decide) (by decide) ?_
    show Steps p.tables e below (T13.setTop (mkF m 92 #[.val (.int x1), .val (.int y1), .val (.int (1 : Int32)), .val (.int ((y1 &&& (16777215 : Int32)) + (1 : Int32))), .val (.int ((y1 &&& (1073741823 : Int32)) + (16777217 : Int32))), .val (.int (-(y1 &&& (2147483647 : Int32))))] [(.int (1 : Int32))])) _
    refine XS.istoreN X13.here hx rfl (hb hby at_92) rfl (l' := #[.val (.int x1), .val (.int y1), .val (.int (1 : Int32)), .val (.int ((y1 &&& (16777215 : Int32)) + (1 : Int32))), .val (.int ((y1 &&& (1073741823 : Int32)) + (16777217 : Int32))), .val (.int (-(y1 &&& (2147483647 : Int32))))]) rfl ?_
    show Steps p.tables e below (T13.setTop (mkF m 93 #[.val (.int x1), .val (.int y1), .val (.int (1 : Int32)), .val (.int ((y1 &&& (16777215 : Int32)) + (1 : Int32))), .val (.int ((y1 &&& (1073741823 : Int32)) + (16777217 : Int32))), .val (.int (-(y1 &&& (2147483647 : Int32))))] [])) _
    refine XS.iloadN X13.here hx rfl (hb hby at_93) rfl ?_
    show Steps p.tables e below (T13.setTop (mkF m 94 #[.val (.int x1), .val (.int y1), .val (.int (1 : Int32)), .val (.int ((y1 &&& (16777215 : Int32)) + (1 : Int32))), .val (.int ((y1 &&& (1073741823 : Int32)) + (16777217 : Int32))), .val (.int (-(y1 &&& (2147483647 : Int32))))] [(.int (1 : Int32))])) _
    refine XS.ifNo X13.here hx rfl (hb hby at_94) rfl ((if0 _ _).trans (feq (by decide : ¬ ((1 : Int32) = (0 : Int32)))).1) ?_
    show Steps p.tables e below (T13.setTop (mkF m 97 #[.val (.int x1), .val (.int y1), .val (.int (1 : Int32)), .val (.int ((y1 &&& (16777215 : Int32)) + (1 : Int32))), .val (.int ((y1 &&& (1073741823 : Int32)) + (16777217 : Int32))), .val (.int (-(y1 &&& (2147483647 : Int32))))] [])) _
    refine XS.iconst X13.here hx rfl (hb hby at_97) ?_
    show Steps p.tables e below (T13.setTop (mkF m 98 #[.val (.int x1), .val (.int y1), .val (.int (1 : Int32)), .val (.int ((y1 &&& (16777215 : Int32)) + (1 : Int32))), .val (.int ((y1 &&& (1073741823 : Int32)) + (16777217 : Int32))), .val (.int (-(y1 &&& (2147483647 : Int32))))] [(.int (0 : Int32))])) _
    exact k
  obtain ⟨_, _, ⟨T14, L14, k14, n14⟩, -, X14, ⟨Lc14, hQ14, l14, y14, z14⟩, st14⟩ := Jvm.LawKit.callS X13 hx (y := (⟨"com/example/porthcurno/porthcurno/store/LogRecord", "isPayloadLength", "(I)Z"⟩ : MethodName)) hown (mvT hZ (hw _ (List.mem_of_getElem? (i := 0) rfl))) (mvT hZ (hw _ (List.mem_of_getElem? (i := 1) rfl))) (mvT hZ (hw _ (List.mem_of_getElem? (i := 2) rfl))) (mvT hZ (hw _ (List.mem_of_getElem? (i := 3) rfl))) (by decide) (backOf (W := 0) (rm1 l Z a0 hw [] (0 : Int32) h0 n0 Z0 ) hZ (hw _ (List.mem_of_getElem? (i := 3) rfl)) (hw _ (List.mem_of_getElem? (i := 2) rfl)) (by decide) (by decide)) (g := (mkF m 98 #[.val (.int x1), .val (.int y1), .val (.int (1 : Int32)), .val (.int ((y1 &&& (16777215 : Int32)) + (1 : Int32))), .val (.int ((y1 &&& (1073741823 : Int32)) + (16777217 : Int32))), .val (.int (-(y1 &&& (2147483647 : Int32))))] [(.int (0 : Int32))])) rfl (by rw [hml]; rfl) (argsL := [(.int (0 : Int32))]) (rest := []) (lenOf pd_0 rfl) rfl (by show 2 * 0 + _ ≤ _; exact Nat.le_of_eq rfl) (hb hby at_98) (fun _ _ => ⟨rfl, q13_0, (by decide : 0 + 0 ≤ _), (by decide : 0 + 0 ≤ _)⟩)
  dsimp only [Pt.U, Pt.locs, Pt.cells, Pt.slots] at X14 l14 y14 z14 st14 hQ14
  subst l14 y14 z14
  obtain ⟨rfl, M14, q14_0⟩ := hQ14
  have N14 := Fr.app N13 M14
  refine own_go st14 ?_
  refine own_go (B := T14.setTop (mkF m 115 #[.val (.int x1), .val (.int y1), .val (.int (1 : Int32)), .val (.int ((y1 &&& (16777215 : Int32)) + (1 : Int32))), .val (.int ((y1 &&& (1073741823 : Int32)) + (16777217 : Int32))), .val (.int (-(y1 &&& (2147483647 : Int32))))] [(.int (1 : Int32))])) (fun t k => ?_) ?_
  · show Steps p.tables e below (T14.setTop (mkF m 101 #[.val (.int x1), .val (.int y1), .val (.int (1 : Int32)), .val (.int ((y1 &&& (16777215 : Int32)) + (1 : Int32))), .val (.int ((y1 &&& (1073741823 : Int32)) + (16777217 : Int32))), .val (.int (-(y1 &&& (2147483647 : Int32))))] [(.int (if ¬ (0 : Int32) < (1 : Int32) ∧ ¬ (16777216 : Int32) < (0 : Int32) then (1 : Int32) else 0))])) _
    refine XS.ifNo X14.here hx rfl (hb hby at_101) rfl ((if0 _ _).trans (teq (show (if ¬ (0 : Int32) < (1 : Int32) ∧ ¬ (16777216 : Int32) < (0 : Int32) then (1 : Int32) else 0) = (0 : Int32) from (by rw [if_neg (show ¬ (¬ (0 : Int32) < (1 : Int32) ∧ ¬ (16777216 : Int32) < (0 : Int32)) from (by decide))] <;> decide))).2) ?_
    show Steps p.tables e below (T14.setTop (mkF m 104 #[.val (.int x1), .val (.int y1), .val (.int (1 : Int32)), .val (.int ((y1 &&& (16777215 : Int32)) + (1 : Int32))), .val (.int ((y1 &&& (1073741823 : Int32)) + (16777217 : Int32))), .val (.int (-(y1 &&& (2147483647 : Int32))))] [])) _
    refine XS.iconst X14.here hx rfl (hb hby at_104) ?_
    show Steps p.tables e below (T14.setTop (mkF m 105 #[.val (.int x1), .val (.int y1), .val (.int (1 : Int32)), .val (.int ((y1 &&& (16777215 : Int32)) + (1 : Int32))), .val (.int ((y1 &&& (1073741823 : Int32)) + (16777217 : Int32))), .val (.int (-(y1 &&& (2147483647 : Int32))))] [(.int (1 : Int32))])) _
    refine XS.goto X14.here hx rfl (pc0 := 105) (pc' := 109) rfl (hb hby at_105) (by decide) (by decide) ?_
    show Steps p.tables e below (T14.setTop (mkF m 109 #[.val (.int x1), .val (.int y1), .val (.int (1 : Int32)), .val (.int ((y1 &&& (16777215 : Int32)) + (1 : Int32))), .val (.int ((y1 &&& (1073741823 : Int32)) + (16777217 : Int32))), .val (.int (-(y1 &&& (2147483647 : Int32))))] [(.int (1 : Int32))])) _
    refine XS.istoreN X14.here hx rfl (hb hby at_109) rfl (l' := #[.val (.int x1), .val (.int y1), .val (.int (1 : Int32)), .val (.int ((y1 &&& (16777215 : Int32)) + (1 : Int32))), .val (.int ((y1 &&& (1073741823 : Int32)) + (16777217 : Int32))), .val (.int (-(y1 &&& (2147483647 : Int32))))]) rfl ?_
    show Steps p.tables e below (T14.setTop (mkF m 110 #[.val (.int x1), .val (.int y1), .val (.int (1 : Int32)), .val (.int ((y1 &&& (16777215 : Int32)) + (1 : Int32))), .val (.int ((y1 &&& (1073741823 : Int32)) + (16777217 : Int32))), .val (.int (-(y1 &&& (2147483647 : Int32))))] [])) _
    refine XS.iloadN X14.here hx rfl (hb hby at_110) rfl ?_
    show Steps p.tables e below (T14.setTop (mkF m 111 #[.val (.int x1), .val (.int y1), .val (.int (1 : Int32)), .val (.int ((y1 &&& (16777215 : Int32)) + (1 : Int32))), .val (.int ((y1 &&& (1073741823 : Int32)) + (16777217 : Int32))), .val (.int (-(y1 &&& (2147483647 : Int32))))] [(.int (1 : Int32))])) _
    refine XS.ifNo X14.here hx rfl (hb hby at_111) rfl ((if0 _ _).trans (feq (by decide : ¬ ((1 : Int32) = (0 : Int32)))).1) ?_
    show Steps p.tables e below (T14.setTop (mkF m 114 #[.val (.int x1), .val (.int y1), .val (.int (1 : Int32)), .val (.int ((y1 &&& (16777215 : Int32)) + (1 : Int32))), .val (.int ((y1 &&& (1073741823 : Int32)) + (16777217 : Int32))), .val (.int (-(y1 &&& (2147483647 : Int32))))] [])) _
    refine XS.iconst X14.here hx rfl (hb hby at_114) ?_
    show Steps p.tables e below (T14.setTop (mkF m 115 #[.val (.int x1), .val (.int y1), .val (.int (1 : Int32)), .val (.int ((y1 &&& (16777215 : Int32)) + (1 : Int32))), .val (.int ((y1 &&& (1073741823 : Int32)) + (16777217 : Int32))), .val (.int (-(y1 &&& (2147483647 : Int32))))] [(.int (1 : Int32))])) _
    exact k
  obtain ⟨_, _, ⟨T15, L15, k15, n15⟩, -, X15, ⟨Lc15, hQ15, l15, y15, z15⟩, st15⟩ := Jvm.LawKit.callS X14 hx (y := (⟨"com/example/porthcurno/porthcurno/store/LogRecord", "isPayloadLength", "(I)Z"⟩ : MethodName)) hown (mvT hZ (hw _ (List.mem_of_getElem? (i := 0) rfl))) (mvT hZ (hw _ (List.mem_of_getElem? (i := 1) rfl))) (mvT hZ (hw _ (List.mem_of_getElem? (i := 2) rfl))) (mvT hZ (hw _ (List.mem_of_getElem? (i := 3) rfl))) (by decide) (backOf (W := 0) (rm1 l Z a0 hw [] (1 : Int32) h0 n0 Z0 ) hZ (hw _ (List.mem_of_getElem? (i := 3) rfl)) (hw _ (List.mem_of_getElem? (i := 2) rfl)) (by decide) (by decide)) (g := (mkF m 115 #[.val (.int x1), .val (.int y1), .val (.int (1 : Int32)), .val (.int ((y1 &&& (16777215 : Int32)) + (1 : Int32))), .val (.int ((y1 &&& (1073741823 : Int32)) + (16777217 : Int32))), .val (.int (-(y1 &&& (2147483647 : Int32))))] [(.int (1 : Int32))])) rfl (by rw [hml]; rfl) (argsL := [(.int (1 : Int32))]) (rest := []) (lenOf pd_0 rfl) rfl (by show 2 * 0 + _ ≤ _; exact Nat.le_of_eq rfl) (hb hby at_115) (fun _ _ => ⟨rfl, q14_0, (by decide : 0 + 0 ≤ _), (by decide : 0 + 0 ≤ _)⟩)
  dsimp only [Pt.U, Pt.locs, Pt.cells, Pt.slots] at X15 l15 y15 z15 st15 hQ15
  subst l15 y15 z15
  obtain ⟨rfl, M15, q15_0⟩ := hQ15
  have N15 := Fr.app N14 M15
  refine own_go st15 ?_
  refine own_go (B := T15.setTop (mkF m 133 #[.val (.int x1), .val (.int y1), .val (.int (1 : Int32)), .val (.int ((y1 &&& (16777215 : Int32)) + (1 : Int32))), .val (.int ((y1 &&& (1073741823 : Int32)) + (16777217 : Int32))), .val (.int (-(y1 &&& (2147483647 : Int32))))] [(.int (16777216 : Int32))])) (fun t k => ?_) ?_
  · show Steps p.tables e below (T15.setTop (mkF m 118 #[.val (.int x1), .val (.int y1), .val (.int (1 : Int32)), .val (.int ((y1 &&& (16777215 : Int32)) + (1 : Int32))), .val (.int ((y1 &&& (1073741823 : Int32)) + (16777217 : Int32))), .val (.int (-(y1 &&& (2147483647 : Int32))))] [(.int (if ¬ (1 : Int32) < (1 : Int32) ∧ ¬ (16777216 : Int32) < (1 : Int32) then (1 : Int32) else 0))])) _
    refine XS.ifNo X15.here hx rfl (hb hby at_118) rfl ((if0 _ _).trans (feq (show ¬ ((if ¬ (1 : Int32) < (1 : Int32) ∧ ¬ (16777216 : Int32) < (1 : Int32) then (1 : Int32) else 0) = (0 : Int32)) from (by rw [if_pos (show ¬ (1 : Int32) < (1 : Int32) ∧ ¬ (16777216 : Int32) < (1 : Int32) from (by decide))] <;> decide))).1) ?_
    show Steps p.tables e below (T15.setTop (mkF m 121 #[.val (.int x1), .val (.int y1), .val (.int (1 : Int32)), .val (.int ((y1 &&& (16777215 : Int32)) + (1 : Int32))), .val (.int ((y1 &&& (1073741823 : Int32)) + (16777217 : Int32))), .val (.int (-(y1 &&& (2147483647 : Int32))))] [])) _
    refine XS.iconst X15.here hx rfl (hb hby at_121) ?_
    show Steps p.tables e below (T15.setTop (mkF m 122 #[.val (.int x1), .val (.int y1), .val (.int (1 : Int32)), .val (.int ((y1 &&& (16777215 : Int32)) + (1 : Int32))), .val (.int ((y1 &&& (1073741823 : Int32)) + (16777217 : Int32))), .val (.int (-(y1 &&& (2147483647 : Int32))))] [(.int (1 : Int32))])) _
    refine XS.goto X15.here hx rfl (pc0 := 122) (pc' := 126) rfl (hb hby at_122) (by decide) (by decide) ?_
    show Steps p.tables e below (T15.setTop (mkF m 126 #[.val (.int x1), .val (.int y1), .val (.int (1 : Int32)), .val (.int ((y1 &&& (16777215 : Int32)) + (1 : Int32))), .val (.int ((y1 &&& (1073741823 : Int32)) + (16777217 : Int32))), .val (.int (-(y1 &&& (2147483647 : Int32))))] [(.int (1 : Int32))])) _
    refine XS.istoreN X15.here hx rfl (hb hby at_126) rfl (l' := #[.val (.int x1), .val (.int y1), .val (.int (1 : Int32)), .val (.int ((y1 &&& (16777215 : Int32)) + (1 : Int32))), .val (.int ((y1 &&& (1073741823 : Int32)) + (16777217 : Int32))), .val (.int (-(y1 &&& (2147483647 : Int32))))]) rfl ?_
    show Steps p.tables e below (T15.setTop (mkF m 127 #[.val (.int x1), .val (.int y1), .val (.int (1 : Int32)), .val (.int ((y1 &&& (16777215 : Int32)) + (1 : Int32))), .val (.int ((y1 &&& (1073741823 : Int32)) + (16777217 : Int32))), .val (.int (-(y1 &&& (2147483647 : Int32))))] [])) _
    refine XS.iloadN X15.here hx rfl (hb hby at_127) rfl ?_
    show Steps p.tables e below (T15.setTop (mkF m 128 #[.val (.int x1), .val (.int y1), .val (.int (1 : Int32)), .val (.int ((y1 &&& (16777215 : Int32)) + (1 : Int32))), .val (.int ((y1 &&& (1073741823 : Int32)) + (16777217 : Int32))), .val (.int (-(y1 &&& (2147483647 : Int32))))] [(.int (1 : Int32))])) _
    refine XS.ifNo X15.here hx rfl (hb hby at_128) rfl ((if0 _ _).trans (feq (by decide : ¬ ((1 : Int32) = (0 : Int32)))).1) ?_
    show Steps p.tables e below (T15.setTop (mkF m 131 #[.val (.int x1), .val (.int y1), .val (.int (1 : Int32)), .val (.int ((y1 &&& (16777215 : Int32)) + (1 : Int32))), .val (.int ((y1 &&& (1073741823 : Int32)) + (16777217 : Int32))), .val (.int (-(y1 &&& (2147483647 : Int32))))] [])) _
    refine X15.ldcInt hx hown (mvT hZ (hw _ (List.mem_of_getElem? (i := 15) rfl))) (g := (mkF m 131 #[.val (.int x1), .val (.int y1), .val (.int (1 : Int32)), .val (.int ((y1 &&& (16777215 : Int32)) + (1 : Int32))), .val (.int ((y1 &&& (1073741823 : Int32)) + (16777217 : Int32))), .val (.int (-(y1 &&& (2147483647 : Int32))))] [])) rfl (hb hby at_131) _ ?_
    show Steps p.tables e below (T15.setTop (mkF m 133 #[.val (.int x1), .val (.int y1), .val (.int (1 : Int32)), .val (.int ((y1 &&& (16777215 : Int32)) + (1 : Int32))), .val (.int ((y1 &&& (1073741823 : Int32)) + (16777217 : Int32))), .val (.int (-(y1 &&& (2147483647 : Int32))))] [(.int (16777216 : Int32))])) _
    exact k
  obtain ⟨_, _, ⟨T16, L16, k16, n16⟩, -, X16, ⟨Lc16, hQ16, l16, y16, z16⟩, st16⟩ := Jvm.LawKit.callS X15 hx (y := (⟨"com/example/porthcurno/porthcurno/store/LogRecord", "isPayloadLength", "(I)Z"⟩ : MethodName)) hown (mvT hZ (hw _ (List.mem_of_getElem? (i := 0) rfl))) (mvT hZ (hw _ (List.mem_of_getElem? (i := 1) rfl))) (mvT hZ (hw _ (List.mem_of_getElem? (i := 2) rfl))) (mvT hZ (hw _ (List.mem_of_getElem? (i := 3) rfl))) (by decide) (backOf (W := 0) (rm1 l Z a0 hw [] (16777216 : Int32) h0 n0 Z0 ) hZ (hw _ (List.mem_of_getElem? (i := 3) rfl)) (hw _ (List.mem_of_getElem? (i := 2) rfl)) (by decide) (by decide)) (g := (mkF m 133 #[.val (.int x1), .val (.int y1), .val (.int (1 : Int32)), .val (.int ((y1 &&& (16777215 : Int32)) + (1 : Int32))), .val (.int ((y1 &&& (1073741823 : Int32)) + (16777217 : Int32))), .val (.int (-(y1 &&& (2147483647 : Int32))))] [(.int (16777216 : Int32))])) rfl (by rw [hml]; rfl) (argsL := [(.int (16777216 : Int32))]) (rest := []) (lenOf pd_0 rfl) rfl (by show 2 * 0 + _ ≤ _; exact Nat.le_of_eq rfl) (hb hby at_133) (fun _ _ => ⟨rfl, q15_0, (by decide : 0 + 0 ≤ _), (by decide : 0 + 0 ≤ _)⟩)
  dsimp only [Pt.U, Pt.locs, Pt.cells, Pt.slots] at X16 l16 y16 z16 st16 hQ16
  subst l16 y16 z16
  obtain ⟨rfl, M16, q16_0⟩ := hQ16
  have N16 := Fr.app N15 M16
  refine own_go st16 ?_
  refine own_go (B := T16.setTop (mkF m 151 #[.val (.int x1), .val (.int y1), .val (.int (1 : Int32)), .val (.int ((y1 &&& (16777215 : Int32)) + (1 : Int32))), .val (.int ((y1 &&& (1073741823 : Int32)) + (16777217 : Int32))), .val (.int (-(y1 &&& (2147483647 : Int32))))] [(.int (16777217 : Int32))])) (fun t k => ?_) ?_
  · show Steps p.tables e below (T16.setTop (mkF m 136 #[.val (.int x1), .val (.int y1), .val (.int (1 : Int32)), .val (.int ((y1 &&& (16777215 : Int32)) + (1 : Int32))), .val (.int ((y1 &&& (1073741823 : Int32)) + (16777217 : Int32))), .val (.int (-(y1 &&& (2147483647 : Int32))))] [(.int (if ¬ (16777216 : Int32) < (1 : Int32) ∧ ¬ (16777216 : Int32) < (16777216 : Int32) then (1 : Int32) else 0))])) _
    refine XS.ifNo X16.here hx rfl (hb hby at_136) rfl ((if0 _ _).trans (feq (show ¬ ((if ¬ (16777216 : Int32) < (1 : Int32) ∧ ¬ (16777216 : Int32) < (16777216 : Int32) then (1 : Int32) else 0) = (0 : Int32)) from (by rw [if_pos (show ¬ (16777216 : Int32) < (1 : Int32) ∧ ¬ (16777216 : Int32) < (16777216 : Int32) from (by decide))] <;> decide))).1) ?_
    show Steps p.tables e below (T16.setTop (mkF m 139 #[.val (.int x1), .val (.int y1), .val (.int (1 : Int32)), .val (.int ((y1 &&& (16777215 : Int32)) + (1 : Int32))), .val (.int ((y1 &&& (1073741823 : Int32)) + (16777217 : Int32))), .val (.int (-(y1 &&& (2147483647 : Int32))))] [])) _
    refine XS.iconst X16.here hx rfl (hb hby at_139) ?_
    show Steps p.tables e below (T16.setTop (mkF m 140 #[.val (.int x1), .val (.int y1), .val (.int (1 : Int32)), .val (.int ((y1 &&& (16777215 : Int32)) + (1 : Int32))), .val (.int ((y1 &&& (1073741823 : Int32)) + (16777217 : Int32))), .val (.int (-(y1 &&& (2147483647 : Int32))))] [(.int (1 : Int32))])) _
    refine XS.goto X16.here hx rfl (pc0 := 140) (pc' := 144) rfl (hb hby at_140) (by decide) (by decide) ?_
    show Steps p.tables e below (T16.setTop (mkF m 144 #[.val (.int x1), .val (.int y1), .val (.int (1 : Int32)), .val (.int ((y1 &&& (16777215 : Int32)) + (1 : Int32))), .val (.int ((y1 &&& (1073741823 : Int32)) + (16777217 : Int32))), .val (.int (-(y1 &&& (2147483647 : Int32))))] [(.int (1 : Int32))])) _
    refine XS.istoreN X16.here hx rfl (hb hby at_144) rfl (l' := #[.val (.int x1), .val (.int y1), .val (.int (1 : Int32)), .val (.int ((y1 &&& (16777215 : Int32)) + (1 : Int32))), .val (.int ((y1 &&& (1073741823 : Int32)) + (16777217 : Int32))), .val (.int (-(y1 &&& (2147483647 : Int32))))]) rfl ?_
    show Steps p.tables e below (T16.setTop (mkF m 145 #[.val (.int x1), .val (.int y1), .val (.int (1 : Int32)), .val (.int ((y1 &&& (16777215 : Int32)) + (1 : Int32))), .val (.int ((y1 &&& (1073741823 : Int32)) + (16777217 : Int32))), .val (.int (-(y1 &&& (2147483647 : Int32))))] [])) _
    refine XS.iloadN X16.here hx rfl (hb hby at_145) rfl ?_
    show Steps p.tables e below (T16.setTop (mkF m 146 #[.val (.int x1), .val (.int y1), .val (.int (1 : Int32)), .val (.int ((y1 &&& (16777215 : Int32)) + (1 : Int32))), .val (.int ((y1 &&& (1073741823 : Int32)) + (16777217 : Int32))), .val (.int (-(y1 &&& (2147483647 : Int32))))] [(.int (1 : Int32))])) _
    refine XS.ifNo X16.here hx rfl (hb hby at_146) rfl ((if0 _ _).trans (feq (by decide : ¬ ((1 : Int32) = (0 : Int32)))).1) ?_
    show Steps p.tables e below (T16.setTop (mkF m 149 #[.val (.int x1), .val (.int y1), .val (.int (1 : Int32)), .val (.int ((y1 &&& (16777215 : Int32)) + (1 : Int32))), .val (.int ((y1 &&& (1073741823 : Int32)) + (16777217 : Int32))), .val (.int (-(y1 &&& (2147483647 : Int32))))] [])) _
    refine X16.ldcInt hx hown (mvT hZ (hw _ (List.mem_of_getElem? (i := 13) rfl))) (g := (mkF m 149 #[.val (.int x1), .val (.int y1), .val (.int (1 : Int32)), .val (.int ((y1 &&& (16777215 : Int32)) + (1 : Int32))), .val (.int ((y1 &&& (1073741823 : Int32)) + (16777217 : Int32))), .val (.int (-(y1 &&& (2147483647 : Int32))))] [])) rfl (hb hby at_149) _ ?_
    show Steps p.tables e below (T16.setTop (mkF m 151 #[.val (.int x1), .val (.int y1), .val (.int (1 : Int32)), .val (.int ((y1 &&& (16777215 : Int32)) + (1 : Int32))), .val (.int ((y1 &&& (1073741823 : Int32)) + (16777217 : Int32))), .val (.int (-(y1 &&& (2147483647 : Int32))))] [(.int (16777217 : Int32))])) _
    exact k
  obtain ⟨_, _, ⟨T17, L17, k17, n17⟩, -, X17, ⟨Lc17, hQ17, l17, y17, z17⟩, st17⟩ := Jvm.LawKit.callS X16 hx (y := (⟨"com/example/porthcurno/porthcurno/store/LogRecord", "isPayloadLength", "(I)Z"⟩ : MethodName)) hown (mvT hZ (hw _ (List.mem_of_getElem? (i := 0) rfl))) (mvT hZ (hw _ (List.mem_of_getElem? (i := 1) rfl))) (mvT hZ (hw _ (List.mem_of_getElem? (i := 2) rfl))) (mvT hZ (hw _ (List.mem_of_getElem? (i := 3) rfl))) (by decide) (backOf (W := 0) (rm1 l Z a0 hw [] (16777217 : Int32) h0 n0 Z0 ) hZ (hw _ (List.mem_of_getElem? (i := 3) rfl)) (hw _ (List.mem_of_getElem? (i := 2) rfl)) (by decide) (by decide)) (g := (mkF m 151 #[.val (.int x1), .val (.int y1), .val (.int (1 : Int32)), .val (.int ((y1 &&& (16777215 : Int32)) + (1 : Int32))), .val (.int ((y1 &&& (1073741823 : Int32)) + (16777217 : Int32))), .val (.int (-(y1 &&& (2147483647 : Int32))))] [(.int (16777217 : Int32))])) rfl (by rw [hml]; rfl) (argsL := [(.int (16777217 : Int32))]) (rest := []) (lenOf pd_0 rfl) rfl (by show 2 * 0 + _ ≤ _; exact Nat.le_of_eq rfl) (hb hby at_151) (fun _ _ => ⟨rfl, q16_0, (by decide : 0 + 0 ≤ _), (by decide : 0 + 0 ≤ _)⟩)
  dsimp only [Pt.U, Pt.locs, Pt.cells, Pt.slots] at X17 l17 y17 z17 st17 hQ17
  subst l17 y17 z17
  obtain ⟨rfl, M17, q17_0⟩ := hQ17
  have N17 := Fr.app N16 M17
  refine own_go st17 ?_
  refine own_go (B := T17.setTop (mkF m 164 #[.val (.int x1), .val (.int y1), .val (.int (1 : Int32)), .val (.int ((y1 &&& (16777215 : Int32)) + (1 : Int32))), .val (.int ((y1 &&& (1073741823 : Int32)) + (16777217 : Int32))), .val (.int (-(y1 &&& (2147483647 : Int32))))] [(.int (1 : Int32))])) (fun t k => ?_) ?_
  · show Steps p.tables e below (T17.setTop (mkF m 154 #[.val (.int x1), .val (.int y1), .val (.int (1 : Int32)), .val (.int ((y1 &&& (16777215 : Int32)) + (1 : Int32))), .val (.int ((y1 &&& (1073741823 : Int32)) + (16777217 : Int32))), .val (.int (-(y1 &&& (2147483647 : Int32))))] [(.int (if ¬ (16777217 : Int32) < (1 : Int32) ∧ ¬ (16777216 : Int32) < (16777217 : Int32) then (1 : Int32) else 0))])) _
    refine XS.ifNo X17.here hx rfl (hb hby at_154) rfl ((if0 _ _).trans (teq (show (if ¬ (16777217 : Int32) < (1 : Int32) ∧ ¬ (16777216 : Int32) < (16777217 : Int32) then (1 : Int32) else 0) = (0 : Int32) from (by rw [if_neg (show ¬ (¬ (16777217 : Int32) < (1 : Int32) ∧ ¬ (16777216 : Int32) < (16777217 : Int32)) from (by decide))] <;> decide))).2) ?_
    show Steps p.tables e below (T17.setTop (mkF m 157 #[.val (.int x1), .val (.int y1), .val (.int (1 : Int32)), .val (.int ((y1 &&& (16777215 : Int32)) + (1 : Int32))), .val (.int ((y1 &&& (1073741823 : Int32)) + (16777217 : Int32))), .val (.int (-(y1 &&& (2147483647 : Int32))))] [])) _
    refine XS.iconst X17.here hx rfl (hb hby at_157) ?_
    show Steps p.tables e below (T17.setTop (mkF m 158 #[.val (.int x1), .val (.int y1), .val (.int (1 : Int32)), .val (.int ((y1 &&& (16777215 : Int32)) + (1 : Int32))), .val (.int ((y1 &&& (1073741823 : Int32)) + (16777217 : Int32))), .val (.int (-(y1 &&& (2147483647 : Int32))))] [(.int (1 : Int32))])) _
    refine XS.goto X17.here hx rfl (pc0 := 158) (pc' := 162) rfl (hb hby at_158) (by decide) (by decide) ?_
    show Steps p.tables e below (T17.setTop (mkF m 162 #[.val (.int x1), .val (.int y1), .val (.int (1 : Int32)), .val (.int ((y1 &&& (16777215 : Int32)) + (1 : Int32))), .val (.int ((y1 &&& (1073741823 : Int32)) + (16777217 : Int32))), .val (.int (-(y1 &&& (2147483647 : Int32))))] [(.int (1 : Int32))])) _
    refine XS.istoreN X17.here hx rfl (hb hby at_162) rfl (l' := #[.val (.int x1), .val (.int y1), .val (.int (1 : Int32)), .val (.int ((y1 &&& (16777215 : Int32)) + (1 : Int32))), .val (.int ((y1 &&& (1073741823 : Int32)) + (16777217 : Int32))), .val (.int (-(y1 &&& (2147483647 : Int32))))]) rfl ?_
    show Steps p.tables e below (T17.setTop (mkF m 163 #[.val (.int x1), .val (.int y1), .val (.int (1 : Int32)), .val (.int ((y1 &&& (16777215 : Int32)) + (1 : Int32))), .val (.int ((y1 &&& (1073741823 : Int32)) + (16777217 : Int32))), .val (.int (-(y1 &&& (2147483647 : Int32))))] [])) _
    refine XS.iloadN X17.here hx rfl (hb hby at_163) rfl ?_
    show Steps p.tables e below (T17.setTop (mkF m 164 #[.val (.int x1), .val (.int y1), .val (.int (1 : Int32)), .val (.int ((y1 &&& (16777215 : Int32)) + (1 : Int32))), .val (.int ((y1 &&& (1073741823 : Int32)) + (16777217 : Int32))), .val (.int (-(y1 &&& (2147483647 : Int32))))] [(.int (1 : Int32))])) _
    exact k
  obtain ⟨fs, hr, hrun, hended, hW, hsame⟩ := X17.leave (v := some (.int (1 : Int32))) (fun h => by rw [Bd.returns] at h; cases h)
  refine ⟨_, _, ?_, hrun, hended, _, _, rfl, ?_, ⟨_, rfl⟩, hW, hsame.mono (by decide) (by decide)⟩
  · exact retN X17 hx (t := .boolean) Bd.returns (by simp) (hb hby at_164) hr
  · show Q0 Z x1 y1 h0 n0 _ T17.heap _
    rw [q17_0]
    exact ⟨rfl, N17⟩
set_option maxRecDepth 65536 in
set_option maxHeartbeats 40000000 in
theorem comes_1 {Post : Tables → Env → Array Value → State → Outcome → State → Prop} (hpost : ∀ tb e args s v u, (limb_1_1.after args s (.returned v) u = true ∧ limb_1_2.after args s (.returned v) u = true ∧ True) → FrameEnd s (.returned v) u (Jvm.fieldLocs frame_1_writes args s ++ Jvm.arrayLocs frame_1_arrays args s ++ Jvm.staticLocs frame_1_statics s) 0 0 → Post tb e args s (.returned v) u) :
    ArmFor flags0 classFile x code maxLocals ret World_1 tables_1 room_1 Calls_1 rest_1 Pre_1 Post := by
  intro l hfl _ _ p e ha hc hk s m args below hf hA hF happ hP
  obtain ⟨hcalls, hrest, hpre⟩ := hP
  obtain ⟨-, -, -, hnamed, -, -, -, hat⟩ := (Spec.applies_iff hf).mp happ
  obtain ⟨hg, hn⟩ := and_e (Cond.before_iff.mp (show (Jvm.Cond.and given_1 narrow_1).before args s = true from hpre))
  obtain ⟨g0, hg0⟩ := and_e hg
  obtain ⟨g1, hg1⟩ := and_e hg0
  obtain ⟨w0, w1, rfl⟩ : ∃ w0 w1 : Value, args = #[w0, w1] := by
    have hs : args.size = 2 := by simpa [Cond.value, given_1] using g0
    obtain ⟨L⟩ := args
    match L, hs with
    | [w0, w1], _ => exact ⟨w0, w1, rfl⟩
  have hw := fun d (hd : d ∈ tables_1) => atoms_spec (ws := Jvm.Cond.code x code maxLocals ret :: tables_1) hat d (List.mem_cons_of_mem _ hd)
  obtain ⟨i0, ei0⟩ := is_v g1
  obtain rfl : w0 = (.int i0) := Option.some.inj ei0
  obtain ⟨i1, ei1⟩ := is_v hg1
  obtain rfl : w1 = (.int i1) := Option.some.inj ei1
  obtain ⟨n, o, h1, h2, h3, _, L, rfl, ⟨rfl, N⟩, hq⟩ := rm0 l s _ hw tables_1 i0 i1 s.heap s.heap.size (Nat.le_refl _)  p e ha hc hk s m _ below hf ((Spec.applies_iff_loose hf).mp happ).1 ⟨rfl, State.Warmed39.refl s, rfl⟩ trivial
  refine ⟨n, _, h1, h2, h3, hpost _ _ _ _ _ _ ⟨Cond.after_iff.mpr rfl, Cond.after_iff.mpr (eq_i res_at (Term.int_eval (1)) rfl), trivial⟩ ⟨hq.1, hq.2.1, (hq.2.2.sift fun y hy => Or.inr (N y hy)).mono (by decide) (by decide)⟩⟩
theorem main_1_1 : Claimed_1_1 := comes_1 fun _ _ _ _ _ _ h hF => ⟨h.1, hF⟩
theorem main_1_2 : Claimed_1_2 := comes_1 fun _ _ _ _ _ _ h hF => ⟨h.2.1, hF⟩
end Jvm.Pilot.@@N@@
namespace Jvm.Pilot.@@N@@
open Jvm Jvm.ClassFile Sem Op Lib Jvm.Free Jvm.Stand Jvm.Pilot.@@N@@.Jvm.D
/-! MADE BY PROGRAM (witnessworld.py) out of the Statement's table words and the real class files: 9 classes; the members and pool entries that the words name. The judged class is class 1, her method 2. -/
namespace start1
open Jvm.ClassFile
def u (s : String) : CpInfo := .utf8 (stringToUtf16 s)
/-- a pool by its gaps: so many unusable entries, then the entry; so many at the end -/
def gap : Nat → List CpInfo → List CpInfo
  | 0, r => r
  | n + 1, r => .unusable :: gap n r
def poolList (es : List (Nat × CpInfo)) (last : Nat) : List CpInfo := es.foldr (fun e r => gap e.1 (e.2 :: r)) (gap last [])
def pool (es : List (Nat × CpInfo)) (last : Nat) : Array CpInfo := ⟨poolList es last⟩
def fileOf (pool : Array CpInfo) (this : Nat) (attrs : Array Attribute := #[]) (ms : Array MethodInfo := #[]) (fl : Nat := 33) (sup : Nat := 0) (ifs : Array Nat := #[]) (fds : Array FieldInfo := #[]) : ClassFile where
  minorVersion := 0
  majorVersion := 65
  constantPool := pool
  accessFlags := fl
  thisClass := this
  superClass := sup
  interfaces := ifs
  fields := fds
  methods := ms
  attributes := attrs
def plain (name : String) (sup : Option ClassId) : Class where
  name := name
  kind := .ordinary
  loader := none
  accessFlags := 33
  super := sup
  interfaces := #[]
  cf := none
  fields := #[]
  methods := #[]
  instanceTypes := #[]
  staticTypes := #[]
  resolved := #[]
  callSites := []
  init := .initialized
  statics := none
  mirror := none

def pool0 : Array CpInfo := pool [(5, u "<init>"), (0, u "()V"), (1, .class_ 10), (1, u "java/lang/Object")] 113

def k0m0 : Method := { name := "<init>", desc := "()V", sig := { parameters := [], returnType := none }, accessFlags := 1, code := none }
/-- java/lang/Object -/
def k0 : Class := { plain "java/lang/Object" none with
  accessFlags := 33
  interfaces := #[]
  cf := some (fileOf pool0 8 #[] #[{ accessFlags := 1, nameIndex := 5, descriptorIndex := 6, attributes := #[] }] 33 0 #[] #[])
  fields := #[]
  methods := #[k0m0]
  instanceTypes := #[]
  staticTypes := #[]
  resolved := Array.replicate 124 none
  statics := none }

def pool1 : Array CpInfo := pool [(2, .class_ 4), (1, u "java/lang/Object"), (0, u "<init>"), (0, u "()V"), (0, .long 4294967295), (1, .long 16777216), (1, .methodref 12 13), (0, .class_ 14), (0, .nameAndType 15 16), (0, u "com/example/porthcurno/porthcurno/store/LogRecord"), (0, u "isPayloadLength"), (0, u "(I)Z"), (0, .methodref 18 19), (0, .class_ 20), (0, .nameAndType 21 16), (0, u "com/example/porthcurno/porthcurno/store/LogRecordIsPayloadLengthPinLaw"), (0, u "reference"), (0, .integer 16777215), (0, .integer 1073741823), (0, .integer 16777217), (0, .integer 2147483647), (0, .integer 16777216), (3, u "law"), (0, u "(II)Z")] 2

def k1m0 : Method := { name := "<init>", desc := "()V", sig := { parameters := [], returnType := none }, accessFlags := 2, code := none }
def k1c1 : Code := { maxStack := 4, maxLocals := 3, code := method_2_code, exceptionTable := #[], attributes := #[] }
def k1m1 : Method := { name := "reference", desc := "(I)Z", sig := { parameters := [.int], returnType := some .boolean }, accessFlags := 10, code := some k1c1 }
def k1c2 : Code := { maxStack := 2, maxLocals := 6, code := code, exceptionTable := #[], attributes := #[] }
def k1m2 : Method := { name := "law", desc := "(II)Z", sig := { parameters := [.int, .int], returnType := some .boolean }, accessFlags := 9, code := some k1c2 }
/-- com/example/porthcurno/porthcurno/store/LogRecordIsPayloadLengthPinLaw -/
def k1 : Class := { plain "com/example/porthcurno/porthcurno/store/LogRecordIsPayloadLengthPinLaw" (some 0) with
  accessFlags := 49
  interfaces := #[]
  cf := some (fileOf pool1 18 #[] #[{ accessFlags := 2, nameIndex := 5, descriptorIndex := 6, attributes := #[] }, { accessFlags := 10, nameIndex := 21, descriptorIndex := 16, attributes := #[] }, { accessFlags := 9, nameIndex := 30, descriptorIndex := 31, attributes := #[] }] 49 2 #[] #[])
  fields := #[]
  methods := #[k1m0, k1m1, k1m2]
  instanceTypes := #[]
  staticTypes := #[]
  resolved := Array.replicate 34 none
  statics := none }

def pool2 : Array CpInfo := pool [(1, .class_ 2), (0, u "com/example/porthcurno/porthcurno/store/LogRecord"), (1, .class_ 6), (1, u "java/lang/Object"), (0, u "<init>"), (0, u "()V"), (112, .integer 16777216), (142, .class_ 265), (0, u "com/example/porthcurno/porthcurno/store/LogRecord$HistoryEntry"), (15, u "isPayloadLength"), (0, u "(I)Z"), (108, .class_ 392), (0, u "com/example/porthcurno/porthcurno/store/LogRecord$Grouped"), (33, u "HEADER_BYTES"), (0, u "I"), (2, u "MAX_PAYLOAD_BYTES"), (0, u "MESSAGE"), (0, u "B"), (1, u "REMOVAL"), (1, u "HISTORY"), (1, u "DEAD_LETTER"), (1, u "AMQP_MESSAGE"), (1, u "REMOVALS"), (1, u "DEFERRAL"), (1, u "GROUP"), (0, u "EXPIRING_MESSAGE"), (1, u "EXPIRING_AMQP_MESSAGE"), (1, u "SUBSCRIBED_MESSAGE"), (1, u "SUBSCRIBER_CHANGE"), (1, u "SESSION_STATE"), (1, u "HISTORY_PAYLOAD_BYTES"), (0, u "GROUP_BYTES"), (1, u "GROUP_HEADER_BYTES"), (0, u "MOST_GROUP_RECORD_BYTES"), (1, u "SEQUENCE_NUMBER_AT"), (0, u "ENQUEUED_TIME_AT"), (0, u "TIME_TO_LIVE_AT")] 103

def k2m0 : Method := { name := "<init>", desc := "()V", sig := { parameters := [], returnType := none }, accessFlags := 2, code := none }
def k2c1 : Code := { maxStack := 2, maxLocals := 1, code := prog_52_method_14_code, exceptionTable := #[], attributes := #[] }
def k2m1 : Method := { name := "isPayloadLength", desc := "(I)Z", sig := { parameters := [.int], returnType := some .boolean }, accessFlags := 8, code := some k2c1 }
/-- com/example/porthcurno/porthcurno/store/LogRecord -/
def k2 : Class := { plain "com/example/porthcurno/porthcurno/store/LogRecord" (some 0) with
  accessFlags := 48
  interfaces := #[]
  cf := some (fileOf pool2 1 #[.nestMembers #[391, 264]] #[{ accessFlags := 2, nameIndex := 7, descriptorIndex := 8, attributes := #[] }, { accessFlags := 8, nameIndex := 281, descriptorIndex := 282, attributes := #[] }] 48 4 #[] #[{ accessFlags := 24, nameIndex := 426, descriptorIndex := 427, attributes := #[] }, { accessFlags := 24, nameIndex := 430, descriptorIndex := 427, attributes := #[] }, { accessFlags := 24, nameIndex := 431, descriptorIndex := 432, attributes := #[] }, { accessFlags := 24, nameIndex := 434, descriptorIndex := 432, attributes := #[] }, { accessFlags := 24, nameIndex := 436, descriptorIndex := 432, attributes := #[] }, { accessFlags := 24, nameIndex := 438, descriptorIndex := 432, attributes := #[] }, { accessFlags := 24, nameIndex := 440, descriptorIndex := 432, attributes := #[] }, { accessFlags := 24, nameIndex := 442, descriptorIndex := 432, attributes := #[] }, { accessFlags := 24, nameIndex := 444, descriptorIndex := 432, attributes := #[] }, { accessFlags := 24, nameIndex := 446, descriptorIndex := 432, attributes := #[] }, { accessFlags := 24, nameIndex := 447, descriptorIndex := 432, attributes := #[] }, { accessFlags := 24, nameIndex := 449, descriptorIndex := 432, attributes := #[] }, { accessFlags := 24, nameIndex := 451, descriptorIndex := 432, attributes := #[] }, { accessFlags := 24, nameIndex := 453, descriptorIndex := 432, attributes := #[] }, { accessFlags := 24, nameIndex := 455, descriptorIndex := 432, attributes := #[] }, { accessFlags := 24, nameIndex := 457, descriptorIndex := 427, attributes := #[] }, { accessFlags := 24, nameIndex := 458, descriptorIndex := 427, attributes := #[] }, { accessFlags := 24, nameIndex := 460, descriptorIndex := 427, attributes := #[] }, { accessFlags := 24, nameIndex := 461, descriptorIndex := 427, attributes := #[] }, { accessFlags := 26, nameIndex := 463, descriptorIndex := 427, attributes := #[] }, { accessFlags := 26, nameIndex := 464, descriptorIndex := 427, attributes := #[] }, { accessFlags := 26, nameIndex := 465, descriptorIndex := 427, attributes := #[] }])
  fields := #[{ name := "HEADER_BYTES", type := .int, accessFlags := 24, slot := 0, constantValue := 0 }, { name := "MAX_PAYLOAD_BYTES", type := .int, accessFlags := 24, slot := 1, constantValue := 0 }, { name := "MESSAGE", type := .byte, accessFlags := 24, slot := 2, constantValue := 0 }, { name := "REMOVAL", type := .byte, accessFlags := 24, slot := 3, constantValue := 0 }, { name := "HISTORY", type := .byte, accessFlags := 24, slot := 4, constantValue := 0 }, { name := "DEAD_LETTER", type := .byte, accessFlags := 24, slot := 5, constantValue := 0 }, { name := "AMQP_MESSAGE", type := .byte, accessFlags := 24, slot := 6, constantValue := 0 }, { name := "REMOVALS", type := .byte, accessFlags := 24, slot := 7, constantValue := 0 }, { name := "DEFERRAL", type := .byte, accessFlags := 24, slot := 8, constantValue := 0 }, { name := "GROUP", type := .byte, accessFlags := 24, slot := 9, constantValue := 0 }, { name := "EXPIRING_MESSAGE", type := .byte, accessFlags := 24, slot := 10, constantValue := 0 }, { name := "EXPIRING_AMQP_MESSAGE", type := .byte, accessFlags := 24, slot := 11, constantValue := 0 }, { name := "SUBSCRIBED_MESSAGE", type := .byte, accessFlags := 24, slot := 12, constantValue := 0 }, { name := "SUBSCRIBER_CHANGE", type := .byte, accessFlags := 24, slot := 13, constantValue := 0 }, { name := "SESSION_STATE", type := .byte, accessFlags := 24, slot := 14, constantValue := 0 }, { name := "HISTORY_PAYLOAD_BYTES", type := .int, accessFlags := 24, slot := 15, constantValue := 0 }, { name := "GROUP_BYTES", type := .int, accessFlags := 24, slot := 16, constantValue := 0 }, { name := "GROUP_HEADER_BYTES", type := .int, accessFlags := 24, slot := 17, constantValue := 0 }, { name := "MOST_GROUP_RECORD_BYTES", type := .int, accessFlags := 24, slot := 18, constantValue := 0 }, { name := "SEQUENCE_NUMBER_AT", type := .int, accessFlags := 26, slot := 19, constantValue := 0 }, { name := "ENQUEUED_TIME_AT", type := .int, accessFlags := 26, slot := 20, constantValue := 0 }, { name := "TIME_TO_LIVE_AT", type := .int, accessFlags := 26, slot := 21, constantValue := 0 }]
  methods := #[k2m0, k2m1]
  instanceTypes := #[]
  staticTypes := #[.int, .int, .byte, .byte, .byte, .byte, .byte, .byte, .byte, .byte, .byte, .byte, .byte, .byte, .byte, .int, .int, .int, .int, .int, .int, .int]
  resolved := Array.replicate 569 none
  statics := none }

def pool3 : Array CpInfo := pool [(1, u "java/lang/Cloneable"), (0, .class_ 1), (0, u "java/lang/Object"), (0, .class_ 3)] 3

/-- java/lang/Cloneable -/
def k3 : Class := { plain "java/lang/Cloneable" (some 0) with
  accessFlags := 1537
  interfaces := #[]
  cf := some (fileOf pool3 2 #[] #[] 1537 4 #[] #[])
  fields := #[]
  methods := #[]
  instanceTypes := #[]
  staticTypes := #[]
  resolved := Array.replicate 8 none
  statics := none }

def pool4 : Array CpInfo := pool [(1, u "java/io/Serializable"), (0, .class_ 1), (0, u "java/lang/Object"), (0, .class_ 3)] 3

/-- java/io/Serializable -/
def k4 : Class := { plain "java/io/Serializable" (some 0) with
  accessFlags := 1537
  interfaces := #[]
  cf := some (fileOf pool4 2 #[] #[] 1537 4 #[] #[])
  fields := #[]
  methods := #[]
  instanceTypes := #[]
  staticTypes := #[]
  resolved := Array.replicate 8 none
  statics := none }

/-- the primitive byte -/
def k5 : Class := { plain "byte" none with kind := .primitive 'B', accessFlags := 0x411 }
/-- [B -/
def k6 : Class := { plain "[B" (some 0) with kind := .array 5 .byte, interfaces := #[3, 4], accessFlags := 1041 }

/-- the primitive int -/
def k7 : Class := { plain "int" none with kind := .primitive 'I', accessFlags := 0x411 }
/-- [I -/
def k8 : Class := { plain "[I" (some 0) with kind := .array 7 .int, interfaces := #[3, 4], accessFlags := 1041 }

def heap : Heap := #[]
def classes : Array Class := #[k0, k1, k2, k3, k4, k5, k6, k7, k8]
def interned : List (Array UInt16 × Addr) := []
def slotsUsed : Nat := 0
def theMethod : MethodId := ⟨1, 2⟩
def args0 : Array Value := #[.int 5, .int 7]
def aboutOver (below : List Frame) : State where
  vm := { classes := classes, interned := interned.toArray }
  heap := heap
  slotsUsed := slotsUsed
  threads := #[{ frames := .invoking theMethod args0 :: below }]
def below0 : List Frame := [.native { method := ⟨0, 0⟩, args := #[] }]
def about1 : State := aboutOver below0
def p0 : Program := .bare "" "" ""
def e0 : Env := launch0.env 0 0 0
theorem w_frames : about1.frames = Frame.invoking theMethod args0 :: below0 := rfl
set_option maxRecDepth 65536 in
theorem w_args : argsFit about1.vm theMethod args0 = true := by decide +kernel
set_option maxRecDepth 65536 in
theorem w_heap : heapFits about1 = true := by decide +kernel
set_option maxRecDepth 65536 in
theorem w_runnable : about1.curStatus? = some .runnable := by decide +kernel
set_option maxRecDepth 65536 in
theorem w_alone : about1.alone = true := by decide +kernel
set_option maxRecDepth 65536 in
theorem w_named : about1.methodNamed? x = some theMethod := by decide +kernel
set_option maxRecDepth 65536 in
theorem w_hears : about1.hears theMethod below0 = true := by decide +kernel
set_option maxRecDepth 65536 in
theorem w_ripe : about1.ripe theMethod args0 below0 = true := by decide +kernel
theorem w_running : about1.status = .running := rfl
set_option maxRecDepth 65536 in
theorem w_room : about1.hasRoom e0.platform room_1 = true :=
  launch0.hasRoom_least _ room_1 (by decide +kernel) (by decide +kernel) (by decide +kernel) (by decide +kernel) (by decide +kernel) (by decide +kernel)
theorem allAtoms_all (ts : List Jvm.Cond) (a : Array Jvm.Value) (st : Jvm.State) : (allAtoms ts).before a st = ts.all (fun c => c.before a st) := by
  induction ts with
  | nil => rfl
  | cons c t ih =>
    show (Jvm.Cond.and c (allAtoms t)).before a st = _
    rw [Jvm.Cond.before_and, ih, List.all_cons]
def words1 : List Jvm.Cond := Jvm.Cond.code x code maxLocals ret :: tables_1
/-- a 'code' word, met by the world's own term for the bytes: nothing is compared byte by byte -/
theorem code_word {y : MethodName} {bytes : ByteArray} {mx : Nat} {rt : Option FieldType} {a : Array Value} {s : State} {m : MethodId} {meth : Method} {c : Code} (h1 : s.methodNamed? y = some m) (h2 : s.vm.method? m = some meth) (h3 : meth.code = some c) (h4 : c.code = bytes)
    (h5 : (c.maxLocals == mx && c.exceptionTable.isEmpty && decide (c.maxStack ≤ mostOperands) && decide (meth.sig.returnType = rt) && !meth.locks && decide (parseMethodDescriptor y.desc = some meth.sig)) = true) : (Jvm.Cond.code y bytes mx rt).before a s = true := by
  simp only [Bool.and_eq_true, beq_iff_eq, Bool.not_eq_true', decide_eq_true_eq] at h5
  obtain ⟨⟨⟨⟨⟨g1, g2⟩, g3⟩, g4⟩, g5⟩, g6⟩ := h5
  simp [Cond.before, Cond.holds, Cond.value, h1, h2, h3, h4, g1, g2, g3, g4, g5, g6]
def isCode : Jvm.Cond → Bool
  | .code _ _ _ _ => true
  | _ => false
theorem all_split {L : List Jvm.Cond} {P : Jvm.Cond → Bool} (h1 : L.all (fun c => isCode c || P c) = true) (h2 : ∀ c ∈ L.filter isCode, P c = true) : L.all P = true := by
  refine List.all_eq_true.mpr fun c hc => ?_
  have h := List.all_eq_true.mp h1 c hc
  rcases Bool.eq_false_or_eq_true (isCode c) with hi | hi
  · exact h2 c (List.mem_filter.mpr ⟨hc, hi⟩)
  · simpa [hi] using h
set_option maxRecDepth 65536 in
theorem w_c0 : (Jvm.Cond.code x code maxLocals ret).before args0 about1 = true := code_word (m := ⟨1, 2⟩) (meth := k1m2) (c := k1c2) (by decide +kernel) rfl rfl rfl (by decide +kernel)
set_option maxRecDepth 65536 in
theorem w_c1 : (Jvm.Cond.code ({ cls := "com/example/porthcurno/porthcurno/store/LogRecord", name := "isPayloadLength", desc := "(I)Z" } : Jvm.MethodName) prog_52_method_14_code (1 : Nat) (Option.some Jvm.ClassFile.FieldType.boolean)).before args0 about1 = true := code_word (m := ⟨2, 1⟩) (meth := k2m1) (c := k2c1) (by decide +kernel) rfl rfl rfl (by decide +kernel)
set_option maxRecDepth 65536 in
theorem w_c2 : (Jvm.Cond.code ({ cls := "com/example/porthcurno/porthcurno/store/LogRecordIsPayloadLengthPinLaw", name := "reference", desc := "(I)Z" } : Jvm.MethodName) method_2_code (3 : Nat) (Option.some Jvm.ClassFile.FieldType.boolean)).before args0 about1 = true := code_word (m := ⟨1, 1⟩) (meth := k1m1) (c := k1c1) (by decide +kernel) rfl rfl rfl (by decide +kernel)
def codes1 : List Jvm.Cond := [Jvm.Cond.code x code maxLocals ret, Jvm.Cond.code ({ cls := "com/example/porthcurno/porthcurno/store/LogRecord", name := "isPayloadLength", desc := "(I)Z" } : Jvm.MethodName) prog_52_method_14_code (1 : Nat) (Option.some Jvm.ClassFile.FieldType.boolean), Jvm.Cond.code ({ cls := "com/example/porthcurno/porthcurno/store/LogRecordIsPayloadLengthPinLaw", name := "reference", desc := "(I)Z" } : Jvm.MethodName) method_2_code (3 : Nat) (Option.some Jvm.ClassFile.FieldType.boolean)]
set_option maxRecDepth 65536 in
theorem codes_eq : words1.filter isCode = codes1 := rfl
theorem w_codes : ∀ c ∈ words1.filter isCode, c.before args0 about1 = true := by
  rw [codes_eq]
  intro c hc
  simp only [codes1, List.mem_cons, List.not_mem_nil, or_false] at hc
  rcases hc with rfl | rfl | rfl
  · exact w_c0
  · exact w_c1
  · exact w_c2
set_option maxRecDepth 65536 in
theorem w_t1 : words1.all (fun c => isCode c || c.before args0 about1) = true := by decide +kernel
theorem w_tables : (allAtoms (Jvm.Cond.code x code maxLocals ret :: tables_1)).before args0 about1 = true := by
  rw [allAtoms_all]
  show words1.all (fun c => c.before args0 about1) = true
  refine all_split ?_ w_codes
  rw [w_t1]
set_option maxRecDepth 65536 in
theorem w_case : (Jvm.Cond.and given_1 narrow_1).before args0 about1 = true := by decide +kernel
theorem w_applies : (headSpec (Jvm.Cond.code x code maxLocals ret :: tables_1) room_1).applies x e0.platform about1 = true :=
  (Spec.applies_iff w_frames).mpr ⟨w_running, w_runnable, w_alone, w_named, w_hears, w_ripe, w_room, w_tables⟩
theorem atStart : AtStart classFile x code maxLocals ret World_1 tables_1 room_1 Calls_1 rest_1 Pre_1 launch0 p0 e0 about1 theMethod args0 below0 :=
  ⟨lists_1, trivial, launch0.admits_env _ _ _, launch0.least_env, fairChoices_fair.cas, fairChoices_fair.clock, w_frames, w_args, w_heap, w_applies, trivial, trivial, w_case⟩
end start1
theorem witness_1 : WitnessClaimed_1 := ⟨start1.p0, start1.e0, start1.about1, start1.theMethod, start1.args0, start1.below0, start1.atStart⟩
end Jvm.Pilot.@@N@@
