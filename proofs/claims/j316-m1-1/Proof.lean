import JvmDerived
import JvmDerived.Pilot.@@N@@Statement
import JvmDerived.Pilot.@@N@@Code
set_option linter.unusedVariables false
set_option linter.unusedSimpArgs false
namespace Jvm.RoadKit
open Sem ClassFile Op Lib Jvm.Stand Jvm.Free Jvm.LawKit
section New
variable {p : Program} {l : Launch} {e : Env} {R : Room} {s : State} {m : MethodId} {args : Array Value} {below : List Frame} {meth : Method} {c : Code} {T : State} {locs : List Loc} {cells slots : Nat}
theorem retI (X : Stand p l e R s m args below meth c T locs cells slots) (hx : p.tables.exec = Jvm.exec) {pc : Nat} {Ls : Array Slot} {z : Int32} {rest : List Value} (hret : meth.sig.returnType = some .int) (hd : decode c.code pc = .ok (.ireturn, 1)) {fs : List Frame}
    (hl : ∀ (f : JFrame) (acts : List Action), f.method = m → f.locked = none → f.entered = [] → (doReturn e (T.setTop f) acts (some (.int z))).1 = T.setFrames fs) : Steps p.tables e below (T.setTop (mkF m pc Ls (.int z :: rest))) (T.setFrames fs) := by
  have hm' : T.vm.method? m = some meth := X.method'
  have hn : narrow .int (.int z) = .int z := rfl
  show Steps p.tables e below (T.setTop { method := m, pc := pc, locals := Ls, stack := _ :: rest, locked := none }) _
  jvm_step X.here [X.here.top, hx, hd, hm', hret, hn]
  first | (intro acts; rw [hl _ acts rfl rfl rfl]) | rw [hl _ _ rfl rfl rfl]
  exact Steps.refl _
theorem own_retJ (X : Stand p l e R s m args below meth c T locs cells slots) (hx : p.tables.exec = Jvm.exec) {pc : Nat} {Ls : Array Slot} {z : Int64} {rest : List Value} (hret : meth.sig.returnType = some .long) (hd : decode c.code pc = .ok (.lreturn, 1)) {fs : List Frame}
    (hl : ∀ (f : JFrame) (acts : List Action), f.method = m → f.locked = none → f.entered = [] → (doReturn e (T.setTop f) acts (some (.long z))).1 = T.setFrames fs) : Steps p.tables e below (T.setTop (mkF m pc Ls (.long z :: rest))) (T.setFrames fs) :=
  retOut X hx hret rfl (Or.inr (Or.inl ⟨rfl, rfl, z, rfl⟩)) hd hl
theorem own_retR (X : Stand p l e R s m args below meth c T locs cells slots) (hx : p.tables.exec = Jvm.exec) {pc : Nat} {Ls : Array Slot} {w : Value} {t : FieldType} {rest : List Value} (hret : meth.sig.returnType = some t) (ht : t.isReference = true) (hw : w.isRef = true) (hd : decode c.code pc = .ok (.areturn, 1)) {fs : List Frame}
    (hl : ∀ (f : JFrame) (acts : List Action), f.method = m → f.locked = none → f.entered = [] → (doReturn e (T.setTop f) acts (some w)).1 = T.setFrames fs) : Steps p.tables e below (T.setTop (mkF m pc Ls (w :: rest))) (T.setFrames fs) :=
  retOut X hx hret (by cases t <;> first | rfl | cases ht) (Or.inr (Or.inr (Or.inr (Or.inr ⟨rfl, ht, hw⟩)))) hd hl
theorem own_lrem {tb : Tables} [Ours tb] {e : Env} {below : List Frame} {T target : State} {m : MethodId} {c : Code} {g : JFrame} (h : At T m c below) (hx : tb.exec = Jvm.exec) (hg : g.method = m) {x y : Int64} {rest : List Value} (hd : decode c.code g.pc = .ok (.lrem, 1)) (hs : g.stack = .long y :: .long x :: rest) (hy : y ≠ 0)
    (hr : Steps tb e below (T.setTop { g with pc := g.pc + 1, stack := .long (x % y) :: rest }) target) : Steps tb e below (T.setTop g) target :=
  XS.lrem h hx hg hd hs hy (by rw [lrem_mod]; exact hr)
theorem own_go {tb : Tables} {e : Env} {below : List Frame} {A B : State} {P : State → Outcome → Prop} (h : ∀ t, Steps tb e below B t → Steps tb e below A t) (k : ∃ s₂ o, Steps tb e below B s₂ ∧ P s₂ o) : ∃ s₂ o, Steps tb e below A s₂ ∧ P s₂ o := by
  obtain ⟨s₂, o, h1, h2⟩ := k
  exact ⟨s₂, o, h _ h1, h2⟩
theorem own_cut {α : Type} {C : α → Prop} {B : α → State} {tb : Tables} {e : Env} {below : List Frame} {A : State} {P : State → Outcome → Prop} (h : ∀ a, C a → ∃ s₂ o, Steps tb e below (B a) s₂ ∧ P s₂ o) (k : (∀ a, C a → ∃ s₂ o, Steps tb e below (B a) s₂ ∧ P s₂ o) → ∃ s₂ o, Steps tb e below A s₂ ∧ P s₂ o) : ∃ s₂ o, Steps tb e below A s₂ ∧ P s₂ o := k h
theorem own_narZ (P : Prop) [Decidable P] : narrow .boolean (.int (if P then (1 : Int32) else 0)) = .int (if P then (1 : Int32) else 0) := by split <;> rfl
theorem own_fitZ (P : Prop) [Decidable P] : fits .boolean (.int (if P then (1 : Int32) else 0)) = true := by split <;> rfl
theorem own_retZ (P : Prop) [Decidable P] : (some (.int (nar .boolean (if P then (1 : Int32) else 0))) : Option Value) = some (.int (if P then (1 : Int32) else 0)) := by split <;> rfl
theorem own_staKeep {Z : State} {h h' : Heap} {C n d : String} {v : Value} {ws : List Addr} (F : Sta Z h C n d v) (K : Keep h h' ws) (q : ∀ x ∈ ws, ∃ c : Cell, h[x]? = some c ∧ c.vm.isStatics = false) : Sta Z h' C n d v := by
  obtain ⟨cf, i, k, f, st, cell, h1, h2, h3, h4, h5, h6, h7⟩ := F
  refine ⟨cf, i, k, f, st, cell, h1, h2, h3, h4, K.2.1 _ _ h5 fun hm => ?_, h6, h7⟩
  obtain ⟨c', g1, g2⟩ := q _ hm
  cases h5.symm.trans g1
  rw [h6] at g2
  cases g2
theorem own_arrKeep {Z : State} {h h' : Heap} {a : Addr} {c : Cell} {ty : FieldType} {ws : List Addr} (F : Arr Z h a c ty) (K : Keep h h' ws) (q : a ∉ ws) : Arr Z h' a c ty := ⟨K.2.1 _ _ F.1 q, F.2⟩
theorem own_ns0 {h : Heap} : ∀ x ∈ ([] : List Addr), ∃ c : Cell, h[x]? = some c ∧ c.vm.isStatics = false := fun _ q => nomatch q
theorem own_nsS {h : Heap} {y : Addr} {L : List Addr} (q : ∃ c : Cell, h[y]? = some c ∧ c.vm.isStatics = false) (r : ∀ x ∈ L, ∃ c : Cell, h[x]? = some c ∧ c.vm.isStatics = false) : ∀ x ∈ y :: L, ∃ c : Cell, h[x]? = some c ∧ c.vm.isStatics = false := fun x z => (List.mem_cons.mp z).elim (fun u => u ▸ q) (r x)
theorem own_nsE {Z : State} {h : Heap} {a : Addr} {C : String} (F : Exa Z h a C) : ∃ c : Cell, h[a]? = some c ∧ c.vm.isStatics = false := by
  obtain ⟨c, k, h1, h2, h3, h4, h5⟩ := F
  exact ⟨c, h1, h4⟩
theorem own_nsV {Z : State} {h : Heap} {a : Addr} {k : ClassId} {ty : FieldType} {z : Int32} {vs : List Value} {d : Value} (F : Arv Z h a k ty z vs d) : ∃ c : Cell, h[a]? = some c ∧ c.vm.isStatics = false := by
  obtain ⟨c, A, r⟩ := F
  exact ⟨c, A.1, A.plain⟩
theorem own_since (s : State) (n : Nat) : s.Since s.vm n := ⟨State.Warmed39.refl s, fun j p hj hp => absurd (Array.getElem?_eq_some_iff.mp hp).1 (Nat.not_lt.mpr hj)⟩
end New
end Jvm.RoadKit
namespace Jvm.Pilot.@@N@@
open Jvm Jvm.ClassFile Sem Op Lib Jvm.Free Jvm.Stand Jvm.LawKit Jvm.RoadKit Bundle Jvm.Pilot.@@N@@.Jvm.D
theorem own_fldStart {Z : State} {args : Array Value} {t : Term} {C n d : String} {k : Int32} {a : Addr} (ev : t.eval args Z none [] Z = some (.ref a)) (h : (Jvm.Cond.eq (.field t C n d) (.int k)).value args Z none Z [] = some true) : Fld Z Z.heap a C n d (.int k) := by
  refine Fld.start ?_
  have e1 := fld_at (C := C) (n := n) (dd := d) ev
  cases hf : Z.fieldOf? a C n d with
  | none => rw [hf] at e1; simp only [Cond.value, e1, Term.int_eval] at h; cases h
  | some v =>
    rw [hf] at e1
    simp only [Cond.value, e1, Term.int_eval] at h
    cases v <;> simp at h
    rw [h]
theorem own_n (a : Int32) : ¬ (a &&& (2147483647 : Int32)) < 0 := by
  have e1 := c_mask a 2147483647 31 (by decide) (by decide)
  rw [Int32.lt_iff_toInt_lt]
  have l1 : (0 : Int32).toInt = 0 := by decide
  omega
theorem own_nz (n : Int32) (hn : ¬ n < 0) : ((n.toInt64) + (1 : Int64)) ≠ 0 := by
  intro q
  have e := congrArg Int64.toInt q
  have e1 := c_ladd n.toInt64 1
  have e2 := c_i2l n
  have e3 := rng32 n
  have e4 := rng64 (n.toInt64 + 1)
  rw [Int32.lt_iff_toInt_lt] at hn
  have l1 : (1 : Int64).toInt = 1 := by decide
  have l2 : (0 : Int64).toInt = 0 := by decide
  have l3 : (0 : Int32).toInt = 0 := by decide
  omega
theorem own_k (b n : Int32) (hn : ¬ n < 0) : ¬ (((((b &&& (2147483647 : Int32)).toInt64) % ((n.toInt64) + (1 : Int64))).toInt32)) < 0 ∧ ¬ n < (((((b &&& (2147483647 : Int32)).toInt64) % ((n.toInt64) + (1 : Int64))).toInt32)) := by
  have e0 := c_mask b 2147483647 31 (by decide) (by decide)
  have e1 := c_ladd n.toInt64 1
  have e2 := c_i2l n
  have e3 := rng32 n
  have e4 := rng64 (n.toInt64 + 1)
  have e5 := c_i2l (b &&& 2147483647)
  rw [Int32.lt_iff_toInt_lt] at hn
  have l1 : (1 : Int64).toInt = 1 := by decide
  have l3 : (0 : Int32).toInt = 0 := by decide
  have e6 : (n.toInt64 + 1).toInt = n.toInt + 1 := by omega
  have e7 : (((b &&& (2147483647 : Int32)).toInt64) % ((n.toInt64) + (1 : Int64))).toInt = (b &&& (2147483647 : Int32)).toInt % (n.toInt + 1) := by
    rw [Int64.toInt_mod, e5, e6, Int.tmod_eq_emod_of_nonneg (by omega)]
  have e8 := Int.emod_nonneg (b &&& (2147483647 : Int32)).toInt (show n.toInt + 1 ≠ 0 by omega)
  have e9 := Int.emod_lt_of_pos (b &&& (2147483647 : Int32)).toInt (show 0 < n.toInt + 1 by omega)
  have e10 := c_l2i (((b &&& (2147483647 : Int32)).toInt64) % ((n.toInt64) + (1 : Int64)))
  have e11 := rng32 ((((b &&& (2147483647 : Int32)).toInt64) % ((n.toInt64) + (1 : Int64))).toInt32)
  rw [Int32.lt_iff_toInt_lt, Int32.lt_iff_toInt_lt]
  omega
theorem own_sub0 (k n : Int32) (h : k = n) : (n - k) = (0 : Int32) := by subst h; exact Int32.sub_self k
theorem own_out (k n : Int32) (h0 : ¬ k < 0) (h1 : ¬ n < k) (h2 : ¬ k = n) : (0 : Int32) < (n - k) := by
  have e1 := c_isub n k
  have e2 := rng32 (n - k)
  have e3 := rng32 n
  rw [← Int32.toInt_inj] at h2
  rw [Int32.lt_iff_toInt_lt] at *
  have l3 : (0 : Int32).toInt = 0 := by decide
  omega
theorem own_nez (k n : Int32) (h : (0 : Int32) < (n - k)) : ¬ (n - k) = (0 : Int32) := by
  intro q; rw [q] at h; exact absurd h (by decide)
theorem own_pos (k : Int32) (h0 : ¬ k < 0) (h : ¬ k = (0 : Int32)) : (0 : Int32) < k := by
  rw [← Int32.toInt_inj] at h
  rw [Int32.lt_iff_toInt_lt] at *
  have l3 : (0 : Int32).toInt = 0 := by decide
  omega
theorem pn_15 : plainName "com/example/porthcurno/porthcurno/service/QueueState$Status" = true := by first | (simp [plainName, overriddenIn]; done) | decide +kernel
theorem d1_0 : decode prog_36_method_4_code 0 = .ok (.iload_n 0, 1) := by decide +kernel
theorem d1_1 : decode prog_36_method_4_code 1 = .ok (.iload_n 1, 1) := by decide +kernel
theorem d1_2 : decode prog_36_method_4_code 2 = .ok (.if_icmp .ne 10, 3) := by decide +kernel
theorem d1_5 : decode prog_36_method_4_code 5 = .ok (.getstatic 3, 3) := by decide +kernel
theorem d1_8 : decode prog_36_method_4_code 8 = .ok (.astore_n 2, 1) := by decide +kernel
theorem d1_9 : decode prog_36_method_4_code 9 = .ok (.goto 18, 3) := by decide +kernel
theorem d1_12 : decode prog_36_method_4_code 12 = .ok (.iload_n 0, 1) := by decide +kernel
theorem d1_13 : decode prog_36_method_4_code 13 = .ok (.ifCond .ne 10, 3) := by decide +kernel
theorem d1_16 : decode prog_36_method_4_code 16 = .ok (.getstatic 10, 3) := by decide +kernel
theorem d1_19 : decode prog_36_method_4_code 19 = .ok (.astore_n 2, 1) := by decide +kernel
theorem d1_20 : decode prog_36_method_4_code 20 = .ok (.goto 7, 3) := by decide +kernel
theorem d1_23 : decode prog_36_method_4_code 23 = .ok (.getstatic 7, 3) := by decide +kernel
theorem d1_26 : decode prog_36_method_4_code 26 = .ok (.astore_n 2, 1) := by decide +kernel
theorem d1_27 : decode prog_36_method_4_code 27 = .ok (.aload_n 2, 1) := by decide +kernel
theorem d1_28 : decode prog_36_method_4_code 28 = .ok (.areturn, 1) := by decide +kernel
theorem ef_1 (m : MethodId) (p1 : Int32) (p2 : Int32) : entryFrame m #[(.int p1), (.int p2)] 3 = mkF m 0 #[.val (.int p1), .val (.int p2), .unset] [] := by first | (simp [entryFrame, mkF, argsToLocals, Value.category]; done) | rfl
def Q1 (Z : State) (p1 : Int32) (p2 : Int32) (w_ACTIVE : Addr) (w_UNAVAILABLE : Addr) (w_LIMITED : Addr) (h0 : Heap) (n0 : Nat) (v : Option Value) (h : Heap) (L : List Loc) : Prop := v = some (.ref (if p1 = p2 then w_ACTIVE else if p1 = (0 : Int32) then w_UNAVAILABLE else w_LIMITED)) ∧ Fr n0 L ∧ h = h0
set_option maxRecDepth 65536 in
set_option maxHeartbeats 40000000 in
theorem rm1 (l : Launch) (Z : State) (a0 : Array Value) (hw : ∀ d ∈ tables_1, d.before a0 Z = true) (ws : List Jvm.Cond) (p1 : Int32) (p2 : Int32) (w_ACTIVE : Addr) (w_UNAVAILABLE : Addr) (w_LIMITED : Addr) (h0 : Heap) (n0 : Nat) (Z0 : n0 ≤ h0.size) (S_ACTIVE : Sta Z h0 "com/example/porthcurno/porthcurno/service/QueueState$Status" "ACTIVE" "Lcom/example/porthcurno/porthcurno/service/QueueState$Status;" (.ref w_ACTIVE)) (S_UNAVAILABLE : Sta Z h0 "com/example/porthcurno/porthcurno/service/QueueState$Status" "UNAVAILABLE" "Lcom/example/porthcurno/porthcurno/service/QueueState$Status;" (.ref w_UNAVAILABLE)) (S_LIMITED : Sta Z h0 "com/example/porthcurno/porthcurno/service/QueueState$Status" "LIMITED" "Lcom/example/porthcurno/porthcurno/service/QueueState$Status;" (.ref w_LIMITED)) :
    MetFree l (⟨"com/example/porthcurno/porthcurno/service/QueueState$Status", "of", "(II)Lcom/example/porthcurno/porthcurno/service/QueueState$Status;"⟩ : MethodName) (head1 (Jvm.Cond.code (⟨"com/example/porthcurno/porthcurno/service/QueueState$Status", "of", "(II)Lcom/example/porthcurno/porthcurno/service/QueueState$Status;"⟩ : MethodName) prog_36_method_4_code 3 (some (.object "com/example/porthcurno/porthcurno/service/QueueState$Status")) :: ws) ({ frames := 0, cells := 0, slots := 0, locals := 0 } : Room)) (fun a U => a = #[(.int p1), (.int p2)] ∧ Z.Warmed39 U.vm ∧ U.heap = h0) (fun _ _ _ _ _ => True) (fun _ U o U' => ∃ v L, o = .returned v ∧ Q1 Z p1 p2 w_ACTIVE w_UNAVAILABLE w_LIMITED h0 n0 v U'.heap L ∧ FrameEnd U o U' L ({ frames := 0, cells := 0, slots := 0, locals := 0 } : Room).cells ({ frames := 0, cells := 0, slots := 0, locals := 0 } : Room).slots) := by
  refine MetFree.of_bodySF (plainFor_of_name pn_15) hisR ?_
  intro p e s m args below meth c s₁ Bd hml0 hP hK
  obtain ⟨rfl, hZ, hh⟩ := hP
  have hx := Bd.exec
  have hby := Bd.bytes
  have hml : c.maxLocals = 3 := hml0
  have hown : s.vm.findClass "com/example/porthcurno/porthcurno/service/QueueState$Status" = some m.cls := findClass_of_methodNamed Bd.named
  have hnm := (name_of_methodNamed Bd.named Bd.method).1
  have X0 : Stand p l e ({ frames := 0, cells := 0, slots := 0, locals := 0 } : Room) s m #[(.int p1), (.int p2)] below meth c s₁ [] 0 0 := Stand.of_body Bd
  have e0 : s₁.heap = h0 := by rw [← hh, Bd.state]; rfl
  have N0 := Fr.nil n0
  refine own_go (B := s₁.setTop (mkF m 0 #[.val (.int p1), .val (.int p2), .unset] [])) (fun t k => castTop (ef_1 m p1 p2) k) ?_
  refine own_go (B := s₁.setTop (mkF m 2 #[.val (.int p1), .val (.int p2), .unset] [(.int p2), (.int p1)])) (fun t k => ?_) ?_
  · show Steps p.tables e below (s₁.setTop (mkF m 0 #[.val (.int p1), .val (.int p2), .unset] [])) _
    refine XS.iloadN X0.here hx rfl (hb hby d1_0) rfl ?_
    show Steps p.tables e below (s₁.setTop (mkF m 1 #[.val (.int p1), .val (.int p2), .unset] [(.int p1)])) _
    refine XS.iloadN X0.here hx rfl (hb hby d1_1) rfl ?_
    show Steps p.tables e below (s₁.setTop (mkF m 2 #[.val (.int p1), .val (.int p2), .unset] [(.int p2), (.int p1)])) _
    exact k
  by_cases hc6 : p1 = p2
  · refine own_go (B := s₁.setTop (mkF m 5 #[.val (.int p1), .val (.int p2), .unset] [])) (fun t k => ?_) ?_
    · show Steps p.tables e below (s₁.setTop (mkF m 2 #[.val (.int p1), .val (.int p2), .unset] [(.int p2), (.int p1)])) _
      refine XS.icmpNo X0.here hx rfl (hb hby d1_2) rfl (teq hc6).2 ?_
      show Steps p.tables e below (s₁.setTop (mkF m 5 #[.val (.int p1), .val (.int p2), .unset] [])) _
      exact k
    obtain ⟨T7, X7, e7, st7⟩ := getS2 X0 hx hZ hown (host := "") (Or.inl (hw _ (List.mem_of_getElem? (i := 5) rfl))) Via.refl e0 S_ACTIVE (g := (mkF m 5 #[.val (.int p1), .val (.int p2), .unset] [])) rfl (hb hby d1_5)
    refine own_go st7 ?_
    refine own_go (B := T7.setTop (mkF m 28 #[.val (.int p1), .val (.int p2), .val (.ref w_ACTIVE)] [(.ref w_ACTIVE)])) (fun t k => ?_) ?_
    · show Steps p.tables e below (T7.setTop (mkF m 8 #[.val (.int p1), .val (.int p2), .unset] [(.ref w_ACTIVE)])) _
      refine XS.astoreN X7.here hx rfl (hb hby d1_8) rfl rfl (l' := #[.val (.int p1), .val (.int p2), .val (.ref w_ACTIVE)]) rfl ?_
      show Steps p.tables e below (T7.setTop (mkF m 9 #[.val (.int p1), .val (.int p2), .val (.ref w_ACTIVE)] [])) _
      refine XS.goto X7.here hx rfl (pc0 := 9) (pc' := 27) rfl (hb hby d1_9) (by decide) (by decide) ?_
      show Steps p.tables e below (T7.setTop (mkF m 27 #[.val (.int p1), .val (.int p2), .val (.ref w_ACTIVE)] [])) _
      refine XS.aloadN X7.here hx rfl (hb hby d1_27) rfl rfl ?_
      show Steps p.tables e below (T7.setTop (mkF m 28 #[.val (.int p1), .val (.int p2), .val (.ref w_ACTIVE)] [(.ref w_ACTIVE)])) _
      exact k
    obtain ⟨fs, hr, hrun, hended, hW, hsame⟩ := X7.leave (v := some (.ref w_ACTIVE)) (fun h => by rw [Bd.returns] at h; cases h)
    refine ⟨_, _, ?_, hrun, hended, _, _, rfl, ?_, ⟨_, rfl⟩, hW, hsame.mono (by decide) (by decide)⟩
    · exact own_retR X7 hx Bd.returns rfl rfl (hb hby d1_28) hr
    · show Q1 Z p1 p2 w_ACTIVE w_UNAVAILABLE w_LIMITED h0 n0 _ T7.heap _
      rw [e7]
      exact ⟨(by rw [if_pos hc6]), N0, rfl⟩
  · refine own_go (B := s₁.setTop (mkF m 13 #[.val (.int p1), .val (.int p2), .unset] [(.int p1)])) (fun t k => ?_) ?_
    · show Steps p.tables e below (s₁.setTop (mkF m 2 #[.val (.int p1), .val (.int p2), .unset] [(.int p2), (.int p1)])) _
      refine XS.icmpYes X0.here hx rfl (pc0 := 2) (pc' := 12) rfl (hb hby d1_2) rfl (feq hc6).2 (by decide) (by decide) ?_
      show Steps p.tables e below (s₁.setTop (mkF m 12 #[.val (.int p1), .val (.int p2), .unset] [])) _
      refine XS.iloadN X0.here hx rfl (hb hby d1_12) rfl ?_
      show Steps p.tables e below (s₁.setTop (mkF m 13 #[.val (.int p1), .val (.int p2), .unset] [(.int p1)])) _
      exact k
    by_cases hc9 : p1 = (0 : Int32)
    · refine own_go (B := s₁.setTop (mkF m 16 #[.val (.int p1), .val (.int p2), .unset] [])) (fun t k => ?_) ?_
      · show Steps p.tables e below (s₁.setTop (mkF m 13 #[.val (.int p1), .val (.int p2), .unset] [(.int p1)])) _
        refine XS.ifNo X0.here hx rfl (hb hby d1_13) rfl ((if0 _ _).trans (teq hc9).2) ?_
        show Steps p.tables e below (s₁.setTop (mkF m 16 #[.val (.int p1), .val (.int p2), .unset] [])) _
        exact k
      obtain ⟨T10, X10, e10, st10⟩ := getS2 X0 hx hZ hown (host := "") (Or.inl (hw _ (List.mem_of_getElem? (i := 12) rfl))) Via.refl e0 S_UNAVAILABLE (g := (mkF m 16 #[.val (.int p1), .val (.int p2), .unset] [])) rfl (hb hby d1_16)
      refine own_go st10 ?_
      refine own_go (B := T10.setTop (mkF m 28 #[.val (.int p1), .val (.int p2), .val (.ref w_UNAVAILABLE)] [(.ref w_UNAVAILABLE)])) (fun t k => ?_) ?_
      · show Steps p.tables e below (T10.setTop (mkF m 19 #[.val (.int p1), .val (.int p2), .unset] [(.ref w_UNAVAILABLE)])) _
        refine XS.astoreN X10.here hx rfl (hb hby d1_19) rfl rfl (l' := #[.val (.int p1), .val (.int p2), .val (.ref w_UNAVAILABLE)]) rfl ?_
        show Steps p.tables e below (T10.setTop (mkF m 20 #[.val (.int p1), .val (.int p2), .val (.ref w_UNAVAILABLE)] [])) _
        refine XS.goto X10.here hx rfl (pc0 := 20) (pc' := 27) rfl (hb hby d1_20) (by decide) (by decide) ?_
        show Steps p.tables e below (T10.setTop (mkF m 27 #[.val (.int p1), .val (.int p2), .val (.ref w_UNAVAILABLE)] [])) _
        refine XS.aloadN X10.here hx rfl (hb hby d1_27) rfl rfl ?_
        show Steps p.tables e below (T10.setTop (mkF m 28 #[.val (.int p1), .val (.int p2), .val (.ref w_UNAVAILABLE)] [(.ref w_UNAVAILABLE)])) _
        exact k
      obtain ⟨fs, hr, hrun, hended, hW, hsame⟩ := X10.leave (v := some (.ref w_UNAVAILABLE)) (fun h => by rw [Bd.returns] at h; cases h)
      refine ⟨_, _, ?_, hrun, hended, _, _, rfl, ?_, ⟨_, rfl⟩, hW, hsame.mono (by decide) (by decide)⟩
      · exact own_retR X10 hx Bd.returns rfl rfl (hb hby d1_28) hr
      · show Q1 Z p1 p2 w_ACTIVE w_UNAVAILABLE w_LIMITED h0 n0 _ T10.heap _
        rw [e10]
        exact ⟨(by rw [if_neg hc6, if_pos hc9]), N0, rfl⟩
    · refine own_go (B := s₁.setTop (mkF m 23 #[.val (.int p1), .val (.int p2), .unset] [])) (fun t k => ?_) ?_
      · show Steps p.tables e below (s₁.setTop (mkF m 13 #[.val (.int p1), .val (.int p2), .unset] [(.int p1)])) _
        refine XS.ifYes X0.here hx rfl (pc0 := 13) (pc' := 23) rfl (hb hby d1_13) rfl ((if0 _ _).trans (feq hc9).2) (by decide) (by decide) ?_
        show Steps p.tables e below (s₁.setTop (mkF m 23 #[.val (.int p1), .val (.int p2), .unset] [])) _
        exact k
      obtain ⟨T12, X12, e12, st12⟩ := getS2 X0 hx hZ hown (host := "") (Or.inl (hw _ (List.mem_of_getElem? (i := 13) rfl))) Via.refl e0 S_LIMITED (g := (mkF m 23 #[.val (.int p1), .val (.int p2), .unset] [])) rfl (hb hby d1_23)
      refine own_go st12 ?_
      refine own_go (B := T12.setTop (mkF m 28 #[.val (.int p1), .val (.int p2), .val (.ref w_LIMITED)] [(.ref w_LIMITED)])) (fun t k => ?_) ?_
      · show Steps p.tables e below (T12.setTop (mkF m 26 #[.val (.int p1), .val (.int p2), .unset] [(.ref w_LIMITED)])) _
        refine XS.astoreN X12.here hx rfl (hb hby d1_26) rfl rfl (l' := #[.val (.int p1), .val (.int p2), .val (.ref w_LIMITED)]) rfl ?_
        show Steps p.tables e below (T12.setTop (mkF m 27 #[.val (.int p1), .val (.int p2), .val (.ref w_LIMITED)] [])) _
        refine XS.aloadN X12.here hx rfl (hb hby d1_27) rfl rfl ?_
        show Steps p.tables e below (T12.setTop (mkF m 28 #[.val (.int p1), .val (.int p2), .val (.ref w_LIMITED)] [(.ref w_LIMITED)])) _
        exact k
      obtain ⟨fs, hr, hrun, hended, hW, hsame⟩ := X12.leave (v := some (.ref w_LIMITED)) (fun h => by rw [Bd.returns] at h; cases h)
      refine ⟨_, _, ?_, hrun, hended, _, _, rfl, ?_, ⟨_, rfl⟩, hW, hsame.mono (by decide) (by decide)⟩
      · exact own_retR X12 hx Bd.returns rfl rfl (hb hby d1_28) hr
      · show Q1 Z p1 p2 w_ACTIVE w_UNAVAILABLE w_LIMITED h0 n0 _ T12.heap _
        rw [e12]
        exact ⟨(by rw [if_neg hc6, if_neg hc9]), N0, rfl⟩
theorem pd_0 : parseMethodDescriptor "(II)Lcom/example/porthcurno/porthcurno/service/QueueState$Status;" = some ⟨[.int, .int], some (.object "com/example/porthcurno/porthcurno/service/QueueState$Status")⟩ := by decide +kernel
theorem pn_16 : plainName "com/example/porthcurno/porthcurno/service/StatusOfPinLaw" = true := by first | (simp [plainName, overriddenIn]; done) | decide +kernel
theorem ef_0 (m : MethodId) (p1 : Int32) (p2 : Int32) (p3 : Int32) : entryFrame m #[(.int p1), (.int p2), (.int p3)] maxLocals = mkF m 0 #[.val (.int p1), .val (.int p2), .val (.int p3), .unset, .unset, .unset, .unset, .unset, .unset, .unset, .unset, .unset, .unset, .unset] [] := by first | (simp [entryFrame, mkF, argsToLocals, Value.category, maxLocals]; done) | rfl
def Q0 (Z : State) (p1 : Int32) (p2 : Int32) (p3 : Int32) (w_ACTIVE : Addr) (w_UNAVAILABLE : Addr) (w_LIMITED : Addr) (h0 : Heap) (n0 : Nat) (v : Option Value) (h : Heap) (L : List Loc) : Prop := v = some (.int (1 : Int32)) ∧ Fr n0 L
set_option maxRecDepth 65536 in
set_option maxHeartbeats 40000000 in
theorem rm0 (l : Launch) (Z : State) (a0 : Array Value) (hw : ∀ d ∈ tables_1, d.before a0 Z = true) (ws : List Jvm.Cond) (p1 : Int32) (p2 : Int32) (p3 : Int32) (w_ACTIVE : Addr) (w_UNAVAILABLE : Addr) (w_LIMITED : Addr) (h0 : Heap) (n0 : Nat) (Z0 : n0 ≤ h0.size) (S_ACTIVE : Sta Z h0 "com/example/porthcurno/porthcurno/service/QueueState$Status" "ACTIVE" "Lcom/example/porthcurno/porthcurno/service/QueueState$Status;" (.ref w_ACTIVE)) (E_ACTIVE : Exa Z h0 w_ACTIVE "com/example/porthcurno/porthcurno/service/QueueState$Status") (F_ACTIVE_ordinal : Fld Z h0 w_ACTIVE "java/lang/Enum" "ordinal" "I" (.int (0 : Int32))) (S_UNAVAILABLE : Sta Z h0 "com/example/porthcurno/porthcurno/service/QueueState$Status" "UNAVAILABLE" "Lcom/example/porthcurno/porthcurno/service/QueueState$Status;" (.ref w_UNAVAILABLE)) (E_UNAVAILABLE : Exa Z h0 w_UNAVAILABLE "com/example/porthcurno/porthcurno/service/QueueState$Status") (F_UNAVAILABLE_ordinal : Fld Z h0 w_UNAVAILABLE "java/lang/Enum" "ordinal" "I" (.int (2 : Int32))) (S_LIMITED : Sta Z h0 "com/example/porthcurno/porthcurno/service/QueueState$Status" "LIMITED" "Lcom/example/porthcurno/porthcurno/service/QueueState$Status;" (.ref w_LIMITED)) (E_LIMITED : Exa Z h0 w_LIMITED "com/example/porthcurno/porthcurno/service/QueueState$Status") (F_LIMITED_ordinal : Fld Z h0 w_LIMITED "java/lang/Enum" "ordinal" "I" (.int (1 : Int32))) :
    MetFree l x (head1 (Jvm.Cond.code x code maxLocals ret :: ws) room_1) (fun a U => a = #[(.int p1), (.int p2), (.int p3)] ∧ Z.Warmed39 U.vm ∧ U.heap = h0) (fun _ _ _ _ _ => True) (fun _ U o U' => ∃ v L, o = .returned v ∧ Q0 Z p1 p2 p3 w_ACTIVE w_UNAVAILABLE w_LIMITED h0 n0 v U'.heap L ∧ FrameEnd U o U' L room_1.cells room_1.slots) := by
  refine MetFree.of_bodySF (plainFor_of_name pn_16) hisR ?_
  intro p e s m args below meth c s₁ Bd hml0 hP hK
  obtain ⟨rfl, hZ, hh⟩ := hP
  have hx := Bd.exec
  have hby := Bd.bytes
  have hml : c.maxLocals = 14 := hml0
  have hown : s.vm.findClass "com/example/porthcurno/porthcurno/service/StatusOfPinLaw" = some m.cls := findClass_of_methodNamed Bd.named
  have hnm := (name_of_methodNamed Bd.named Bd.method).1
  have X0 : Stand p l e room_1 s m #[(.int p1), (.int p2), (.int p3)] below meth c s₁ [] 0 0 := Stand.of_body Bd
  have e0 : s₁.heap = h0 := by rw [← hh, Bd.state]; rfl
  have N0 := Fr.nil n0
  refine own_go (B := s₁.setTop (mkF m 0 #[.val (.int p1), .val (.int p2), .val (.int p3), .unset, .unset, .unset, .unset, .unset, .unset, .unset, .unset, .unset, .unset, .unset] [])) (fun t k => castTop (ef_0 m p1 p2 p3) k) ?_
  refine own_go (B := s₁.setTop (mkF m 10 #[.val (.int p1), .val (.int p2), .val (.int p3), .val (.int (p1 &&& (2147483647 : Int32))), .val (.int (p3 &&& (3 : Int32))), .unset, .unset, .unset, .unset, .unset, .unset, .unset, .unset, .unset] [])) (fun t k => ?_) ?_
  · show Steps p.tables e below (s₁.setTop (mkF m 0 #[.val (.int p1), .val (.int p2), .val (.int p3), .unset, .unset, .unset, .unset, .unset, .unset, .unset, .unset, .unset, .unset, .unset] [])) _
    refine XS.iloadN X0.here hx rfl (hb hby at_0) rfl ?_
    show Steps p.tables e below (s₁.setTop (mkF m 1 #[.val (.int p1), .val (.int p2), .val (.int p3), .unset, .unset, .unset, .unset, .unset, .unset, .unset, .unset, .unset, .unset, .unset] [(.int p1)])) _
    refine X0.ldcInt hx hown (mvT hZ (hw _ (List.mem_of_getElem? (i := 0) rfl))) (g := (mkF m 1 #[.val (.int p1), .val (.int p2), .val (.int p3), .unset, .unset, .unset, .unset, .unset, .unset, .unset, .unset, .unset, .unset, .unset] [(.int p1)])) rfl (hb hby at_1) _ ?_
    show Steps p.tables e below (s₁.setTop (mkF m 3 #[.val (.int p1), .val (.int p2), .val (.int p3), .unset, .unset, .unset, .unset, .unset, .unset, .unset, .unset, .unset, .unset, .unset] [(.int (2147483647 : Int32)), (.int p1)])) _
    refine XS.iand X0.here hx rfl (hb hby at_3) rfl ?_
    show Steps p.tables e below (s₁.setTop (mkF m 4 #[.val (.int p1), .val (.int p2), .val (.int p3), .unset, .unset, .unset, .unset, .unset, .unset, .unset, .unset, .unset, .unset, .unset] [(.int (p1 &&& (2147483647 : Int32)))])) _
    refine XS.istoreN X0.here hx rfl (hb hby at_4) rfl (l' := #[.val (.int p1), .val (.int p2), .val (.int p3), .val (.int (p1 &&& (2147483647 : Int32))), .unset, .unset, .unset, .unset, .unset, .unset, .unset, .unset, .unset, .unset]) rfl ?_
    show Steps p.tables e below (s₁.setTop (mkF m 5 #[.val (.int p1), .val (.int p2), .val (.int p3), .val (.int (p1 &&& (2147483647 : Int32))), .unset, .unset, .unset, .unset, .unset, .unset, .unset, .unset, .unset, .unset] [])) _
    refine XS.iloadN X0.here hx rfl (hb hby at_5) rfl ?_
    show Steps p.tables e below (s₁.setTop (mkF m 6 #[.val (.int p1), .val (.int p2), .val (.int p3), .val (.int (p1 &&& (2147483647 : Int32))), .unset, .unset, .unset, .unset, .unset, .unset, .unset, .unset, .unset, .unset] [(.int p3)])) _
    refine XS.iconst X0.here hx rfl (hb hby at_6) ?_
    show Steps p.tables e below (s₁.setTop (mkF m 7 #[.val (.int p1), .val (.int p2), .val (.int p3), .val (.int (p1 &&& (2147483647 : Int32))), .unset, .unset, .unset, .unset, .unset, .unset, .unset, .unset, .unset, .unset] [(.int (3 : Int32)), (.int p3)])) _
    refine XS.iand X0.here hx rfl (hb hby at_7) rfl ?_
    show Steps p.tables e below (s₁.setTop (mkF m 8 #[.val (.int p1), .val (.int p2), .val (.int p3), .val (.int (p1 &&& (2147483647 : Int32))), .unset, .unset, .unset, .unset, .unset, .unset, .unset, .unset, .unset, .unset] [(.int (p3 &&& (3 : Int32)))])) _
    refine XS.istore X0.here hx rfl (hb hby at_8) rfl (l' := #[.val (.int p1), .val (.int p2), .val (.int p3), .val (.int (p1 &&& (2147483647 : Int32))), .val (.int (p3 &&& (3 : Int32))), .unset, .unset, .unset, .unset, .unset, .unset, .unset, .unset, .unset]) rfl ?_
    show Steps p.tables e below (s₁.setTop (mkF m 10 #[.val (.int p1), .val (.int p2), .val (.int p3), .val (.int (p1 &&& (2147483647 : Int32))), .val (.int (p3 &&& (3 : Int32))), .unset, .unset, .unset, .unset, .unset, .unset, .unset, .unset, .unset] [])) _
    exact k
  obtain ⟨n1, e_n1⟩ : ∃ z, z = (p1 &&& (2147483647 : Int32)) := ⟨_, rfl⟩
  rw [← e_n1]
  obtain ⟨se, e_se⟩ : ∃ z, z = (p3 &&& (3 : Int32)) := ⟨_, rfl⟩
  rw [← e_se]
  have hn1 : ¬ n1 < 0 := by rw [e_n1]; exact own_n p1
  refine own_cut (C := fun (k1 : Int32) => ¬ k1 < 0 ∧ ¬ n1 < k1) (B := fun k1 => s₁.setTop (mkF m 46 #[.val (.int p1), .val (.int p2), .val (.int p3), .val (.int n1), .val (.int se), .val (.int k1), .unset, .unset, .unset, .unset, .unset, .unset, .unset, .unset] [])) (fun k1 hcut => ?_) (fun tail => ?_)
  · show ∃ s₂ o, Steps p.tables e below (s₁.setTop (mkF m 46 #[.val (.int p1), .val (.int p2), .val (.int p3), .val (.int n1), .val (.int se), .val (.int k1), .unset, .unset, .unset, .unset, .unset, .unset, .unset, .unset] [])) s₂ ∧ _
    by_cases hkn : k1 = n1
    · refine own_go (B := s₁.setTop (mkF m 52 #[.val (.int p1), .val (.int p2), .val (.int p3), .val (.int n1), .val (.int se), .val (.int k1), .val (.int (n1 - k1)), .unset, .unset, .unset, .unset, .unset, .unset, .unset] [])) (fun t k => ?_) ?_
      · show Steps p.tables e below (s₁.setTop (mkF m 46 #[.val (.int p1), .val (.int p2), .val (.int p3), .val (.int n1), .val (.int se), .val (.int k1), .unset, .unset, .unset, .unset, .unset, .unset, .unset, .unset] [])) _
        refine XS.iloadN X0.here hx rfl (hb hby at_46) rfl ?_
        show Steps p.tables e below (s₁.setTop (mkF m 47 #[.val (.int p1), .val (.int p2), .val (.int p3), .val (.int n1), .val (.int se), .val (.int k1), .unset, .unset, .unset, .unset, .unset, .unset, .unset, .unset] [(.int n1)])) _
        refine XS.iload X0.here hx rfl (hb hby at_47) rfl ?_
        show Steps p.tables e below (s₁.setTop (mkF m 49 #[.val (.int p1), .val (.int p2), .val (.int p3), .val (.int n1), .val (.int se), .val (.int k1), .unset, .unset, .unset, .unset, .unset, .unset, .unset, .unset] [(.int k1), (.int n1)])) _
        refine XS.isub X0.here hx rfl (hb hby at_49) rfl ?_
        show Steps p.tables e below (s₁.setTop (mkF m 50 #[.val (.int p1), .val (.int p2), .val (.int p3), .val (.int n1), .val (.int se), .val (.int k1), .unset, .unset, .unset, .unset, .unset, .unset, .unset, .unset] [(.int (n1 - k1))])) _
        refine XS.istore X0.here hx rfl (hb hby at_50) rfl (l' := #[.val (.int p1), .val (.int p2), .val (.int p3), .val (.int n1), .val (.int se), .val (.int k1), .val (.int (n1 - k1)), .unset, .unset, .unset, .unset, .unset, .unset, .unset]) rfl ?_
        show Steps p.tables e below (s₁.setTop (mkF m 52 #[.val (.int p1), .val (.int p2), .val (.int p3), .val (.int n1), .val (.int se), .val (.int k1), .val (.int (n1 - k1)), .unset, .unset, .unset, .unset, .unset, .unset, .unset] [])) _
        exact k
      rw [show (n1 - k1) = (0 : Int32) from own_sub0 k1 n1 hkn]
      refine own_go (B := s₁.setTop (mkF m 55 #[.val (.int p1), .val (.int p2), .val (.int p3), .val (.int n1), .val (.int se), .val (.int k1), .val (.int (0 : Int32)), .unset, .unset, .unset, .unset, .unset, .unset, .unset] [(.int n1), (.int k1)])) (fun t k => ?_) ?_
      · show Steps p.tables e below (s₁.setTop (mkF m 52 #[.val (.int p1), .val (.int p2), .val (.int p3), .val (.int n1), .val (.int se), .val (.int k1), .val (.int (0 : Int32)), .unset, .unset, .unset, .unset, .unset, .unset, .unset] [])) _
        refine XS.iload X0.here hx rfl (hb hby at_52) rfl ?_
        show Steps p.tables e below (s₁.setTop (mkF m 54 #[.val (.int p1), .val (.int p2), .val (.int p3), .val (.int n1), .val (.int se), .val (.int k1), .val (.int (0 : Int32)), .unset, .unset, .unset, .unset, .unset, .unset, .unset] [(.int k1)])) _
        refine XS.iloadN X0.here hx rfl (hb hby at_54) rfl ?_
        show Steps p.tables e below (s₁.setTop (mkF m 55 #[.val (.int p1), .val (.int p2), .val (.int p3), .val (.int n1), .val (.int se), .val (.int k1), .val (.int (0 : Int32)), .unset, .unset, .unset, .unset, .unset, .unset, .unset] [(.int n1), (.int k1)])) _
        exact k
      obtain ⟨_, _, ⟨T14, L14, k14, n14⟩, -, X14, ⟨Lc14, hQ14, l14, y14, z14⟩, st14⟩ := Jvm.LawKit.callS X0 hx (y := (⟨"com/example/porthcurno/porthcurno/service/QueueState$Status", "of", "(II)Lcom/example/porthcurno/porthcurno/service/QueueState$Status;"⟩ : MethodName)) hown (mvT hZ (hw _ (List.mem_of_getElem? (i := 1) rfl))) (mvT hZ (hw _ (List.mem_of_getElem? (i := 2) rfl))) (mvT hZ (hw _ (List.mem_of_getElem? (i := 3) rfl))) (mvT hZ (hw _ (List.mem_of_getElem? (i := 4) rfl))) (by decide) (backOf (W := 0) (rm1 l Z a0 hw [] k1 n1 w_ACTIVE w_UNAVAILABLE w_LIMITED h0 n0 Z0 S_ACTIVE S_UNAVAILABLE S_LIMITED) hZ (hw _ (List.mem_of_getElem? (i := 4) rfl)) (hw _ (List.mem_of_getElem? (i := 3) rfl)) (by decide) (by decide)) (g := (mkF m 55 #[.val (.int p1), .val (.int p2), .val (.int p3), .val (.int n1), .val (.int se), .val (.int k1), .val (.int (0 : Int32)), .unset, .unset, .unset, .unset, .unset, .unset, .unset] [(.int n1), (.int k1)])) rfl (by rw [hml]; rfl) (argsL := [(.int k1), (.int n1)]) (rest := []) (lenOf pd_0 rfl) rfl (by show 2 * 0 + _ ≤ _; exact Nat.le_of_eq rfl) (hb hby at_55) (fun _ _ => ⟨rfl, e0, (by decide : 0 + 0 ≤ _), (by decide : 0 + 0 ≤ _)⟩)
      dsimp only [Pt.U, Pt.locs, Pt.cells, Pt.slots] at X14 l14 y14 z14 st14 hQ14
      subst l14 y14 z14
      obtain ⟨rfl, M14, q14_0⟩ := hQ14
      have N14 := Fr.app N0 M14
      refine own_go st14 ?_
      rw [show (if k1 = n1 then w_ACTIVE else if k1 = (0 : Int32) then w_UNAVAILABLE else w_LIMITED) = w_ACTIVE from if_pos hkn]
      refine own_go (B := T14.setTop (mkF m 62 #[.val (.int p1), .val (.int p2), .val (.int p3), .val (.int n1), .val (.int se), .val (.int k1), .val (.int (0 : Int32)), .val (.ref w_ACTIVE), .unset, .unset, .unset, .unset, .unset, .unset] [(.ref w_ACTIVE)])) (fun t k => ?_) ?_
      · show Steps p.tables e below (T14.setTop (mkF m 58 #[.val (.int p1), .val (.int p2), .val (.int p3), .val (.int n1), .val (.int se), .val (.int k1), .val (.int (0 : Int32)), .unset, .unset, .unset, .unset, .unset, .unset, .unset] [(.ref w_ACTIVE)])) _
        refine XS.astore X14.here hx rfl (hb hby at_58) rfl rfl (l' := #[.val (.int p1), .val (.int p2), .val (.int p3), .val (.int n1), .val (.int se), .val (.int k1), .val (.int (0 : Int32)), .val (.ref w_ACTIVE), .unset, .unset, .unset, .unset, .unset, .unset]) rfl ?_
        show Steps p.tables e below (T14.setTop (mkF m 60 #[.val (.int p1), .val (.int p2), .val (.int p3), .val (.int n1), .val (.int se), .val (.int k1), .val (.int (0 : Int32)), .val (.ref w_ACTIVE), .unset, .unset, .unset, .unset, .unset, .unset] [])) _
        refine XS.aload X14.here hx rfl (hb hby at_60) rfl rfl ?_
        show Steps p.tables e below (T14.setTop (mkF m 62 #[.val (.int p1), .val (.int p2), .val (.int p3), .val (.int n1), .val (.int se), .val (.int k1), .val (.int (0 : Int32)), .val (.ref w_ACTIVE), .unset, .unset, .unset, .unset, .unset, .unset] [(.ref w_ACTIVE)])) _
        exact k
      obtain ⟨T15, X15, e15, st15⟩ := getS2 X14 hx hZ hown (host := "") (Or.inl (hw _ (List.mem_of_getElem? (i := 7) rfl))) Via.refl q14_0 S_ACTIVE (g := (mkF m 62 #[.val (.int p1), .val (.int p2), .val (.int p3), .val (.int n1), .val (.int se), .val (.int k1), .val (.int (0 : Int32)), .val (.ref w_ACTIVE), .unset, .unset, .unset, .unset, .unset, .unset] [(.ref w_ACTIVE)])) rfl (hb hby at_62)
      refine own_go st15 ?_
      refine own_go (B := T15.setTop (mkF m 77 #[.val (.int p1), .val (.int p2), .val (.int p3), .val (.int n1), .val (.int se), .val (.int k1), .val (.int (0 : Int32)), .val (.ref w_ACTIVE), .val (.int (1 : Int32)), .unset, .unset, .unset, .unset, .unset] [(.ref w_ACTIVE)])) (fun t k => ?_) ?_
      · show Steps p.tables e below (T15.setTop (mkF m 65 #[.val (.int p1), .val (.int p2), .val (.int p3), .val (.int n1), .val (.int se), .val (.int k1), .val (.int (0 : Int32)), .val (.ref w_ACTIVE), .unset, .unset, .unset, .unset, .unset, .unset] [(.ref w_ACTIVE), (.ref w_ACTIVE)])) _
        refine Jvm.RoadKit.acmp (g := (mkF m 65 #[.val (.int p1), .val (.int p2), .val (.int p3), .val (.int n1), .val (.int se), .val (.int k1), .val (.int (0 : Int32)), .val (.ref w_ACTIVE), .unset, .unset, .unset, .unset, .unset, .unset] [(.ref w_ACTIVE), (.ref w_ACTIVE)])) X15 hx rfl rfl rfl (pc0 := 65) (pc' := 68) (same := true) rfl (hb hby at_65) rfl (decide_eq_true rfl) (by decide) (by decide) ?_
        show Steps p.tables e below (T15.setTop (mkF m 68 #[.val (.int p1), .val (.int p2), .val (.int p3), .val (.int n1), .val (.int se), .val (.int k1), .val (.int (0 : Int32)), .val (.ref w_ACTIVE), .unset, .unset, .unset, .unset, .unset, .unset] [])) _
        refine XS.iconst X15.here hx rfl (hb hby at_68) ?_
        show Steps p.tables e below (T15.setTop (mkF m 69 #[.val (.int p1), .val (.int p2), .val (.int p3), .val (.int n1), .val (.int se), .val (.int k1), .val (.int (0 : Int32)), .val (.ref w_ACTIVE), .unset, .unset, .unset, .unset, .unset, .unset] [(.int (1 : Int32))])) _
        refine XS.goto X15.here hx rfl (pc0 := 69) (pc' := 73) rfl (hb hby at_69) (by decide) (by decide) ?_
        show Steps p.tables e below (T15.setTop (mkF m 73 #[.val (.int p1), .val (.int p2), .val (.int p3), .val (.int n1), .val (.int se), .val (.int k1), .val (.int (0 : Int32)), .val (.ref w_ACTIVE), .unset, .unset, .unset, .unset, .unset, .unset] [(.int (1 : Int32))])) _
        refine XS.istore X15.here hx rfl (hb hby at_73) rfl (l' := #[.val (.int p1), .val (.int p2), .val (.int p3), .val (.int n1), .val (.int se), .val (.int k1), .val (.int (0 : Int32)), .val (.ref w_ACTIVE), .val (.int (1 : Int32)), .unset, .unset, .unset, .unset, .unset]) rfl ?_
        show Steps p.tables e below (T15.setTop (mkF m 75 #[.val (.int p1), .val (.int p2), .val (.int p3), .val (.int n1), .val (.int se), .val (.int k1), .val (.int (0 : Int32)), .val (.ref w_ACTIVE), .val (.int (1 : Int32)), .unset, .unset, .unset, .unset, .unset] [])) _
        refine XS.aload X15.here hx rfl (hb hby at_75) rfl rfl ?_
        show Steps p.tables e below (T15.setTop (mkF m 77 #[.val (.int p1), .val (.int p2), .val (.int p3), .val (.int n1), .val (.int se), .val (.int k1), .val (.int (0 : Int32)), .val (.ref w_ACTIVE), .val (.int (1 : Int32)), .unset, .unset, .unset, .unset, .unset] [(.ref w_ACTIVE)])) _
        exact k
      obtain ⟨T16, X16, e16, st16⟩ := getS2 X15 hx hZ hown (host := "") (Or.inl (hw _ (List.mem_of_getElem? (i := 8) rfl))) Via.refl e15 S_UNAVAILABLE (g := (mkF m 77 #[.val (.int p1), .val (.int p2), .val (.int p3), .val (.int n1), .val (.int se), .val (.int k1), .val (.int (0 : Int32)), .val (.ref w_ACTIVE), .val (.int (1 : Int32)), .unset, .unset, .unset, .unset, .unset] [(.ref w_ACTIVE)])) rfl (hb hby at_77)
      refine own_go st16 ?_
      refine own_go (B := T16.setTop (mkF m 92 #[.val (.int p1), .val (.int p2), .val (.int p3), .val (.int n1), .val (.int se), .val (.int k1), .val (.int (0 : Int32)), .val (.ref w_ACTIVE), .val (.int (1 : Int32)), .val (.int (0 : Int32)), .unset, .unset, .unset, .unset] [(.ref w_ACTIVE)])) (fun t k => ?_) ?_
      · show Steps p.tables e below (T16.setTop (mkF m 80 #[.val (.int p1), .val (.int p2), .val (.int p3), .val (.int n1), .val (.int se), .val (.int k1), .val (.int (0 : Int32)), .val (.ref w_ACTIVE), .val (.int (1 : Int32)), .unset, .unset, .unset, .unset, .unset] [(.ref w_UNAVAILABLE), (.ref w_ACTIVE)])) _
        refine Jvm.RoadKit.acmp (g := (mkF m 80 #[.val (.int p1), .val (.int p2), .val (.int p3), .val (.int n1), .val (.int se), .val (.int k1), .val (.int (0 : Int32)), .val (.ref w_ACTIVE), .val (.int (1 : Int32)), .unset, .unset, .unset, .unset, .unset] [(.ref w_UNAVAILABLE), (.ref w_ACTIVE)])) X16 hx rfl rfl rfl (pc0 := 80) (pc' := 87) (same := false) rfl (hb hby at_80) rfl (decide_eq_false fun q => (Fld.ne F_ACTIVE_ordinal F_UNAVAILABLE_ordinal (by decide)) (Value.ref.inj q)) (by decide) (by decide) ?_
        show Steps p.tables e below (T16.setTop (mkF m 87 #[.val (.int p1), .val (.int p2), .val (.int p3), .val (.int n1), .val (.int se), .val (.int k1), .val (.int (0 : Int32)), .val (.ref w_ACTIVE), .val (.int (1 : Int32)), .unset, .unset, .unset, .unset, .unset] [])) _
        refine XS.iconst X16.here hx rfl (hb hby at_87) ?_
        show Steps p.tables e below (T16.setTop (mkF m 88 #[.val (.int p1), .val (.int p2), .val (.int p3), .val (.int n1), .val (.int se), .val (.int k1), .val (.int (0 : Int32)), .val (.ref w_ACTIVE), .val (.int (1 : Int32)), .unset, .unset, .unset, .unset, .unset] [(.int (0 : Int32))])) _
        refine XS.istore X16.here hx rfl (hb hby at_88) rfl (l' := #[.val (.int p1), .val (.int p2), .val (.int p3), .val (.int n1), .val (.int se), .val (.int k1), .val (.int (0 : Int32)), .val (.ref w_ACTIVE), .val (.int (1 : Int32)), .val (.int (0 : Int32)), .unset, .unset, .unset, .unset]) rfl ?_
        show Steps p.tables e below (T16.setTop (mkF m 90 #[.val (.int p1), .val (.int p2), .val (.int p3), .val (.int n1), .val (.int se), .val (.int k1), .val (.int (0 : Int32)), .val (.ref w_ACTIVE), .val (.int (1 : Int32)), .val (.int (0 : Int32)), .unset, .unset, .unset, .unset] [])) _
        refine XS.aload X16.here hx rfl (hb hby at_90) rfl rfl ?_
        show Steps p.tables e below (T16.setTop (mkF m 92 #[.val (.int p1), .val (.int p2), .val (.int p3), .val (.int n1), .val (.int se), .val (.int k1), .val (.int (0 : Int32)), .val (.ref w_ACTIVE), .val (.int (1 : Int32)), .val (.int (0 : Int32)), .unset, .unset, .unset, .unset] [(.ref w_ACTIVE)])) _
        exact k
      obtain ⟨T17, X17, e17, st17⟩ := getS2 X16 hx hZ hown (host := "") (Or.inl (hw _ (List.mem_of_getElem? (i := 10) rfl))) Via.refl e16 S_LIMITED (g := (mkF m 92 #[.val (.int p1), .val (.int p2), .val (.int p3), .val (.int n1), .val (.int se), .val (.int k1), .val (.int (0 : Int32)), .val (.ref w_ACTIVE), .val (.int (1 : Int32)), .val (.int (0 : Int32)), .unset, .unset, .unset, .unset] [(.ref w_ACTIVE)])) rfl (hb hby at_92)
      refine own_go st17 ?_
      refine own_go (B := T17.setTop (mkF m 136 #[.val (.int p1), .val (.int p2), .val (.int p3), .val (.int n1), .val (.int se), .val (.int k1), .val (.int (0 : Int32)), .val (.ref w_ACTIVE), .val (.int (1 : Int32)), .val (.int (0 : Int32)), .val (.int (0 : Int32)), .val (.int (1 : Int32)), .val (.int (0 : Int32)), .unset] [(.int k1)])) (fun t k => ?_) ?_
      · show Steps p.tables e below (T17.setTop (mkF m 95 #[.val (.int p1), .val (.int p2), .val (.int p3), .val (.int n1), .val (.int se), .val (.int k1), .val (.int (0 : Int32)), .val (.ref w_ACTIVE), .val (.int (1 : Int32)), .val (.int (0 : Int32)), .unset, .unset, .unset, .unset] [(.ref w_LIMITED), (.ref w_ACTIVE)])) _
        refine Jvm.RoadKit.acmp (g := (mkF m 95 #[.val (.int p1), .val (.int p2), .val (.int p3), .val (.int n1), .val (.int se), .val (.int k1), .val (.int (0 : Int32)), .val (.ref w_ACTIVE), .val (.int (1 : Int32)), .val (.int (0 : Int32)), .unset, .unset, .unset, .unset] [(.ref w_LIMITED), (.ref w_ACTIVE)])) X17 hx rfl rfl rfl (pc0 := 95) (pc' := 102) (same := false) rfl (hb hby at_95) rfl (decide_eq_false fun q => (Fld.ne F_ACTIVE_ordinal F_LIMITED_ordinal (by decide)) (Value.ref.inj q)) (by decide) (by decide) ?_
        show Steps p.tables e below (T17.setTop (mkF m 102 #[.val (.int p1), .val (.int p2), .val (.int p3), .val (.int n1), .val (.int se), .val (.int k1), .val (.int (0 : Int32)), .val (.ref w_ACTIVE), .val (.int (1 : Int32)), .val (.int (0 : Int32)), .unset, .unset, .unset, .unset] [])) _
        refine XS.iconst X17.here hx rfl (hb hby at_102) ?_
        show Steps p.tables e below (T17.setTop (mkF m 103 #[.val (.int p1), .val (.int p2), .val (.int p3), .val (.int n1), .val (.int se), .val (.int k1), .val (.int (0 : Int32)), .val (.ref w_ACTIVE), .val (.int (1 : Int32)), .val (.int (0 : Int32)), .unset, .unset, .unset, .unset] [(.int (0 : Int32))])) _
        refine XS.istore X17.here hx rfl (hb hby at_103) rfl (l' := #[.val (.int p1), .val (.int p2), .val (.int p3), .val (.int n1), .val (.int se), .val (.int k1), .val (.int (0 : Int32)), .val (.ref w_ACTIVE), .val (.int (1 : Int32)), .val (.int (0 : Int32)), .val (.int (0 : Int32)), .unset, .unset, .unset]) rfl ?_
        show Steps p.tables e below (T17.setTop (mkF m 105 #[.val (.int p1), .val (.int p2), .val (.int p3), .val (.int n1), .val (.int se), .val (.int k1), .val (.int (0 : Int32)), .val (.ref w_ACTIVE), .val (.int (1 : Int32)), .val (.int (0 : Int32)), .val (.int (0 : Int32)), .unset, .unset, .unset] [])) _
        refine XS.iload X17.here hx rfl (hb hby at_105) rfl ?_
        show Steps p.tables e below (T17.setTop (mkF m 107 #[.val (.int p1), .val (.int p2), .val (.int p3), .val (.int n1), .val (.int se), .val (.int k1), .val (.int (0 : Int32)), .val (.ref w_ACTIVE), .val (.int (1 : Int32)), .val (.int (0 : Int32)), .val (.int (0 : Int32)), .unset, .unset, .unset] [(.int (0 : Int32))])) _
        refine XS.ifNo X17.here hx rfl (hb hby at_107) rfl ((if0 _ _).trans (teq (by decide : (0 : Int32) = (0 : Int32))).2) ?_
        show Steps p.tables e below (T17.setTop (mkF m 110 #[.val (.int p1), .val (.int p2), .val (.int p3), .val (.int n1), .val (.int se), .val (.int k1), .val (.int (0 : Int32)), .val (.ref w_ACTIVE), .val (.int (1 : Int32)), .val (.int (0 : Int32)), .val (.int (0 : Int32)), .unset, .unset, .unset] [])) _
        refine XS.iconst X17.here hx rfl (hb hby at_110) ?_
        show Steps p.tables e below (T17.setTop (mkF m 111 #[.val (.int p1), .val (.int p2), .val (.int p3), .val (.int n1), .val (.int se), .val (.int k1), .val (.int (0 : Int32)), .val (.ref w_ACTIVE), .val (.int (1 : Int32)), .val (.int (0 : Int32)), .val (.int (0 : Int32)), .unset, .unset, .unset] [(.int (1 : Int32))])) _
        refine XS.goto X17.here hx rfl (pc0 := 111) (pc' := 115) rfl (hb hby at_111) (by decide) (by decide) ?_
        show Steps p.tables e below (T17.setTop (mkF m 115 #[.val (.int p1), .val (.int p2), .val (.int p3), .val (.int n1), .val (.int se), .val (.int k1), .val (.int (0 : Int32)), .val (.ref w_ACTIVE), .val (.int (1 : Int32)), .val (.int (0 : Int32)), .val (.int (0 : Int32)), .unset, .unset, .unset] [(.int (1 : Int32))])) _
        refine XS.istore X17.here hx rfl (hb hby at_115) rfl (l' := #[.val (.int p1), .val (.int p2), .val (.int p3), .val (.int n1), .val (.int se), .val (.int k1), .val (.int (0 : Int32)), .val (.ref w_ACTIVE), .val (.int (1 : Int32)), .val (.int (0 : Int32)), .val (.int (0 : Int32)), .val (.int (1 : Int32)), .unset, .unset]) rfl ?_
        show Steps p.tables e below (T17.setTop (mkF m 117 #[.val (.int p1), .val (.int p2), .val (.int p3), .val (.int n1), .val (.int se), .val (.int k1), .val (.int (0 : Int32)), .val (.ref w_ACTIVE), .val (.int (1 : Int32)), .val (.int (0 : Int32)), .val (.int (0 : Int32)), .val (.int (1 : Int32)), .unset, .unset] [])) _
        refine XS.iload X17.here hx rfl (hb hby at_117) rfl ?_
        show Steps p.tables e below (T17.setTop (mkF m 119 #[.val (.int p1), .val (.int p2), .val (.int p3), .val (.int n1), .val (.int se), .val (.int k1), .val (.int (0 : Int32)), .val (.ref w_ACTIVE), .val (.int (1 : Int32)), .val (.int (0 : Int32)), .val (.int (0 : Int32)), .val (.int (1 : Int32)), .unset, .unset] [(.int (0 : Int32))])) _
        refine XS.ifYes X17.here hx rfl (pc0 := 119) (pc' := 131) rfl (hb hby at_119) rfl ((if0 _ _).trans (flt (by decide : ¬ ((0 : Int32) < (0 : Int32)))).2.2.2) (by decide) (by decide) ?_
        show Steps p.tables e below (T17.setTop (mkF m 131 #[.val (.int p1), .val (.int p2), .val (.int p3), .val (.int n1), .val (.int se), .val (.int k1), .val (.int (0 : Int32)), .val (.ref w_ACTIVE), .val (.int (1 : Int32)), .val (.int (0 : Int32)), .val (.int (0 : Int32)), .val (.int (1 : Int32)), .unset, .unset] [])) _
        refine XS.iconst X17.here hx rfl (hb hby at_131) ?_
        show Steps p.tables e below (T17.setTop (mkF m 132 #[.val (.int p1), .val (.int p2), .val (.int p3), .val (.int n1), .val (.int se), .val (.int k1), .val (.int (0 : Int32)), .val (.ref w_ACTIVE), .val (.int (1 : Int32)), .val (.int (0 : Int32)), .val (.int (0 : Int32)), .val (.int (1 : Int32)), .unset, .unset] [(.int (0 : Int32))])) _
        refine XS.istore X17.here hx rfl (hb hby at_132) rfl (l' := #[.val (.int p1), .val (.int p2), .val (.int p3), .val (.int n1), .val (.int se), .val (.int k1), .val (.int (0 : Int32)), .val (.ref w_ACTIVE), .val (.int (1 : Int32)), .val (.int (0 : Int32)), .val (.int (0 : Int32)), .val (.int (1 : Int32)), .val (.int (0 : Int32)), .unset]) rfl ?_
        show Steps p.tables e below (T17.setTop (mkF m 134 #[.val (.int p1), .val (.int p2), .val (.int p3), .val (.int n1), .val (.int se), .val (.int k1), .val (.int (0 : Int32)), .val (.ref w_ACTIVE), .val (.int (1 : Int32)), .val (.int (0 : Int32)), .val (.int (0 : Int32)), .val (.int (1 : Int32)), .val (.int (0 : Int32)), .unset] [])) _
        refine XS.iload X17.here hx rfl (hb hby at_134) rfl ?_
        show Steps p.tables e below (T17.setTop (mkF m 136 #[.val (.int p1), .val (.int p2), .val (.int p3), .val (.int n1), .val (.int se), .val (.int k1), .val (.int (0 : Int32)), .val (.ref w_ACTIVE), .val (.int (1 : Int32)), .val (.int (0 : Int32)), .val (.int (0 : Int32)), .val (.int (1 : Int32)), .val (.int (0 : Int32)), .unset] [(.int k1)])) _
        exact k
      by_cases hc18 : (0 : Int32) < k1
      · refine own_go (B := T17.setTop (mkF m 177 #[.val (.int p1), .val (.int p2), .val (.int p3), .val (.int n1), .val (.int se), .val (.int k1), .val (.int (0 : Int32)), .val (.ref w_ACTIVE), .val (.int (1 : Int32)), .val (.int (0 : Int32)), .val (.int (0 : Int32)), .val (.int (1 : Int32)), .val (.int (0 : Int32)), .val (.int (0 : Int32))] [(.int (1 : Int32))])) (fun t k => ?_) ?_
        · show Steps p.tables e below (T17.setTop (mkF m 136 #[.val (.int p1), .val (.int p2), .val (.int p3), .val (.int n1), .val (.int se), .val (.int k1), .val (.int (0 : Int32)), .val (.ref w_ACTIVE), .val (.int (1 : Int32)), .val (.int (0 : Int32)), .val (.int (0 : Int32)), .val (.int (1 : Int32)), .val (.int (0 : Int32)), .unset] [(.int k1)])) _
          refine XS.ifNo X17.here hx rfl (hb hby at_136) rfl ((if0 _ _).trans (tlt hc18).2.2.2) ?_
          show Steps p.tables e below (T17.setTop (mkF m 139 #[.val (.int p1), .val (.int p2), .val (.int p3), .val (.int n1), .val (.int se), .val (.int k1), .val (.int (0 : Int32)), .val (.ref w_ACTIVE), .val (.int (1 : Int32)), .val (.int (0 : Int32)), .val (.int (0 : Int32)), .val (.int (1 : Int32)), .val (.int (0 : Int32)), .unset] [])) _
          refine XS.iload X17.here hx rfl (hb hby at_139) rfl ?_
          show Steps p.tables e below (T17.setTop (mkF m 141 #[.val (.int p1), .val (.int p2), .val (.int p3), .val (.int n1), .val (.int se), .val (.int k1), .val (.int (0 : Int32)), .val (.ref w_ACTIVE), .val (.int (1 : Int32)), .val (.int (0 : Int32)), .val (.int (0 : Int32)), .val (.int (1 : Int32)), .val (.int (0 : Int32)), .unset] [(.int (0 : Int32))])) _
          refine XS.ifYes X17.here hx rfl (pc0 := 141) (pc' := 148) rfl (hb hby at_141) rfl ((if0 _ _).trans (flt (by decide : ¬ ((0 : Int32) < (0 : Int32)))).2.2.2) (by decide) (by decide) ?_
          show Steps p.tables e below (T17.setTop (mkF m 148 #[.val (.int p1), .val (.int p2), .val (.int p3), .val (.int n1), .val (.int se), .val (.int k1), .val (.int (0 : Int32)), .val (.ref w_ACTIVE), .val (.int (1 : Int32)), .val (.int (0 : Int32)), .val (.int (0 : Int32)), .val (.int (1 : Int32)), .val (.int (0 : Int32)), .unset] [])) _
          refine XS.iconst X17.here hx rfl (hb hby at_148) ?_
          show Steps p.tables e below (T17.setTop (mkF m 149 #[.val (.int p1), .val (.int p2), .val (.int p3), .val (.int n1), .val (.int se), .val (.int k1), .val (.int (0 : Int32)), .val (.ref w_ACTIVE), .val (.int (1 : Int32)), .val (.int (0 : Int32)), .val (.int (0 : Int32)), .val (.int (1 : Int32)), .val (.int (0 : Int32)), .unset] [(.int (0 : Int32))])) _
          refine XS.istore X17.here hx rfl (hb hby at_149) rfl (l' := #[.val (.int p1), .val (.int p2), .val (.int p3), .val (.int n1), .val (.int se), .val (.int k1), .val (.int (0 : Int32)), .val (.ref w_ACTIVE), .val (.int (1 : Int32)), .val (.int (0 : Int32)), .val (.int (0 : Int32)), .val (.int (1 : Int32)), .val (.int (0 : Int32)), .val (.int (0 : Int32))]) rfl ?_
          show Steps p.tables e below (T17.setTop (mkF m 151 #[.val (.int p1), .val (.int p2), .val (.int p3), .val (.int n1), .val (.int se), .val (.int k1), .val (.int (0 : Int32)), .val (.ref w_ACTIVE), .val (.int (1 : Int32)), .val (.int (0 : Int32)), .val (.int (0 : Int32)), .val (.int (1 : Int32)), .val (.int (0 : Int32)), .val (.int (0 : Int32))] [])) _
          refine XS.iload X17.here hx rfl (hb hby at_151) rfl ?_
          show Steps p.tables e below (T17.setTop (mkF m 153 #[.val (.int p1), .val (.int p2), .val (.int p3), .val (.int n1), .val (.int se), .val (.int k1), .val (.int (0 : Int32)), .val (.ref w_ACTIVE), .val (.int (1 : Int32)), .val (.int (0 : Int32)), .val (.int (0 : Int32)), .val (.int (1 : Int32)), .val (.int (0 : Int32)), .val (.int (0 : Int32))] [(.int (1 : Int32))])) _
          refine XS.iload X17.here hx rfl (hb hby at_153) rfl ?_
          show Steps p.tables e below (T17.setTop (mkF m 155 #[.val (.int p1), .val (.int p2), .val (.int p3), .val (.int n1), .val (.int se), .val (.int k1), .val (.int (0 : Int32)), .val (.ref w_ACTIVE), .val (.int (1 : Int32)), .val (.int (0 : Int32)), .val (.int (0 : Int32)), .val (.int (1 : Int32)), .val (.int (0 : Int32)), .val (.int (0 : Int32))] [(.int (1 : Int32)), (.int (1 : Int32))])) _
          refine XS.icmpNo X17.here hx rfl (hb hby at_155) rfl (teq (by decide : (1 : Int32) = (1 : Int32))).2 ?_
          show Steps p.tables e below (T17.setTop (mkF m 158 #[.val (.int p1), .val (.int p2), .val (.int p3), .val (.int n1), .val (.int se), .val (.int k1), .val (.int (0 : Int32)), .val (.ref w_ACTIVE), .val (.int (1 : Int32)), .val (.int (0 : Int32)), .val (.int (0 : Int32)), .val (.int (1 : Int32)), .val (.int (0 : Int32)), .val (.int (0 : Int32))] [])) _
          refine XS.iload X17.here hx rfl (hb hby at_158) rfl ?_
          show Steps p.tables e below (T17.setTop (mkF m 160 #[.val (.int p1), .val (.int p2), .val (.int p3), .val (.int n1), .val (.int se), .val (.int k1), .val (.int (0 : Int32)), .val (.ref w_ACTIVE), .val (.int (1 : Int32)), .val (.int (0 : Int32)), .val (.int (0 : Int32)), .val (.int (1 : Int32)), .val (.int (0 : Int32)), .val (.int (0 : Int32))] [(.int (0 : Int32))])) _
          refine XS.iload X17.here hx rfl (hb hby at_160) rfl ?_
          show Steps p.tables e below (T17.setTop (mkF m 162 #[.val (.int p1), .val (.int p2), .val (.int p3), .val (.int n1), .val (.int se), .val (.int k1), .val (.int (0 : Int32)), .val (.ref w_ACTIVE), .val (.int (1 : Int32)), .val (.int (0 : Int32)), .val (.int (0 : Int32)), .val (.int (1 : Int32)), .val (.int (0 : Int32)), .val (.int (0 : Int32))] [(.int (0 : Int32)), (.int (0 : Int32))])) _
          refine XS.icmpNo X17.here hx rfl (hb hby at_162) rfl (teq (by decide : (0 : Int32) = (0 : Int32))).2 ?_
          show Steps p.tables e below (T17.setTop (mkF m 165 #[.val (.int p1), .val (.int p2), .val (.int p3), .val (.int n1), .val (.int se), .val (.int k1), .val (.int (0 : Int32)), .val (.ref w_ACTIVE), .val (.int (1 : Int32)), .val (.int (0 : Int32)), .val (.int (0 : Int32)), .val (.int (1 : Int32)), .val (.int (0 : Int32)), .val (.int (0 : Int32))] [])) _
          refine XS.iload X17.here hx rfl (hb hby at_165) rfl ?_
          show Steps p.tables e below (T17.setTop (mkF m 167 #[.val (.int p1), .val (.int p2), .val (.int p3), .val (.int n1), .val (.int se), .val (.int k1), .val (.int (0 : Int32)), .val (.ref w_ACTIVE), .val (.int (1 : Int32)), .val (.int (0 : Int32)), .val (.int (0 : Int32)), .val (.int (1 : Int32)), .val (.int (0 : Int32)), .val (.int (0 : Int32))] [(.int (0 : Int32))])) _
          refine XS.iload X17.here hx rfl (hb hby at_167) rfl ?_
          show Steps p.tables e below (T17.setTop (mkF m 169 #[.val (.int p1), .val (.int p2), .val (.int p3), .val (.int n1), .val (.int se), .val (.int k1), .val (.int (0 : Int32)), .val (.ref w_ACTIVE), .val (.int (1 : Int32)), .val (.int (0 : Int32)), .val (.int (0 : Int32)), .val (.int (1 : Int32)), .val (.int (0 : Int32)), .val (.int (0 : Int32))] [(.int (0 : Int32)), (.int (0 : Int32))])) _
          refine XS.icmpNo X17.here hx rfl (hb hby at_169) rfl (teq (by decide : (0 : Int32) = (0 : Int32))).2 ?_
          show Steps p.tables e below (T17.setTop (mkF m 172 #[.val (.int p1), .val (.int p2), .val (.int p3), .val (.int n1), .val (.int se), .val (.int k1), .val (.int (0 : Int32)), .val (.ref w_ACTIVE), .val (.int (1 : Int32)), .val (.int (0 : Int32)), .val (.int (0 : Int32)), .val (.int (1 : Int32)), .val (.int (0 : Int32)), .val (.int (0 : Int32))] [])) _
          refine XS.iconst X17.here hx rfl (hb hby at_172) ?_
          show Steps p.tables e below (T17.setTop (mkF m 173 #[.val (.int p1), .val (.int p2), .val (.int p3), .val (.int n1), .val (.int se), .val (.int k1), .val (.int (0 : Int32)), .val (.ref w_ACTIVE), .val (.int (1 : Int32)), .val (.int (0 : Int32)), .val (.int (0 : Int32)), .val (.int (1 : Int32)), .val (.int (0 : Int32)), .val (.int (0 : Int32))] [(.int (1 : Int32))])) _
          refine XS.goto X17.here hx rfl (pc0 := 173) (pc' := 177) rfl (hb hby at_173) (by decide) (by decide) ?_
          show Steps p.tables e below (T17.setTop (mkF m 177 #[.val (.int p1), .val (.int p2), .val (.int p3), .val (.int n1), .val (.int se), .val (.int k1), .val (.int (0 : Int32)), .val (.ref w_ACTIVE), .val (.int (1 : Int32)), .val (.int (0 : Int32)), .val (.int (0 : Int32)), .val (.int (1 : Int32)), .val (.int (0 : Int32)), .val (.int (0 : Int32))] [(.int (1 : Int32))])) _
          exact k
        obtain ⟨fs, hr, hrun, hended, hW, hsame⟩ := X17.leave (v := some (.int (1 : Int32))) (fun h => by rw [Bd.returns] at h; cases h)
        refine ⟨_, _, ?_, hrun, hended, _, _, rfl, ?_, ⟨_, rfl⟩, hW, hsame.mono (by decide) (by decide)⟩
        · exact retN X17 hx (t := .boolean) Bd.returns (by simp) (hb hby at_177) hr
        · show Q0 Z p1 p2 p3 w_ACTIVE w_UNAVAILABLE w_LIMITED h0 n0 _ T17.heap _
          rw [e17]
          exact ⟨rfl, N14⟩
      · refine own_go (B := T17.setTop (mkF m 177 #[.val (.int p1), .val (.int p2), .val (.int p3), .val (.int n1), .val (.int se), .val (.int k1), .val (.int (0 : Int32)), .val (.ref w_ACTIVE), .val (.int (1 : Int32)), .val (.int (0 : Int32)), .val (.int (0 : Int32)), .val (.int (1 : Int32)), .val (.int (0 : Int32)), .val (.int (0 : Int32))] [(.int (1 : Int32))])) (fun t k => ?_) ?_
        · show Steps p.tables e below (T17.setTop (mkF m 136 #[.val (.int p1), .val (.int p2), .val (.int p3), .val (.int n1), .val (.int se), .val (.int k1), .val (.int (0 : Int32)), .val (.ref w_ACTIVE), .val (.int (1 : Int32)), .val (.int (0 : Int32)), .val (.int (0 : Int32)), .val (.int (1 : Int32)), .val (.int (0 : Int32)), .unset] [(.int k1)])) _
          refine XS.ifYes X17.here hx rfl (pc0 := 136) (pc' := 148) rfl (hb hby at_136) rfl ((if0 _ _).trans (flt hc18).2.2.2) (by decide) (by decide) ?_
          show Steps p.tables e below (T17.setTop (mkF m 148 #[.val (.int p1), .val (.int p2), .val (.int p3), .val (.int n1), .val (.int se), .val (.int k1), .val (.int (0 : Int32)), .val (.ref w_ACTIVE), .val (.int (1 : Int32)), .val (.int (0 : Int32)), .val (.int (0 : Int32)), .val (.int (1 : Int32)), .val (.int (0 : Int32)), .unset] [])) _
          refine XS.iconst X17.here hx rfl (hb hby at_148) ?_
          show Steps p.tables e below (T17.setTop (mkF m 149 #[.val (.int p1), .val (.int p2), .val (.int p3), .val (.int n1), .val (.int se), .val (.int k1), .val (.int (0 : Int32)), .val (.ref w_ACTIVE), .val (.int (1 : Int32)), .val (.int (0 : Int32)), .val (.int (0 : Int32)), .val (.int (1 : Int32)), .val (.int (0 : Int32)), .unset] [(.int (0 : Int32))])) _
          refine XS.istore X17.here hx rfl (hb hby at_149) rfl (l' := #[.val (.int p1), .val (.int p2), .val (.int p3), .val (.int n1), .val (.int se), .val (.int k1), .val (.int (0 : Int32)), .val (.ref w_ACTIVE), .val (.int (1 : Int32)), .val (.int (0 : Int32)), .val (.int (0 : Int32)), .val (.int (1 : Int32)), .val (.int (0 : Int32)), .val (.int (0 : Int32))]) rfl ?_
          show Steps p.tables e below (T17.setTop (mkF m 151 #[.val (.int p1), .val (.int p2), .val (.int p3), .val (.int n1), .val (.int se), .val (.int k1), .val (.int (0 : Int32)), .val (.ref w_ACTIVE), .val (.int (1 : Int32)), .val (.int (0 : Int32)), .val (.int (0 : Int32)), .val (.int (1 : Int32)), .val (.int (0 : Int32)), .val (.int (0 : Int32))] [])) _
          refine XS.iload X17.here hx rfl (hb hby at_151) rfl ?_
          show Steps p.tables e below (T17.setTop (mkF m 153 #[.val (.int p1), .val (.int p2), .val (.int p3), .val (.int n1), .val (.int se), .val (.int k1), .val (.int (0 : Int32)), .val (.ref w_ACTIVE), .val (.int (1 : Int32)), .val (.int (0 : Int32)), .val (.int (0 : Int32)), .val (.int (1 : Int32)), .val (.int (0 : Int32)), .val (.int (0 : Int32))] [(.int (1 : Int32))])) _
          refine XS.iload X17.here hx rfl (hb hby at_153) rfl ?_
          show Steps p.tables e below (T17.setTop (mkF m 155 #[.val (.int p1), .val (.int p2), .val (.int p3), .val (.int n1), .val (.int se), .val (.int k1), .val (.int (0 : Int32)), .val (.ref w_ACTIVE), .val (.int (1 : Int32)), .val (.int (0 : Int32)), .val (.int (0 : Int32)), .val (.int (1 : Int32)), .val (.int (0 : Int32)), .val (.int (0 : Int32))] [(.int (1 : Int32)), (.int (1 : Int32))])) _
          refine XS.icmpNo X17.here hx rfl (hb hby at_155) rfl (teq (by decide : (1 : Int32) = (1 : Int32))).2 ?_
          show Steps p.tables e below (T17.setTop (mkF m 158 #[.val (.int p1), .val (.int p2), .val (.int p3), .val (.int n1), .val (.int se), .val (.int k1), .val (.int (0 : Int32)), .val (.ref w_ACTIVE), .val (.int (1 : Int32)), .val (.int (0 : Int32)), .val (.int (0 : Int32)), .val (.int (1 : Int32)), .val (.int (0 : Int32)), .val (.int (0 : Int32))] [])) _
          refine XS.iload X17.here hx rfl (hb hby at_158) rfl ?_
          show Steps p.tables e below (T17.setTop (mkF m 160 #[.val (.int p1), .val (.int p2), .val (.int p3), .val (.int n1), .val (.int se), .val (.int k1), .val (.int (0 : Int32)), .val (.ref w_ACTIVE), .val (.int (1 : Int32)), .val (.int (0 : Int32)), .val (.int (0 : Int32)), .val (.int (1 : Int32)), .val (.int (0 : Int32)), .val (.int (0 : Int32))] [(.int (0 : Int32))])) _
          refine XS.iload X17.here hx rfl (hb hby at_160) rfl ?_
          show Steps p.tables e below (T17.setTop (mkF m 162 #[.val (.int p1), .val (.int p2), .val (.int p3), .val (.int n1), .val (.int se), .val (.int k1), .val (.int (0 : Int32)), .val (.ref w_ACTIVE), .val (.int (1 : Int32)), .val (.int (0 : Int32)), .val (.int (0 : Int32)), .val (.int (1 : Int32)), .val (.int (0 : Int32)), .val (.int (0 : Int32))] [(.int (0 : Int32)), (.int (0 : Int32))])) _
          refine XS.icmpNo X17.here hx rfl (hb hby at_162) rfl (teq (by decide : (0 : Int32) = (0 : Int32))).2 ?_
          show Steps p.tables e below (T17.setTop (mkF m 165 #[.val (.int p1), .val (.int p2), .val (.int p3), .val (.int n1), .val (.int se), .val (.int k1), .val (.int (0 : Int32)), .val (.ref w_ACTIVE), .val (.int (1 : Int32)), .val (.int (0 : Int32)), .val (.int (0 : Int32)), .val (.int (1 : Int32)), .val (.int (0 : Int32)), .val (.int (0 : Int32))] [])) _
          refine XS.iload X17.here hx rfl (hb hby at_165) rfl ?_
          show Steps p.tables e below (T17.setTop (mkF m 167 #[.val (.int p1), .val (.int p2), .val (.int p3), .val (.int n1), .val (.int se), .val (.int k1), .val (.int (0 : Int32)), .val (.ref w_ACTIVE), .val (.int (1 : Int32)), .val (.int (0 : Int32)), .val (.int (0 : Int32)), .val (.int (1 : Int32)), .val (.int (0 : Int32)), .val (.int (0 : Int32))] [(.int (0 : Int32))])) _
          refine XS.iload X17.here hx rfl (hb hby at_167) rfl ?_
          show Steps p.tables e below (T17.setTop (mkF m 169 #[.val (.int p1), .val (.int p2), .val (.int p3), .val (.int n1), .val (.int se), .val (.int k1), .val (.int (0 : Int32)), .val (.ref w_ACTIVE), .val (.int (1 : Int32)), .val (.int (0 : Int32)), .val (.int (0 : Int32)), .val (.int (1 : Int32)), .val (.int (0 : Int32)), .val (.int (0 : Int32))] [(.int (0 : Int32)), (.int (0 : Int32))])) _
          refine XS.icmpNo X17.here hx rfl (hb hby at_169) rfl (teq (by decide : (0 : Int32) = (0 : Int32))).2 ?_
          show Steps p.tables e below (T17.setTop (mkF m 172 #[.val (.int p1), .val (.int p2), .val (.int p3), .val (.int n1), .val (.int se), .val (.int k1), .val (.int (0 : Int32)), .val (.ref w_ACTIVE), .val (.int (1 : Int32)), .val (.int (0 : Int32)), .val (.int (0 : Int32)), .val (.int (1 : Int32)), .val (.int (0 : Int32)), .val (.int (0 : Int32))] [])) _
          refine XS.iconst X17.here hx rfl (hb hby at_172) ?_
          show Steps p.tables e below (T17.setTop (mkF m 173 #[.val (.int p1), .val (.int p2), .val (.int p3), .val (.int n1), .val (.int se), .val (.int k1), .val (.int (0 : Int32)), .val (.ref w_ACTIVE), .val (.int (1 : Int32)), .val (.int (0 : Int32)), .val (.int (0 : Int32)), .val (.int (1 : Int32)), .val (.int (0 : Int32)), .val (.int (0 : Int32))] [(.int (1 : Int32))])) _
          refine XS.goto X17.here hx rfl (pc0 := 173) (pc' := 177) rfl (hb hby at_173) (by decide) (by decide) ?_
          show Steps p.tables e below (T17.setTop (mkF m 177 #[.val (.int p1), .val (.int p2), .val (.int p3), .val (.int n1), .val (.int se), .val (.int k1), .val (.int (0 : Int32)), .val (.ref w_ACTIVE), .val (.int (1 : Int32)), .val (.int (0 : Int32)), .val (.int (0 : Int32)), .val (.int (1 : Int32)), .val (.int (0 : Int32)), .val (.int (0 : Int32))] [(.int (1 : Int32))])) _
          exact k
        obtain ⟨fs, hr, hrun, hended, hW, hsame⟩ := X17.leave (v := some (.int (1 : Int32))) (fun h => by rw [Bd.returns] at h; cases h)
        refine ⟨_, _, ?_, hrun, hended, _, _, rfl, ?_, ⟨_, rfl⟩, hW, hsame.mono (by decide) (by decide)⟩
        · exact retN X17 hx (t := .boolean) Bd.returns (by simp) (hb hby at_177) hr
        · show Q0 Z p1 p2 p3 w_ACTIVE w_UNAVAILABLE w_LIMITED h0 n0 _ T17.heap _
          rw [e17]
          exact ⟨rfl, N14⟩
    · by_cases hk0 : k1 = (0 : Int32)
      · refine own_go (B := s₁.setTop (mkF m 52 #[.val (.int p1), .val (.int p2), .val (.int p3), .val (.int n1), .val (.int se), .val (.int k1), .val (.int (n1 - k1)), .unset, .unset, .unset, .unset, .unset, .unset, .unset] [])) (fun t k => ?_) ?_
        · show Steps p.tables e below (s₁.setTop (mkF m 46 #[.val (.int p1), .val (.int p2), .val (.int p3), .val (.int n1), .val (.int se), .val (.int k1), .unset, .unset, .unset, .unset, .unset, .unset, .unset, .unset] [])) _
          refine XS.iloadN X0.here hx rfl (hb hby at_46) rfl ?_
          show Steps p.tables e below (s₁.setTop (mkF m 47 #[.val (.int p1), .val (.int p2), .val (.int p3), .val (.int n1), .val (.int se), .val (.int k1), .unset, .unset, .unset, .unset, .unset, .unset, .unset, .unset] [(.int n1)])) _
          refine XS.iload X0.here hx rfl (hb hby at_47) rfl ?_
          show Steps p.tables e below (s₁.setTop (mkF m 49 #[.val (.int p1), .val (.int p2), .val (.int p3), .val (.int n1), .val (.int se), .val (.int k1), .unset, .unset, .unset, .unset, .unset, .unset, .unset, .unset] [(.int k1), (.int n1)])) _
          refine XS.isub X0.here hx rfl (hb hby at_49) rfl ?_
          show Steps p.tables e below (s₁.setTop (mkF m 50 #[.val (.int p1), .val (.int p2), .val (.int p3), .val (.int n1), .val (.int se), .val (.int k1), .unset, .unset, .unset, .unset, .unset, .unset, .unset, .unset] [(.int (n1 - k1))])) _
          refine XS.istore X0.here hx rfl (hb hby at_50) rfl (l' := #[.val (.int p1), .val (.int p2), .val (.int p3), .val (.int n1), .val (.int se), .val (.int k1), .val (.int (n1 - k1)), .unset, .unset, .unset, .unset, .unset, .unset, .unset]) rfl ?_
          show Steps p.tables e below (s₁.setTop (mkF m 52 #[.val (.int p1), .val (.int p2), .val (.int p3), .val (.int n1), .val (.int se), .val (.int k1), .val (.int (n1 - k1)), .unset, .unset, .unset, .unset, .unset, .unset, .unset] [])) _
          exact k
        have hout := own_out k1 n1 hcut.1 hcut.2 hkn
        refine own_go (B := s₁.setTop (mkF m 55 #[.val (.int p1), .val (.int p2), .val (.int p3), .val (.int n1), .val (.int se), .val (.int k1), .val (.int (n1 - k1)), .unset, .unset, .unset, .unset, .unset, .unset, .unset] [(.int n1), (.int k1)])) (fun t k => ?_) ?_
        · show Steps p.tables e below (s₁.setTop (mkF m 52 #[.val (.int p1), .val (.int p2), .val (.int p3), .val (.int n1), .val (.int se), .val (.int k1), .val (.int (n1 - k1)), .unset, .unset, .unset, .unset, .unset, .unset, .unset] [])) _
          refine XS.iload X0.here hx rfl (hb hby at_52) rfl ?_
          show Steps p.tables e below (s₁.setTop (mkF m 54 #[.val (.int p1), .val (.int p2), .val (.int p3), .val (.int n1), .val (.int se), .val (.int k1), .val (.int (n1 - k1)), .unset, .unset, .unset, .unset, .unset, .unset, .unset] [(.int k1)])) _
          refine XS.iloadN X0.here hx rfl (hb hby at_54) rfl ?_
          show Steps p.tables e below (s₁.setTop (mkF m 55 #[.val (.int p1), .val (.int p2), .val (.int p3), .val (.int n1), .val (.int se), .val (.int k1), .val (.int (n1 - k1)), .unset, .unset, .unset, .unset, .unset, .unset, .unset] [(.int n1), (.int k1)])) _
          exact k
        obtain ⟨_, _, ⟨T21, L21, k21, n21⟩, -, X21, ⟨Lc21, hQ21, l21, y21, z21⟩, st21⟩ := Jvm.LawKit.callS X0 hx (y := (⟨"com/example/porthcurno/porthcurno/service/QueueState$Status", "of", "(II)Lcom/example/porthcurno/porthcurno/service/QueueState$Status;"⟩ : MethodName)) hown (mvT hZ (hw _ (List.mem_of_getElem? (i := 1) rfl))) (mvT hZ (hw _ (List.mem_of_getElem? (i := 2) rfl))) (mvT hZ (hw _ (List.mem_of_getElem? (i := 3) rfl))) (mvT hZ (hw _ (List.mem_of_getElem? (i := 4) rfl))) (by decide) (backOf (W := 0) (rm1 l Z a0 hw [] k1 n1 w_ACTIVE w_UNAVAILABLE w_LIMITED h0 n0 Z0 S_ACTIVE S_UNAVAILABLE S_LIMITED) hZ (hw _ (List.mem_of_getElem? (i := 4) rfl)) (hw _ (List.mem_of_getElem? (i := 3) rfl)) (by decide) (by decide)) (g := (mkF m 55 #[.val (.int p1), .val (.int p2), .val (.int p3), .val (.int n1), .val (.int se), .val (.int k1), .val (.int (n1 - k1)), .unset, .unset, .unset, .unset, .unset, .unset, .unset] [(.int n1), (.int k1)])) rfl (by rw [hml]; rfl) (argsL := [(.int k1), (.int n1)]) (rest := []) (lenOf pd_0 rfl) rfl (by show 2 * 0 + _ ≤ _; exact Nat.le_of_eq rfl) (hb hby at_55) (fun _ _ => ⟨rfl, e0, (by decide : 0 + 0 ≤ _), (by decide : 0 + 0 ≤ _)⟩)
        dsimp only [Pt.U, Pt.locs, Pt.cells, Pt.slots] at X21 l21 y21 z21 st21 hQ21
        subst l21 y21 z21
        obtain ⟨rfl, M21, q21_0⟩ := hQ21
        have N21 := Fr.app N0 M21
        refine own_go st21 ?_
        rw [show (if k1 = n1 then w_ACTIVE else if k1 = (0 : Int32) then w_UNAVAILABLE else w_LIMITED) = w_UNAVAILABLE from (if_neg hkn).trans (if_pos hk0)]
        refine own_go (B := T21.setTop (mkF m 62 #[.val (.int p1), .val (.int p2), .val (.int p3), .val (.int n1), .val (.int se), .val (.int k1), .val (.int (n1 - k1)), .val (.ref w_UNAVAILABLE), .unset, .unset, .unset, .unset, .unset, .unset] [(.ref w_UNAVAILABLE)])) (fun t k => ?_) ?_
        · show Steps p.tables e below (T21.setTop (mkF m 58 #[.val (.int p1), .val (.int p2), .val (.int p3), .val (.int n1), .val (.int se), .val (.int k1), .val (.int (n1 - k1)), .unset, .unset, .unset, .unset, .unset, .unset, .unset] [(.ref w_UNAVAILABLE)])) _
          refine XS.astore X21.here hx rfl (hb hby at_58) rfl rfl (l' := #[.val (.int p1), .val (.int p2), .val (.int p3), .val (.int n1), .val (.int se), .val (.int k1), .val (.int (n1 - k1)), .val (.ref w_UNAVAILABLE), .unset, .unset, .unset, .unset, .unset, .unset]) rfl ?_
          show Steps p.tables e below (T21.setTop (mkF m 60 #[.val (.int p1), .val (.int p2), .val (.int p3), .val (.int n1), .val (.int se), .val (.int k1), .val (.int (n1 - k1)), .val (.ref w_UNAVAILABLE), .unset, .unset, .unset, .unset, .unset, .unset] [])) _
          refine XS.aload X21.here hx rfl (hb hby at_60) rfl rfl ?_
          show Steps p.tables e below (T21.setTop (mkF m 62 #[.val (.int p1), .val (.int p2), .val (.int p3), .val (.int n1), .val (.int se), .val (.int k1), .val (.int (n1 - k1)), .val (.ref w_UNAVAILABLE), .unset, .unset, .unset, .unset, .unset, .unset] [(.ref w_UNAVAILABLE)])) _
          exact k
        obtain ⟨T22, X22, e22, st22⟩ := getS2 X21 hx hZ hown (host := "") (Or.inl (hw _ (List.mem_of_getElem? (i := 7) rfl))) Via.refl q21_0 S_ACTIVE (g := (mkF m 62 #[.val (.int p1), .val (.int p2), .val (.int p3), .val (.int n1), .val (.int se), .val (.int k1), .val (.int (n1 - k1)), .val (.ref w_UNAVAILABLE), .unset, .unset, .unset, .unset, .unset, .unset] [(.ref w_UNAVAILABLE)])) rfl (hb hby at_62)
        refine own_go st22 ?_
        refine own_go (B := T22.setTop (mkF m 77 #[.val (.int p1), .val (.int p2), .val (.int p3), .val (.int n1), .val (.int se), .val (.int k1), .val (.int (n1 - k1)), .val (.ref w_UNAVAILABLE), .val (.int (0 : Int32)), .unset, .unset, .unset, .unset, .unset] [(.ref w_UNAVAILABLE)])) (fun t k => ?_) ?_
        · show Steps p.tables e below (T22.setTop (mkF m 65 #[.val (.int p1), .val (.int p2), .val (.int p3), .val (.int n1), .val (.int se), .val (.int k1), .val (.int (n1 - k1)), .val (.ref w_UNAVAILABLE), .unset, .unset, .unset, .unset, .unset, .unset] [(.ref w_ACTIVE), (.ref w_UNAVAILABLE)])) _
          refine Jvm.RoadKit.acmp (g := (mkF m 65 #[.val (.int p1), .val (.int p2), .val (.int p3), .val (.int n1), .val (.int se), .val (.int k1), .val (.int (n1 - k1)), .val (.ref w_UNAVAILABLE), .unset, .unset, .unset, .unset, .unset, .unset] [(.ref w_ACTIVE), (.ref w_UNAVAILABLE)])) X22 hx rfl rfl rfl (pc0 := 65) (pc' := 72) (same := false) rfl (hb hby at_65) rfl (decide_eq_false fun q => (Fld.ne F_UNAVAILABLE_ordinal F_ACTIVE_ordinal (by decide)) (Value.ref.inj q)) (by decide) (by decide) ?_
          show Steps p.tables e below (T22.setTop (mkF m 72 #[.val (.int p1), .val (.int p2), .val (.int p3), .val (.int n1), .val (.int se), .val (.int k1), .val (.int (n1 - k1)), .val (.ref w_UNAVAILABLE), .unset, .unset, .unset, .unset, .unset, .unset] [])) _
          refine XS.iconst X22.here hx rfl (hb hby at_72) ?_
          show Steps p.tables e below (T22.setTop (mkF m 73 #[.val (.int p1), .val (.int p2), .val (.int p3), .val (.int n1), .val (.int se), .val (.int k1), .val (.int (n1 - k1)), .val (.ref w_UNAVAILABLE), .unset, .unset, .unset, .unset, .unset, .unset] [(.int (0 : Int32))])) _
          refine XS.istore X22.here hx rfl (hb hby at_73) rfl (l' := #[.val (.int p1), .val (.int p2), .val (.int p3), .val (.int n1), .val (.int se), .val (.int k1), .val (.int (n1 - k1)), .val (.ref w_UNAVAILABLE), .val (.int (0 : Int32)), .unset, .unset, .unset, .unset, .unset]) rfl ?_
          show Steps p.tables e below (T22.setTop (mkF m 75 #[.val (.int p1), .val (.int p2), .val (.int p3), .val (.int n1), .val (.int se), .val (.int k1), .val (.int (n1 - k1)), .val (.ref w_UNAVAILABLE), .val (.int (0 : Int32)), .unset, .unset, .unset, .unset, .unset] [])) _
          refine XS.aload X22.here hx rfl (hb hby at_75) rfl rfl ?_
          show Steps p.tables e below (T22.setTop (mkF m 77 #[.val (.int p1), .val (.int p2), .val (.int p3), .val (.int n1), .val (.int se), .val (.int k1), .val (.int (n1 - k1)), .val (.ref w_UNAVAILABLE), .val (.int (0 : Int32)), .unset, .unset, .unset, .unset, .unset] [(.ref w_UNAVAILABLE)])) _
          exact k
        obtain ⟨T23, X23, e23, st23⟩ := getS2 X22 hx hZ hown (host := "") (Or.inl (hw _ (List.mem_of_getElem? (i := 8) rfl))) Via.refl e22 S_UNAVAILABLE (g := (mkF m 77 #[.val (.int p1), .val (.int p2), .val (.int p3), .val (.int n1), .val (.int se), .val (.int k1), .val (.int (n1 - k1)), .val (.ref w_UNAVAILABLE), .val (.int (0 : Int32)), .unset, .unset, .unset, .unset, .unset] [(.ref w_UNAVAILABLE)])) rfl (hb hby at_77)
        refine own_go st23 ?_
        refine own_go (B := T23.setTop (mkF m 92 #[.val (.int p1), .val (.int p2), .val (.int p3), .val (.int n1), .val (.int se), .val (.int k1), .val (.int (n1 - k1)), .val (.ref w_UNAVAILABLE), .val (.int (0 : Int32)), .val (.int (1 : Int32)), .unset, .unset, .unset, .unset] [(.ref w_UNAVAILABLE)])) (fun t k => ?_) ?_
        · show Steps p.tables e below (T23.setTop (mkF m 80 #[.val (.int p1), .val (.int p2), .val (.int p3), .val (.int n1), .val (.int se), .val (.int k1), .val (.int (n1 - k1)), .val (.ref w_UNAVAILABLE), .val (.int (0 : Int32)), .unset, .unset, .unset, .unset, .unset] [(.ref w_UNAVAILABLE), (.ref w_UNAVAILABLE)])) _
          refine Jvm.RoadKit.acmp (g := (mkF m 80 #[.val (.int p1), .val (.int p2), .val (.int p3), .val (.int n1), .val (.int se), .val (.int k1), .val (.int (n1 - k1)), .val (.ref w_UNAVAILABLE), .val (.int (0 : Int32)), .unset, .unset, .unset, .unset, .unset] [(.ref w_UNAVAILABLE), (.ref w_UNAVAILABLE)])) X23 hx rfl rfl rfl (pc0 := 80) (pc' := 83) (same := true) rfl (hb hby at_80) rfl (decide_eq_true rfl) (by decide) (by decide) ?_
          show Steps p.tables e below (T23.setTop (mkF m 83 #[.val (.int p1), .val (.int p2), .val (.int p3), .val (.int n1), .val (.int se), .val (.int k1), .val (.int (n1 - k1)), .val (.ref w_UNAVAILABLE), .val (.int (0 : Int32)), .unset, .unset, .unset, .unset, .unset] [])) _
          refine XS.iconst X23.here hx rfl (hb hby at_83) ?_
          show Steps p.tables e below (T23.setTop (mkF m 84 #[.val (.int p1), .val (.int p2), .val (.int p3), .val (.int n1), .val (.int se), .val (.int k1), .val (.int (n1 - k1)), .val (.ref w_UNAVAILABLE), .val (.int (0 : Int32)), .unset, .unset, .unset, .unset, .unset] [(.int (1 : Int32))])) _
          refine XS.goto X23.here hx rfl (pc0 := 84) (pc' := 88) rfl (hb hby at_84) (by decide) (by decide) ?_
          show Steps p.tables e below (T23.setTop (mkF m 88 #[.val (.int p1), .val (.int p2), .val (.int p3), .val (.int n1), .val (.int se), .val (.int k1), .val (.int (n1 - k1)), .val (.ref w_UNAVAILABLE), .val (.int (0 : Int32)), .unset, .unset, .unset, .unset, .unset] [(.int (1 : Int32))])) _
          refine XS.istore X23.here hx rfl (hb hby at_88) rfl (l' := #[.val (.int p1), .val (.int p2), .val (.int p3), .val (.int n1), .val (.int se), .val (.int k1), .val (.int (n1 - k1)), .val (.ref w_UNAVAILABLE), .val (.int (0 : Int32)), .val (.int (1 : Int32)), .unset, .unset, .unset, .unset]) rfl ?_
          show Steps p.tables e below (T23.setTop (mkF m 90 #[.val (.int p1), .val (.int p2), .val (.int p3), .val (.int n1), .val (.int se), .val (.int k1), .val (.int (n1 - k1)), .val (.ref w_UNAVAILABLE), .val (.int (0 : Int32)), .val (.int (1 : Int32)), .unset, .unset, .unset, .unset] [])) _
          refine XS.aload X23.here hx rfl (hb hby at_90) rfl rfl ?_
          show Steps p.tables e below (T23.setTop (mkF m 92 #[.val (.int p1), .val (.int p2), .val (.int p3), .val (.int n1), .val (.int se), .val (.int k1), .val (.int (n1 - k1)), .val (.ref w_UNAVAILABLE), .val (.int (0 : Int32)), .val (.int (1 : Int32)), .unset, .unset, .unset, .unset] [(.ref w_UNAVAILABLE)])) _
          exact k
        obtain ⟨T24, X24, e24, st24⟩ := getS2 X23 hx hZ hown (host := "") (Or.inl (hw _ (List.mem_of_getElem? (i := 10) rfl))) Via.refl e23 S_LIMITED (g := (mkF m 92 #[.val (.int p1), .val (.int p2), .val (.int p3), .val (.int n1), .val (.int se), .val (.int k1), .val (.int (n1 - k1)), .val (.ref w_UNAVAILABLE), .val (.int (0 : Int32)), .val (.int (1 : Int32)), .unset, .unset, .unset, .unset] [(.ref w_UNAVAILABLE)])) rfl (hb hby at_92)
        refine own_go st24 ?_
        refine own_go (B := T24.setTop (mkF m 177 #[.val (.int p1), .val (.int p2), .val (.int p3), .val (.int n1), .val (.int se), .val (.int k1), .val (.int (n1 - k1)), .val (.ref w_UNAVAILABLE), .val (.int (0 : Int32)), .val (.int (1 : Int32)), .val (.int (0 : Int32)), .val (.int (0 : Int32)), .val (.int (1 : Int32)), .val (.int (0 : Int32))] [(.int (1 : Int32))])) (fun t k => ?_) ?_
        · show Steps p.tables e below (T24.setTop (mkF m 95 #[.val (.int p1), .val (.int p2), .val (.int p3), .val (.int n1), .val (.int se), .val (.int k1), .val (.int (n1 - k1)), .val (.ref w_UNAVAILABLE), .val (.int (0 : Int32)), .val (.int (1 : Int32)), .unset, .unset, .unset, .unset] [(.ref w_LIMITED), (.ref w_UNAVAILABLE)])) _
          refine Jvm.RoadKit.acmp (g := (mkF m 95 #[.val (.int p1), .val (.int p2), .val (.int p3), .val (.int n1), .val (.int se), .val (.int k1), .val (.int (n1 - k1)), .val (.ref w_UNAVAILABLE), .val (.int (0 : Int32)), .val (.int (1 : Int32)), .unset, .unset, .unset, .unset] [(.ref w_LIMITED), (.ref w_UNAVAILABLE)])) X24 hx rfl rfl rfl (pc0 := 95) (pc' := 102) (same := false) rfl (hb hby at_95) rfl (decide_eq_false fun q => (Fld.ne F_UNAVAILABLE_ordinal F_LIMITED_ordinal (by decide)) (Value.ref.inj q)) (by decide) (by decide) ?_
          show Steps p.tables e below (T24.setTop (mkF m 102 #[.val (.int p1), .val (.int p2), .val (.int p3), .val (.int n1), .val (.int se), .val (.int k1), .val (.int (n1 - k1)), .val (.ref w_UNAVAILABLE), .val (.int (0 : Int32)), .val (.int (1 : Int32)), .unset, .unset, .unset, .unset] [])) _
          refine XS.iconst X24.here hx rfl (hb hby at_102) ?_
          show Steps p.tables e below (T24.setTop (mkF m 103 #[.val (.int p1), .val (.int p2), .val (.int p3), .val (.int n1), .val (.int se), .val (.int k1), .val (.int (n1 - k1)), .val (.ref w_UNAVAILABLE), .val (.int (0 : Int32)), .val (.int (1 : Int32)), .unset, .unset, .unset, .unset] [(.int (0 : Int32))])) _
          refine XS.istore X24.here hx rfl (hb hby at_103) rfl (l' := #[.val (.int p1), .val (.int p2), .val (.int p3), .val (.int n1), .val (.int se), .val (.int k1), .val (.int (n1 - k1)), .val (.ref w_UNAVAILABLE), .val (.int (0 : Int32)), .val (.int (1 : Int32)), .val (.int (0 : Int32)), .unset, .unset, .unset]) rfl ?_
          show Steps p.tables e below (T24.setTop (mkF m 105 #[.val (.int p1), .val (.int p2), .val (.int p3), .val (.int n1), .val (.int se), .val (.int k1), .val (.int (n1 - k1)), .val (.ref w_UNAVAILABLE), .val (.int (0 : Int32)), .val (.int (1 : Int32)), .val (.int (0 : Int32)), .unset, .unset, .unset] [])) _
          refine XS.iload X24.here hx rfl (hb hby at_105) rfl ?_
          show Steps p.tables e below (T24.setTop (mkF m 107 #[.val (.int p1), .val (.int p2), .val (.int p3), .val (.int n1), .val (.int se), .val (.int k1), .val (.int (n1 - k1)), .val (.ref w_UNAVAILABLE), .val (.int (0 : Int32)), .val (.int (1 : Int32)), .val (.int (0 : Int32)), .unset, .unset, .unset] [(.int (n1 - k1))])) _
          refine XS.ifYes X24.here hx rfl (pc0 := 107) (pc' := 114) rfl (hb hby at_107) rfl ((if0 _ _).trans (feq (show ¬ ((n1 - k1) = (0 : Int32)) from (own_nez k1 n1 hout))).2) (by decide) (by decide) ?_
          show Steps p.tables e below (T24.setTop (mkF m 114 #[.val (.int p1), .val (.int p2), .val (.int p3), .val (.int n1), .val (.int se), .val (.int k1), .val (.int (n1 - k1)), .val (.ref w_UNAVAILABLE), .val (.int (0 : Int32)), .val (.int (1 : Int32)), .val (.int (0 : Int32)), .unset, .unset, .unset] [])) _
          refine XS.iconst X24.here hx rfl (hb hby at_114) ?_
          show Steps p.tables e below (T24.setTop (mkF m 115 #[.val (.int p1), .val (.int p2), .val (.int p3), .val (.int n1), .val (.int se), .val (.int k1), .val (.int (n1 - k1)), .val (.ref w_UNAVAILABLE), .val (.int (0 : Int32)), .val (.int (1 : Int32)), .val (.int (0 : Int32)), .unset, .unset, .unset] [(.int (0 : Int32))])) _
          refine XS.istore X24.here hx rfl (hb hby at_115) rfl (l' := #[.val (.int p1), .val (.int p2), .val (.int p3), .val (.int n1), .val (.int se), .val (.int k1), .val (.int (n1 - k1)), .val (.ref w_UNAVAILABLE), .val (.int (0 : Int32)), .val (.int (1 : Int32)), .val (.int (0 : Int32)), .val (.int (0 : Int32)), .unset, .unset]) rfl ?_
          show Steps p.tables e below (T24.setTop (mkF m 117 #[.val (.int p1), .val (.int p2), .val (.int p3), .val (.int n1), .val (.int se), .val (.int k1), .val (.int (n1 - k1)), .val (.ref w_UNAVAILABLE), .val (.int (0 : Int32)), .val (.int (1 : Int32)), .val (.int (0 : Int32)), .val (.int (0 : Int32)), .unset, .unset] [])) _
          refine XS.iload X24.here hx rfl (hb hby at_117) rfl ?_
          show Steps p.tables e below (T24.setTop (mkF m 119 #[.val (.int p1), .val (.int p2), .val (.int p3), .val (.int n1), .val (.int se), .val (.int k1), .val (.int (n1 - k1)), .val (.ref w_UNAVAILABLE), .val (.int (0 : Int32)), .val (.int (1 : Int32)), .val (.int (0 : Int32)), .val (.int (0 : Int32)), .unset, .unset] [(.int (n1 - k1))])) _
          refine XS.ifNo X24.here hx rfl (hb hby at_119) rfl ((if0 _ _).trans (tlt (show (0 : Int32) < (n1 - k1) from hout)).2.2.2) ?_
          show Steps p.tables e below (T24.setTop (mkF m 122 #[.val (.int p1), .val (.int p2), .val (.int p3), .val (.int n1), .val (.int se), .val (.int k1), .val (.int (n1 - k1)), .val (.ref w_UNAVAILABLE), .val (.int (0 : Int32)), .val (.int (1 : Int32)), .val (.int (0 : Int32)), .val (.int (0 : Int32)), .unset, .unset] [])) _
          refine XS.iload X24.here hx rfl (hb hby at_122) rfl ?_
          show Steps p.tables e below (T24.setTop (mkF m 124 #[.val (.int p1), .val (.int p2), .val (.int p3), .val (.int n1), .val (.int se), .val (.int k1), .val (.int (n1 - k1)), .val (.ref w_UNAVAILABLE), .val (.int (0 : Int32)), .val (.int (1 : Int32)), .val (.int (0 : Int32)), .val (.int (0 : Int32)), .unset, .unset] [(.int k1)])) _
          refine XS.ifNo X24.here hx rfl (hb hby at_124) rfl ((if0 _ _).trans (teq (show k1 = (0 : Int32) from hk0)).2) ?_
          show Steps p.tables e below (T24.setTop (mkF m 127 #[.val (.int p1), .val (.int p2), .val (.int p3), .val (.int n1), .val (.int se), .val (.int k1), .val (.int (n1 - k1)), .val (.ref w_UNAVAILABLE), .val (.int (0 : Int32)), .val (.int (1 : Int32)), .val (.int (0 : Int32)), .val (.int (0 : Int32)), .unset, .unset] [])) _
          refine XS.iconst X24.here hx rfl (hb hby at_127) ?_
          show Steps p.tables e below (T24.setTop (mkF m 128 #[.val (.int p1), .val (.int p2), .val (.int p3), .val (.int n1), .val (.int se), .val (.int k1), .val (.int (n1 - k1)), .val (.ref w_UNAVAILABLE), .val (.int (0 : Int32)), .val (.int (1 : Int32)), .val (.int (0 : Int32)), .val (.int (0 : Int32)), .unset, .unset] [(.int (1 : Int32))])) _
          refine XS.goto X24.here hx rfl (pc0 := 128) (pc' := 132) rfl (hb hby at_128) (by decide) (by decide) ?_
          show Steps p.tables e below (T24.setTop (mkF m 132 #[.val (.int p1), .val (.int p2), .val (.int p3), .val (.int n1), .val (.int se), .val (.int k1), .val (.int (n1 - k1)), .val (.ref w_UNAVAILABLE), .val (.int (0 : Int32)), .val (.int (1 : Int32)), .val (.int (0 : Int32)), .val (.int (0 : Int32)), .unset, .unset] [(.int (1 : Int32))])) _
          refine XS.istore X24.here hx rfl (hb hby at_132) rfl (l' := #[.val (.int p1), .val (.int p2), .val (.int p3), .val (.int n1), .val (.int se), .val (.int k1), .val (.int (n1 - k1)), .val (.ref w_UNAVAILABLE), .val (.int (0 : Int32)), .val (.int (1 : Int32)), .val (.int (0 : Int32)), .val (.int (0 : Int32)), .val (.int (1 : Int32)), .unset]) rfl ?_
          show Steps p.tables e below (T24.setTop (mkF m 134 #[.val (.int p1), .val (.int p2), .val (.int p3), .val (.int n1), .val (.int se), .val (.int k1), .val (.int (n1 - k1)), .val (.ref w_UNAVAILABLE), .val (.int (0 : Int32)), .val (.int (1 : Int32)), .val (.int (0 : Int32)), .val (.int (0 : Int32)), .val (.int (1 : Int32)), .unset] [])) _
          refine XS.iload X24.here hx rfl (hb hby at_134) rfl ?_
          show Steps p.tables e below (T24.setTop (mkF m 136 #[.val (.int p1), .val (.int p2), .val (.int p3), .val (.int n1), .val (.int se), .val (.int k1), .val (.int (n1 - k1)), .val (.ref w_UNAVAILABLE), .val (.int (0 : Int32)), .val (.int (1 : Int32)), .val (.int (0 : Int32)), .val (.int (0 : Int32)), .val (.int (1 : Int32)), .unset] [(.int k1)])) _
          refine XS.ifYes X24.here hx rfl (pc0 := 136) (pc' := 148) rfl (hb hby at_136) rfl ((if0 _ _).trans (flt (show ¬ ((0 : Int32) < k1) from (by rw [hk0]; decide))).2.2.2) (by decide) (by decide) ?_
          show Steps p.tables e below (T24.setTop (mkF m 148 #[.val (.int p1), .val (.int p2), .val (.int p3), .val (.int n1), .val (.int se), .val (.int k1), .val (.int (n1 - k1)), .val (.ref w_UNAVAILABLE), .val (.int (0 : Int32)), .val (.int (1 : Int32)), .val (.int (0 : Int32)), .val (.int (0 : Int32)), .val (.int (1 : Int32)), .unset] [])) _
          refine XS.iconst X24.here hx rfl (hb hby at_148) ?_
          show Steps p.tables e below (T24.setTop (mkF m 149 #[.val (.int p1), .val (.int p2), .val (.int p3), .val (.int n1), .val (.int se), .val (.int k1), .val (.int (n1 - k1)), .val (.ref w_UNAVAILABLE), .val (.int (0 : Int32)), .val (.int (1 : Int32)), .val (.int (0 : Int32)), .val (.int (0 : Int32)), .val (.int (1 : Int32)), .unset] [(.int (0 : Int32))])) _
          refine XS.istore X24.here hx rfl (hb hby at_149) rfl (l' := #[.val (.int p1), .val (.int p2), .val (.int p3), .val (.int n1), .val (.int se), .val (.int k1), .val (.int (n1 - k1)), .val (.ref w_UNAVAILABLE), .val (.int (0 : Int32)), .val (.int (1 : Int32)), .val (.int (0 : Int32)), .val (.int (0 : Int32)), .val (.int (1 : Int32)), .val (.int (0 : Int32))]) rfl ?_
          show Steps p.tables e below (T24.setTop (mkF m 151 #[.val (.int p1), .val (.int p2), .val (.int p3), .val (.int n1), .val (.int se), .val (.int k1), .val (.int (n1 - k1)), .val (.ref w_UNAVAILABLE), .val (.int (0 : Int32)), .val (.int (1 : Int32)), .val (.int (0 : Int32)), .val (.int (0 : Int32)), .val (.int (1 : Int32)), .val (.int (0 : Int32))] [])) _
          refine XS.iload X24.here hx rfl (hb hby at_151) rfl ?_
          show Steps p.tables e below (T24.setTop (mkF m 153 #[.val (.int p1), .val (.int p2), .val (.int p3), .val (.int n1), .val (.int se), .val (.int k1), .val (.int (n1 - k1)), .val (.ref w_UNAVAILABLE), .val (.int (0 : Int32)), .val (.int (1 : Int32)), .val (.int (0 : Int32)), .val (.int (0 : Int32)), .val (.int (1 : Int32)), .val (.int (0 : Int32))] [(.int (0 : Int32))])) _
          refine XS.iload X24.here hx rfl (hb hby at_153) rfl ?_
          show Steps p.tables e below (T24.setTop (mkF m 155 #[.val (.int p1), .val (.int p2), .val (.int p3), .val (.int n1), .val (.int se), .val (.int k1), .val (.int (n1 - k1)), .val (.ref w_UNAVAILABLE), .val (.int (0 : Int32)), .val (.int (1 : Int32)), .val (.int (0 : Int32)), .val (.int (0 : Int32)), .val (.int (1 : Int32)), .val (.int (0 : Int32))] [(.int (0 : Int32)), (.int (0 : Int32))])) _
          refine XS.icmpNo X24.here hx rfl (hb hby at_155) rfl (teq (by decide : (0 : Int32) = (0 : Int32))).2 ?_
          show Steps p.tables e below (T24.setTop (mkF m 158 #[.val (.int p1), .val (.int p2), .val (.int p3), .val (.int n1), .val (.int se), .val (.int k1), .val (.int (n1 - k1)), .val (.ref w_UNAVAILABLE), .val (.int (0 : Int32)), .val (.int (1 : Int32)), .val (.int (0 : Int32)), .val (.int (0 : Int32)), .val (.int (1 : Int32)), .val (.int (0 : Int32))] [])) _
          refine XS.iload X24.here hx rfl (hb hby at_158) rfl ?_
          show Steps p.tables e below (T24.setTop (mkF m 160 #[.val (.int p1), .val (.int p2), .val (.int p3), .val (.int n1), .val (.int se), .val (.int k1), .val (.int (n1 - k1)), .val (.ref w_UNAVAILABLE), .val (.int (0 : Int32)), .val (.int (1 : Int32)), .val (.int (0 : Int32)), .val (.int (0 : Int32)), .val (.int (1 : Int32)), .val (.int (0 : Int32))] [(.int (1 : Int32))])) _
          refine XS.iload X24.here hx rfl (hb hby at_160) rfl ?_
          show Steps p.tables e below (T24.setTop (mkF m 162 #[.val (.int p1), .val (.int p2), .val (.int p3), .val (.int n1), .val (.int se), .val (.int k1), .val (.int (n1 - k1)), .val (.ref w_UNAVAILABLE), .val (.int (0 : Int32)), .val (.int (1 : Int32)), .val (.int (0 : Int32)), .val (.int (0 : Int32)), .val (.int (1 : Int32)), .val (.int (0 : Int32))] [(.int (1 : Int32)), (.int (1 : Int32))])) _
          refine XS.icmpNo X24.here hx rfl (hb hby at_162) rfl (teq (by decide : (1 : Int32) = (1 : Int32))).2 ?_
          show Steps p.tables e below (T24.setTop (mkF m 165 #[.val (.int p1), .val (.int p2), .val (.int p3), .val (.int n1), .val (.int se), .val (.int k1), .val (.int (n1 - k1)), .val (.ref w_UNAVAILABLE), .val (.int (0 : Int32)), .val (.int (1 : Int32)), .val (.int (0 : Int32)), .val (.int (0 : Int32)), .val (.int (1 : Int32)), .val (.int (0 : Int32))] [])) _
          refine XS.iload X24.here hx rfl (hb hby at_165) rfl ?_
          show Steps p.tables e below (T24.setTop (mkF m 167 #[.val (.int p1), .val (.int p2), .val (.int p3), .val (.int n1), .val (.int se), .val (.int k1), .val (.int (n1 - k1)), .val (.ref w_UNAVAILABLE), .val (.int (0 : Int32)), .val (.int (1 : Int32)), .val (.int (0 : Int32)), .val (.int (0 : Int32)), .val (.int (1 : Int32)), .val (.int (0 : Int32))] [(.int (0 : Int32))])) _
          refine XS.iload X24.here hx rfl (hb hby at_167) rfl ?_
          show Steps p.tables e below (T24.setTop (mkF m 169 #[.val (.int p1), .val (.int p2), .val (.int p3), .val (.int n1), .val (.int se), .val (.int k1), .val (.int (n1 - k1)), .val (.ref w_UNAVAILABLE), .val (.int (0 : Int32)), .val (.int (1 : Int32)), .val (.int (0 : Int32)), .val (.int (0 : Int32)), .val (.int (1 : Int32)), .val (.int (0 : Int32))] [(.int (0 : Int32)), (.int (0 : Int32))])) _
          refine XS.icmpNo X24.here hx rfl (hb hby at_169) rfl (teq (by decide : (0 : Int32) = (0 : Int32))).2 ?_
          show Steps p.tables e below (T24.setTop (mkF m 172 #[.val (.int p1), .val (.int p2), .val (.int p3), .val (.int n1), .val (.int se), .val (.int k1), .val (.int (n1 - k1)), .val (.ref w_UNAVAILABLE), .val (.int (0 : Int32)), .val (.int (1 : Int32)), .val (.int (0 : Int32)), .val (.int (0 : Int32)), .val (.int (1 : Int32)), .val (.int (0 : Int32))] [])) _
          refine XS.iconst X24.here hx rfl (hb hby at_172) ?_
          show Steps p.tables e below (T24.setTop (mkF m 173 #[.val (.int p1), .val (.int p2), .val (.int p3), .val (.int n1), .val (.int se), .val (.int k1), .val (.int (n1 - k1)), .val (.ref w_UNAVAILABLE), .val (.int (0 : Int32)), .val (.int (1 : Int32)), .val (.int (0 : Int32)), .val (.int (0 : Int32)), .val (.int (1 : Int32)), .val (.int (0 : Int32))] [(.int (1 : Int32))])) _
          refine XS.goto X24.here hx rfl (pc0 := 173) (pc' := 177) rfl (hb hby at_173) (by decide) (by decide) ?_
          show Steps p.tables e below (T24.setTop (mkF m 177 #[.val (.int p1), .val (.int p2), .val (.int p3), .val (.int n1), .val (.int se), .val (.int k1), .val (.int (n1 - k1)), .val (.ref w_UNAVAILABLE), .val (.int (0 : Int32)), .val (.int (1 : Int32)), .val (.int (0 : Int32)), .val (.int (0 : Int32)), .val (.int (1 : Int32)), .val (.int (0 : Int32))] [(.int (1 : Int32))])) _
          exact k
        obtain ⟨fs, hr, hrun, hended, hW, hsame⟩ := X24.leave (v := some (.int (1 : Int32))) (fun h => by rw [Bd.returns] at h; cases h)
        refine ⟨_, _, ?_, hrun, hended, _, _, rfl, ?_, ⟨_, rfl⟩, hW, hsame.mono (by decide) (by decide)⟩
        · exact retN X24 hx (t := .boolean) Bd.returns (by simp) (hb hby at_177) hr
        · show Q0 Z p1 p2 p3 w_ACTIVE w_UNAVAILABLE w_LIMITED h0 n0 _ T24.heap _
          rw [e24]
          exact ⟨rfl, N21⟩
      · refine own_go (B := s₁.setTop (mkF m 52 #[.val (.int p1), .val (.int p2), .val (.int p3), .val (.int n1), .val (.int se), .val (.int k1), .val (.int (n1 - k1)), .unset, .unset, .unset, .unset, .unset, .unset, .unset] [])) (fun t k => ?_) ?_
        · show Steps p.tables e below (s₁.setTop (mkF m 46 #[.val (.int p1), .val (.int p2), .val (.int p3), .val (.int n1), .val (.int se), .val (.int k1), .unset, .unset, .unset, .unset, .unset, .unset, .unset, .unset] [])) _
          refine XS.iloadN X0.here hx rfl (hb hby at_46) rfl ?_
          show Steps p.tables e below (s₁.setTop (mkF m 47 #[.val (.int p1), .val (.int p2), .val (.int p3), .val (.int n1), .val (.int se), .val (.int k1), .unset, .unset, .unset, .unset, .unset, .unset, .unset, .unset] [(.int n1)])) _
          refine XS.iload X0.here hx rfl (hb hby at_47) rfl ?_
          show Steps p.tables e below (s₁.setTop (mkF m 49 #[.val (.int p1), .val (.int p2), .val (.int p3), .val (.int n1), .val (.int se), .val (.int k1), .unset, .unset, .unset, .unset, .unset, .unset, .unset, .unset] [(.int k1), (.int n1)])) _
          refine XS.isub X0.here hx rfl (hb hby at_49) rfl ?_
          show Steps p.tables e below (s₁.setTop (mkF m 50 #[.val (.int p1), .val (.int p2), .val (.int p3), .val (.int n1), .val (.int se), .val (.int k1), .unset, .unset, .unset, .unset, .unset, .unset, .unset, .unset] [(.int (n1 - k1))])) _
          refine XS.istore X0.here hx rfl (hb hby at_50) rfl (l' := #[.val (.int p1), .val (.int p2), .val (.int p3), .val (.int n1), .val (.int se), .val (.int k1), .val (.int (n1 - k1)), .unset, .unset, .unset, .unset, .unset, .unset, .unset]) rfl ?_
          show Steps p.tables e below (s₁.setTop (mkF m 52 #[.val (.int p1), .val (.int p2), .val (.int p3), .val (.int n1), .val (.int se), .val (.int k1), .val (.int (n1 - k1)), .unset, .unset, .unset, .unset, .unset, .unset, .unset] [])) _
          exact k
        have hout := own_out k1 n1 hcut.1 hcut.2 hkn
        have hkp := own_pos k1 hcut.1 hk0
        refine own_go (B := s₁.setTop (mkF m 55 #[.val (.int p1), .val (.int p2), .val (.int p3), .val (.int n1), .val (.int se), .val (.int k1), .val (.int (n1 - k1)), .unset, .unset, .unset, .unset, .unset, .unset, .unset] [(.int n1), (.int k1)])) (fun t k => ?_) ?_
        · show Steps p.tables e below (s₁.setTop (mkF m 52 #[.val (.int p1), .val (.int p2), .val (.int p3), .val (.int n1), .val (.int se), .val (.int k1), .val (.int (n1 - k1)), .unset, .unset, .unset, .unset, .unset, .unset, .unset] [])) _
          refine XS.iload X0.here hx rfl (hb hby at_52) rfl ?_
          show Steps p.tables e below (s₁.setTop (mkF m 54 #[.val (.int p1), .val (.int p2), .val (.int p3), .val (.int n1), .val (.int se), .val (.int k1), .val (.int (n1 - k1)), .unset, .unset, .unset, .unset, .unset, .unset, .unset] [(.int k1)])) _
          refine XS.iloadN X0.here hx rfl (hb hby at_54) rfl ?_
          show Steps p.tables e below (s₁.setTop (mkF m 55 #[.val (.int p1), .val (.int p2), .val (.int p3), .val (.int n1), .val (.int se), .val (.int k1), .val (.int (n1 - k1)), .unset, .unset, .unset, .unset, .unset, .unset, .unset] [(.int n1), (.int k1)])) _
          exact k
        obtain ⟨_, _, ⟨T26, L26, k26, n26⟩, -, X26, ⟨Lc26, hQ26, l26, y26, z26⟩, st26⟩ := Jvm.LawKit.callS X0 hx (y := (⟨"com/example/porthcurno/porthcurno/service/QueueState$Status", "of", "(II)Lcom/example/porthcurno/porthcurno/service/QueueState$Status;"⟩ : MethodName)) hown (mvT hZ (hw _ (List.mem_of_getElem? (i := 1) rfl))) (mvT hZ (hw _ (List.mem_of_getElem? (i := 2) rfl))) (mvT hZ (hw _ (List.mem_of_getElem? (i := 3) rfl))) (mvT hZ (hw _ (List.mem_of_getElem? (i := 4) rfl))) (by decide) (backOf (W := 0) (rm1 l Z a0 hw [] k1 n1 w_ACTIVE w_UNAVAILABLE w_LIMITED h0 n0 Z0 S_ACTIVE S_UNAVAILABLE S_LIMITED) hZ (hw _ (List.mem_of_getElem? (i := 4) rfl)) (hw _ (List.mem_of_getElem? (i := 3) rfl)) (by decide) (by decide)) (g := (mkF m 55 #[.val (.int p1), .val (.int p2), .val (.int p3), .val (.int n1), .val (.int se), .val (.int k1), .val (.int (n1 - k1)), .unset, .unset, .unset, .unset, .unset, .unset, .unset] [(.int n1), (.int k1)])) rfl (by rw [hml]; rfl) (argsL := [(.int k1), (.int n1)]) (rest := []) (lenOf pd_0 rfl) rfl (by show 2 * 0 + _ ≤ _; exact Nat.le_of_eq rfl) (hb hby at_55) (fun _ _ => ⟨rfl, e0, (by decide : 0 + 0 ≤ _), (by decide : 0 + 0 ≤ _)⟩)
        dsimp only [Pt.U, Pt.locs, Pt.cells, Pt.slots] at X26 l26 y26 z26 st26 hQ26
        subst l26 y26 z26
        obtain ⟨rfl, M26, q26_0⟩ := hQ26
        have N26 := Fr.app N0 M26
        refine own_go st26 ?_
        rw [show (if k1 = n1 then w_ACTIVE else if k1 = (0 : Int32) then w_UNAVAILABLE else w_LIMITED) = w_LIMITED from (if_neg hkn).trans (if_neg hk0)]
        refine own_go (B := T26.setTop (mkF m 62 #[.val (.int p1), .val (.int p2), .val (.int p3), .val (.int n1), .val (.int se), .val (.int k1), .val (.int (n1 - k1)), .val (.ref w_LIMITED), .unset, .unset, .unset, .unset, .unset, .unset] [(.ref w_LIMITED)])) (fun t k => ?_) ?_
        · show Steps p.tables e below (T26.setTop (mkF m 58 #[.val (.int p1), .val (.int p2), .val (.int p3), .val (.int n1), .val (.int se), .val (.int k1), .val (.int (n1 - k1)), .unset, .unset, .unset, .unset, .unset, .unset, .unset] [(.ref w_LIMITED)])) _
          refine XS.astore X26.here hx rfl (hb hby at_58) rfl rfl (l' := #[.val (.int p1), .val (.int p2), .val (.int p3), .val (.int n1), .val (.int se), .val (.int k1), .val (.int (n1 - k1)), .val (.ref w_LIMITED), .unset, .unset, .unset, .unset, .unset, .unset]) rfl ?_
          show Steps p.tables e below (T26.setTop (mkF m 60 #[.val (.int p1), .val (.int p2), .val (.int p3), .val (.int n1), .val (.int se), .val (.int k1), .val (.int (n1 - k1)), .val (.ref w_LIMITED), .unset, .unset, .unset, .unset, .unset, .unset] [])) _
          refine XS.aload X26.here hx rfl (hb hby at_60) rfl rfl ?_
          show Steps p.tables e below (T26.setTop (mkF m 62 #[.val (.int p1), .val (.int p2), .val (.int p3), .val (.int n1), .val (.int se), .val (.int k1), .val (.int (n1 - k1)), .val (.ref w_LIMITED), .unset, .unset, .unset, .unset, .unset, .unset] [(.ref w_LIMITED)])) _
          exact k
        obtain ⟨T27, X27, e27, st27⟩ := getS2 X26 hx hZ hown (host := "") (Or.inl (hw _ (List.mem_of_getElem? (i := 7) rfl))) Via.refl q26_0 S_ACTIVE (g := (mkF m 62 #[.val (.int p1), .val (.int p2), .val (.int p3), .val (.int n1), .val (.int se), .val (.int k1), .val (.int (n1 - k1)), .val (.ref w_LIMITED), .unset, .unset, .unset, .unset, .unset, .unset] [(.ref w_LIMITED)])) rfl (hb hby at_62)
        refine own_go st27 ?_
        refine own_go (B := T27.setTop (mkF m 77 #[.val (.int p1), .val (.int p2), .val (.int p3), .val (.int n1), .val (.int se), .val (.int k1), .val (.int (n1 - k1)), .val (.ref w_LIMITED), .val (.int (0 : Int32)), .unset, .unset, .unset, .unset, .unset] [(.ref w_LIMITED)])) (fun t k => ?_) ?_
        · show Steps p.tables e below (T27.setTop (mkF m 65 #[.val (.int p1), .val (.int p2), .val (.int p3), .val (.int n1), .val (.int se), .val (.int k1), .val (.int (n1 - k1)), .val (.ref w_LIMITED), .unset, .unset, .unset, .unset, .unset, .unset] [(.ref w_ACTIVE), (.ref w_LIMITED)])) _
          refine Jvm.RoadKit.acmp (g := (mkF m 65 #[.val (.int p1), .val (.int p2), .val (.int p3), .val (.int n1), .val (.int se), .val (.int k1), .val (.int (n1 - k1)), .val (.ref w_LIMITED), .unset, .unset, .unset, .unset, .unset, .unset] [(.ref w_ACTIVE), (.ref w_LIMITED)])) X27 hx rfl rfl rfl (pc0 := 65) (pc' := 72) (same := false) rfl (hb hby at_65) rfl (decide_eq_false fun q => (Fld.ne F_LIMITED_ordinal F_ACTIVE_ordinal (by decide)) (Value.ref.inj q)) (by decide) (by decide) ?_
          show Steps p.tables e below (T27.setTop (mkF m 72 #[.val (.int p1), .val (.int p2), .val (.int p3), .val (.int n1), .val (.int se), .val (.int k1), .val (.int (n1 - k1)), .val (.ref w_LIMITED), .unset, .unset, .unset, .unset, .unset, .unset] [])) _
          refine XS.iconst X27.here hx rfl (hb hby at_72) ?_
          show Steps p.tables e below (T27.setTop (mkF m 73 #[.val (.int p1), .val (.int p2), .val (.int p3), .val (.int n1), .val (.int se), .val (.int k1), .val (.int (n1 - k1)), .val (.ref w_LIMITED), .unset, .unset, .unset, .unset, .unset, .unset] [(.int (0 : Int32))])) _
          refine XS.istore X27.here hx rfl (hb hby at_73) rfl (l' := #[.val (.int p1), .val (.int p2), .val (.int p3), .val (.int n1), .val (.int se), .val (.int k1), .val (.int (n1 - k1)), .val (.ref w_LIMITED), .val (.int (0 : Int32)), .unset, .unset, .unset, .unset, .unset]) rfl ?_
          show Steps p.tables e below (T27.setTop (mkF m 75 #[.val (.int p1), .val (.int p2), .val (.int p3), .val (.int n1), .val (.int se), .val (.int k1), .val (.int (n1 - k1)), .val (.ref w_LIMITED), .val (.int (0 : Int32)), .unset, .unset, .unset, .unset, .unset] [])) _
          refine XS.aload X27.here hx rfl (hb hby at_75) rfl rfl ?_
          show Steps p.tables e below (T27.setTop (mkF m 77 #[.val (.int p1), .val (.int p2), .val (.int p3), .val (.int n1), .val (.int se), .val (.int k1), .val (.int (n1 - k1)), .val (.ref w_LIMITED), .val (.int (0 : Int32)), .unset, .unset, .unset, .unset, .unset] [(.ref w_LIMITED)])) _
          exact k
        obtain ⟨T28, X28, e28, st28⟩ := getS2 X27 hx hZ hown (host := "") (Or.inl (hw _ (List.mem_of_getElem? (i := 8) rfl))) Via.refl e27 S_UNAVAILABLE (g := (mkF m 77 #[.val (.int p1), .val (.int p2), .val (.int p3), .val (.int n1), .val (.int se), .val (.int k1), .val (.int (n1 - k1)), .val (.ref w_LIMITED), .val (.int (0 : Int32)), .unset, .unset, .unset, .unset, .unset] [(.ref w_LIMITED)])) rfl (hb hby at_77)
        refine own_go st28 ?_
        refine own_go (B := T28.setTop (mkF m 92 #[.val (.int p1), .val (.int p2), .val (.int p3), .val (.int n1), .val (.int se), .val (.int k1), .val (.int (n1 - k1)), .val (.ref w_LIMITED), .val (.int (0 : Int32)), .val (.int (0 : Int32)), .unset, .unset, .unset, .unset] [(.ref w_LIMITED)])) (fun t k => ?_) ?_
        · show Steps p.tables e below (T28.setTop (mkF m 80 #[.val (.int p1), .val (.int p2), .val (.int p3), .val (.int n1), .val (.int se), .val (.int k1), .val (.int (n1 - k1)), .val (.ref w_LIMITED), .val (.int (0 : Int32)), .unset, .unset, .unset, .unset, .unset] [(.ref w_UNAVAILABLE), (.ref w_LIMITED)])) _
          refine Jvm.RoadKit.acmp (g := (mkF m 80 #[.val (.int p1), .val (.int p2), .val (.int p3), .val (.int n1), .val (.int se), .val (.int k1), .val (.int (n1 - k1)), .val (.ref w_LIMITED), .val (.int (0 : Int32)), .unset, .unset, .unset, .unset, .unset] [(.ref w_UNAVAILABLE), (.ref w_LIMITED)])) X28 hx rfl rfl rfl (pc0 := 80) (pc' := 87) (same := false) rfl (hb hby at_80) rfl (decide_eq_false fun q => (Fld.ne F_LIMITED_ordinal F_UNAVAILABLE_ordinal (by decide)) (Value.ref.inj q)) (by decide) (by decide) ?_
          show Steps p.tables e below (T28.setTop (mkF m 87 #[.val (.int p1), .val (.int p2), .val (.int p3), .val (.int n1), .val (.int se), .val (.int k1), .val (.int (n1 - k1)), .val (.ref w_LIMITED), .val (.int (0 : Int32)), .unset, .unset, .unset, .unset, .unset] [])) _
          refine XS.iconst X28.here hx rfl (hb hby at_87) ?_
          show Steps p.tables e below (T28.setTop (mkF m 88 #[.val (.int p1), .val (.int p2), .val (.int p3), .val (.int n1), .val (.int se), .val (.int k1), .val (.int (n1 - k1)), .val (.ref w_LIMITED), .val (.int (0 : Int32)), .unset, .unset, .unset, .unset, .unset] [(.int (0 : Int32))])) _
          refine XS.istore X28.here hx rfl (hb hby at_88) rfl (l' := #[.val (.int p1), .val (.int p2), .val (.int p3), .val (.int n1), .val (.int se), .val (.int k1), .val (.int (n1 - k1)), .val (.ref w_LIMITED), .val (.int (0 : Int32)), .val (.int (0 : Int32)), .unset, .unset, .unset, .unset]) rfl ?_
          show Steps p.tables e below (T28.setTop (mkF m 90 #[.val (.int p1), .val (.int p2), .val (.int p3), .val (.int n1), .val (.int se), .val (.int k1), .val (.int (n1 - k1)), .val (.ref w_LIMITED), .val (.int (0 : Int32)), .val (.int (0 : Int32)), .unset, .unset, .unset, .unset] [])) _
          refine XS.aload X28.here hx rfl (hb hby at_90) rfl rfl ?_
          show Steps p.tables e below (T28.setTop (mkF m 92 #[.val (.int p1), .val (.int p2), .val (.int p3), .val (.int n1), .val (.int se), .val (.int k1), .val (.int (n1 - k1)), .val (.ref w_LIMITED), .val (.int (0 : Int32)), .val (.int (0 : Int32)), .unset, .unset, .unset, .unset] [(.ref w_LIMITED)])) _
          exact k
        obtain ⟨T29, X29, e29, st29⟩ := getS2 X28 hx hZ hown (host := "") (Or.inl (hw _ (List.mem_of_getElem? (i := 10) rfl))) Via.refl e28 S_LIMITED (g := (mkF m 92 #[.val (.int p1), .val (.int p2), .val (.int p3), .val (.int n1), .val (.int se), .val (.int k1), .val (.int (n1 - k1)), .val (.ref w_LIMITED), .val (.int (0 : Int32)), .val (.int (0 : Int32)), .unset, .unset, .unset, .unset] [(.ref w_LIMITED)])) rfl (hb hby at_92)
        refine own_go st29 ?_
        refine own_go (B := T29.setTop (mkF m 177 #[.val (.int p1), .val (.int p2), .val (.int p3), .val (.int n1), .val (.int se), .val (.int k1), .val (.int (n1 - k1)), .val (.ref w_LIMITED), .val (.int (0 : Int32)), .val (.int (0 : Int32)), .val (.int (1 : Int32)), .val (.int (0 : Int32)), .val (.int (0 : Int32)), .val (.int (1 : Int32))] [(.int (1 : Int32))])) (fun t k => ?_) ?_
        · show Steps p.tables e below (T29.setTop (mkF m 95 #[.val (.int p1), .val (.int p2), .val (.int p3), .val (.int n1), .val (.int se), .val (.int k1), .val (.int (n1 - k1)), .val (.ref w_LIMITED), .val (.int (0 : Int32)), .val (.int (0 : Int32)), .unset, .unset, .unset, .unset] [(.ref w_LIMITED), (.ref w_LIMITED)])) _
          refine Jvm.RoadKit.acmp (g := (mkF m 95 #[.val (.int p1), .val (.int p2), .val (.int p3), .val (.int n1), .val (.int se), .val (.int k1), .val (.int (n1 - k1)), .val (.ref w_LIMITED), .val (.int (0 : Int32)), .val (.int (0 : Int32)), .unset, .unset, .unset, .unset] [(.ref w_LIMITED), (.ref w_LIMITED)])) X29 hx rfl rfl rfl (pc0 := 95) (pc' := 98) (same := true) rfl (hb hby at_95) rfl (decide_eq_true rfl) (by decide) (by decide) ?_
          show Steps p.tables e below (T29.setTop (mkF m 98 #[.val (.int p1), .val (.int p2), .val (.int p3), .val (.int n1), .val (.int se), .val (.int k1), .val (.int (n1 - k1)), .val (.ref w_LIMITED), .val (.int (0 : Int32)), .val (.int (0 : Int32)), .unset, .unset, .unset, .unset] [])) _
          refine XS.iconst X29.here hx rfl (hb hby at_98) ?_
          show Steps p.tables e below (T29.setTop (mkF m 99 #[.val (.int p1), .val (.int p2), .val (.int p3), .val (.int n1), .val (.int se), .val (.int k1), .val (.int (n1 - k1)), .val (.ref w_LIMITED), .val (.int (0 : Int32)), .val (.int (0 : Int32)), .unset, .unset, .unset, .unset] [(.int (1 : Int32))])) _
          refine XS.goto X29.here hx rfl (pc0 := 99) (pc' := 103) rfl (hb hby at_99) (by decide) (by decide) ?_
          show Steps p.tables e below (T29.setTop (mkF m 103 #[.val (.int p1), .val (.int p2), .val (.int p3), .val (.int n1), .val (.int se), .val (.int k1), .val (.int (n1 - k1)), .val (.ref w_LIMITED), .val (.int (0 : Int32)), .val (.int (0 : Int32)), .unset, .unset, .unset, .unset] [(.int (1 : Int32))])) _
          refine XS.istore X29.here hx rfl (hb hby at_103) rfl (l' := #[.val (.int p1), .val (.int p2), .val (.int p3), .val (.int n1), .val (.int se), .val (.int k1), .val (.int (n1 - k1)), .val (.ref w_LIMITED), .val (.int (0 : Int32)), .val (.int (0 : Int32)), .val (.int (1 : Int32)), .unset, .unset, .unset]) rfl ?_
          show Steps p.tables e below (T29.setTop (mkF m 105 #[.val (.int p1), .val (.int p2), .val (.int p3), .val (.int n1), .val (.int se), .val (.int k1), .val (.int (n1 - k1)), .val (.ref w_LIMITED), .val (.int (0 : Int32)), .val (.int (0 : Int32)), .val (.int (1 : Int32)), .unset, .unset, .unset] [])) _
          refine XS.iload X29.here hx rfl (hb hby at_105) rfl ?_
          show Steps p.tables e below (T29.setTop (mkF m 107 #[.val (.int p1), .val (.int p2), .val (.int p3), .val (.int n1), .val (.int se), .val (.int k1), .val (.int (n1 - k1)), .val (.ref w_LIMITED), .val (.int (0 : Int32)), .val (.int (0 : Int32)), .val (.int (1 : Int32)), .unset, .unset, .unset] [(.int (n1 - k1))])) _
          refine XS.ifYes X29.here hx rfl (pc0 := 107) (pc' := 114) rfl (hb hby at_107) rfl ((if0 _ _).trans (feq (show ¬ ((n1 - k1) = (0 : Int32)) from (own_nez k1 n1 hout))).2) (by decide) (by decide) ?_
          show Steps p.tables e below (T29.setTop (mkF m 114 #[.val (.int p1), .val (.int p2), .val (.int p3), .val (.int n1), .val (.int se), .val (.int k1), .val (.int (n1 - k1)), .val (.ref w_LIMITED), .val (.int (0 : Int32)), .val (.int (0 : Int32)), .val (.int (1 : Int32)), .unset, .unset, .unset] [])) _
          refine XS.iconst X29.here hx rfl (hb hby at_114) ?_
          show Steps p.tables e below (T29.setTop (mkF m 115 #[.val (.int p1), .val (.int p2), .val (.int p3), .val (.int n1), .val (.int se), .val (.int k1), .val (.int (n1 - k1)), .val (.ref w_LIMITED), .val (.int (0 : Int32)), .val (.int (0 : Int32)), .val (.int (1 : Int32)), .unset, .unset, .unset] [(.int (0 : Int32))])) _
          refine XS.istore X29.here hx rfl (hb hby at_115) rfl (l' := #[.val (.int p1), .val (.int p2), .val (.int p3), .val (.int n1), .val (.int se), .val (.int k1), .val (.int (n1 - k1)), .val (.ref w_LIMITED), .val (.int (0 : Int32)), .val (.int (0 : Int32)), .val (.int (1 : Int32)), .val (.int (0 : Int32)), .unset, .unset]) rfl ?_
          show Steps p.tables e below (T29.setTop (mkF m 117 #[.val (.int p1), .val (.int p2), .val (.int p3), .val (.int n1), .val (.int se), .val (.int k1), .val (.int (n1 - k1)), .val (.ref w_LIMITED), .val (.int (0 : Int32)), .val (.int (0 : Int32)), .val (.int (1 : Int32)), .val (.int (0 : Int32)), .unset, .unset] [])) _
          refine XS.iload X29.here hx rfl (hb hby at_117) rfl ?_
          show Steps p.tables e below (T29.setTop (mkF m 119 #[.val (.int p1), .val (.int p2), .val (.int p3), .val (.int n1), .val (.int se), .val (.int k1), .val (.int (n1 - k1)), .val (.ref w_LIMITED), .val (.int (0 : Int32)), .val (.int (0 : Int32)), .val (.int (1 : Int32)), .val (.int (0 : Int32)), .unset, .unset] [(.int (n1 - k1))])) _
          refine XS.ifNo X29.here hx rfl (hb hby at_119) rfl ((if0 _ _).trans (tlt (show (0 : Int32) < (n1 - k1) from hout)).2.2.2) ?_
          show Steps p.tables e below (T29.setTop (mkF m 122 #[.val (.int p1), .val (.int p2), .val (.int p3), .val (.int n1), .val (.int se), .val (.int k1), .val (.int (n1 - k1)), .val (.ref w_LIMITED), .val (.int (0 : Int32)), .val (.int (0 : Int32)), .val (.int (1 : Int32)), .val (.int (0 : Int32)), .unset, .unset] [])) _
          refine XS.iload X29.here hx rfl (hb hby at_122) rfl ?_
          show Steps p.tables e below (T29.setTop (mkF m 124 #[.val (.int p1), .val (.int p2), .val (.int p3), .val (.int n1), .val (.int se), .val (.int k1), .val (.int (n1 - k1)), .val (.ref w_LIMITED), .val (.int (0 : Int32)), .val (.int (0 : Int32)), .val (.int (1 : Int32)), .val (.int (0 : Int32)), .unset, .unset] [(.int k1)])) _
          refine XS.ifYes X29.here hx rfl (pc0 := 124) (pc' := 131) rfl (hb hby at_124) rfl ((if0 _ _).trans (feq (show ¬ (k1 = (0 : Int32)) from hk0)).2) (by decide) (by decide) ?_
          show Steps p.tables e below (T29.setTop (mkF m 131 #[.val (.int p1), .val (.int p2), .val (.int p3), .val (.int n1), .val (.int se), .val (.int k1), .val (.int (n1 - k1)), .val (.ref w_LIMITED), .val (.int (0 : Int32)), .val (.int (0 : Int32)), .val (.int (1 : Int32)), .val (.int (0 : Int32)), .unset, .unset] [])) _
          refine XS.iconst X29.here hx rfl (hb hby at_131) ?_
          show Steps p.tables e below (T29.setTop (mkF m 132 #[.val (.int p1), .val (.int p2), .val (.int p3), .val (.int n1), .val (.int se), .val (.int k1), .val (.int (n1 - k1)), .val (.ref w_LIMITED), .val (.int (0 : Int32)), .val (.int (0 : Int32)), .val (.int (1 : Int32)), .val (.int (0 : Int32)), .unset, .unset] [(.int (0 : Int32))])) _
          refine XS.istore X29.here hx rfl (hb hby at_132) rfl (l' := #[.val (.int p1), .val (.int p2), .val (.int p3), .val (.int n1), .val (.int se), .val (.int k1), .val (.int (n1 - k1)), .val (.ref w_LIMITED), .val (.int (0 : Int32)), .val (.int (0 : Int32)), .val (.int (1 : Int32)), .val (.int (0 : Int32)), .val (.int (0 : Int32)), .unset]) rfl ?_
          show Steps p.tables e below (T29.setTop (mkF m 134 #[.val (.int p1), .val (.int p2), .val (.int p3), .val (.int n1), .val (.int se), .val (.int k1), .val (.int (n1 - k1)), .val (.ref w_LIMITED), .val (.int (0 : Int32)), .val (.int (0 : Int32)), .val (.int (1 : Int32)), .val (.int (0 : Int32)), .val (.int (0 : Int32)), .unset] [])) _
          refine XS.iload X29.here hx rfl (hb hby at_134) rfl ?_
          show Steps p.tables e below (T29.setTop (mkF m 136 #[.val (.int p1), .val (.int p2), .val (.int p3), .val (.int n1), .val (.int se), .val (.int k1), .val (.int (n1 - k1)), .val (.ref w_LIMITED), .val (.int (0 : Int32)), .val (.int (0 : Int32)), .val (.int (1 : Int32)), .val (.int (0 : Int32)), .val (.int (0 : Int32)), .unset] [(.int k1)])) _
          refine XS.ifNo X29.here hx rfl (hb hby at_136) rfl ((if0 _ _).trans (tlt (show (0 : Int32) < k1 from hkp)).2.2.2) ?_
          show Steps p.tables e below (T29.setTop (mkF m 139 #[.val (.int p1), .val (.int p2), .val (.int p3), .val (.int n1), .val (.int se), .val (.int k1), .val (.int (n1 - k1)), .val (.ref w_LIMITED), .val (.int (0 : Int32)), .val (.int (0 : Int32)), .val (.int (1 : Int32)), .val (.int (0 : Int32)), .val (.int (0 : Int32)), .unset] [])) _
          refine XS.iload X29.here hx rfl (hb hby at_139) rfl ?_
          show Steps p.tables e below (T29.setTop (mkF m 141 #[.val (.int p1), .val (.int p2), .val (.int p3), .val (.int n1), .val (.int se), .val (.int k1), .val (.int (n1 - k1)), .val (.ref w_LIMITED), .val (.int (0 : Int32)), .val (.int (0 : Int32)), .val (.int (1 : Int32)), .val (.int (0 : Int32)), .val (.int (0 : Int32)), .unset] [(.int (n1 - k1))])) _
          refine XS.ifNo X29.here hx rfl (hb hby at_141) rfl ((if0 _ _).trans (tlt (show (0 : Int32) < (n1 - k1) from hout)).2.2.2) ?_
          show Steps p.tables e below (T29.setTop (mkF m 144 #[.val (.int p1), .val (.int p2), .val (.int p3), .val (.int n1), .val (.int se), .val (.int k1), .val (.int (n1 - k1)), .val (.ref w_LIMITED), .val (.int (0 : Int32)), .val (.int (0 : Int32)), .val (.int (1 : Int32)), .val (.int (0 : Int32)), .val (.int (0 : Int32)), .unset] [])) _
          refine XS.iconst X29.here hx rfl (hb hby at_144) ?_
          show Steps p.tables e below (T29.setTop (mkF m 145 #[.val (.int p1), .val (.int p2), .val (.int p3), .val (.int n1), .val (.int se), .val (.int k1), .val (.int (n1 - k1)), .val (.ref w_LIMITED), .val (.int (0 : Int32)), .val (.int (0 : Int32)), .val (.int (1 : Int32)), .val (.int (0 : Int32)), .val (.int (0 : Int32)), .unset] [(.int (1 : Int32))])) _
          refine XS.goto X29.here hx rfl (pc0 := 145) (pc' := 149) rfl (hb hby at_145) (by decide) (by decide) ?_
          show Steps p.tables e below (T29.setTop (mkF m 149 #[.val (.int p1), .val (.int p2), .val (.int p3), .val (.int n1), .val (.int se), .val (.int k1), .val (.int (n1 - k1)), .val (.ref w_LIMITED), .val (.int (0 : Int32)), .val (.int (0 : Int32)), .val (.int (1 : Int32)), .val (.int (0 : Int32)), .val (.int (0 : Int32)), .unset] [(.int (1 : Int32))])) _
          refine XS.istore X29.here hx rfl (hb hby at_149) rfl (l' := #[.val (.int p1), .val (.int p2), .val (.int p3), .val (.int n1), .val (.int se), .val (.int k1), .val (.int (n1 - k1)), .val (.ref w_LIMITED), .val (.int (0 : Int32)), .val (.int (0 : Int32)), .val (.int (1 : Int32)), .val (.int (0 : Int32)), .val (.int (0 : Int32)), .val (.int (1 : Int32))]) rfl ?_
          show Steps p.tables e below (T29.setTop (mkF m 151 #[.val (.int p1), .val (.int p2), .val (.int p3), .val (.int n1), .val (.int se), .val (.int k1), .val (.int (n1 - k1)), .val (.ref w_LIMITED), .val (.int (0 : Int32)), .val (.int (0 : Int32)), .val (.int (1 : Int32)), .val (.int (0 : Int32)), .val (.int (0 : Int32)), .val (.int (1 : Int32))] [])) _
          refine XS.iload X29.here hx rfl (hb hby at_151) rfl ?_
          show Steps p.tables e below (T29.setTop (mkF m 153 #[.val (.int p1), .val (.int p2), .val (.int p3), .val (.int n1), .val (.int se), .val (.int k1), .val (.int (n1 - k1)), .val (.ref w_LIMITED), .val (.int (0 : Int32)), .val (.int (0 : Int32)), .val (.int (1 : Int32)), .val (.int (0 : Int32)), .val (.int (0 : Int32)), .val (.int (1 : Int32))] [(.int (0 : Int32))])) _
          refine XS.iload X29.here hx rfl (hb hby at_153) rfl ?_
          show Steps p.tables e below (T29.setTop (mkF m 155 #[.val (.int p1), .val (.int p2), .val (.int p3), .val (.int n1), .val (.int se), .val (.int k1), .val (.int (n1 - k1)), .val (.ref w_LIMITED), .val (.int (0 : Int32)), .val (.int (0 : Int32)), .val (.int (1 : Int32)), .val (.int (0 : Int32)), .val (.int (0 : Int32)), .val (.int (1 : Int32))] [(.int (0 : Int32)), (.int (0 : Int32))])) _
          refine XS.icmpNo X29.here hx rfl (hb hby at_155) rfl (teq (by decide : (0 : Int32) = (0 : Int32))).2 ?_
          show Steps p.tables e below (T29.setTop (mkF m 158 #[.val (.int p1), .val (.int p2), .val (.int p3), .val (.int n1), .val (.int se), .val (.int k1), .val (.int (n1 - k1)), .val (.ref w_LIMITED), .val (.int (0 : Int32)), .val (.int (0 : Int32)), .val (.int (1 : Int32)), .val (.int (0 : Int32)), .val (.int (0 : Int32)), .val (.int (1 : Int32))] [])) _
          refine XS.iload X29.here hx rfl (hb hby at_158) rfl ?_
          show Steps p.tables e below (T29.setTop (mkF m 160 #[.val (.int p1), .val (.int p2), .val (.int p3), .val (.int n1), .val (.int se), .val (.int k1), .val (.int (n1 - k1)), .val (.ref w_LIMITED), .val (.int (0 : Int32)), .val (.int (0 : Int32)), .val (.int (1 : Int32)), .val (.int (0 : Int32)), .val (.int (0 : Int32)), .val (.int (1 : Int32))] [(.int (0 : Int32))])) _
          refine XS.iload X29.here hx rfl (hb hby at_160) rfl ?_
          show Steps p.tables e below (T29.setTop (mkF m 162 #[.val (.int p1), .val (.int p2), .val (.int p3), .val (.int n1), .val (.int se), .val (.int k1), .val (.int (n1 - k1)), .val (.ref w_LIMITED), .val (.int (0 : Int32)), .val (.int (0 : Int32)), .val (.int (1 : Int32)), .val (.int (0 : Int32)), .val (.int (0 : Int32)), .val (.int (1 : Int32))] [(.int (0 : Int32)), (.int (0 : Int32))])) _
          refine XS.icmpNo X29.here hx rfl (hb hby at_162) rfl (teq (by decide : (0 : Int32) = (0 : Int32))).2 ?_
          show Steps p.tables e below (T29.setTop (mkF m 165 #[.val (.int p1), .val (.int p2), .val (.int p3), .val (.int n1), .val (.int se), .val (.int k1), .val (.int (n1 - k1)), .val (.ref w_LIMITED), .val (.int (0 : Int32)), .val (.int (0 : Int32)), .val (.int (1 : Int32)), .val (.int (0 : Int32)), .val (.int (0 : Int32)), .val (.int (1 : Int32))] [])) _
          refine XS.iload X29.here hx rfl (hb hby at_165) rfl ?_
          show Steps p.tables e below (T29.setTop (mkF m 167 #[.val (.int p1), .val (.int p2), .val (.int p3), .val (.int n1), .val (.int se), .val (.int k1), .val (.int (n1 - k1)), .val (.ref w_LIMITED), .val (.int (0 : Int32)), .val (.int (0 : Int32)), .val (.int (1 : Int32)), .val (.int (0 : Int32)), .val (.int (0 : Int32)), .val (.int (1 : Int32))] [(.int (1 : Int32))])) _
          refine XS.iload X29.here hx rfl (hb hby at_167) rfl ?_
          show Steps p.tables e below (T29.setTop (mkF m 169 #[.val (.int p1), .val (.int p2), .val (.int p3), .val (.int n1), .val (.int se), .val (.int k1), .val (.int (n1 - k1)), .val (.ref w_LIMITED), .val (.int (0 : Int32)), .val (.int (0 : Int32)), .val (.int (1 : Int32)), .val (.int (0 : Int32)), .val (.int (0 : Int32)), .val (.int (1 : Int32))] [(.int (1 : Int32)), (.int (1 : Int32))])) _
          refine XS.icmpNo X29.here hx rfl (hb hby at_169) rfl (teq (by decide : (1 : Int32) = (1 : Int32))).2 ?_
          show Steps p.tables e below (T29.setTop (mkF m 172 #[.val (.int p1), .val (.int p2), .val (.int p3), .val (.int n1), .val (.int se), .val (.int k1), .val (.int (n1 - k1)), .val (.ref w_LIMITED), .val (.int (0 : Int32)), .val (.int (0 : Int32)), .val (.int (1 : Int32)), .val (.int (0 : Int32)), .val (.int (0 : Int32)), .val (.int (1 : Int32))] [])) _
          refine XS.iconst X29.here hx rfl (hb hby at_172) ?_
          show Steps p.tables e below (T29.setTop (mkF m 173 #[.val (.int p1), .val (.int p2), .val (.int p3), .val (.int n1), .val (.int se), .val (.int k1), .val (.int (n1 - k1)), .val (.ref w_LIMITED), .val (.int (0 : Int32)), .val (.int (0 : Int32)), .val (.int (1 : Int32)), .val (.int (0 : Int32)), .val (.int (0 : Int32)), .val (.int (1 : Int32))] [(.int (1 : Int32))])) _
          refine XS.goto X29.here hx rfl (pc0 := 173) (pc' := 177) rfl (hb hby at_173) (by decide) (by decide) ?_
          show Steps p.tables e below (T29.setTop (mkF m 177 #[.val (.int p1), .val (.int p2), .val (.int p3), .val (.int n1), .val (.int se), .val (.int k1), .val (.int (n1 - k1)), .val (.ref w_LIMITED), .val (.int (0 : Int32)), .val (.int (0 : Int32)), .val (.int (1 : Int32)), .val (.int (0 : Int32)), .val (.int (0 : Int32)), .val (.int (1 : Int32))] [(.int (1 : Int32))])) _
          exact k
        obtain ⟨fs, hr, hrun, hended, hW, hsame⟩ := X29.leave (v := some (.int (1 : Int32))) (fun h => by rw [Bd.returns] at h; cases h)
        refine ⟨_, _, ?_, hrun, hended, _, _, rfl, ?_, ⟨_, rfl⟩, hW, hsame.mono (by decide) (by decide)⟩
        · exact retN X29 hx (t := .boolean) Bd.returns (by simp) (hb hby at_177) hr
        · show Q0 Z p1 p2 p3 w_ACTIVE w_UNAVAILABLE w_LIMITED h0 n0 _ T29.heap _
          rw [e29]
          exact ⟨rfl, N26⟩
  refine own_go (B := s₁.setTop (mkF m 12 #[.val (.int p1), .val (.int p2), .val (.int p3), .val (.int n1), .val (.int se), .unset, .unset, .unset, .unset, .unset, .unset, .unset, .unset, .unset] [(.int se)])) (fun t k => ?_) ?_
  · show Steps p.tables e below (s₁.setTop (mkF m 10 #[.val (.int p1), .val (.int p2), .val (.int p3), .val (.int n1), .val (.int se), .unset, .unset, .unset, .unset, .unset, .unset, .unset, .unset, .unset] [])) _
    refine XS.iload X0.here hx rfl (hb hby at_10) rfl ?_
    show Steps p.tables e below (s₁.setTop (mkF m 12 #[.val (.int p1), .val (.int p2), .val (.int p3), .val (.int n1), .val (.int se), .unset, .unset, .unset, .unset, .unset, .unset, .unset, .unset, .unset] [(.int se)])) _
    exact k
  by_cases hc31 : se = (0 : Int32)
  · refine own_go (B := s₁.setTop (mkF m 46 #[.val (.int p1), .val (.int p2), .val (.int p3), .val (.int n1), .val (.int se), .val (.int (0 : Int32)), .unset, .unset, .unset, .unset, .unset, .unset, .unset, .unset] [])) (fun t k => ?_) ?_
    · show Steps p.tables e below (s₁.setTop (mkF m 12 #[.val (.int p1), .val (.int p2), .val (.int p3), .val (.int n1), .val (.int se), .unset, .unset, .unset, .unset, .unset, .unset, .unset, .unset, .unset] [(.int se)])) _
      refine XS.ifNo X0.here hx rfl (hb hby at_12) rfl ((if0 _ _).trans (teq hc31).2) ?_
      show Steps p.tables e below (s₁.setTop (mkF m 15 #[.val (.int p1), .val (.int p2), .val (.int p3), .val (.int n1), .val (.int se), .unset, .unset, .unset, .unset, .unset, .unset, .unset, .unset, .unset] [])) _
      refine XS.iconst X0.here hx rfl (hb hby at_15) ?_
      show Steps p.tables e below (s₁.setTop (mkF m 16 #[.val (.int p1), .val (.int p2), .val (.int p3), .val (.int n1), .val (.int se), .unset, .unset, .unset, .unset, .unset, .unset, .unset, .unset, .unset] [(.int (0 : Int32))])) _
      refine XS.istore X0.here hx rfl (hb hby at_16) rfl (l' := #[.val (.int p1), .val (.int p2), .val (.int p3), .val (.int n1), .val (.int se), .val (.int (0 : Int32)), .unset, .unset, .unset, .unset, .unset, .unset, .unset, .unset]) rfl ?_
      show Steps p.tables e below (s₁.setTop (mkF m 18 #[.val (.int p1), .val (.int p2), .val (.int p3), .val (.int n1), .val (.int se), .val (.int (0 : Int32)), .unset, .unset, .unset, .unset, .unset, .unset, .unset, .unset] [])) _
      refine XS.goto X0.here hx rfl (pc0 := 18) (pc' := 46) rfl (hb hby at_18) (by decide) (by decide) ?_
      show Steps p.tables e below (s₁.setTop (mkF m 46 #[.val (.int p1), .val (.int p2), .val (.int p3), .val (.int n1), .val (.int se), .val (.int (0 : Int32)), .unset, .unset, .unset, .unset, .unset, .unset, .unset, .unset] [])) _
      exact k
    exact tail (0 : Int32) (⟨by decide, hn1⟩)
  · refine own_go (B := s₁.setTop (mkF m 24 #[.val (.int p1), .val (.int p2), .val (.int p3), .val (.int n1), .val (.int se), .unset, .unset, .unset, .unset, .unset, .unset, .unset, .unset, .unset] [(.int (1 : Int32)), (.int se)])) (fun t k => ?_) ?_
    · show Steps p.tables e below (s₁.setTop (mkF m 12 #[.val (.int p1), .val (.int p2), .val (.int p3), .val (.int n1), .val (.int se), .unset, .unset, .unset, .unset, .unset, .unset, .unset, .unset, .unset] [(.int se)])) _
      refine XS.ifYes X0.here hx rfl (pc0 := 12) (pc' := 21) rfl (hb hby at_12) rfl ((if0 _ _).trans (feq hc31).2) (by decide) (by decide) ?_
      show Steps p.tables e below (s₁.setTop (mkF m 21 #[.val (.int p1), .val (.int p2), .val (.int p3), .val (.int n1), .val (.int se), .unset, .unset, .unset, .unset, .unset, .unset, .unset, .unset, .unset] [])) _
      refine XS.iload X0.here hx rfl (hb hby at_21) rfl ?_
      show Steps p.tables e below (s₁.setTop (mkF m 23 #[.val (.int p1), .val (.int p2), .val (.int p3), .val (.int n1), .val (.int se), .unset, .unset, .unset, .unset, .unset, .unset, .unset, .unset, .unset] [(.int se)])) _
      refine XS.iconst X0.here hx rfl (hb hby at_23) ?_
      show Steps p.tables e below (s₁.setTop (mkF m 24 #[.val (.int p1), .val (.int p2), .val (.int p3), .val (.int n1), .val (.int se), .unset, .unset, .unset, .unset, .unset, .unset, .unset, .unset, .unset] [(.int (1 : Int32)), (.int se)])) _
      exact k
    by_cases hc32 : se = (1 : Int32)
    · refine own_go (B := s₁.setTop (mkF m 46 #[.val (.int p1), .val (.int p2), .val (.int p3), .val (.int n1), .val (.int se), .val (.int n1), .unset, .unset, .unset, .unset, .unset, .unset, .unset, .unset] [])) (fun t k => ?_) ?_
      · show Steps p.tables e below (s₁.setTop (mkF m 24 #[.val (.int p1), .val (.int p2), .val (.int p3), .val (.int n1), .val (.int se), .unset, .unset, .unset, .unset, .unset, .unset, .unset, .unset, .unset] [(.int (1 : Int32)), (.int se)])) _
        refine XS.icmpNo X0.here hx rfl (hb hby at_24) rfl (teq hc32).2 ?_
        show Steps p.tables e below (s₁.setTop (mkF m 27 #[.val (.int p1), .val (.int p2), .val (.int p3), .val (.int n1), .val (.int se), .unset, .unset, .unset, .unset, .unset, .unset, .unset, .unset, .unset] [])) _
        refine XS.iloadN X0.here hx rfl (hb hby at_27) rfl ?_
        show Steps p.tables e below (s₁.setTop (mkF m 28 #[.val (.int p1), .val (.int p2), .val (.int p3), .val (.int n1), .val (.int se), .unset, .unset, .unset, .unset, .unset, .unset, .unset, .unset, .unset] [(.int n1)])) _
        refine XS.istore X0.here hx rfl (hb hby at_28) rfl (l' := #[.val (.int p1), .val (.int p2), .val (.int p3), .val (.int n1), .val (.int se), .val (.int n1), .unset, .unset, .unset, .unset, .unset, .unset, .unset, .unset]) rfl ?_
        show Steps p.tables e below (s₁.setTop (mkF m 30 #[.val (.int p1), .val (.int p2), .val (.int p3), .val (.int n1), .val (.int se), .val (.int n1), .unset, .unset, .unset, .unset, .unset, .unset, .unset, .unset] [])) _
        refine XS.goto X0.here hx rfl (pc0 := 30) (pc' := 46) rfl (hb hby at_30) (by decide) (by decide) ?_
        show Steps p.tables e below (s₁.setTop (mkF m 46 #[.val (.int p1), .val (.int p2), .val (.int p3), .val (.int n1), .val (.int se), .val (.int n1), .unset, .unset, .unset, .unset, .unset, .unset, .unset, .unset] [])) _
        exact k
      exact tail n1 (⟨hn1, Int32.lt_irrefl⟩)
    · refine own_go (B := s₁.setTop (mkF m 46 #[.val (.int p1), .val (.int p2), .val (.int p3), .val (.int n1), .val (.int se), .val (.int ((((p2 &&& (2147483647 : Int32)).toInt64) % ((n1.toInt64) + (1 : Int64))).toInt32)), .unset, .unset, .unset, .unset, .unset, .unset, .unset, .unset] [])) (fun t k => ?_) ?_
      · show Steps p.tables e below (s₁.setTop (mkF m 24 #[.val (.int p1), .val (.int p2), .val (.int p3), .val (.int n1), .val (.int se), .unset, .unset, .unset, .unset, .unset, .unset, .unset, .unset, .unset] [(.int (1 : Int32)), (.int se)])) _
        refine XS.icmpYes X0.here hx rfl (pc0 := 24) (pc' := 33) rfl (hb hby at_24) rfl (feq hc32).2 (by decide) (by decide) ?_
        show Steps p.tables e below (s₁.setTop (mkF m 33 #[.val (.int p1), .val (.int p2), .val (.int p3), .val (.int n1), .val (.int se), .unset, .unset, .unset, .unset, .unset, .unset, .unset, .unset, .unset] [])) _
        refine XS.iloadN X0.here hx rfl (hb hby at_33) rfl ?_
        show Steps p.tables e below (s₁.setTop (mkF m 34 #[.val (.int p1), .val (.int p2), .val (.int p3), .val (.int n1), .val (.int se), .unset, .unset, .unset, .unset, .unset, .unset, .unset, .unset, .unset] [(.int p2)])) _
        refine X0.ldcInt hx hown (mvT hZ (hw _ (List.mem_of_getElem? (i := 0) rfl))) (g := (mkF m 34 #[.val (.int p1), .val (.int p2), .val (.int p3), .val (.int n1), .val (.int se), .unset, .unset, .unset, .unset, .unset, .unset, .unset, .unset, .unset] [(.int p2)])) rfl (hb hby at_34) _ ?_
        show Steps p.tables e below (s₁.setTop (mkF m 36 #[.val (.int p1), .val (.int p2), .val (.int p3), .val (.int n1), .val (.int se), .unset, .unset, .unset, .unset, .unset, .unset, .unset, .unset, .unset] [(.int (2147483647 : Int32)), (.int p2)])) _
        refine XS.iand X0.here hx rfl (hb hby at_36) rfl ?_
        show Steps p.tables e below (s₁.setTop (mkF m 37 #[.val (.int p1), .val (.int p2), .val (.int p3), .val (.int n1), .val (.int se), .unset, .unset, .unset, .unset, .unset, .unset, .unset, .unset, .unset] [(.int (p2 &&& (2147483647 : Int32)))])) _
        refine XS.i2l X0.here hx rfl (hb hby at_37) rfl ?_
        show Steps p.tables e below (s₁.setTop (mkF m 38 #[.val (.int p1), .val (.int p2), .val (.int p3), .val (.int n1), .val (.int se), .unset, .unset, .unset, .unset, .unset, .unset, .unset, .unset, .unset] [(.long ((p2 &&& (2147483647 : Int32)).toInt64))])) _
        refine XS.iloadN X0.here hx rfl (hb hby at_38) rfl ?_
        show Steps p.tables e below (s₁.setTop (mkF m 39 #[.val (.int p1), .val (.int p2), .val (.int p3), .val (.int n1), .val (.int se), .unset, .unset, .unset, .unset, .unset, .unset, .unset, .unset, .unset] [(.int n1), (.long ((p2 &&& (2147483647 : Int32)).toInt64))])) _
        refine XS.i2l X0.here hx rfl (hb hby at_39) rfl ?_
        show Steps p.tables e below (s₁.setTop (mkF m 40 #[.val (.int p1), .val (.int p2), .val (.int p3), .val (.int n1), .val (.int se), .unset, .unset, .unset, .unset, .unset, .unset, .unset, .unset, .unset] [(.long (n1.toInt64)), (.long ((p2 &&& (2147483647 : Int32)).toInt64))])) _
        refine XS.lconst X0.here hx rfl (hb hby at_40) ?_
        show Steps p.tables e below (s₁.setTop (mkF m 41 #[.val (.int p1), .val (.int p2), .val (.int p3), .val (.int n1), .val (.int se), .unset, .unset, .unset, .unset, .unset, .unset, .unset, .unset, .unset] [(.long (1 : Int64)), (.long (n1.toInt64)), (.long ((p2 &&& (2147483647 : Int32)).toInt64))])) _
        refine XS.ladd X0.here hx rfl (hb hby at_41) rfl ?_
        show Steps p.tables e below (s₁.setTop (mkF m 42 #[.val (.int p1), .val (.int p2), .val (.int p3), .val (.int n1), .val (.int se), .unset, .unset, .unset, .unset, .unset, .unset, .unset, .unset, .unset] [(.long ((n1.toInt64) + (1 : Int64))), (.long ((p2 &&& (2147483647 : Int32)).toInt64))])) _
        refine own_lrem X0.here hx rfl (hb hby at_42) rfl (own_nz n1 hn1) ?_
        show Steps p.tables e below (s₁.setTop (mkF m 43 #[.val (.int p1), .val (.int p2), .val (.int p3), .val (.int n1), .val (.int se), .unset, .unset, .unset, .unset, .unset, .unset, .unset, .unset, .unset] [(.long (((p2 &&& (2147483647 : Int32)).toInt64) % ((n1.toInt64) + (1 : Int64))))])) _
        refine XS.l2i X0.here hx rfl (hb hby at_43) rfl ?_
        show Steps p.tables e below (s₁.setTop (mkF m 44 #[.val (.int p1), .val (.int p2), .val (.int p3), .val (.int n1), .val (.int se), .unset, .unset, .unset, .unset, .unset, .unset, .unset, .unset, .unset] [(.int ((((p2 &&& (2147483647 : Int32)).toInt64) % ((n1.toInt64) + (1 : Int64))).toInt32))])) _
        refine XS.istore X0.here hx rfl (hb hby at_44) rfl (l' := #[.val (.int p1), .val (.int p2), .val (.int p3), .val (.int n1), .val (.int se), .val (.int ((((p2 &&& (2147483647 : Int32)).toInt64) % ((n1.toInt64) + (1 : Int64))).toInt32)), .unset, .unset, .unset, .unset, .unset, .unset, .unset, .unset]) rfl ?_
        show Steps p.tables e below (s₁.setTop (mkF m 46 #[.val (.int p1), .val (.int p2), .val (.int p3), .val (.int n1), .val (.int se), .val (.int ((((p2 &&& (2147483647 : Int32)).toInt64) % ((n1.toInt64) + (1 : Int64))).toInt32)), .unset, .unset, .unset, .unset, .unset, .unset, .unset, .unset] [])) _
        exact k
      exact tail ((((p2 &&& (2147483647 : Int32)).toInt64) % ((n1.toInt64) + (1 : Int64))).toInt32) (own_k p2 n1 hn1)
set_option maxRecDepth 65536 in
set_option maxHeartbeats 40000000 in
theorem comes_1 {Post : Tables → Env → Array Value → State → Outcome → State → Prop} (hpost : ∀ tb e args s v u, (limb_1_1.after args s (.returned v) u = true ∧ limb_1_2.after args s (.returned v) u = true ∧ True) → FrameEnd s (.returned v) u (Jvm.fieldLocs frame_1_writes args s ++ Jvm.arrayLocs frame_1_arrays args s ++ Jvm.staticLocs frame_1_statics s) 0 0 → Post tb e args s (.returned v) u) :
    ArmFor flags0 classFile x code maxLocals ret World_1 tables_1 room_1 Calls_1 rest_1 Pre_1 Post := by
  intro l hfl _ _ p e ha hc hk s m args below hf hA hF happ hP
  obtain ⟨hcalls, hrest, hpre⟩ := hP
  obtain ⟨-, -, -, hnamed, -, -, -, hat⟩ := (Spec.applies_iff hf).mp happ
  obtain ⟨hg, hn⟩ := and_e (Cond.before_iff.mp (show (Jvm.Cond.and given_1 narrow_1).before args s = true from hpre))
  obtain ⟨g0, hg0⟩ := and_e hg
  obtain ⟨g1, hg1⟩ := and_e hg0
  obtain ⟨g2, hg2⟩ := and_e hg1
  obtain ⟨w0, w1, w2, rfl⟩ : ∃ w0 w1 w2 : Value, args = #[w0, w1, w2] := by
    have hs : args.size = 3 := by simpa [Cond.value, given_1] using g0
    obtain ⟨L⟩ := args
    match L, hs with
    | [w0, w1, w2], _ => exact ⟨w0, w1, w2, rfl⟩
  have hw := fun d (hd : d ∈ tables_1) => atoms_spec (ws := Jvm.Cond.code x code maxLocals ret :: tables_1) hat d (List.mem_cons_of_mem _ hd)
  obtain ⟨i0, ei0⟩ := is_v g1
  obtain rfl : w0 = (.int i0) := Option.some.inj ei0
  obtain ⟨i1, ei1⟩ := is_v g2
  obtain rfl : w1 = (.int i1) := Option.some.inj ei1
  obtain ⟨i2, ei2⟩ := is_v hg2
  obtain rfl : w2 = (.int i2) := Option.some.inj ei2
  obtain ⟨u1a, u1b⟩ := and_e hn
  obtain ⟨w_ACTIVE, ev_ACTIVE⟩ := exa_v u1a
  have E_ACTIVE := Exa.start ev_ACTIVE u1a
  obtain ⟨u2a, u2b⟩ := and_e u1b
  obtain ⟨w_UNAVAILABLE, ev_UNAVAILABLE⟩ := exa_v u2a
  have E_UNAVAILABLE := Exa.start ev_UNAVAILABLE u2a
  obtain ⟨u3a, u3b⟩ := and_e u2b
  obtain ⟨u4a, u4b⟩ := and_e u3b
  obtain ⟨u5a, u5b⟩ := and_e u4b
  obtain ⟨w_LIMITED, ev_LIMITED⟩ := exa_v u5a
  have E_LIMITED := Exa.start ev_LIMITED u5a
  have F_ACTIVE_ordinal := own_fldStart ev_ACTIVE u3a
  have F_UNAVAILABLE_ordinal := own_fldStart ev_UNAVAILABLE u4a
  have F_LIMITED_ordinal := own_fldStart ev_LIMITED u5b
  have S_ACTIVE := Sta.start ev_ACTIVE (Or.inr ⟨(hw _ (List.mem_of_getElem? (i := 3) rfl)), (hw _ (List.mem_of_getElem? (i := 6) rfl))⟩)
  have S_UNAVAILABLE := Sta.start ev_UNAVAILABLE (Or.inr ⟨(hw _ (List.mem_of_getElem? (i := 3) rfl)), (hw _ (List.mem_of_getElem? (i := 9) rfl))⟩)
  have S_LIMITED := Sta.start ev_LIMITED (Or.inr ⟨(hw _ (List.mem_of_getElem? (i := 3) rfl)), (hw _ (List.mem_of_getElem? (i := 11) rfl))⟩)
  obtain ⟨n, o, h1, h2, h3, _, L, rfl, ⟨rfl, N⟩, hq⟩ := rm0 l s _ hw tables_1 i0 i1 i2 w_ACTIVE w_UNAVAILABLE w_LIMITED s.heap s.heap.size (Nat.le_refl _) S_ACTIVE E_ACTIVE F_ACTIVE_ordinal S_UNAVAILABLE E_UNAVAILABLE F_UNAVAILABLE_ordinal S_LIMITED E_LIMITED F_LIMITED_ordinal p e ha hc hk s m _ below hf ((Spec.applies_iff_loose hf).mp happ).1 ⟨rfl, State.Warmed39.refl s, rfl⟩ trivial
  refine ⟨n, _, h1, h2, h3, hpost _ _ _ _ _ _ ⟨Cond.after_iff.mpr rfl, Cond.after_iff.mpr (eq_i res_at (Term.int_eval (1)) rfl), trivial⟩ ⟨hq.1, hq.2.1, (hq.2.2.sift fun y hy => Or.inr (N y hy)).mono (by decide) (by decide)⟩⟩
theorem main_1_1 : Claimed_1_1 := comes_1 fun _ _ _ _ _ _ h hF => ⟨h.1, hF⟩
theorem main_1_2 : Claimed_1_2 := comes_1 fun _ _ _ _ _ _ h hF => ⟨h.2.1, hF⟩
end Jvm.Pilot.@@N@@
namespace Jvm.Pilot.@@N@@
open Jvm Jvm.ClassFile Sem Op Lib Jvm.Free Jvm.Stand Jvm.Pilot.@@N@@.Jvm.D
/-! MADE BY PROGRAM (witnessworld.py) out of the Statement's table words and the real class files: 12 classes; the members and pool entries that the words name. The judged class is class 1, her method 1. -/
namespace start1
open Jvm.ClassFile
def u (s : String) : CpInfo := .utf8 (stringToUtf16 s)
/-- a pool by its gaps: so many unusable entries, then the entry; so many at the end -/
def gap : Nat → List CpInfo → List CpInfo
  | 0, r => r
  | n + 1, r => .unusable :: gap n r
def poolList (es : List (Nat × CpInfo)) (last : Nat) : List CpInfo := es.foldr (fun e r => gap e.1 (e.2 :: r)) (gap last [])
def pool (es : List (Nat × CpInfo)) (last : Nat) : Array CpInfo := ⟨poolList es last⟩
def fileOf (pool : Array CpInfo) (this : Nat) (attrs : Array Attribute := #[]) (ms : Array MethodInfo := #[]) (fl : Nat := 33) (sup : Nat := 0) (ifs : Array Nat := #[]) (fds : Array FieldInfo := #[]) : ClassFile where
  minorVersion := 0
  majorVersion := 65
  constantPool := pool
  accessFlags := fl
  thisClass := this
  superClass := sup
  interfaces := ifs
  fields := fds
  methods := ms
  attributes := attrs
def plain (name : String) (sup : Option ClassId) : Class where
  name := name
  kind := .ordinary
  loader := none
  accessFlags := 33
  super := sup
  interfaces := #[]
  cf := none
  fields := #[]
  methods := #[]
  instanceTypes := #[]
  staticTypes := #[]
  resolved := #[]
  callSites := []
  init := .initialized
  statics := none
  mirror := none

def pool0 : Array CpInfo := pool [(5, u "<init>"), (0, u "()V"), (1, .class_ 10), (1, u "java/lang/Object")] 113

def k0m0 : Method := { name := "<init>", desc := "()V", sig := { parameters := [], returnType := none }, accessFlags := 1, code := none }
/-- java/lang/Object -/
def k0 : Class := { plain "java/lang/Object" none with
  accessFlags := 33
  interfaces := #[]
  cf := some (fileOf pool0 8 #[] #[{ accessFlags := 1, nameIndex := 5, descriptorIndex := 6, attributes := #[] }] 33 0 #[] #[])
  fields := #[]
  methods := #[k0m0]
  instanceTypes := #[]
  staticTypes := #[]
  resolved := Array.replicate 124 none
  statics := none }

def pool1 : Array CpInfo := pool [(2, .class_ 4), (1, u "java/lang/Object"), (0, u "<init>"), (0, u "()V"), (0, .integer 2147483647), (0, .methodref 9 10), (0, .class_ 11), (0, .nameAndType 12 13), (0, u "com/example/porthcurno/porthcurno/service/QueueState$Status"), (0, u "of"), (0, u "(II)Lcom/example/porthcurno/porthcurno/service/QueueState$Status;"), (0, .fieldref 9 15), (0, .nameAndType 16 17), (0, u "ACTIVE"), (0, u "Lcom/example/porthcurno/porthcurno/service/QueueState$Status;"), (0, .fieldref 9 19), (0, .nameAndType 20 17), (0, u "UNAVAILABLE"), (0, .fieldref 9 22), (0, .nameAndType 23 17), (0, u "LIMITED"), (0, .class_ 25), (0, u "com/example/porthcurno/porthcurno/service/StatusOfPinLaw"), (2, u "law"), (0, u "(III)Z")] 7

def k1m0 : Method := { name := "<init>", desc := "()V", sig := { parameters := [], returnType := none }, accessFlags := 1, code := none }
def k1c1 : Code := { maxStack := 6, maxLocals := 14, code := code, exceptionTable := #[], attributes := #[] }
def k1m1 : Method := { name := "law", desc := "(III)Z", sig := { parameters := [.int, .int, .int], returnType := some .boolean }, accessFlags := 9, code := some k1c1 }
/-- com/example/porthcurno/porthcurno/service/StatusOfPinLaw -/
def k1 : Class := { plain "com/example/porthcurno/porthcurno/service/StatusOfPinLaw" (some 0) with
  accessFlags := 49
  interfaces := #[]
  cf := some (fileOf pool1 24 #[] #[{ accessFlags := 1, nameIndex := 5, descriptorIndex := 6, attributes := #[] }, { accessFlags := 9, nameIndex := 28, descriptorIndex := 29, attributes := #[] }] 49 2 #[] #[])
  fields := #[]
  methods := #[k1m0, k1m1]
  instanceTypes := #[]
  staticTypes := #[]
  resolved := Array.replicate 37 none
  statics := none }

def pool2 : Array CpInfo := pool [(1, .class_ 2), (0, u "java/lang/constant/Constable"), (0, .class_ 4), (0, u "java/lang/Object")] 6

/-- java/lang/constant/Constable -/
def k2 : Class := { plain "java/lang/constant/Constable" (some 0) with
  accessFlags := 1537
  interfaces := #[]
  cf := some (fileOf pool2 1 #[] #[] 1537 3 #[] #[])
  fields := #[]
  methods := #[]
  instanceTypes := #[]
  staticTypes := #[]
  resolved := Array.replicate 11 none
  statics := none }

def pool3 : Array CpInfo := pool [(1, .class_ 2), (0, u "java/lang/Comparable"), (0, .class_ 4), (0, u "java/lang/Object")] 7

/-- java/lang/Comparable -/
def k3 : Class := { plain "java/lang/Comparable" (some 0) with
  accessFlags := 1537
  interfaces := #[]
  cf := some (fileOf pool3 1 #[] #[] 1537 3 #[] #[])
  fields := #[]
  methods := #[]
  instanceTypes := #[]
  staticTypes := #[]
  resolved := Array.replicate 12 none
  statics := none }

def pool4 : Array CpInfo := pool [(1, .class_ 2), (0, u "java/io/Serializable"), (0, .class_ 4), (0, u "java/lang/Object")] 2

/-- java/io/Serializable -/
def k4 : Class := { plain "java/io/Serializable" (some 0) with
  accessFlags := 1537
  interfaces := #[]
  cf := some (fileOf pool4 1 #[] #[] 1537 3 #[] #[])
  fields := #[]
  methods := #[]
  instanceTypes := #[]
  staticTypes := #[]
  resolved := Array.replicate 7 none
  statics := none }

def pool5 : Array CpInfo := pool [(2, .class_ 4), (1, u "java/lang/Enum"), (0, u "name"), (0, u "Ljava/lang/String;"), (2, u "ordinal"), (0, u "I"), (1, .class_ 14), (1, u "java/lang/Object"), (4, u "hash"), (86, .class_ 108), (1, u "java/lang/Enum$EnumDesc"), (2, .class_ 112), (0, u "java/lang/constant/Constable"), (0, .class_ 114), (0, u "java/lang/Comparable"), (0, .class_ 116), (0, u "java/io/Serializable")] 87

/-- java/lang/Enum -/
def k5 : Class := { plain "java/lang/Enum" (some 0) with
  accessFlags := 1057
  interfaces := #[2, 3, 4]
  cf := some (fileOf pool5 2 #[.nestMembers #[106]] #[] 1057 12 #[111, 113, 115] #[{ accessFlags := 18, nameIndex := 5, descriptorIndex := 6, attributes := #[] }, { accessFlags := 18, nameIndex := 9, descriptorIndex := 10, attributes := #[] }, { accessFlags := 2, nameIndex := 19, descriptorIndex := 10, attributes := #[] }])
  fields := #[{ name := "name", type := (.object "java/lang/String"), accessFlags := 18, slot := 0, constantValue := 0 }, { name := "ordinal", type := .int, accessFlags := 18, slot := 1, constantValue := 0 }, { name := "hash", type := .int, accessFlags := 2, slot := 2, constantValue := 0 }]
  methods := #[]
  instanceTypes := #[(.object "java/lang/String"), .int, .int]
  staticTypes := #[]
  resolved := Array.replicate 204 none
  statics := none }

def pool6 : Array CpInfo := pool [(1, .class_ 2), (0, u "com/example/porthcurno/porthcurno/service/QueueState$Status"), (0, .fieldref 1 4), (0, .nameAndType 5 6), (0, u "ACTIVE"), (0, u "Lcom/example/porthcurno/porthcurno/service/QueueState$Status;"), (0, .fieldref 1 8), (0, .nameAndType 9 6), (0, u "LIMITED"), (0, .fieldref 1 11), (0, .nameAndType 12 6), (0, u "UNAVAILABLE"), (2, u "$VALUES"), (0, u "[Lcom/example/porthcurno/porthcurno/service/QueueState$Status;"), (6, .class_ 25), (1, u "java/lang/Enum"), (21, u "of"), (0, u "(II)Lcom/example/porthcurno/porthcurno/service/QueueState$Status;"), (6, .class_ 56), (0, u "com/example/porthcurno/porthcurno/service/QueueState")] 2

def k6c0 : Code := { maxStack := 2, maxLocals := 3, code := prog_36_method_4_code, exceptionTable := #[], attributes := #[] }
def k6m0 : Method := { name := "of", desc := "(II)Lcom/example/porthcurno/porthcurno/service/QueueState$Status;", sig := { parameters := [.int, .int], returnType := some (.object "com/example/porthcurno/porthcurno/service/QueueState$Status") }, accessFlags := 8, code := some k6c0 }
/-- com/example/porthcurno/porthcurno/service/QueueState$Status -/
def k6 : Class := { plain "com/example/porthcurno/porthcurno/service/QueueState$Status" (some 5) with
  accessFlags := 16433
  interfaces := #[]
  cf := some (fileOf pool6 1 #[.nestHost 55] #[{ accessFlags := 8, nameIndex := 47, descriptorIndex := 48, attributes := #[] }] 16433 23 #[] #[{ accessFlags := 16409, nameIndex := 5, descriptorIndex := 6, attributes := #[] }, { accessFlags := 16409, nameIndex := 9, descriptorIndex := 6, attributes := #[] }, { accessFlags := 16409, nameIndex := 12, descriptorIndex := 6, attributes := #[] }, { accessFlags := 4122, nameIndex := 15, descriptorIndex := 16, attributes := #[] }])
  fields := #[{ name := "ACTIVE", type := (.object "com/example/porthcurno/porthcurno/service/QueueState$Status"), accessFlags := 16409, slot := 0, constantValue := 0 }, { name := "LIMITED", type := (.object "com/example/porthcurno/porthcurno/service/QueueState$Status"), accessFlags := 16409, slot := 1, constantValue := 0 }, { name := "UNAVAILABLE", type := (.object "com/example/porthcurno/porthcurno/service/QueueState$Status"), accessFlags := 16409, slot := 2, constantValue := 0 }, { name := "$VALUES", type := (.array (.object "com/example/porthcurno/porthcurno/service/QueueState$Status")), accessFlags := 4122, slot := 3, constantValue := 0 }]
  methods := #[k6m0]
  instanceTypes := #[(.object "java/lang/String"), .int, .int]
  staticTypes := #[(.object "com/example/porthcurno/porthcurno/service/QueueState$Status"), (.object "com/example/porthcurno/porthcurno/service/QueueState$Status"), (.object "com/example/porthcurno/porthcurno/service/QueueState$Status"), (.array (.object "com/example/porthcurno/porthcurno/service/QueueState$Status"))]
  resolved := Array.replicate 59 none
  statics := some 0 }

def pool7 : Array CpInfo := pool [(1, u "java/lang/Cloneable"), (0, .class_ 1), (0, u "java/lang/Object"), (0, .class_ 3)] 3

/-- java/lang/Cloneable -/
def k7 : Class := { plain "java/lang/Cloneable" (some 0) with
  accessFlags := 1537
  interfaces := #[]
  cf := some (fileOf pool7 2 #[] #[] 1537 4 #[] #[])
  fields := #[]
  methods := #[]
  instanceTypes := #[]
  staticTypes := #[]
  resolved := Array.replicate 8 none
  statics := none }

/-- the primitive byte -/
def k8 : Class := { plain "byte" none with kind := .primitive 'B', accessFlags := 0x411 }
/-- [B -/
def k9 : Class := { plain "[B" (some 0) with kind := .array 8 .byte, interfaces := #[7, 4], accessFlags := 1041 }

/-- the primitive int -/
def k10 : Class := { plain "int" none with kind := .primitive 'I', accessFlags := 0x411 }
/-- [I -/
def k11 : Class := { plain "[I" (some 0) with kind := .array 10 .int, interfaces := #[7, 4], accessFlags := 1041 }

def heap : Heap := #[{ cls := 6, slots := #[.ref 1, .ref 2, .ref 3, .null], vm := .statics 6 },
  { cls := 6, slots := #[.null, .int 0, .int 0], vm := .none },
  { cls := 6, slots := #[.null, .int 1, .int 0], vm := .none },
  { cls := 6, slots := #[.null, .int 2, .int 0], vm := .none }]
def classes : Array Class := #[k0, k1, k2, k3, k4, k5, k6, k7, k8, k9, k10, k11]
def interned : List (Array UInt16 × Addr) := []
def slotsUsed : Nat := 13
def theMethod : MethodId := ⟨1, 1⟩
def args0 : Array Value := #[.int 5, .int 7, .int 9]
def aboutOver (below : List Frame) : State where
  vm := { classes := classes, interned := interned.toArray }
  heap := heap
  slotsUsed := slotsUsed
  threads := #[{ frames := .invoking theMethod args0 :: below }]
def below0 : List Frame := [.native { method := ⟨0, 0⟩, args := #[] }]
def about1 : State := aboutOver below0
def p0 : Program := .bare "" "" ""
def e0 : Env := launch0.env 0 0 0
theorem w_frames : about1.frames = Frame.invoking theMethod args0 :: below0 := rfl
set_option maxRecDepth 65536 in
theorem w_args : argsFit about1.vm theMethod args0 = true := by decide +kernel
set_option maxRecDepth 65536 in
theorem w_heap : heapFits about1 = true := by decide +kernel
set_option maxRecDepth 65536 in
theorem w_runnable : about1.curStatus? = some .runnable := by decide +kernel
set_option maxRecDepth 65536 in
theorem w_alone : about1.alone = true := by decide +kernel
set_option maxRecDepth 65536 in
theorem w_named : about1.methodNamed? x = some theMethod := by decide +kernel
set_option maxRecDepth 65536 in
theorem w_hears : about1.hears theMethod below0 = true := by decide +kernel
set_option maxRecDepth 65536 in
theorem w_ripe : about1.ripe theMethod args0 below0 = true := by decide +kernel
theorem w_running : about1.status = .running := rfl
set_option maxRecDepth 65536 in
theorem w_room : about1.hasRoom e0.platform room_1 = true :=
  launch0.hasRoom_least _ room_1 (by decide +kernel) (by decide +kernel) (by decide +kernel) (by decide +kernel) (by decide +kernel) (by decide +kernel)
theorem allAtoms_all (ts : List Jvm.Cond) (a : Array Jvm.Value) (st : Jvm.State) : (allAtoms ts).before a st = ts.all (fun c => c.before a st) := by
  induction ts with
  | nil => rfl
  | cons c t ih =>
    show (Jvm.Cond.and c (allAtoms t)).before a st = _
    rw [Jvm.Cond.before_and, ih, List.all_cons]
def words1 : List Jvm.Cond := Jvm.Cond.code x code maxLocals ret :: tables_1
/-- a 'code' word, met by the world's own term for the bytes: nothing is compared byte by byte -/
theorem code_word {y : MethodName} {bytes : ByteArray} {mx : Nat} {rt : Option FieldType} {a : Array Value} {s : State} {m : MethodId} {meth : Method} {c : Code} (h1 : s.methodNamed? y = some m) (h2 : s.vm.method? m = some meth) (h3 : meth.code = some c) (h4 : c.code = bytes)
    (h5 : (c.maxLocals == mx && c.exceptionTable.isEmpty && decide (c.maxStack ≤ mostOperands) && decide (meth.sig.returnType = rt) && !meth.locks && decide (parseMethodDescriptor y.desc = some meth.sig)) = true) : (Jvm.Cond.code y bytes mx rt).before a s = true := by
  simp only [Bool.and_eq_true, beq_iff_eq, Bool.not_eq_true', decide_eq_true_eq] at h5
  obtain ⟨⟨⟨⟨⟨g1, g2⟩, g3⟩, g4⟩, g5⟩, g6⟩ := h5
  simp [Cond.before, Cond.holds, Cond.value, h1, h2, h3, h4, g1, g2, g3, g4, g5, g6]
def isCode : Jvm.Cond → Bool
  | .code _ _ _ _ => true
  | _ => false
theorem all_split {L : List Jvm.Cond} {P : Jvm.Cond → Bool} (h1 : L.all (fun c => isCode c || P c) = true) (h2 : ∀ c ∈ L.filter isCode, P c = true) : L.all P = true := by
  refine List.all_eq_true.mpr fun c hc => ?_
  have h := List.all_eq_true.mp h1 c hc
  rcases Bool.eq_false_or_eq_true (isCode c) with hi | hi
  · exact h2 c (List.mem_filter.mpr ⟨hc, hi⟩)
  · simpa [hi] using h
set_option maxRecDepth 65536 in
theorem w_c0 : (Jvm.Cond.code x code maxLocals ret).before args0 about1 = true := code_word (m := ⟨1, 1⟩) (meth := k1m1) (c := k1c1) (by decide +kernel) rfl rfl rfl (by decide +kernel)
set_option maxRecDepth 65536 in
theorem w_c1 : (Jvm.Cond.code ({ cls := "com/example/porthcurno/porthcurno/service/QueueState$Status", name := "of", desc := "(II)Lcom/example/porthcurno/porthcurno/service/QueueState$Status;" } : Jvm.MethodName) prog_36_method_4_code (3 : Nat) (Option.some (Jvm.ClassFile.FieldType.object "com/example/porthcurno/porthcurno/service/QueueState$Status"))).before args0 about1 = true := code_word (m := ⟨6, 0⟩) (meth := k6m0) (c := k6c0) (by decide +kernel) rfl rfl rfl (by decide +kernel)
def codes1 : List Jvm.Cond := [Jvm.Cond.code x code maxLocals ret, Jvm.Cond.code ({ cls := "com/example/porthcurno/porthcurno/service/QueueState$Status", name := "of", desc := "(II)Lcom/example/porthcurno/porthcurno/service/QueueState$Status;" } : Jvm.MethodName) prog_36_method_4_code (3 : Nat) (Option.some (Jvm.ClassFile.FieldType.object "com/example/porthcurno/porthcurno/service/QueueState$Status"))]
set_option maxRecDepth 65536 in
theorem codes_eq : words1.filter isCode = codes1 := rfl
theorem w_codes : ∀ c ∈ words1.filter isCode, c.before args0 about1 = true := by
  rw [codes_eq]
  intro c hc
  simp only [codes1, List.mem_cons, List.not_mem_nil, or_false] at hc
  rcases hc with rfl | rfl
  · exact w_c0
  · exact w_c1
set_option maxRecDepth 65536 in
theorem w_t1 : words1.all (fun c => isCode c || c.before args0 about1) = true := by decide +kernel
theorem w_tables : (allAtoms (Jvm.Cond.code x code maxLocals ret :: tables_1)).before args0 about1 = true := by
  rw [allAtoms_all]
  show words1.all (fun c => c.before args0 about1) = true
  refine all_split ?_ w_codes
  rw [w_t1]
set_option maxRecDepth 65536 in
theorem w_case : (Jvm.Cond.and given_1 narrow_1).before args0 about1 = true := by decide +kernel
theorem w_applies : (headSpec (Jvm.Cond.code x code maxLocals ret :: tables_1) room_1).applies x e0.platform about1 = true :=
  (Spec.applies_iff w_frames).mpr ⟨w_running, w_runnable, w_alone, w_named, w_hears, w_ripe, w_room, w_tables⟩
theorem atStart : AtStart classFile x code maxLocals ret World_1 tables_1 room_1 Calls_1 rest_1 Pre_1 launch0 p0 e0 about1 theMethod args0 below0 :=
  ⟨lists_1, trivial, launch0.admits_env _ _ _, launch0.least_env, fairChoices_fair.cas, fairChoices_fair.clock, w_frames, w_args, w_heap, w_applies, trivial, trivial, w_case⟩
end start1
theorem witness_1 : WitnessClaimed_1 := ⟨start1.p0, start1.e0, start1.about1, start1.theMethod, start1.args0, start1.below0, start1.atStart⟩
end Jvm.Pilot.@@N@@
