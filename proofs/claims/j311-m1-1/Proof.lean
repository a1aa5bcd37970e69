import JvmDerived
import JvmDerived.Pilot.@@N@@Statement
import JvmDerived.Pilot.@@N@@Code
set_option linter.unusedVariables false
set_option linter.unusedSimpArgs false
namespace Jvm.RoadKit
open Sem ClassFile Op Lib Jvm.Stand Jvm.Free Jvm.LawKit
section New
variable {p : Program} {l : Launch} {e : Env} {R : Room} {s : State} {m : MethodId} {args : Array Value} {below : List Frame} {meth : Method} {c : Code} {T : State} {locs : List Loc} {cells slots : Nat}
theorem retI (X : Stand p l e R s m args below meth c T locs cells slots) (hx : p.tables.exec = Jvm.exec) {pc : Nat} {Ls : Array Slot} {z : Int32} {rest : List Value} (hret : meth.sig.returnType = some .int) (hd : decode c.code pc = .ok (.ireturn, 1)) {fs : List Frame}
    (hl : ∀ (f : JFrame) (acts : List Action), f.method = m → f.locked = none → f.entered = [] → (doReturn e (T.setTop f) acts (some (.int z))).1 = T.setFrames fs) : Steps p.tables e below (T.setTop (mkF m pc Ls (.int z :: rest))) (T.setFrames fs) := by
  have hm' : T.vm.method? m = some meth := X.method'
  have hn : narrow .int (.int z) = .int z := rfl
  show Steps p.tables e below (T.setTop { method := m, pc := pc, locals := Ls, stack := _ :: rest, locked := none }) _
  jvm_step X.here [X.here.top, hx, hd, hm', hret, hn]
  first | (intro acts; rw [hl _ acts rfl rfl rfl]) | rw [hl _ _ rfl rfl rfl]
  exact Steps.refl _
theorem own_retJ (X : Stand p l e R s m args below meth c T locs cells slots) (hx : p.tables.exec = Jvm.exec) {pc : Nat} {Ls : Array Slot} {z : Int64} {rest : List Value} (hret : meth.sig.returnType = some .long) (hd : decode c.code pc = .ok (.lreturn, 1)) {fs : List Frame}
    (hl : ∀ (f : JFrame) (acts : List Action), f.method = m → f.locked = none → f.entered = [] → (doReturn e (T.setTop f) acts (some (.long z))).1 = T.setFrames fs) : Steps p.tables e below (T.setTop (mkF m pc Ls (.long z :: rest))) (T.setFrames fs) :=
  retOut X hx hret rfl (Or.inr (Or.inl ⟨rfl, rfl, z, rfl⟩)) hd hl
theorem own_retR (X : Stand p l e R s m args below meth c T locs cells slots) (hx : p.tables.exec = Jvm.exec) {pc : Nat} {Ls : Array Slot} {w : Value} {t : FieldType} {rest : List Value} (hret : meth.sig.returnType = some t) (ht : t.isReference = true) (hw : w.isRef = true) (hd : decode c.code pc = .ok (.areturn, 1)) {fs : List Frame}
    (hl : ∀ (f : JFrame) (acts : List Action), f.method = m → f.locked = none → f.entered = [] → (doReturn e (T.setTop f) acts (some w)).1 = T.setFrames fs) : Steps p.tables e below (T.setTop (mkF m pc Ls (w :: rest))) (T.setFrames fs) :=
  retOut X hx hret (by cases t <;> first | rfl | cases ht) (Or.inr (Or.inr (Or.inr (Or.inr ⟨rfl, ht, hw⟩)))) hd hl
theorem own_lrem {tb : Tables} [Ours tb] {e : Env} {below : List Frame} {T target : State} {m : MethodId} {c : Code} {g : JFrame} (h : At T m c below) (hx : tb.exec = Jvm.exec) (hg : g.method = m) {x y : Int64} {rest : List Value} (hd : decode c.code g.pc = .ok (.lrem, 1)) (hs : g.stack = .long y :: .long x :: rest) (hy : y ≠ 0)
    (hr : Steps tb e below (T.setTop { g with pc := g.pc + 1, stack := .long (x % y) :: rest }) target) : Steps tb e below (T.setTop g) target :=
  XS.lrem h hx hg hd hs hy (by rw [lrem_mod]; exact hr)
theorem own_go {tb : Tables} {e : Env} {below : List Frame} {A B : State} {P : State → Outcome → Prop} (h : ∀ t, Steps tb e below B t → Steps tb e below A t) (k : ∃ s₂ o, Steps tb e below B s₂ ∧ P s₂ o) : ∃ s₂ o, Steps tb e below A s₂ ∧ P s₂ o := by
  obtain ⟨s₂, o, h1, h2⟩ := k
  exact ⟨s₂, o, h _ h1, h2⟩
theorem own_isucc (t : Nat) : Int32.ofNat t + (1 : Int32) = Int32.ofNat (t + 1) := by rw [Int32.ofNat_add]; rfl
theorem own_cut {α : Type} {C : α → Prop} {B : α → State} {tb : Tables} {e : Env} {below : List Frame} {A : State} {P : State → Outcome → Prop} (h : ∀ a, C a → ∃ s₂ o, Steps tb e below (B a) s₂ ∧ P s₂ o) (k : (∀ a, C a → ∃ s₂ o, Steps tb e below (B a) s₂ ∧ P s₂ o) → ∃ s₂ o, Steps tb e below A s₂ ∧ P s₂ o) : ∃ s₂ o, Steps tb e below A s₂ ∧ P s₂ o := k h
theorem own_narZ (P : Prop) [Decidable P] : narrow .boolean (.int (if P then (1 : Int32) else 0)) = .int (if P then (1 : Int32) else 0) := by split <;> rfl
theorem own_fitZ (P : Prop) [Decidable P] : fits .boolean (.int (if P then (1 : Int32) else 0)) = true := by split <;> rfl
theorem own_retZ (P : Prop) [Decidable P] : (some (.int (nar .boolean (if P then (1 : Int32) else 0))) : Option Value) = some (.int (if P then (1 : Int32) else 0)) := by split <;> rfl
theorem own_staKeep {Z : State} {h h' : Heap} {C n d : String} {v : Value} {ws : List Addr} (F : Sta Z h C n d v) (K : Keep h h' ws) (q : ∀ x ∈ ws, ∃ c : Cell, h[x]? = some c ∧ c.vm.isStatics = false) : Sta Z h' C n d v := by
  obtain ⟨cf, i, k, f, st, cell, h1, h2, h3, h4, h5, h6, h7⟩ := F
  refine ⟨cf, i, k, f, st, cell, h1, h2, h3, h4, K.2.1 _ _ h5 fun hm => ?_, h6, h7⟩
  obtain ⟨c', g1, g2⟩ := q _ hm
  cases h5.symm.trans g1
  rw [h6] at g2
  cases g2
theorem own_arrKeep {Z : State} {h h' : Heap} {a : Addr} {c : Cell} {ty : FieldType} {ws : List Addr} (F : Arr Z h a c ty) (K : Keep h h' ws) (q : a ∉ ws) : Arr Z h' a c ty := ⟨K.2.1 _ _ F.1 q, F.2⟩
theorem own_ns0 {h : Heap} : ∀ x ∈ ([] : List Addr), ∃ c : Cell, h[x]? = some c ∧ c.vm.isStatics = false := fun _ q => nomatch q
theorem own_nsS {h : Heap} {y : Addr} {L : List Addr} (q : ∃ c : Cell, h[y]? = some c ∧ c.vm.isStatics = false) (r : ∀ x ∈ L, ∃ c : Cell, h[x]? = some c ∧ c.vm.isStatics = false) : ∀ x ∈ y :: L, ∃ c : Cell, h[x]? = some c ∧ c.vm.isStatics = false := fun x z => (List.mem_cons.mp z).elim (fun u => u ▸ q) (r x)
theorem own_nsE {Z : State} {h : Heap} {a : Addr} {C : String} (F : Exa Z h a C) : ∃ c : Cell, h[a]? = some c ∧ c.vm.isStatics = false := by
  obtain ⟨c, k, h1, h2, h3, h4, h5⟩ := F
  exact ⟨c, h1, h4⟩
theorem own_nsV {Z : State} {h : Heap} {a : Addr} {k : ClassId} {ty : FieldType} {z : Int32} {vs : List Value} {d : Value} (F : Arv Z h a k ty z vs d) : ∃ c : Cell, h[a]? = some c ∧ c.vm.isStatics = false := by
  obtain ⟨c, A, r⟩ := F
  exact ⟨c, A.1, A.plain⟩
theorem own_safeStr {Z : State} {EL : List (String × Nat)} {vm : Vm} {h : Heap} {x : Addr} (hal : Z.vm.Alike vm) (E : Exa Z h x "java/lang/String") (N : Fld Z h x "java/lang/String" "value" "[B" .null) : Safe Z EL vm h x := fun B => by
  obtain ⟨cell, k, e1, e2, e3, -, -⟩ := E
  obtain ⟨cell', cf, k', i, f, n1, n2, -, -, -, -, n7⟩ := N
  cases e1.symm.trans n1
  obtain ⟨p, -, u, a, -, q, -, F, rfl | rfl⟩ := B
  · cases (show h[q.sa]? = some q.sC from F.ha).symm.trans e1
    obtain ⟨cS, ⟨⟨s1, s2, s3, ⟨cv, kv, iv, s4, s4'⟩, -, s6, s7, s8, -⟩, -, -⟩, -⟩ := F
    obtain ⟨kv', z4⟩ := ff_back (U := Wst Z vm h) hal s4
    cases n2.symm.trans z4
    cases n7.symm.trans s8
  · cases (show h[q.sd]? = some q.SA from F.hd).symm.trans e1
    obtain ⟨cS, -, -, g, -⟩ := F
    have g' : vm.findClass "[B" = some q.SA.cls := g
    rw [hal.findClass] at g'
    obtain ⟨k1, q1, q2⟩ := Vm.findClass_spec g'
    obtain ⟨k2, q3, q4⟩ := Vm.findClass_spec e2
    cases q1.symm.trans q3
    exact absurd (q2.symm.trans q4) (by decide)
theorem own_since (s : State) (n : Nat) : s.Since s.vm n := ⟨State.Warmed39.refl s, fun j p hj hp => absurd (Array.getElem?_eq_some_iff.mp hp).1 (Nat.not_lt.mpr hj)⟩
end New
end Jvm.RoadKit
namespace Jvm.Pilot.@@N@@
open Jvm Jvm.ClassFile Sem Op Lib Jvm.Free Jvm.Stand Jvm.LawKit Jvm.RoadKit Bundle Jvm.Pilot.@@N@@.Jvm.D
theorem own_lenStart {Z : State} {args : Array Value} {t : Term} {ty : FieldType} {a : Addr} {cl : Cell} {n : Int32} (ev : t.eval args Z none [] Z = some (.ref a)) (A : Arr Z Z.heap a cl ty) (hl : (Jvm.Cond.eq (.length t) (.int n)).value args Z none Z [] = some true) : cl.slots.size < 2 ^ 31 ∧ cl.slots.size.toInt32 = n := by
  have hA : Z.arrayAt? a = some cl := Arr.fin (Vm.Alike.refl _) A
  by_cases q : cl.slots.size < 2 ^ 31
  · have e2 := len_f ev hA q
    refine ⟨q, ?_⟩
    simp only [Cond.value, e2, Term.int_eval] at hl
    simpa using hl
  · have e2 : (Term.length t).eval args Z none [] Z = none := by simp [Term.eval, ev, hA, q]
    simp only [Cond.value, e2, Term.int_eval] at hl
    cases hl
theorem own_eqStart {Z : State} {args : Array Value} {t u : Term} {v : Value} (hv : u.eval args Z none [] Z = some v) (h : (Jvm.Cond.eq t u).value args Z none Z [] = some true) : t.eval args Z none [] Z = some v := by
  cases ht : t.eval args Z none [] Z with
  | none => simp only [Cond.value, ht, hv] at h; cases v <;> cases h
  | some y => simp only [Cond.value, ht, hv] at h; cases v <;> cases y <;> simp at h <;> first | rw [h] | rfl
theorem own_elemStart {Z : State} {args : Array Value} {t u : Term} {ty : FieldType} {a : Addr} {cl : Cell} {j : Int32} {v : Value} (ev : t.eval args Z none [] Z = some (.ref a)) (A : Arr Z Z.heap a cl ty) (hv : u.eval args Z none [] Z = some v) (h : (Jvm.Cond.eq (.elem t (.int j)) u).value args Z none Z [] = some true) : cl.slots[j.toNatClampNeg]? = some v :=
  (elem_in (own_eqStart hv h) ev (Term.int_eval j) A.1).2
theorem own_fldRef {Z : State} {args : Array Value} {t : Term} {C n d : String} {a b : Addr} (ev : t.eval args Z none [] Z = some (.ref a)) (h : (Term.field t C n d).eval args Z none [] Z = some (.ref b)) : Fld Z Z.heap a C n d (.ref b) := Fld.start ((fld_at ev).symm.trans h)
theorem own_neStart {Z : State} {args : Array Value} {t : Term} {x k : Int32} (ev : t.eval args Z none [] Z = some (.int x)) (h : (Jvm.Cond.not (Jvm.Cond.eq t (.int k))).value args Z none Z [] = some true) : ¬ x = k := by
  have h1 := not_v h
  simp only [Cond.value, ev, Term.int_eval] at h1
  simpa using h1
def own_rr (x y : Int32) : Int32 := ((x.toUInt32 >>> (y &&& 31).toUInt32).toInt32) ||| (x <<< ((-y) &&& 31))
def own_us (x y : Int32) : Int32 := (x.toUInt32 >>> (y &&& 31).toUInt32).toInt32
def own_Kl : List Int32 := [(1116352408 : Int32), (1899447441 : Int32), (-1245643825 : Int32), (-373957723 : Int32), (961987163 : Int32), (1508970993 : Int32), (-1841331548 : Int32), (-1424204075 : Int32), (-670586216 : Int32), (310598401 : Int32), (607225278 : Int32), (1426881987 : Int32), (1925078388 : Int32), (-2132889090 : Int32), (-1680079193 : Int32), (-1046744716 : Int32), (-459576895 : Int32), (-272742522 : Int32), (264347078 : Int32), (604807628 : Int32), (770255983 : Int32), (1249150122 : Int32), (1555081692 : Int32), (1996064986 : Int32), (-1740746414 : Int32), (-1473132947 : Int32), (-1341970488 : Int32), (-1084653625 : Int32), (-958395405 : Int32), (-710438585 : Int32), (113926993 : Int32), (338241895 : Int32), (666307205 : Int32), (773529912 : Int32), (1294757372 : Int32), (1396182291 : Int32), (1695183700 : Int32), (1986661051 : Int32), (-2117940946 : Int32), (-1838011259 : Int32), (-1564481375 : Int32), (-1474664885 : Int32), (-1035236496 : Int32), (-949202525 : Int32), (-778901479 : Int32), (-694614492 : Int32), (-200395387 : Int32), (275423344 : Int32), (430227734 : Int32), (506948616 : Int32), (659060556 : Int32), (883997877 : Int32), (958139571 : Int32), (1322822218 : Int32), (1537002063 : Int32), (1747873779 : Int32), (1955562222 : Int32), (2024104815 : Int32), (-2067236844 : Int32), (-1933114872 : Int32), (-1866530822 : Int32), (-1538233109 : Int32), (-1090935817 : Int32), (-965641998 : Int32)]
def own_K (i : Nat) : Int32 := own_Kl.getD i 0
abbrev own_by (x k : Int32) : Int32 := ((x.toUInt32 >>> ((k) &&& 31).toUInt32).toInt32).toInt8.toInt32
abbrev own_bz (x : Int64) (k : Int32) : Int32 := (((x.toUInt64 >>> ((k) &&& 0x3f).toInt64.toUInt64).toInt64).toInt32).toInt8.toInt32
abbrev St8 := Int32 × Int32 × Int32 × Int32 × Int32 × Int32 × Int32 × Int32
/-- one round -/
def own_rd (a b c d e f g h k w : Int32) : St8 :=
  ((((((h + ((own_rr e 6 ^^^ own_rr e 11) ^^^ own_rr e 25)) + ((e &&& f) ^^^ ((e ^^^ -1) &&& g))) + k) + w) + ((((own_rr a 2 ^^^ own_rr a 13) ^^^ own_rr a 22)) + (((a &&& b) ^^^ (a &&& c)) ^^^ (b &&& c)))), a, b, c,
   (d + ((((h + ((own_rr e 6 ^^^ own_rr e 11) ^^^ own_rr e 25)) + ((e &&& f) ^^^ ((e ^^^ -1) &&& g))) + k) + w)), e, f, g)
def own_st (w : Nat → Int32) (s : St8) : Nat → St8
  | 0 => s
  | t + 1 => own_rd (own_st w s t).1 (own_st w s t).2.1 (own_st w s t).2.2.1 (own_st w s t).2.2.2.1 (own_st w s t).2.2.2.2.1 (own_st w s t).2.2.2.2.2.1 (own_st w s t).2.2.2.2.2.2.1 (own_st w s t).2.2.2.2.2.2.2 (own_K t) (w t)
/-- the j-th word of the block at o, of the bytes g -/
def own_w0 (g : Nat → Int32) (o i : Nat) : Int32 := ((((g (o + 4 * i) &&& 255) <<< ((24 : Int32) &&& 31)) ||| ((g (o + 4 * i + 1) &&& 255) <<< ((16 : Int32) &&& 31))) ||| ((g (o + 4 * i + 2) &&& 255) <<< ((8 : Int32) &&& 31))) ||| (g (o + 4 * i + 3) &&& 255)
def own_ws (x15 x2 x7 x16 : Int32) : Int32 := ((((own_rr x2 17 ^^^ own_rr x2 19) ^^^ own_us x2 10) + x7) + ((own_rr x15 7 ^^^ own_rr x15 18) ^^^ own_us x15 3)) + x16
/-- the schedule array when t places are made (t counted from 16) -/
def own_wf (f : Nat → Int32) : Nat → (Nat → Int32)
  | 0 => f
  | k + 1 => fun j => if j = 16 + k then own_ws (own_wf f k (k + 1)) (own_wf f k (k + 14)) (own_wf f k (k + 9)) (own_wf f k k) else own_wf f k j
/-! by reckoning -/
def own_force {α : Type} (x : Int32) (k : Int32 → α) : α := match x.toBitVec.toNat with | 0 => k 0 | n + 1 => k (Int32.ofBitVec (BitVec.ofNat 32 (n + 1)))
theorem own_force_eq {α : Type} (x : Int32) (k : Int32 → α) : own_force x k = k x := by
  unfold own_force
  split
  · rename_i h
    have : x = 0 := by
      apply Int32.toBitVec_inj.mp
      apply BitVec.eq_of_toNat_eq
      rw [h]; rfl
    rw [this]
  · rename_i n h
    have : Int32.ofBitVec (BitVec.ofNat 32 (n + 1)) = x := by
      apply Int32.toBitVec_inj.mp
      rw [show n + 1 = x.toBitVec.toNat from h.symm]
      simp
    rw [this]
/-- the schedule, latest first -/
def own_sl : Nat → List Int32 → List Int32
  | 0, l => l
  | k + 1, l => own_force (own_ws (l.getD 14 0) (l.getD 1 0) (l.getD 6 0) (l.getD 15 0)) fun z => own_sl k (z :: l)
def own_rl : List Int32 → List Int32 → Int32 → Int32 → Int32 → Int32 → Int32 → Int32 → Int32 → Int32 → St8
  | k :: ks, w :: ws, a, b, c, d, e, f, g, h => own_force (own_rd a b c d e f g h k w).1 fun a' => own_force (own_rd a b c d e f g h k w).2.2.2.2.1 fun e' => own_rl ks ws a' a b c e' e f g
  | _, _, a, b, c, d, e, f, g, h => (a, b, c, d, e, f, g, h)
def own_tab (N : Nat) (g : Nat → Int32) : List Value := (List.range N).map fun j => .int (g j)
theorem own_tab_len (N : Nat) (g : Nat → Int32) : (own_tab N g).length = N := by simp [own_tab]
theorem own_tab_get {N : Nat} (g : Nat → Int32) {i : Nat} (d : Value) (h : i < N) : (own_tab N g).getD i d = .int (g i) := by
  simp [own_tab, List.getD, h]
theorem own_tab_set {N : Nat} (g : Nat → Int32) {i : Nat} (x : Int32) (h : i < N) : (own_tab N g).set i (.int x) = own_tab N (fun j => if j = i then x else g j) := by
  apply List.ext_getElem
  · simp [own_tab]
  · intro k h1 h2
    simp only [own_tab, List.getElem_set, List.getElem_map, List.getElem_range]
    by_cases e : i = k
    · subst e; simp
    · rw [if_neg e, if_neg (fun q => e q.symm)]
theorem own_tab0 (N : Nat) (i : Nat) : (own_tab N (fun _ => 0)).getD i (.int 0) = ([] : List Value).getD i (.int 0) := by
  by_cases h : i < N
  · rw [own_tab_get _ _ h]; rfl
  · simp [own_tab, List.getD, h]
theorem own_toInt {t : Nat} (h : t < 2147483648) : (Int32.ofNat t).toInt = t := Int32.toInt_ofNat_of_lt h
theorem own_ix {j : Int32} {n : Nat} (h : j.toInt = n) : ¬ j < 0 ∧ j.toNatClampNeg = n := by
  have q : ¬ j < 0 := by rw [Int32.lt_iff_toInt_lt]; have : (0 : Int32).toInt = 0 := rfl; omega
  have e := nat_of q
  exact ⟨q, by omega⟩
theorem own_nat {t : Nat} (h : t < 2147483648) : (Int32.ofNat t).toNatClampNeg = t := (own_ix (own_toInt h)).2
theorem own_at {N : Nat} (g : Nat → Int32) {j : Int32} {n : Nat} (d : Value) (h : j.toInt = n) (hn : n < N) : (own_tab N g).getD j.toNatClampNeg d = .int (g n) := by
  rw [(own_ix h).2]; exact own_tab_get g d hn
theorem own_ltc {t k : Nat} (h : t < k) (hk : k < 2147483648) (c : Int32) (hc : c.toInt = k) : ¬ (Int32.ofNat t) < 0 ∧ (Int32.ofNat t) < c := by
  refine ⟨(own_ix (own_toInt (by omega))).1, ?_⟩
  rw [Int32.lt_iff_toInt_lt, own_toInt (by omega), hc]; omega
theorem own_lt64 {t : Nat} (h : t < 64) : ¬ (Int32.ofNat t) < 0 ∧ (Int32.ofNat t) < (64 : Int32) := own_ltc h (by decide) _ (by decide)
theorem own_lt16 {t : Nat} (h : t < 16) : (Int32.ofNat t) < (16 : Int32) := (own_ltc h (by decide) _ (by decide)).2
theorem own_lt16' {t : Nat} (h : t < 16) : ¬ (Int32.ofNat t) < 0 ∧ (Int32.ofNat t) < (64 : Int32) := own_lt64 (by omega)
theorem own_lt48 {t : Nat} (h : t < 48) : (Int32.ofNat (16 + t)) < (64 : Int32) := (own_lt64 (t := 16 + t) (by omega)).2
theorem own_lt48' {t : Nat} (h : t < 48) : ¬ (Int32.ofNat (16 + t)) < 0 ∧ (Int32.ofNat (16 + t)) < (64 : Int32) := own_lt64 (by omega)
theorem own_si {n d t : Nat} (h : t < 48) (hd : n + d = 16 + t) {c : Int32} (hc : c.toInt = d) : (Int32.ofNat (16 + t) - c).toInt = (n : Int) := by
  have e := c_isub (Int32.ofNat (16 + t)) c
  have r := rng32 (Int32.ofNat (16 + t) - c)
  rw [own_toInt (by omega), hc] at e
  omega
theorem own_b0 {o t : Nat} {co : Int32} (hc : co.toInt = o) (ho : o ≤ 64) (h : t < 16) : (co + ((4 : Int32) * (Int32.ofNat t))).toInt = ((o + 4 * t : Nat) : Int) := by
  have e1 := c_imul 4 (Int32.ofNat t)
  have e2 := c_iadd co ((4 : Int32) * (Int32.ofNat t))
  have r1 := rng32 ((4 : Int32) * (Int32.ofNat t))
  have r2 := rng32 (co + ((4 : Int32) * (Int32.ofNat t)))
  have l4 : (4 : Int32).toInt = 4 := by decide
  rw [own_toInt (by omega), l4] at e1
  have e3 : ((4 : Int32) * (Int32.ofNat t)).toInt = 4 * (t : Int) := by omega
  rw [e3, hc] at e2
  omega
theorem own_br {j : Int32} {k r : Nat} {c : Int32} (h : j.toInt = (k : Int)) (hk : k < 200) (hr : r ≤ 3) (hc : c.toInt = r) : (j + c).toInt = ((k + r : Nat) : Int) := by
  have e2 := c_iadd j c
  have r2 := rng32 (j + c)
  rw [h, hc] at e2
  omega
theorem own_inb {j c : Int32} {k N : Nat} (h : j.toInt = (k : Int)) (hk : k < N) (hc : c.toInt = N) : ¬ j < 0 ∧ j < c := ⟨(own_ix h).1, by rw [Int32.lt_iff_toInt_lt, h, hc]; omega⟩
theorem own_narB (x : Int32) : (x.toInt8.toInt32).toInt8.toInt32 = x.toInt8.toInt32 := by
  have e := c_i2b x
  have e2 := c_i2b (x.toInt8.toInt32)
  rw [← Int32.toInt_inj]
  omega
theorem own_ix' {n : Int32} (hn : 0 ≤ n.toInt ∧ n.toInt ≤ 55) : ¬ n < 0 ∧ n.toNatClampNeg ≤ 55 := by
  have q : ¬ n < 0 := by rw [Int32.lt_iff_toInt_lt]; have : (0 : Int32).toInt = 0 := rfl; omega
  have e := nat_of q
  exact ⟨q, by omega⟩
theorem own_lt55 (n : Int32) (hn : 0 ≤ n.toInt ∧ n.toInt ≤ 55) : n < (64 : Int32) := by
  rw [Int32.lt_iff_toInt_lt]; have : (64 : Int32).toInt = 64 := by decide
  omega
theorem own_nblk (n : Int32) (hn : 0 ≤ n.toInt ∧ n.toInt ≤ 55) : (((n + (8 : Int32)) / (64 : Int32)) + (1 : Int32)) = (1 : Int32) := by
  have e1 := c_iadd n 8
  have r1 := rng32 (n + 8)
  have l8 : (8 : Int32).toInt = 8 := by decide
  have e2 := (c_idiv (n + 8) 64 64 (by decide) (by decide)).1 (by omega)
  have e3 : (n + (8 : Int32)) / (64 : Int32) = 0 := by
    rw [← Int32.toInt_inj, e2]
    have l0 : (0 : Int32).toInt = 0 := by decide
    omega
  rw [e3]; decide
theorem own_copy {N n : Nat} {B g : Nat → Int32} {vs : List Value} {d : Value} (hB : ∀ i, i < n → vs.getD i d = .int (B i)) (hn : n ≤ N) : (own_tab N g).take (0 : Int32).toNatClampNeg ++ ((List.range n).map fun i => vs.getD ((0 : Int32).toNatClampNeg + i) d) ++ (own_tab N g).drop ((0 : Int32).toNatClampNeg + n) = own_tab N (fun j => if j < n then B j else g j) := by
  have z : (0 : Int32).toNatClampNeg = 0 := by decide
  rw [z]
  apply List.ext_getElem
  · simp [own_tab]; omega
  · intro k h1 h2
    have hk : k < N := by simpa [own_tab] using h2
    simp only [List.take_zero, List.nil_append, Nat.zero_add]
    by_cases q : k < n
    · rw [List.getElem_append_left (by simpa using q)]
      have e := hB k q
      rw [List.getD_eq_getElem?_getD] at e
      simp [own_tab, q, e]
    · rw [List.getElem_append_right (by simpa using q)]
      simp only [own_tab, List.getElem_drop, List.getElem_map, List.getElem_range, List.length_map, List.length_range, if_neg q]
      congr 2; omega
theorem own_mono {i j n : Int32} (h : ¬ i < n) (hij : i.toInt ≤ j.toInt) : ¬ j < n := by
  rw [Int32.lt_iff_toInt_lt] at *; omega
theorem own_free {Z : State} {h : Heap} {a : Addr} {k : ClassId} {ty : FieldType} {n : Int32} {vs : List Value} {d : Value} (F : Arv Z h a k ty n vs d) (i : Nat) (v : Value) (hi : ¬ (Int32.ofNat i) < n) (hn : ¬ n < 0) (hs : i < 2147483648 := by decide) : Arv Z h a k ty n (vs.set i v) d := by
  obtain ⟨c, A, r1, r2, r3, H, G⟩ := F
  have e := nat_of hn
  have hi' : n.toNatClampNeg ≤ i := by
    rw [Int32.lt_iff_toInt_lt, own_toInt hs] at hi; omega
  have key : ∀ j, j < c.slots.size → (vs.set i v).getD j d = vs.getD j d := fun j hj => by
    have : i ≠ j := by omega
    simp [List.getD, List.getElem?_set_ne this]
  exact ⟨c, A, r1, r2, r3, fun j hj => by rw [key j hj]; exact H j hj, fun j hj => by rw [key j hj]; exact G j hj⟩
def own_iv : Value → Int32
  | .int x => x
  | _ => 0
def own_wd (vs : List Value) (i : Nat) : Int32 := ((((own_iv (vs.getD (4 * i) (.int 0)) &&& (255 : Int32)) <<< ((24 : Int32) &&& 31)) ||| ((own_iv (vs.getD (4 * i + 1) (.int 0)) &&& (255 : Int32)) <<< ((16 : Int32) &&& 31))) ||| ((own_iv (vs.getD (4 * i + 2) (.int 0)) &&& (255 : Int32)) <<< ((8 : Int32) &&& 31))) ||| (own_iv (vs.getD (4 * i + 3) (.int 0)) &&& (255 : Int32))
/-- the padded message of N bytes -/
def own_pad (N n : Nat) (bits : Int64) (B : Nat → Int32) : Nat → Int32 := fun j => if j = N - 8 then (own_bz bits 56) else if j = N - 7 then (own_bz bits 48) else if j = N - 6 then (own_bz bits 40) else if j = N - 5 then (own_bz bits 32) else if j = N - 4 then (own_bz bits 24) else if j = N - 3 then (own_bz bits 16) else if j = N - 2 then (own_bz bits 8) else if j = N - 1 then (own_bz bits 0) else if j = n then -128 else if j < n then B j else 0
abbrev own_gA (n : Int32) (B : Nat → Int32) : Nat → Int32 := own_pad 64 n.toNatClampNeg ((8 : Int64) * (n.toInt64)) B
abbrev own_gB (B : Nat → Int32) : Nat → Int32 := own_pad 128 56 (448 : Int64) B
def own_wa (g : Nat → Int32) (o : Nat) (old : Nat → Int32) : Nat → (Nat → Int32)
  | 0 => old
  | k + 1 => fun j => if j = k then own_w0 g o k else own_wa g o old k j
def own_x8 (s : St8) : Nat → Int32
  | 0 => s.1
  | 1 => s.2.1
  | 2 => s.2.2.1
  | 3 => s.2.2.2.1
  | 4 => s.2.2.2.2.1
  | 5 => s.2.2.2.2.2.1
  | 6 => s.2.2.2.2.2.2.1
  | _ => s.2.2.2.2.2.2.2
def own_ob (s : St8) (t : Nat) : Int32 := ((((own_x8 s (t / 4)).toUInt32 >>> (((24 : Int32) - ((8 : Int32) * ((Int32.ofNat t) % (4 : Int32)))) &&& 31).toUInt32).toInt32).toInt8.toInt32)
def own_oa (f : Nat → Int32) : Nat → (Nat → Int32)
  | 0 => fun _ => 0
  | k + 1 => fun j => if j = k then f k else own_oa f k j
theorem own_lt32 {t : Nat} (h : t < 32) : (Int32.ofNat t) < (32 : Int32) := (own_ltc h (by decide) _ (by decide)).2
theorem own_d4 {t : Nat} (h : t < 32) : ((Int32.ofNat t) / (4 : Int32)).toInt = ((t / 4 : Nat) : Int) := by
  have e := (c_idiv (Int32.ofNat t) 4 4 (by decide) (by decide)).1 (by rw [own_toInt (by omega)]; omega)
  rw [e, own_toInt (by omega)]; omega
theorem own_tab_of {N : Nat} {g : Nat → Int32} {l : List Int32} (h : (List.range N).map g = l) : own_tab N g = l.map Value.int := by
  subst h; simp [own_tab]
def own_add (s t : St8) : St8 := (s.1 + t.1, s.2.1 + t.2.1, s.2.2.1 + t.2.2.1, s.2.2.2.1 + t.2.2.2.1, s.2.2.2.2.1 + t.2.2.2.2.1, s.2.2.2.2.2.1 + t.2.2.2.2.2.1, s.2.2.2.2.2.2.1 + t.2.2.2.2.2.2.1, s.2.2.2.2.2.2.2 + t.2.2.2.2.2.2.2)
def own_blk (g : Nat → Int32) (o : Nat) (old : Nat → Int32) (s : St8) : St8 := own_add s (own_st (own_wf (own_wa g o old 16) 48) s 64)
theorem own_blk_of {g : Nat → Int32} {o : Nat} {old : Nat → Int32} {s r : St8} (hr : r = own_st (own_wf (own_wa g o old 16) 48) s 64) : own_blk g o old s = own_add s r := by rw [hr, own_blk]
def own_L (f : Nat → Int32) (m : Nat) : List Int32 := ((List.range (16 + m)).map (own_wf f m)).reverse
theorem own_L_get (f : Nat → Int32) (m i : Nat) (h : i < 16 + m) : (own_L f m).getD i 0 = own_wf f m (15 + m - i) := by
  have e : (own_L f m)[i]? = some (own_wf f m (15 + m - i)) := by
    rw [own_L, List.getElem?_reverse (by simpa using h)]
    simp only [List.length_map, List.length_range]
    rw [List.getElem?_map, List.getElem?_range (by omega)]
    simp only [Option.map_some]
    congr 2; omega
  rw [List.getD_eq_getElem?_getD, e]; rfl
theorem own_L_succ (f : Nat → Int32) (m : Nat) : own_L f (m + 1) = own_ws (own_wf f m (m + 1)) (own_wf f m (m + 14)) (own_wf f m (m + 9)) (own_wf f m m) :: own_L f m := by
  have e1 : own_wf f (m + 1) (16 + m) = own_ws (own_wf f m (m + 1)) (own_wf f m (m + 14)) (own_wf f m (m + 9)) (own_wf f m m) := by simp [own_wf]
  have e2 : (List.range (16 + m)).map (own_wf f (m + 1)) = (List.range (16 + m)).map (own_wf f m) := by
    apply List.map_congr_left
    intro j hj
    have : j < 16 + m := List.mem_range.mp hj
    simp only [own_wf]
    rw [if_neg (by omega)]
  rw [own_L, show 16 + (m + 1) = (16 + m) + 1 from rfl, List.range_succ, List.map_append, List.reverse_append, e2]
  simp only [List.map_cons, List.map_nil, List.reverse_cons, List.reverse_nil, List.nil_append, e1]
  rfl
theorem own_sl_eq (f : Nat → Int32) : ∀ k m, own_sl k (own_L f m) = own_L f (m + k)
  | 0, m => rfl
  | k + 1, m => by
    rw [own_sl, own_force_eq, own_L_get f m 14 (by omega), own_L_get f m 1 (by omega), own_L_get f m 6 (by omega), own_L_get f m 15 (by omega)]
    rw [show 15 + m - 14 = m + 1 by omega, show 15 + m - 1 = m + 14 by omega, show 15 + m - 6 = m + 9 by omega, show 15 + m - 15 = m by omega, ← own_L_succ, own_sl_eq f k (m + 1)]
    congr 1; omega
theorem own_rl_eq (w : Nat → Int32) (s : St8) : ∀ k t, t + k = 64 → own_rl (own_Kl.drop t) (((List.range 64).map w).drop t) (own_st w s t).1 (own_st w s t).2.1 (own_st w s t).2.2.1 (own_st w s t).2.2.2.1 (own_st w s t).2.2.2.2.1 (own_st w s t).2.2.2.2.2.1 (own_st w s t).2.2.2.2.2.2.1 (own_st w s t).2.2.2.2.2.2.2 = own_st w s 64
  | 0, t, h => by
    obtain rfl : t = 64 := by omega
    rfl
  | k + 1, t, h => by
    have hl : own_Kl.length = 64 := rfl
    have e1 : own_Kl.drop t = own_K t :: own_Kl.drop (t + 1) := by
      rw [List.drop_eq_getElem_cons (by omega)]
      congr 1
      rw [own_K, List.getD_eq_getElem?_getD, List.getElem?_eq_getElem (by omega)]; rfl
    have e2 : ((List.range 64).map w).drop t = w t :: ((List.range 64).map w).drop (t + 1) := by
      rw [List.drop_eq_getElem_cons (by simp; omega)]
      congr 1
      simp
    rw [e1, e2, own_rl, own_force_eq, own_force_eq]
    exact own_rl_eq w s k (t + 1) (by omega)
theorem own_blk_eval (g : Nat → Int32) (o : Nat) (old : Nat → Int32) (s : St8) : own_blk g o old s = own_add s (own_rl own_Kl (own_sl 48 [own_w0 g o 15, own_w0 g o 14, own_w0 g o 13, own_w0 g o 12, own_w0 g o 11, own_w0 g o 10, own_w0 g o 9, own_w0 g o 8, own_w0 g o 7, own_w0 g o 6, own_w0 g o 5, own_w0 g o 4, own_w0 g o 3, own_w0 g o 2, own_w0 g o 1, own_w0 g o 0]).reverse s.1 s.2.1 s.2.2.1 s.2.2.2.1 s.2.2.2.2.1 s.2.2.2.2.2.1 s.2.2.2.2.2.2.1 s.2.2.2.2.2.2.2) := by
  have e0 : [own_w0 g o 15, own_w0 g o 14, own_w0 g o 13, own_w0 g o 12, own_w0 g o 11, own_w0 g o 10, own_w0 g o 9, own_w0 g o 8, own_w0 g o 7, own_w0 g o 6, own_w0 g o 5, own_w0 g o 4, own_w0 g o 3, own_w0 g o 2, own_w0 g o 1, own_w0 g o 0] = own_L (own_wa g o old 16) 0 := rfl
  rw [e0, own_sl_eq, own_L, List.reverse_reverse]
  have e := own_rl_eq (own_wf (own_wa g o old 16) 48) s 64 0 rfl
  rw [List.drop_zero, List.drop_zero] at e
  rw [own_blk, ← e]
  rfl
def own_e8 (x : St8) (a b c d e f g h : Int32) : Bool := x.1 == a && x.2.1 == b && x.2.2.1 == c && x.2.2.2.1 == d && x.2.2.2.2.1 == e && x.2.2.2.2.2.1 == f && x.2.2.2.2.2.2.1 == g && x.2.2.2.2.2.2.2 == h
theorem own_e8_eq {x : St8} {a b c d e f g h : Int32} (q : own_e8 x a b c d e f g h = true) : x = (a, b, c, d, e, f, g, h) := by
  simp only [own_e8, Bool.and_eq_true, beq_iff_eq] at q
  obtain ⟨⟨⟨⟨⟨⟨⟨q1, q2⟩, q3⟩, q4⟩, q5⟩, q6⟩, q7⟩, q8⟩ := q
  rw [← q1, ← q2, ← q3, ← q4, ← q5, ← q6, ← q7, ← q8]
def own_isI : Value → Bool
  | .int _ => true
  | _ => false
theorem own_allI {vs : List Value} (h : vs.all own_isI = true) (i : Nat) : vs.getD i (.int 0) = .int (own_iv (vs.getD i (.int 0))) := by
  rw [List.getD_eq_getElem?_getD]
  cases e : vs[i]? with
  | none => rfl
  | some v =>
    have hm := List.mem_of_getElem? e
    have := List.all_eq_true.mp h v hm
    cases v <;> first | rfl | cases this
set_option maxRecDepth 65536 in
theorem own_ev389 : (own_blk (own_pad 64 (0 : Int32).toNatClampNeg ((8 : Int64) * ((0 : Int32).toInt64)) (fun i => own_iv (([] : List Value).getD i (.int 0)))) 0 (fun _ => 0) ((1779033703 : Int32), (-1150833019 : Int32), (1013904242 : Int32), (-1521486534 : Int32), (1359893119 : Int32), (-1694144372 : Int32), (528734635 : Int32), (1541459225 : Int32))) = ((-474954686 : Int32), (-1728308204 : Int32), (-1694763832 : Int32), (-1720731356 : Int32), (665731556 : Int32), (1687917388 : Int32), (-1533699813 : Int32), (2018687061 : Int32)) := own_e8_eq (by rw [own_blk_eval]; decide +kernel)
set_option maxRecDepth 65536 in
theorem own_ob389 : own_tab 32 (own_oa (own_ob ((-474954686 : Int32), (-1728308204 : Int32), (-1694763832 : Int32), (-1720731356 : Int32), (665731556 : Int32), (1687917388 : Int32), (-1533699813 : Int32), (2018687061 : Int32))) 32) = [(.int (-29)), (.int (-80)), (.int (-60)), (.int 66), (.int (-104)), (.int (-4)), (.int 28), (.int 20), (.int (-102)), (.int (-5)), (.int (-12)), (.int (-56)), (.int (-103)), (.int 111), (.int (-71)), (.int 36), (.int 39), (.int (-82)), (.int 65), (.int (-28)), (.int 100), (.int (-101)), (.int (-109)), (.int 76), (.int (-92)), (.int (-107)), (.int (-103)), (.int 27), (.int 120), (.int 82), (.int (-72)), (.int 85)] := own_tab_of (l := [-29, -80, -60, 66, -104, -4, 28, 20, -102, -5, -12, -56, -103, 111, -71, 36, 39, -82, 65, -28, 100, -101, -109, 76, -92, -107, -103, 27, 120, 82, -72, 85]) (by decide +kernel)
set_option maxRecDepth 65536 in
theorem own_ev396 : (own_blk (own_pad 64 (3 : Int32).toNatClampNeg ((8 : Int64) * ((3 : Int32).toInt64)) (fun i => own_iv (([(.int 97), (.int 98), (.int 99)] : List Value).getD i (.int 0)))) 0 (fun _ => 0) ((1779033703 : Int32), (-1150833019 : Int32), (1013904242 : Int32), (-1521486534 : Int32), (1359893119 : Int32), (-1694144372 : Int32), (528734635 : Int32), (1541459225 : Int32))) = ((-1166534977 : Int32), (-1895706646 : Int32), (1094795486 : Int32), (1571693091 : Int32), (-1341955677 : Int32), (-1776846180 : Int32), (-1273954463 : Int32), (-234875475 : Int32)) := own_e8_eq (by rw [own_blk_eval]; decide +kernel)
set_option maxRecDepth 65536 in
theorem own_ob396 : own_tab 32 (own_oa (own_ob ((-1166534977 : Int32), (-1895706646 : Int32), (1094795486 : Int32), (1571693091 : Int32), (-1341955677 : Int32), (-1776846180 : Int32), (-1273954463 : Int32), (-234875475 : Int32))) 32) = [(.int (-70)), (.int 120), (.int 22), (.int (-65)), (.int (-113)), (.int 1), (.int (-49)), (.int (-22)), (.int 65), (.int 65), (.int 64), (.int (-34)), (.int 93), (.int (-82)), (.int 34), (.int 35), (.int (-80)), (.int 3), (.int 97), (.int (-93)), (.int (-106)), (.int 23), (.int 122), (.int (-100)), (.int (-76)), (.int 16), (.int (-1)), (.int 97), (.int (-14)), (.int 0), (.int 21), (.int (-83))] := own_tab_of (l := [-70, 120, 22, -65, -113, 1, -49, -22, 65, 65, 64, -34, 93, -82, 34, 35, -80, 3, 97, -93, -106, 23, 122, -100, -76, 16, -1, 97, -14, 0, 21, -83]) (by decide +kernel)
set_option maxRecDepth 65536 in
theorem own_ev403 : (own_blk (own_pad 128 56 (448 : Int64) (fun i => own_iv (([(.int 97), (.int 98), (.int 99), (.int 100), (.int 98), (.int 99), (.int 100), (.int 101), (.int 99), (.int 100), (.int 101), (.int 102), (.int 100), (.int 101), (.int 102), (.int 103), (.int 101), (.int 102), (.int 103), (.int 104), (.int 102), (.int 103), (.int 104), (.int 105), (.int 103), (.int 104), (.int 105), (.int 106), (.int 104), (.int 105), (.int 106), (.int 107), (.int 105), (.int 106), (.int 107), (.int 108), (.int 106), (.int 107), (.int 108), (.int 109), (.int 107), (.int 108), (.int 109), (.int 110), (.int 108), (.int 109), (.int 110), (.int 111), (.int 109), (.int 110), (.int 111), (.int 112), (.int 110), (.int 111), (.int 112), (.int 113)] : List Value).getD i (.int 0)))) 64 (own_wf (own_wa (own_pad 128 56 (448 : Int64) (fun i => own_iv (([(.int 97), (.int 98), (.int 99), (.int 100), (.int 98), (.int 99), (.int 100), (.int 101), (.int 99), (.int 100), (.int 101), (.int 102), (.int 100), (.int 101), (.int 102), (.int 103), (.int 101), (.int 102), (.int 103), (.int 104), (.int 102), (.int 103), (.int 104), (.int 105), (.int 103), (.int 104), (.int 105), (.int 106), (.int 104), (.int 105), (.int 106), (.int 107), (.int 105), (.int 106), (.int 107), (.int 108), (.int 106), (.int 107), (.int 108), (.int 109), (.int 107), (.int 108), (.int 109), (.int 110), (.int 108), (.int 109), (.int 110), (.int 111), (.int 109), (.int 110), (.int 111), (.int 112), (.int 110), (.int 111), (.int 112), (.int 113)] : List Value).getD i (.int 0)))) 0 (fun _ => 0) 16) 48) (own_blk (own_pad 128 56 (448 : Int64) (fun i => own_iv (([(.int 97), (.int 98), (.int 99), (.int 100), (.int 98), (.int 99), (.int 100), (.int 101), (.int 99), (.int 100), (.int 101), (.int 102), (.int 100), (.int 101), (.int 102), (.int 103), (.int 101), (.int 102), (.int 103), (.int 104), (.int 102), (.int 103), (.int 104), (.int 105), (.int 103), (.int 104), (.int 105), (.int 106), (.int 104), (.int 105), (.int 106), (.int 107), (.int 105), (.int 106), (.int 107), (.int 108), (.int 106), (.int 107), (.int 108), (.int 109), (.int 107), (.int 108), (.int 109), (.int 110), (.int 108), (.int 109), (.int 110), (.int 111), (.int 109), (.int 110), (.int 111), (.int 112), (.int 110), (.int 111), (.int 112), (.int 113)] : List Value).getD i (.int 0)))) 0 (fun _ => 0) ((1779033703 : Int32), (-1150833019 : Int32), (1013904242 : Int32), (-1521486534 : Int32), (1359893119 : Int32), (-1694144372 : Int32), (528734635 : Int32), (1541459225 : Int32)))) = ((613247585 : Int32), (-771344200 : Int32), (-440392045 : Int32), (205414457 : Int32), (-1556290471 : Int32), (1694441831 : Int32), (-152244780 : Int32), (433784513 : Int32)) := own_e8_eq (by rw [own_blk_eval, own_blk_eval]; decide +kernel)
set_option maxRecDepth 65536 in
theorem own_ob403 : own_tab 32 (own_oa (own_ob ((613247585 : Int32), (-771344200 : Int32), (-440392045 : Int32), (205414457 : Int32), (-1556290471 : Int32), (1694441831 : Int32), (-152244780 : Int32), (433784513 : Int32))) 32) = [(.int 36), (.int (-115)), (.int 106), (.int 97), (.int (-46)), (.int 6), (.int 56), (.int (-72)), (.int (-27)), (.int (-64)), (.int 38), (.int (-109)), (.int 12), (.int 62), (.int 96), (.int 57), (.int (-93)), (.int 60), (.int (-28)), (.int 89), (.int 100), (.int (-1)), (.int 33), (.int 103), (.int (-10)), (.int (-20)), (.int (-19)), (.int (-44)), (.int 25), (.int (-37)), (.int 6), (.int (-63))] := own_tab_of (l := [36, -115, 106, 97, -46, 6, 56, -72, -27, -64, 38, -109, 12, 62, 96, 57, -93, 60, -28, 89, 100, -1, 33, 103, -10, -20, -19, -44, 25, -37, 6, -63]) (by decide +kernel)
theorem own_n9 (x : Int32) : 0 ≤ ((x &&& (2147483647 : Int32)) % (9 : Int32)).toInt ∧ ((x &&& (2147483647 : Int32)) % (9 : Int32)).toInt ≤ 8 := by
  have e1 := c_mask x 2147483647 31 (by decide) (by decide)
  have e2 := (c_irem (x &&& 2147483647) 9 9 (by decide)).1 (by omega)
  omega
theorem own_n8 {n : Int32} (h : 0 ≤ n.toInt ∧ n.toInt ≤ 8) : ¬ n < 0 ∧ ¬ (8 : Int32) < n ∧ n.toNatClampNeg ≤ 8 := by
  have q : ¬ n < 0 := by rw [Int32.lt_iff_toInt_lt]; have : (0 : Int32).toInt = 0 := rfl; omega
  have e := nat_of q
  refine ⟨q, ?_, by omega⟩
  rw [Int32.lt_iff_toInt_lt]; have : (8 : Int32).toInt = 8 := by decide
  omega
theorem pn_9 : plainName "java/lang/Integer" = true := by first | (simp [plainName, overriddenIn]; done) | decide +kernel
theorem d3_0 : decode jdk_33_method_51_code 0 = .ok (.iload_n 0, 1) := by decide +kernel
theorem d3_1 : decode jdk_33_method_51_code 1 = .ok (.iload_n 1, 1) := by decide +kernel
theorem d3_2 : decode jdk_33_method_51_code 2 = .ok (.iushr, 1) := by decide +kernel
theorem d3_3 : decode jdk_33_method_51_code 3 = .ok (.iload_n 0, 1) := by decide +kernel
theorem d3_4 : decode jdk_33_method_51_code 4 = .ok (.iload_n 1, 1) := by decide +kernel
theorem d3_5 : decode jdk_33_method_51_code 5 = .ok (.ineg, 1) := by decide +kernel
theorem d3_6 : decode jdk_33_method_51_code 6 = .ok (.ishl, 1) := by decide +kernel
theorem d3_7 : decode jdk_33_method_51_code 7 = .ok (.ior, 1) := by decide +kernel
theorem d3_8 : decode jdk_33_method_51_code 8 = .ok (.ireturn, 1) := by decide +kernel
theorem ef_3 (m : MethodId) (p1 : Int32) (p2 : Int32) : entryFrame m #[(.int p1), (.int p2)] 2 = mkF m 0 #[.val (.int p1), .val (.int p2)] [] := by first | (simp [entryFrame, mkF, argsToLocals, Value.category]; done) | rfl
def Q3 (Z : State) (p1 : Int32) (p2 : Int32) (h0 : Heap) (n0 : Nat) (v : Option Value) (h : Heap) (L : List Loc) : Prop := v = some (.int (own_rr p1 p2)) ∧ Fr n0 L ∧ h = h0
set_option maxRecDepth 65536 in
set_option maxHeartbeats 40000000 in
theorem rm3 (l : Launch) (Z : State) (a0 : Array Value) (hw : ∀ d ∈ tables_1, d.before a0 Z = true) (ws : List Jvm.Cond) (p1 : Int32) (p2 : Int32) (h0 : Heap) (n0 : Nat) (Z0 : n0 ≤ h0.size) :
    MetFree l (⟨"java/lang/Integer", "rotateRight", "(II)I"⟩ : MethodName) (head1 (Jvm.Cond.code (⟨"java/lang/Integer", "rotateRight", "(II)I"⟩ : MethodName) jdk_33_method_51_code 2 (some .int) :: ws) ({ frames := 0, cells := 0, slots := 0, locals := 0 } : Room)) (fun a U => a = #[(.int p1), (.int p2)] ∧ Z.Warmed39 U.vm ∧ U.heap = h0) (fun _ _ _ _ _ => True) (fun _ U o U' => ∃ v L, o = .returned v ∧ Q3 Z p1 p2 h0 n0 v U'.heap L ∧ FrameEnd U o U' L ({ frames := 0, cells := 0, slots := 0, locals := 0 } : Room).cells ({ frames := 0, cells := 0, slots := 0, locals := 0 } : Room).slots) := by
  refine MetFree.of_bodySF (plainFor_of_name pn_9) hisR ?_
  intro p e s m args below meth c s₁ Bd hml0 hP hK
  obtain ⟨rfl, hZ, hh⟩ := hP
  have hx := Bd.exec
  have hby := Bd.bytes
  have hml : c.maxLocals = 2 := hml0
  have hown : s.vm.findClass "java/lang/Integer" = some m.cls := findClass_of_methodNamed Bd.named
  have hnm := (name_of_methodNamed Bd.named Bd.method).1
  have X0 : Stand p l e ({ frames := 0, cells := 0, slots := 0, locals := 0 } : Room) s m #[(.int p1), (.int p2)] below meth c s₁ [] 0 0 := Stand.of_body Bd
  have e0 : s₁.heap = h0 := by rw [← hh, Bd.state]; rfl
  have N0 := Fr.nil n0
  refine own_go (B := s₁.setTop (mkF m 0 #[.val (.int p1), .val (.int p2)] [])) (fun t k => castTop (ef_3 m p1 p2) k) ?_
  refine own_go (B := s₁.setTop (mkF m 8 #[.val (.int p1), .val (.int p2)] [(.int (((p1.toUInt32 >>> (p2 &&& 31).toUInt32).toInt32) ||| (p1 <<< ((-p2) &&& 31))))])) (fun tg kt => ?_) ?_
  · refine XS.iloadN X0.here hx rfl (hb hby d3_0) rfl ?_
    refine XS.iloadN X0.here hx rfl (hb hby d3_1) rfl ?_
    refine XS.iushr X0.here hx rfl (hb hby d3_2) rfl ?_
    refine XS.iloadN X0.here hx rfl (hb hby d3_3) rfl ?_
    refine XS.iloadN X0.here hx rfl (hb hby d3_4) rfl ?_
    refine XS.ineg X0.here hx rfl (hb hby d3_5) rfl ?_
    refine XS.ishl X0.here hx rfl (hb hby d3_6) rfl ?_
    refine XS.ior X0.here hx rfl (hb hby d3_7) rfl ?_
    exact kt
  obtain ⟨fs, hr, hrun, hended, hW, hsame⟩ := X0.leave (v := some (.int (((p1.toUInt32 >>> (p2 &&& 31).toUInt32).toInt32) ||| (p1 <<< ((-p2) &&& 31))))) (fun h => by rw [Bd.returns] at h; cases h)
  refine ⟨_, _, ?_, hrun, hended, _, _, rfl, ?_, ⟨_, rfl⟩, hW, hsame.mono (by decide) (by decide)⟩
  · exact retI X0 hx Bd.returns (hb hby d3_8) hr
  · show Q3 Z p1 p2 h0 n0 _ s₁.heap _
    rw [e0]
    exact ⟨rfl, N0, rfl⟩
theorem pd_0 : parseMethodDescriptor "(II)I" = some ⟨[.int, .int], some .int⟩ := by decide +kernel
theorem pn_188 : plainName "tributary/Digests" = true := by first | (simp [plainName, overriddenIn]; done) | decide +kernel
theorem d4_0 : decode prog_4_method_3_code 0 = .ok (.aload_n 0, 1) := by decide +kernel
theorem d4_1 : decode prog_4_method_3_code 1 = .ok (.iconst 0, 1) := by decide +kernel
theorem d4_2 : decode prog_4_method_3_code 2 = .ok (.iaload, 1) := by decide +kernel
theorem d4_3 : decode prog_4_method_3_code 3 = .ok (.istore_n 2, 1) := by decide +kernel
theorem d4_4 : decode prog_4_method_3_code 4 = .ok (.aload_n 0, 1) := by decide +kernel
theorem d4_5 : decode prog_4_method_3_code 5 = .ok (.iconst 1, 1) := by decide +kernel
theorem d4_6 : decode prog_4_method_3_code 6 = .ok (.iaload, 1) := by decide +kernel
theorem d4_7 : decode prog_4_method_3_code 7 = .ok (.istore_n 3, 1) := by decide +kernel
theorem d4_8 : decode prog_4_method_3_code 8 = .ok (.aload_n 0, 1) := by decide +kernel
theorem d4_9 : decode prog_4_method_3_code 9 = .ok (.iconst 2, 1) := by decide +kernel
theorem d4_10 : decode prog_4_method_3_code 10 = .ok (.iaload, 1) := by decide +kernel
theorem d4_11 : decode prog_4_method_3_code 11 = .ok (.istore 4, 2) := by decide +kernel
theorem d4_13 : decode prog_4_method_3_code 13 = .ok (.aload_n 0, 1) := by decide +kernel
theorem d4_14 : decode prog_4_method_3_code 14 = .ok (.iconst 3, 1) := by decide +kernel
theorem d4_15 : decode prog_4_method_3_code 15 = .ok (.iaload, 1) := by decide +kernel
theorem d4_16 : decode prog_4_method_3_code 16 = .ok (.istore 5, 2) := by decide +kernel
theorem d4_18 : decode prog_4_method_3_code 18 = .ok (.aload_n 0, 1) := by decide +kernel
theorem d4_19 : decode prog_4_method_3_code 19 = .ok (.iconst 4, 1) := by decide +kernel
theorem d4_20 : decode prog_4_method_3_code 20 = .ok (.iaload, 1) := by decide +kernel
theorem d4_21 : decode prog_4_method_3_code 21 = .ok (.istore 6, 2) := by decide +kernel
theorem d4_23 : decode prog_4_method_3_code 23 = .ok (.aload_n 0, 1) := by decide +kernel
theorem d4_24 : decode prog_4_method_3_code 24 = .ok (.iconst 5, 1) := by decide +kernel
theorem d4_25 : decode prog_4_method_3_code 25 = .ok (.iaload, 1) := by decide +kernel
theorem d4_26 : decode prog_4_method_3_code 26 = .ok (.istore 7, 2) := by decide +kernel
theorem d4_28 : decode prog_4_method_3_code 28 = .ok (.aload_n 0, 1) := by decide +kernel
theorem d4_29 : decode prog_4_method_3_code 29 = .ok (.bipush 6, 2) := by decide +kernel
theorem d4_31 : decode prog_4_method_3_code 31 = .ok (.iaload, 1) := by decide +kernel
theorem d4_32 : decode prog_4_method_3_code 32 = .ok (.istore 8, 2) := by decide +kernel
theorem d4_34 : decode prog_4_method_3_code 34 = .ok (.aload_n 0, 1) := by decide +kernel
theorem d4_35 : decode prog_4_method_3_code 35 = .ok (.bipush 7, 2) := by decide +kernel
theorem d4_37 : decode prog_4_method_3_code 37 = .ok (.iaload, 1) := by decide +kernel
theorem d4_38 : decode prog_4_method_3_code 38 = .ok (.istore 9, 2) := by decide +kernel
theorem d4_40 : decode prog_4_method_3_code 40 = .ok (.iconst 0, 1) := by decide +kernel
theorem d4_41 : decode prog_4_method_3_code 41 = .ok (.istore 10, 2) := by decide +kernel
theorem d4_43 : decode prog_4_method_3_code 43 = .ok (.iload 10, 2) := by decide +kernel
theorem d4_45 : decode prog_4_method_3_code 45 = .ok (.bipush 64, 2) := by decide +kernel
theorem d4_47 : decode prog_4_method_3_code 47 = .ok (.if_icmp .ge 144, 3) := by decide +kernel
theorem d4_50 : decode prog_4_method_3_code 50 = .ok (.iload 6, 2) := by decide +kernel
theorem d4_52 : decode prog_4_method_3_code 52 = .ok (.bipush 6, 2) := by decide +kernel
theorem d4_54 : decode prog_4_method_3_code 54 = .ok (.invokestatic 26, 3) := by decide +kernel
theorem d4_57 : decode prog_4_method_3_code 57 = .ok (.iload 6, 2) := by decide +kernel
theorem d4_59 : decode prog_4_method_3_code 59 = .ok (.bipush 11, 2) := by decide +kernel
theorem d4_61 : decode prog_4_method_3_code 61 = .ok (.invokestatic 26, 3) := by decide +kernel
theorem d4_64 : decode prog_4_method_3_code 64 = .ok (.ixor, 1) := by decide +kernel
theorem d4_65 : decode prog_4_method_3_code 65 = .ok (.iload 6, 2) := by decide +kernel
theorem d4_67 : decode prog_4_method_3_code 67 = .ok (.bipush 25, 2) := by decide +kernel
theorem d4_69 : decode prog_4_method_3_code 69 = .ok (.invokestatic 26, 3) := by decide +kernel
theorem d4_72 : decode prog_4_method_3_code 72 = .ok (.ixor, 1) := by decide +kernel
theorem d4_73 : decode prog_4_method_3_code 73 = .ok (.istore 11, 2) := by decide +kernel
theorem d4_75 : decode prog_4_method_3_code 75 = .ok (.iload 6, 2) := by decide +kernel
theorem d4_77 : decode prog_4_method_3_code 77 = .ok (.iload 7, 2) := by decide +kernel
theorem d4_79 : decode prog_4_method_3_code 79 = .ok (.iand, 1) := by decide +kernel
theorem d4_80 : decode prog_4_method_3_code 80 = .ok (.iload 6, 2) := by decide +kernel
theorem d4_82 : decode prog_4_method_3_code 82 = .ok (.iconst (-1), 1) := by decide +kernel
theorem d4_83 : decode prog_4_method_3_code 83 = .ok (.ixor, 1) := by decide +kernel
theorem d4_84 : decode prog_4_method_3_code 84 = .ok (.iload 8, 2) := by decide +kernel
theorem d4_86 : decode prog_4_method_3_code 86 = .ok (.iand, 1) := by decide +kernel
theorem d4_87 : decode prog_4_method_3_code 87 = .ok (.ixor, 1) := by decide +kernel
theorem d4_88 : decode prog_4_method_3_code 88 = .ok (.istore 12, 2) := by decide +kernel
theorem d4_90 : decode prog_4_method_3_code 90 = .ok (.iload 9, 2) := by decide +kernel
theorem d4_92 : decode prog_4_method_3_code 92 = .ok (.iload 11, 2) := by decide +kernel
theorem d4_94 : decode prog_4_method_3_code 94 = .ok (.iadd, 1) := by decide +kernel
theorem d4_95 : decode prog_4_method_3_code 95 = .ok (.iload 12, 2) := by decide +kernel
theorem d4_97 : decode prog_4_method_3_code 97 = .ok (.iadd, 1) := by decide +kernel
theorem d4_98 : decode prog_4_method_3_code 98 = .ok (.getstatic 36, 3) := by decide +kernel
theorem d4_101 : decode prog_4_method_3_code 101 = .ok (.iload 10, 2) := by decide +kernel
theorem d4_103 : decode prog_4_method_3_code 103 = .ok (.iaload, 1) := by decide +kernel
theorem d4_104 : decode prog_4_method_3_code 104 = .ok (.iadd, 1) := by decide +kernel
theorem d4_105 : decode prog_4_method_3_code 105 = .ok (.aload_n 1, 1) := by decide +kernel
theorem d4_106 : decode prog_4_method_3_code 106 = .ok (.iload 10, 2) := by decide +kernel
theorem d4_108 : decode prog_4_method_3_code 108 = .ok (.iaload, 1) := by decide +kernel
theorem d4_109 : decode prog_4_method_3_code 109 = .ok (.iadd, 1) := by decide +kernel
theorem d4_110 : decode prog_4_method_3_code 110 = .ok (.istore 13, 2) := by decide +kernel
theorem d4_112 : decode prog_4_method_3_code 112 = .ok (.iload_n 2, 1) := by decide +kernel
theorem d4_113 : decode prog_4_method_3_code 113 = .ok (.iconst 2, 1) := by decide +kernel
theorem d4_114 : decode prog_4_method_3_code 114 = .ok (.invokestatic 26, 3) := by decide +kernel
theorem d4_117 : decode prog_4_method_3_code 117 = .ok (.iload_n 2, 1) := by decide +kernel
theorem d4_118 : decode prog_4_method_3_code 118 = .ok (.bipush 13, 2) := by decide +kernel
theorem d4_120 : decode prog_4_method_3_code 120 = .ok (.invokestatic 26, 3) := by decide +kernel
theorem d4_123 : decode prog_4_method_3_code 123 = .ok (.ixor, 1) := by decide +kernel
theorem d4_124 : decode prog_4_method_3_code 124 = .ok (.iload_n 2, 1) := by decide +kernel
theorem d4_125 : decode prog_4_method_3_code 125 = .ok (.bipush 22, 2) := by decide +kernel
theorem d4_127 : decode prog_4_method_3_code 127 = .ok (.invokestatic 26, 3) := by decide +kernel
theorem d4_130 : decode prog_4_method_3_code 130 = .ok (.ixor, 1) := by decide +kernel
theorem d4_131 : decode prog_4_method_3_code 131 = .ok (.istore 14, 2) := by decide +kernel
theorem d4_133 : decode prog_4_method_3_code 133 = .ok (.iload 14, 2) := by decide +kernel
theorem d4_135 : decode prog_4_method_3_code 135 = .ok (.iload_n 2, 1) := by decide +kernel
theorem d4_136 : decode prog_4_method_3_code 136 = .ok (.iload_n 3, 1) := by decide +kernel
theorem d4_137 : decode prog_4_method_3_code 137 = .ok (.iand, 1) := by decide +kernel
theorem d4_138 : decode prog_4_method_3_code 138 = .ok (.iload_n 2, 1) := by decide +kernel
theorem d4_139 : decode prog_4_method_3_code 139 = .ok (.iload 4, 2) := by decide +kernel
theorem d4_141 : decode prog_4_method_3_code 141 = .ok (.iand, 1) := by decide +kernel
theorem d4_142 : decode prog_4_method_3_code 142 = .ok (.ixor, 1) := by decide +kernel
theorem d4_143 : decode prog_4_method_3_code 143 = .ok (.iload_n 3, 1) := by decide +kernel
theorem d4_144 : decode prog_4_method_3_code 144 = .ok (.iload 4, 2) := by decide +kernel
theorem d4_146 : decode prog_4_method_3_code 146 = .ok (.iand, 1) := by decide +kernel
theorem d4_147 : decode prog_4_method_3_code 147 = .ok (.ixor, 1) := by decide +kernel
theorem d4_148 : decode prog_4_method_3_code 148 = .ok (.iadd, 1) := by decide +kernel
theorem d4_149 : decode prog_4_method_3_code 149 = .ok (.istore 15, 2) := by decide +kernel
theorem d4_151 : decode prog_4_method_3_code 151 = .ok (.iload 8, 2) := by decide +kernel
theorem d4_153 : decode prog_4_method_3_code 153 = .ok (.istore 9, 2) := by decide +kernel
theorem d4_155 : decode prog_4_method_3_code 155 = .ok (.iload 7, 2) := by decide +kernel
theorem d4_157 : decode prog_4_method_3_code 157 = .ok (.istore 8, 2) := by decide +kernel
theorem d4_159 : decode prog_4_method_3_code 159 = .ok (.iload 6, 2) := by decide +kernel
theorem d4_161 : decode prog_4_method_3_code 161 = .ok (.istore 7, 2) := by decide +kernel
theorem d4_163 : decode prog_4_method_3_code 163 = .ok (.iload 5, 2) := by decide +kernel
theorem d4_165 : decode prog_4_method_3_code 165 = .ok (.iload 13, 2) := by decide +kernel
theorem d4_167 : decode prog_4_method_3_code 167 = .ok (.iadd, 1) := by decide +kernel
theorem d4_168 : decode prog_4_method_3_code 168 = .ok (.istore 6, 2) := by decide +kernel
theorem d4_170 : decode prog_4_method_3_code 170 = .ok (.iload 4, 2) := by decide +kernel
theorem d4_172 : decode prog_4_method_3_code 172 = .ok (.istore 5, 2) := by decide +kernel
theorem d4_174 : decode prog_4_method_3_code 174 = .ok (.iload_n 3, 1) := by decide +kernel
theorem d4_175 : decode prog_4_method_3_code 175 = .ok (.istore 4, 2) := by decide +kernel
theorem d4_177 : decode prog_4_method_3_code 177 = .ok (.iload_n 2, 1) := by decide +kernel
theorem d4_178 : decode prog_4_method_3_code 178 = .ok (.istore_n 3, 1) := by decide +kernel
theorem d4_179 : decode prog_4_method_3_code 179 = .ok (.iload 13, 2) := by decide +kernel
theorem d4_181 : decode prog_4_method_3_code 181 = .ok (.iload 15, 2) := by decide +kernel
theorem d4_183 : decode prog_4_method_3_code 183 = .ok (.iadd, 1) := by decide +kernel
theorem d4_184 : decode prog_4_method_3_code 184 = .ok (.istore_n 2, 1) := by decide +kernel
theorem d4_185 : decode prog_4_method_3_code 185 = .ok (.iinc 10 1, 3) := by decide +kernel
theorem d4_188 : decode prog_4_method_3_code 188 = .ok (.goto (-145), 3) := by decide +kernel
theorem d4_191 : decode prog_4_method_3_code 191 = .ok (.aload_n 0, 1) := by decide +kernel
theorem d4_192 : decode prog_4_method_3_code 192 = .ok (.iconst 0, 1) := by decide +kernel
theorem d4_193 : decode prog_4_method_3_code 193 = .ok (.dup2, 1) := by decide +kernel
theorem d4_194 : decode prog_4_method_3_code 194 = .ok (.iaload, 1) := by decide +kernel
theorem d4_195 : decode prog_4_method_3_code 195 = .ok (.iload_n 2, 1) := by decide +kernel
theorem d4_196 : decode prog_4_method_3_code 196 = .ok (.iadd, 1) := by decide +kernel
theorem d4_197 : decode prog_4_method_3_code 197 = .ok (.iastore, 1) := by decide +kernel
theorem d4_198 : decode prog_4_method_3_code 198 = .ok (.aload_n 0, 1) := by decide +kernel
theorem d4_199 : decode prog_4_method_3_code 199 = .ok (.iconst 1, 1) := by decide +kernel
theorem d4_200 : decode prog_4_method_3_code 200 = .ok (.dup2, 1) := by decide +kernel
theorem d4_201 : decode prog_4_method_3_code 201 = .ok (.iaload, 1) := by decide +kernel
theorem d4_202 : decode prog_4_method_3_code 202 = .ok (.iload_n 3, 1) := by decide +kernel
theorem d4_203 : decode prog_4_method_3_code 203 = .ok (.iadd, 1) := by decide +kernel
theorem d4_204 : decode prog_4_method_3_code 204 = .ok (.iastore, 1) := by decide +kernel
theorem d4_205 : decode prog_4_method_3_code 205 = .ok (.aload_n 0, 1) := by decide +kernel
theorem d4_206 : decode prog_4_method_3_code 206 = .ok (.iconst 2, 1) := by decide +kernel
theorem d4_207 : decode prog_4_method_3_code 207 = .ok (.dup2, 1) := by decide +kernel
theorem d4_208 : decode prog_4_method_3_code 208 = .ok (.iaload, 1) := by decide +kernel
theorem d4_209 : decode prog_4_method_3_code 209 = .ok (.iload 4, 2) := by decide +kernel
theorem d4_211 : decode prog_4_method_3_code 211 = .ok (.iadd, 1) := by decide +kernel
theorem d4_212 : decode prog_4_method_3_code 212 = .ok (.iastore, 1) := by decide +kernel
theorem d4_213 : decode prog_4_method_3_code 213 = .ok (.aload_n 0, 1) := by decide +kernel
theorem d4_214 : decode prog_4_method_3_code 214 = .ok (.iconst 3, 1) := by decide +kernel
theorem d4_215 : decode prog_4_method_3_code 215 = .ok (.dup2, 1) := by decide +kernel
theorem d4_216 : decode prog_4_method_3_code 216 = .ok (.iaload, 1) := by decide +kernel
theorem d4_217 : decode prog_4_method_3_code 217 = .ok (.iload 5, 2) := by decide +kernel
theorem d4_219 : decode prog_4_method_3_code 219 = .ok (.iadd, 1) := by decide +kernel
theorem d4_220 : decode prog_4_method_3_code 220 = .ok (.iastore, 1) := by decide +kernel
theorem d4_221 : decode prog_4_method_3_code 221 = .ok (.aload_n 0, 1) := by decide +kernel
theorem d4_222 : decode prog_4_method_3_code 222 = .ok (.iconst 4, 1) := by decide +kernel
theorem d4_223 : decode prog_4_method_3_code 223 = .ok (.dup2, 1) := by decide +kernel
theorem d4_224 : decode prog_4_method_3_code 224 = .ok (.iaload, 1) := by decide +kernel
theorem d4_225 : decode prog_4_method_3_code 225 = .ok (.iload 6, 2) := by decide +kernel
theorem d4_227 : decode prog_4_method_3_code 227 = .ok (.iadd, 1) := by decide +kernel
theorem d4_228 : decode prog_4_method_3_code 228 = .ok (.iastore, 1) := by decide +kernel
theorem d4_229 : decode prog_4_method_3_code 229 = .ok (.aload_n 0, 1) := by decide +kernel
theorem d4_230 : decode prog_4_method_3_code 230 = .ok (.iconst 5, 1) := by decide +kernel
theorem d4_231 : decode prog_4_method_3_code 231 = .ok (.dup2, 1) := by decide +kernel
theorem d4_232 : decode prog_4_method_3_code 232 = .ok (.iaload, 1) := by decide +kernel
theorem d4_233 : decode prog_4_method_3_code 233 = .ok (.iload 7, 2) := by decide +kernel
theorem d4_235 : decode prog_4_method_3_code 235 = .ok (.iadd, 1) := by decide +kernel
theorem d4_236 : decode prog_4_method_3_code 236 = .ok (.iastore, 1) := by decide +kernel
theorem d4_237 : decode prog_4_method_3_code 237 = .ok (.aload_n 0, 1) := by decide +kernel
theorem d4_238 : decode prog_4_method_3_code 238 = .ok (.bipush 6, 2) := by decide +kernel
theorem d4_240 : decode prog_4_method_3_code 240 = .ok (.dup2, 1) := by decide +kernel
theorem d4_241 : decode prog_4_method_3_code 241 = .ok (.iaload, 1) := by decide +kernel
theorem d4_242 : decode prog_4_method_3_code 242 = .ok (.iload 8, 2) := by decide +kernel
theorem d4_244 : decode prog_4_method_3_code 244 = .ok (.iadd, 1) := by decide +kernel
theorem d4_245 : decode prog_4_method_3_code 245 = .ok (.iastore, 1) := by decide +kernel
theorem d4_246 : decode prog_4_method_3_code 246 = .ok (.aload_n 0, 1) := by decide +kernel
theorem d4_247 : decode prog_4_method_3_code 247 = .ok (.bipush 7, 2) := by decide +kernel
theorem d4_249 : decode prog_4_method_3_code 249 = .ok (.dup2, 1) := by decide +kernel
theorem d4_250 : decode prog_4_method_3_code 250 = .ok (.iaload, 1) := by decide +kernel
theorem d4_251 : decode prog_4_method_3_code 251 = .ok (.iload 9, 2) := by decide +kernel
theorem d4_253 : decode prog_4_method_3_code 253 = .ok (.iadd, 1) := by decide +kernel
theorem d4_254 : decode prog_4_method_3_code 254 = .ok (.iastore, 1) := by decide +kernel
theorem d4_255 : decode prog_4_method_3_code 255 = .ok (.return_, 1) := by decide +kernel
theorem ef_4 (m : MethodId) (a1 : Addr) (a2 : Addr) : entryFrame m #[(.ref a1), (.ref a2)] 16 = mkF m 0 #[.val (.ref a1), .val (.ref a2), .unset, .unset, .unset, .unset, .unset, .unset, .unset, .unset, .unset, .unset, .unset, .unset, .unset, .unset] [] := by first | (simp [entryFrame, mkF, argsToLocals, Value.category]; done) | rfl
def Q4 (Z : State) (a1 : Addr) (a2 : Addr) (w_ROUND : Addr) (k_ROUND : ClassId) (k1 : ClassId) (k2 : ClassId) (s0 : Int32) (s1 : Int32) (s2 : Int32) (s3 : Int32) (s4 : Int32) (s5 : Int32) (s6 : Int32) (s7 : Int32) (w : Nat → Int32) (h0 : Heap) (n0 : Nat) (v : Option Value) (h : Heap) (L : List Loc) : Prop := ∃ (r : St8), v = none ∧ Fr n0 L ∧ Keep h0 h [a1] ∧ Arv Z h a1 k1 .int (8 : Int32) [(.int (s0 + r.1)), (.int (s1 + r.2.1)), (.int (s2 + r.2.2.1)), (.int (s3 + r.2.2.2.1)), (.int (s4 + r.2.2.2.2.1)), (.int (s5 + r.2.2.2.2.2.1)), (.int (s6 + r.2.2.2.2.2.2.1)), (.int (s7 + r.2.2.2.2.2.2.2))] (.int 0) ∧ r = (own_st w (s0, s1, s2, s3, s4, s5, s6, s7) 64)
set_option maxRecDepth 65536 in
set_option maxHeartbeats 40000000 in
theorem rm4 (l : Launch) (Z : State) (a0 : Array Value) (hw : ∀ d ∈ tables_1, d.before a0 Z = true) (ws : List Jvm.Cond) (a1 : Addr) (a2 : Addr) (w_ROUND : Addr) (k_ROUND : ClassId) (k1 : ClassId) (k2 : ClassId) (s0 : Int32) (s1 : Int32) (s2 : Int32) (s3 : Int32) (s4 : Int32) (s5 : Int32) (s6 : Int32) (s7 : Int32) (w : Nat → Int32) (h0 : Heap) (n0 : Nat) (Z0 : n0 ≤ h0.size) (S_ROUND : Sta Z h0 "tributary/Digests" "ROUND" "[I" (.ref w_ROUND)) (V_ROUND : Arv Z h0 w_ROUND k_ROUND .int (64 : Int32) (own_tab 64 own_K) (.int 0)) (V_1 : Arv Z h0 a1 k1 .int (8 : Int32) [(.int s0), (.int s1), (.int s2), (.int s3), (.int s4), (.int s5), (.int s6), (.int s7)] (.int 0)) (V_2 : Arv Z h0 a2 k2 .int (64 : Int32) (own_tab 64 w) (.int 0)) (g_a1 : n0 ≤ a1) :
    MetFree l (⟨"tributary/Digests", "compress", "([I[I)V"⟩ : MethodName) (head1 (Jvm.Cond.code (⟨"tributary/Digests", "compress", "([I[I)V"⟩ : MethodName) prog_4_method_3_code 16 none :: ws) ({ frames := 1, cells := 0, slots := 0, locals := 14 } : Room)) (fun a U => a = #[(.ref a1), (.ref a2)] ∧ Z.Warmed39 U.vm ∧ U.heap = h0) (fun _ _ _ _ _ => True) (fun _ U o U' => ∃ v L, o = .returned v ∧ Q4 Z a1 a2 w_ROUND k_ROUND k1 k2 s0 s1 s2 s3 s4 s5 s6 s7 w h0 n0 v U'.heap L ∧ FrameEnd U o U' L ({ frames := 1, cells := 0, slots := 0, locals := 14 } : Room).cells ({ frames := 1, cells := 0, slots := 0, locals := 14 } : Room).slots) := by
  refine MetFree.of_bodySF (plainFor_of_name pn_188) hisR ?_
  intro p e s m args below meth c s₁ Bd hml0 hP hK
  obtain ⟨rfl, hZ, hh⟩ := hP
  have hx := Bd.exec
  have hby := Bd.bytes
  have hml : c.maxLocals = 16 := hml0
  have hown : s.vm.findClass "tributary/Digests" = some m.cls := findClass_of_methodNamed Bd.named
  have hnm := (name_of_methodNamed Bd.named Bd.method).1
  have X0 : Stand p l e ({ frames := 1, cells := 0, slots := 0, locals := 14 } : Room) s m #[(.ref a1), (.ref a2)] below meth c s₁ [] 0 0 := Stand.of_body Bd
  have e0 : s₁.heap = h0 := by rw [← hh, Bd.state]; rfl
  have N0 := Fr.nil n0
  refine own_go (B := s₁.setTop (mkF m 0 #[.val (.ref a1), .val (.ref a2), .unset, .unset, .unset, .unset, .unset, .unset, .unset, .unset, .unset, .unset, .unset, .unset, .unset, .unset] [])) (fun t k => castTop (ef_4 m a1 a2) k) ?_
  refine own_go (B := s₁.setTop (mkF m 2 #[.val (.ref a1), .val (.ref a2), .unset, .unset, .unset, .unset, .unset, .unset, .unset, .unset, .unset, .unset, .unset, .unset, .unset, .unset] [(.int 0), (.ref a1)])) (fun tg kt => ?_) ?_
  · refine XS.aloadN X0.here hx rfl (hb hby d4_0) rfl rfl ?_
    refine XS.iconst X0.here hx rfl (hb hby d4_1) ?_
    exact kt
  obtain ⟨cl78, Ar78, cq78, cS78, cN78, cH78, cG78⟩ := id V_1
  have hin78 := inb_of (j := (0 : Int32)) cS78 ⟨by decide, by decide⟩
  have hat78 : cl78.slots[((0 : Int32)).toNatClampNeg]? = some (.int s0) := Has.at cH78 hin78 rfl
  refine own_go (B := s₁.setTop (mkF m 6 #[.val (.ref a1), .val (.ref a2), .val (.int s0), .unset, .unset, .unset, .unset, .unset, .unset, .unset, .unset, .unset, .unset, .unset, .unset, .unset] [(.int 1), (.ref a1)])) (fun tg kt => ?_) ?_
  · refine X0.iaload hx (j := (0 : Int32)) (v := (.int s0)) (by rw [e0]; exact Ar78.1) (State.isArrayOf_alike hZ.alike Ar78.2.1) Ar78.2.2 hin78 hat78 (g := (mkF m 2 #[.val (.ref a1), .val (.ref a2), .unset, .unset, .unset, .unset, .unset, .unset, .unset, .unset, .unset, .unset, .unset, .unset, .unset, .unset] [(.int 0), (.ref a1)])) rfl rfl (hb hby d4_2) _ ?_
    refine XS.istoreN X0.here hx rfl (hb hby d4_3) rfl (l' := #[.val (.ref a1), .val (.ref a2), .val (.int s0), .unset, .unset, .unset, .unset, .unset, .unset, .unset, .unset, .unset, .unset, .unset, .unset, .unset]) rfl ?_
    refine XS.aloadN X0.here hx rfl (hb hby d4_4) rfl rfl ?_
    refine XS.iconst X0.here hx rfl (hb hby d4_5) ?_
    exact kt
  obtain ⟨cl79, Ar79, cq79, cS79, cN79, cH79, cG79⟩ := id V_1
  have hin79 := inb_of (j := (1 : Int32)) cS79 ⟨by decide, by decide⟩
  have hat79 : cl79.slots[((1 : Int32)).toNatClampNeg]? = some (.int s1) := Has.at cH79 hin79 rfl
  refine own_go (B := s₁.setTop (mkF m 10 #[.val (.ref a1), .val (.ref a2), .val (.int s0), .val (.int s1), .unset, .unset, .unset, .unset, .unset, .unset, .unset, .unset, .unset, .unset, .unset, .unset] [(.int 2), (.ref a1)])) (fun tg kt => ?_) ?_
  · refine X0.iaload hx (j := (1 : Int32)) (v := (.int s1)) (by rw [e0]; exact Ar79.1) (State.isArrayOf_alike hZ.alike Ar79.2.1) Ar79.2.2 hin79 hat79 (g := (mkF m 6 #[.val (.ref a1), .val (.ref a2), .val (.int s0), .unset, .unset, .unset, .unset, .unset, .unset, .unset, .unset, .unset, .unset, .unset, .unset, .unset] [(.int 1), (.ref a1)])) rfl rfl (hb hby d4_6) _ ?_
    refine XS.istoreN X0.here hx rfl (hb hby d4_7) rfl (l' := #[.val (.ref a1), .val (.ref a2), .val (.int s0), .val (.int s1), .unset, .unset, .unset, .unset, .unset, .unset, .unset, .unset, .unset, .unset, .unset, .unset]) rfl ?_
    refine XS.aloadN X0.here hx rfl (hb hby d4_8) rfl rfl ?_
    refine XS.iconst X0.here hx rfl (hb hby d4_9) ?_
    exact kt
  obtain ⟨cl80, Ar80, cq80, cS80, cN80, cH80, cG80⟩ := id V_1
  have hin80 := inb_of (j := (2 : Int32)) cS80 ⟨by decide, by decide⟩
  have hat80 : cl80.slots[((2 : Int32)).toNatClampNeg]? = some (.int s2) := Has.at cH80 hin80 rfl
  refine own_go (B := s₁.setTop (mkF m 15 #[.val (.ref a1), .val (.ref a2), .val (.int s0), .val (.int s1), .val (.int s2), .unset, .unset, .unset, .unset, .unset, .unset, .unset, .unset, .unset, .unset, .unset] [(.int 3), (.ref a1)])) (fun tg kt => ?_) ?_
  · refine X0.iaload hx (j := (2 : Int32)) (v := (.int s2)) (by rw [e0]; exact Ar80.1) (State.isArrayOf_alike hZ.alike Ar80.2.1) Ar80.2.2 hin80 hat80 (g := (mkF m 10 #[.val (.ref a1), .val (.ref a2), .val (.int s0), .val (.int s1), .unset, .unset, .unset, .unset, .unset, .unset, .unset, .unset, .unset, .unset, .unset, .unset] [(.int 2), (.ref a1)])) rfl rfl (hb hby d4_10) _ ?_
    refine XS.istore X0.here hx rfl (hb hby d4_11) rfl (l' := #[.val (.ref a1), .val (.ref a2), .val (.int s0), .val (.int s1), .val (.int s2), .unset, .unset, .unset, .unset, .unset, .unset, .unset, .unset, .unset, .unset, .unset]) rfl ?_
    refine XS.aloadN X0.here hx rfl (hb hby d4_13) rfl rfl ?_
    refine XS.iconst X0.here hx rfl (hb hby d4_14) ?_
    exact kt
  obtain ⟨cl81, Ar81, cq81, cS81, cN81, cH81, cG81⟩ := id V_1
  have hin81 := inb_of (j := (3 : Int32)) cS81 ⟨by decide, by decide⟩
  have hat81 : cl81.slots[((3 : Int32)).toNatClampNeg]? = some (.int s3) := Has.at cH81 hin81 rfl
  refine own_go (B := s₁.setTop (mkF m 20 #[.val (.ref a1), .val (.ref a2), .val (.int s0), .val (.int s1), .val (.int s2), .val (.int s3), .unset, .unset, .unset, .unset, .unset, .unset, .unset, .unset, .unset, .unset] [(.int 4), (.ref a1)])) (fun tg kt => ?_) ?_
  · refine X0.iaload hx (j := (3 : Int32)) (v := (.int s3)) (by rw [e0]; exact Ar81.1) (State.isArrayOf_alike hZ.alike Ar81.2.1) Ar81.2.2 hin81 hat81 (g := (mkF m 15 #[.val (.ref a1), .val (.ref a2), .val (.int s0), .val (.int s1), .val (.int s2), .unset, .unset, .unset, .unset, .unset, .unset, .unset, .unset, .unset, .unset, .unset] [(.int 3), (.ref a1)])) rfl rfl (hb hby d4_15) _ ?_
    refine XS.istore X0.here hx rfl (hb hby d4_16) rfl (l' := #[.val (.ref a1), .val (.ref a2), .val (.int s0), .val (.int s1), .val (.int s2), .val (.int s3), .unset, .unset, .unset, .unset, .unset, .unset, .unset, .unset, .unset, .unset]) rfl ?_
    refine XS.aloadN X0.here hx rfl (hb hby d4_18) rfl rfl ?_
    refine XS.iconst X0.here hx rfl (hb hby d4_19) ?_
    exact kt
  obtain ⟨cl82, Ar82, cq82, cS82, cN82, cH82, cG82⟩ := id V_1
  have hin82 := inb_of (j := (4 : Int32)) cS82 ⟨by decide, by decide⟩
  have hat82 : cl82.slots[((4 : Int32)).toNatClampNeg]? = some (.int s4) := Has.at cH82 hin82 rfl
  refine own_go (B := s₁.setTop (mkF m 25 #[.val (.ref a1), .val (.ref a2), .val (.int s0), .val (.int s1), .val (.int s2), .val (.int s3), .val (.int s4), .unset, .unset, .unset, .unset, .unset, .unset, .unset, .unset, .unset] [(.int 5), (.ref a1)])) (fun tg kt => ?_) ?_
  · refine X0.iaload hx (j := (4 : Int32)) (v := (.int s4)) (by rw [e0]; exact Ar82.1) (State.isArrayOf_alike hZ.alike Ar82.2.1) Ar82.2.2 hin82 hat82 (g := (mkF m 20 #[.val (.ref a1), .val (.ref a2), .val (.int s0), .val (.int s1), .val (.int s2), .val (.int s3), .unset, .unset, .unset, .unset, .unset, .unset, .unset, .unset, .unset, .unset] [(.int 4), (.ref a1)])) rfl rfl (hb hby d4_20) _ ?_
    refine XS.istore X0.here hx rfl (hb hby d4_21) rfl (l' := #[.val (.ref a1), .val (.ref a2), .val (.int s0), .val (.int s1), .val (.int s2), .val (.int s3), .val (.int s4), .unset, .unset, .unset, .unset, .unset, .unset, .unset, .unset, .unset]) rfl ?_
    refine XS.aloadN X0.here hx rfl (hb hby d4_23) rfl rfl ?_
    refine XS.iconst X0.here hx rfl (hb hby d4_24) ?_
    exact kt
  obtain ⟨cl83, Ar83, cq83, cS83, cN83, cH83, cG83⟩ := id V_1
  have hin83 := inb_of (j := (5 : Int32)) cS83 ⟨by decide, by decide⟩
  have hat83 : cl83.slots[((5 : Int32)).toNatClampNeg]? = some (.int s5) := Has.at cH83 hin83 rfl
  refine own_go (B := s₁.setTop (mkF m 31 #[.val (.ref a1), .val (.ref a2), .val (.int s0), .val (.int s1), .val (.int s2), .val (.int s3), .val (.int s4), .val (.int s5), .unset, .unset, .unset, .unset, .unset, .unset, .unset, .unset] [(.int 6), (.ref a1)])) (fun tg kt => ?_) ?_
  · refine X0.iaload hx (j := (5 : Int32)) (v := (.int s5)) (by rw [e0]; exact Ar83.1) (State.isArrayOf_alike hZ.alike Ar83.2.1) Ar83.2.2 hin83 hat83 (g := (mkF m 25 #[.val (.ref a1), .val (.ref a2), .val (.int s0), .val (.int s1), .val (.int s2), .val (.int s3), .val (.int s4), .unset, .unset, .unset, .unset, .unset, .unset, .unset, .unset, .unset] [(.int 5), (.ref a1)])) rfl rfl (hb hby d4_25) _ ?_
    refine XS.istore X0.here hx rfl (hb hby d4_26) rfl (l' := #[.val (.ref a1), .val (.ref a2), .val (.int s0), .val (.int s1), .val (.int s2), .val (.int s3), .val (.int s4), .val (.int s5), .unset, .unset, .unset, .unset, .unset, .unset, .unset, .unset]) rfl ?_
    refine XS.aloadN X0.here hx rfl (hb hby d4_28) rfl rfl ?_
    refine XS.bipush X0.here hx rfl (hb hby d4_29) ?_
    exact kt
  obtain ⟨cl84, Ar84, cq84, cS84, cN84, cH84, cG84⟩ := id V_1
  have hin84 := inb_of (j := (6 : Int32)) cS84 ⟨by decide, by decide⟩
  have hat84 : cl84.slots[((6 : Int32)).toNatClampNeg]? = some (.int s6) := Has.at cH84 hin84 rfl
  refine own_go (B := s₁.setTop (mkF m 37 #[.val (.ref a1), .val (.ref a2), .val (.int s0), .val (.int s1), .val (.int s2), .val (.int s3), .val (.int s4), .val (.int s5), .val (.int s6), .unset, .unset, .unset, .unset, .unset, .unset, .unset] [(.int 7), (.ref a1)])) (fun tg kt => ?_) ?_
  · refine X0.iaload hx (j := (6 : Int32)) (v := (.int s6)) (by rw [e0]; exact Ar84.1) (State.isArrayOf_alike hZ.alike Ar84.2.1) Ar84.2.2 hin84 hat84 (g := (mkF m 31 #[.val (.ref a1), .val (.ref a2), .val (.int s0), .val (.int s1), .val (.int s2), .val (.int s3), .val (.int s4), .val (.int s5), .unset, .unset, .unset, .unset, .unset, .unset, .unset, .unset] [(.int 6), (.ref a1)])) rfl rfl (hb hby d4_31) _ ?_
    refine XS.istore X0.here hx rfl (hb hby d4_32) rfl (l' := #[.val (.ref a1), .val (.ref a2), .val (.int s0), .val (.int s1), .val (.int s2), .val (.int s3), .val (.int s4), .val (.int s5), .val (.int s6), .unset, .unset, .unset, .unset, .unset, .unset, .unset]) rfl ?_
    refine XS.aloadN X0.here hx rfl (hb hby d4_34) rfl rfl ?_
    refine XS.bipush X0.here hx rfl (hb hby d4_35) ?_
    exact kt
  obtain ⟨cl85, Ar85, cq85, cS85, cN85, cH85, cG85⟩ := id V_1
  have hin85 := inb_of (j := (7 : Int32)) cS85 ⟨by decide, by decide⟩
  have hat85 : cl85.slots[((7 : Int32)).toNatClampNeg]? = some (.int s7) := Has.at cH85 hin85 rfl
  refine own_go (B := s₁.setTop (mkF m 43 #[.val (.ref a1), .val (.ref a2), .val (.int s0), .val (.int s1), .val (.int s2), .val (.int s3), .val (.int s4), .val (.int s5), .val (.int s6), .val (.int s7), .val (.int 0), .unset, .unset, .unset, .unset, .unset] [])) (fun tg kt => ?_) ?_
  · refine X0.iaload hx (j := (7 : Int32)) (v := (.int s7)) (by rw [e0]; exact Ar85.1) (State.isArrayOf_alike hZ.alike Ar85.2.1) Ar85.2.2 hin85 hat85 (g := (mkF m 37 #[.val (.ref a1), .val (.ref a2), .val (.int s0), .val (.int s1), .val (.int s2), .val (.int s3), .val (.int s4), .val (.int s5), .val (.int s6), .unset, .unset, .unset, .unset, .unset, .unset, .unset] [(.int 7), (.ref a1)])) rfl rfl (hb hby d4_37) _ ?_
    refine XS.istore X0.here hx rfl (hb hby d4_38) rfl (l' := #[.val (.ref a1), .val (.ref a2), .val (.int s0), .val (.int s1), .val (.int s2), .val (.int s3), .val (.int s4), .val (.int s5), .val (.int s6), .val (.int s7), .unset, .unset, .unset, .unset, .unset, .unset]) rfl ?_
    refine XS.iconst X0.here hx rfl (hb hby d4_40) ?_
    refine XS.istore X0.here hx rfl (hb hby d4_41) rfl (l' := #[.val (.ref a1), .val (.ref a2), .val (.int s0), .val (.int s1), .val (.int s2), .val (.int s3), .val (.int s4), .val (.int s5), .val (.int s6), .val (.int s7), .val (.int 0), .unset, .unset, .unset, .unset, .unset]) rfl ?_
    exact kt
  have loop86 : ∀ (k t : Nat) (T_86 : State) (lo_86 : List Loc) (z86_11 : Slot) (z86_12 : Slot) (z86_13 : Slot) (z86_14 : Slot) (z86_15 : Slot), k + t = 64 → Stand p l e ({ frames := 1, cells := 0, slots := 0, locals := 14 } : Room) s m #[(.ref a1), (.ref a2)] below meth c T_86 lo_86 0 0 → T_86.heap = h0 → Fr n0 lo_86 → One z86_11 → One z86_12 → One z86_13 → One z86_14 → One z86_15 → ∃ s₂ o, Steps p.tables e below (T_86.setTop (mkF m 43 #[.val (.ref a1), .val (.ref a2), .val (.int (own_st w (s0, s1, s2, s3, s4, s5, s6, s7) t).1), .val (.int (own_st w (s0, s1, s2, s3, s4, s5, s6, s7) t).2.1), .val (.int (own_st w (s0, s1, s2, s3, s4, s5, s6, s7) t).2.2.1), .val (.int (own_st w (s0, s1, s2, s3, s4, s5, s6, s7) t).2.2.2.1), .val (.int (own_st w (s0, s1, s2, s3, s4, s5, s6, s7) t).2.2.2.2.1), .val (.int (own_st w (s0, s1, s2, s3, s4, s5, s6, s7) t).2.2.2.2.2.1), .val (.int (own_st w (s0, s1, s2, s3, s4, s5, s6, s7) t).2.2.2.2.2.2.1), .val (.int (own_st w (s0, s1, s2, s3, s4, s5, s6, s7) t).2.2.2.2.2.2.2), .val (.int (Int32.ofNat t)), z86_11, z86_12, z86_13, z86_14, z86_15] [])) s₂ ∧ s₂.status = .running ∧ Ended s₂ below o ∧ ∃ v L, o = .returned v ∧ Q4 Z a1 a2 w_ROUND k_ROUND k1 k2 s0 s1 s2 s3 s4 s5 s6 s7 w h0 n0 v s₂.heap L ∧ FrameEnd s o s₂ L ({ frames := 1, cells := 0, slots := 0, locals := 14 } : Room).cells ({ frames := 1, cells := 0, slots := 0, locals := 14 } : Room).slots := by
    intro k
    induction k with
    | zero =>
      intro t T_86 lo_86 z86_11 z86_12 z86_13 z86_14 z86_15 hkt86 X_86 e_86 N_86 hz86_11 hz86_12 hz86_13 hz86_14 hz86_15
      obtain rfl : t = 64 := by omega
      refine own_go (B := T_86.setTop (mkF m 194 #[.val (.ref a1), .val (.ref a2), .val (.int (own_st w (s0, s1, s2, s3, s4, s5, s6, s7) 64).1), .val (.int (own_st w (s0, s1, s2, s3, s4, s5, s6, s7) 64).2.1), .val (.int (own_st w (s0, s1, s2, s3, s4, s5, s6, s7) 64).2.2.1), .val (.int (own_st w (s0, s1, s2, s3, s4, s5, s6, s7) 64).2.2.2.1), .val (.int (own_st w (s0, s1, s2, s3, s4, s5, s6, s7) 64).2.2.2.2.1), .val (.int (own_st w (s0, s1, s2, s3, s4, s5, s6, s7) 64).2.2.2.2.2.1), .val (.int (own_st w (s0, s1, s2, s3, s4, s5, s6, s7) 64).2.2.2.2.2.2.1), .val (.int (own_st w (s0, s1, s2, s3, s4, s5, s6, s7) 64).2.2.2.2.2.2.2), .val (.int (Int32.ofNat 64)), z86_11, z86_12, z86_13, z86_14, z86_15] [(.int 0), (.ref a1), (.int 0), (.ref a1)])) (fun tg kt => ?_) ?_
      · refine XS.iload X_86.here hx rfl (hb hby d4_43) rfl ?_
        refine XS.bipush X_86.here hx rfl (hb hby d4_45) ?_
        refine XS.icmpYes X_86.here hx rfl (pc0 := 47) (pc' := 191) rfl (hb hby d4_47) rfl (flt (show ¬ ((Int32.ofNat 64) < (64 : Int32)) from (by decide))).2.1 (by decide) (by decide) ?_
        refine XS.aloadN X_86.here hx rfl (hb hby d4_191) rfl rfl ?_
        refine XS.iconst X_86.here hx rfl (hb hby d4_192) ?_
        refine XT.dup2 X_86.here hx rfl (hb hby d4_193) rfl rfl rfl ?_
        exact kt
      obtain ⟨cl87, Ar87, cq87, cS87, cN87, cH87, cG87⟩ := id V_1
      have hin87 := inb_of (j := (0 : Int32)) cS87 ⟨by decide, by decide⟩
      have hat87 : cl87.slots[((0 : Int32)).toNatClampNeg]? = some (.int s0) := Has.at cH87 hin87 rfl
      refine own_go (B := T_86.setTop (mkF m 197 #[.val (.ref a1), .val (.ref a2), .val (.int (own_st w (s0, s1, s2, s3, s4, s5, s6, s7) 64).1), .val (.int (own_st w (s0, s1, s2, s3, s4, s5, s6, s7) 64).2.1), .val (.int (own_st w (s0, s1, s2, s3, s4, s5, s6, s7) 64).2.2.1), .val (.int (own_st w (s0, s1, s2, s3, s4, s5, s6, s7) 64).2.2.2.1), .val (.int (own_st w (s0, s1, s2, s3, s4, s5, s6, s7) 64).2.2.2.2.1), .val (.int (own_st w (s0, s1, s2, s3, s4, s5, s6, s7) 64).2.2.2.2.2.1), .val (.int (own_st w (s0, s1, s2, s3, s4, s5, s6, s7) 64).2.2.2.2.2.2.1), .val (.int (own_st w (s0, s1, s2, s3, s4, s5, s6, s7) 64).2.2.2.2.2.2.2), .val (.int (Int32.ofNat 64)), z86_11, z86_12, z86_13, z86_14, z86_15] [(.int (s0 + (own_st w (s0, s1, s2, s3, s4, s5, s6, s7) 64).1)), (.int 0), (.ref a1)])) (fun tg kt => ?_) ?_
      · refine X_86.iaload hx (j := (0 : Int32)) (v := (.int s0)) (by rw [e_86]; exact Ar87.1) (State.isArrayOf_alike hZ.alike Ar87.2.1) Ar87.2.2 hin87 hat87 (g := (mkF m 194 #[.val (.ref a1), .val (.ref a2), .val (.int (own_st w (s0, s1, s2, s3, s4, s5, s6, s7) 64).1), .val (.int (own_st w (s0, s1, s2, s3, s4, s5, s6, s7) 64).2.1), .val (.int (own_st w (s0, s1, s2, s3, s4, s5, s6, s7) 64).2.2.1), .val (.int (own_st w (s0, s1, s2, s3, s4, s5, s6, s7) 64).2.2.2.1), .val (.int (own_st w (s0, s1, s2, s3, s4, s5, s6, s7) 64).2.2.2.2.1), .val (.int (own_st w (s0, s1, s2, s3, s4, s5, s6, s7) 64).2.2.2.2.2.1), .val (.int (own_st w (s0, s1, s2, s3, s4, s5, s6, s7) 64).2.2.2.2.2.2.1), .val (.int (own_st w (s0, s1, s2, s3, s4, s5, s6, s7) 64).2.2.2.2.2.2.2), .val (.int (Int32.ofNat 64)), z86_11, z86_12, z86_13, z86_14, z86_15] [(.int 0), (.ref a1), (.int 0), (.ref a1)])) rfl rfl (hb hby d4_194) _ ?_
        refine XS.iloadN X_86.here hx rfl (hb hby d4_195) rfl ?_
        refine XS.iadd X_86.here hx rfl (hb hby d4_196) rfl ?_
        exact kt
      obtain ⟨cl88, Ar88, cq88, cS88, cN88, cH88, cG88⟩ := id V_1
      have hin88 := inb_of (j := (0 : Int32)) cS88 ⟨by decide, by decide⟩
      obtain ⟨T88, h88, X88, e88, W88, st88⟩ := stI X_86 hx hZ e_86 Ar88 (j := (0 : Int32)) hin88 (g := (mkF m 197 #[.val (.ref a1), .val (.ref a2), .val (.int (own_st w (s0, s1, s2, s3, s4, s5, s6, s7) 64).1), .val (.int (own_st w (s0, s1, s2, s3, s4, s5, s6, s7) 64).2.1), .val (.int (own_st w (s0, s1, s2, s3, s4, s5, s6, s7) 64).2.2.1), .val (.int (own_st w (s0, s1, s2, s3, s4, s5, s6, s7) 64).2.2.2.1), .val (.int (own_st w (s0, s1, s2, s3, s4, s5, s6, s7) 64).2.2.2.2.1), .val (.int (own_st w (s0, s1, s2, s3, s4, s5, s6, s7) 64).2.2.2.2.2.1), .val (.int (own_st w (s0, s1, s2, s3, s4, s5, s6, s7) 64).2.2.2.2.2.2.1), .val (.int (own_st w (s0, s1, s2, s3, s4, s5, s6, s7) 64).2.2.2.2.2.2.2), .val (.int (Int32.ofNat 64)), z86_11, z86_12, z86_13, z86_14, z86_15] [(.int (s0 + (own_st w (s0, s1, s2, s3, s4, s5, s6, s7) 64).1)), (.int 0), (.ref a1)])) rfl rfl (hb hby d4_197)
      refine own_go st88 ?_
      have V88 : Arv Z h88 a1 k1 .int (8 : Int32) [(.int (s0 + (own_st w (s0, s1, s2, s3, s4, s5, s6, s7) 64).1)), (.int s1), (.int s2), (.int s3), (.int s4), (.int s5), (.int s6), (.int s7)] (.int 0) := Arv.set Ar88 cq88 cS88 cN88 cH88 cG88 rfl W88 0 rfl (Nat.le_of_ble_eq_true rfl)
      have K88 : Keep h0 h88 [a1] := Keep.wr (Keep.refl h0 [a1]) W88 (Or.inl (List.mem_of_getElem? (i := 0) rfl))
      have N88 := Fr.snoc X88 N_86 g_a1
      refine own_go (B := T88.setTop (mkF m 201 #[.val (.ref a1), .val (.ref a2), .val (.int (own_st w (s0, s1, s2, s3, s4, s5, s6, s7) 64).1), .val (.int (own_st w (s0, s1, s2, s3, s4, s5, s6, s7) 64).2.1), .val (.int (own_st w (s0, s1, s2, s3, s4, s5, s6, s7) 64).2.2.1), .val (.int (own_st w (s0, s1, s2, s3, s4, s5, s6, s7) 64).2.2.2.1), .val (.int (own_st w (s0, s1, s2, s3, s4, s5, s6, s7) 64).2.2.2.2.1), .val (.int (own_st w (s0, s1, s2, s3, s4, s5, s6, s7) 64).2.2.2.2.2.1), .val (.int (own_st w (s0, s1, s2, s3, s4, s5, s6, s7) 64).2.2.2.2.2.2.1), .val (.int (own_st w (s0, s1, s2, s3, s4, s5, s6, s7) 64).2.2.2.2.2.2.2), .val (.int (Int32.ofNat 64)), z86_11, z86_12, z86_13, z86_14, z86_15] [(.int 1), (.ref a1), (.int 1), (.ref a1)])) (fun tg kt => ?_) ?_
      · refine XS.aloadN X88.here hx rfl (hb hby d4_198) rfl rfl ?_
        refine XS.iconst X88.here hx rfl (hb hby d4_199) ?_
        refine XT.dup2 X88.here hx rfl (hb hby d4_200) rfl rfl rfl ?_
        exact kt
      obtain ⟨cl89, Ar89, cq89, cS89, cN89, cH89, cG89⟩ := id V88
      have hin89 := inb_of (j := (1 : Int32)) cS89 ⟨by decide, by decide⟩
      have hat89 : cl89.slots[((1 : Int32)).toNatClampNeg]? = some (.int s1) := Has.at cH89 hin89 rfl
      refine own_go (B := T88.setTop (mkF m 204 #[.val (.ref a1), .val (.ref a2), .val (.int (own_st w (s0, s1, s2, s3, s4, s5, s6, s7) 64).1), .val (.int (own_st w (s0, s1, s2, s3, s4, s5, s6, s7) 64).2.1), .val (.int (own_st w (s0, s1, s2, s3, s4, s5, s6, s7) 64).2.2.1), .val (.int (own_st w (s0, s1, s2, s3, s4, s5, s6, s7) 64).2.2.2.1), .val (.int (own_st w (s0, s1, s2, s3, s4, s5, s6, s7) 64).2.2.2.2.1), .val (.int (own_st w (s0, s1, s2, s3, s4, s5, s6, s7) 64).2.2.2.2.2.1), .val (.int (own_st w (s0, s1, s2, s3, s4, s5, s6, s7) 64).2.2.2.2.2.2.1), .val (.int (own_st w (s0, s1, s2, s3, s4, s5, s6, s7) 64).2.2.2.2.2.2.2), .val (.int (Int32.ofNat 64)), z86_11, z86_12, z86_13, z86_14, z86_15] [(.int (s1 + (own_st w (s0, s1, s2, s3, s4, s5, s6, s7) 64).2.1)), (.int 1), (.ref a1)])) (fun tg kt => ?_) ?_
      · refine X88.iaload hx (j := (1 : Int32)) (v := (.int s1)) (by rw [e88]; exact Ar89.1) (State.isArrayOf_alike hZ.alike Ar89.2.1) Ar89.2.2 hin89 hat89 (g := (mkF m 201 #[.val (.ref a1), .val (.ref a2), .val (.int (own_st w (s0, s1, s2, s3, s4, s5, s6, s7) 64).1), .val (.int (own_st w (s0, s1, s2, s3, s4, s5, s6, s7) 64).2.1), .val (.int (own_st w (s0, s1, s2, s3, s4, s5, s6, s7) 64).2.2.1), .val (.int (own_st w (s0, s1, s2, s3, s4, s5, s6, s7) 64).2.2.2.1), .val (.int (own_st w (s0, s1, s2, s3, s4, s5, s6, s7) 64).2.2.2.2.1), .val (.int (own_st w (s0, s1, s2, s3, s4, s5, s6, s7) 64).2.2.2.2.2.1), .val (.int (own_st w (s0, s1, s2, s3, s4, s5, s6, s7) 64).2.2.2.2.2.2.1), .val (.int (own_st w (s0, s1, s2, s3, s4, s5, s6, s7) 64).2.2.2.2.2.2.2), .val (.int (Int32.ofNat 64)), z86_11, z86_12, z86_13, z86_14, z86_15] [(.int 1), (.ref a1), (.int 1), (.ref a1)])) rfl rfl (hb hby d4_201) _ ?_
        refine XS.iloadN X88.here hx rfl (hb hby d4_202) rfl ?_
        refine XS.iadd X88.here hx rfl (hb hby d4_203) rfl ?_
        exact kt
      obtain ⟨cl90, Ar90, cq90, cS90, cN90, cH90, cG90⟩ := id V88
      have hin90 := inb_of (j := (1 : Int32)) cS90 ⟨by decide, by decide⟩
      obtain ⟨T90, h90, X90, e90, W90, st90⟩ := stI X88 hx hZ e88 Ar90 (j := (1 : Int32)) hin90 (g := (mkF m 204 #[.val (.ref a1), .val (.ref a2), .val (.int (own_st w (s0, s1, s2, s3, s4, s5, s6, s7) 64).1), .val (.int (own_st w (s0, s1, s2, s3, s4, s5, s6, s7) 64).2.1), .val (.int (own_st w (s0, s1, s2, s3, s4, s5, s6, s7) 64).2.2.1), .val (.int (own_st w (s0, s1, s2, s3, s4, s5, s6, s7) 64).2.2.2.1), .val (.int (own_st w (s0, s1, s2, s3, s4, s5, s6, s7) 64).2.2.2.2.1), .val (.int (own_st w (s0, s1, s2, s3, s4, s5, s6, s7) 64).2.2.2.2.2.1), .val (.int (own_st w (s0, s1, s2, s3, s4, s5, s6, s7) 64).2.2.2.2.2.2.1), .val (.int (own_st w (s0, s1, s2, s3, s4, s5, s6, s7) 64).2.2.2.2.2.2.2), .val (.int (Int32.ofNat 64)), z86_11, z86_12, z86_13, z86_14, z86_15] [(.int (s1 + (own_st w (s0, s1, s2, s3, s4, s5, s6, s7) 64).2.1)), (.int 1), (.ref a1)])) rfl rfl (hb hby d4_204)
      refine own_go st90 ?_
      have V90 : Arv Z h90 a1 k1 .int (8 : Int32) [(.int (s0 + (own_st w (s0, s1, s2, s3, s4, s5, s6, s7) 64).1)), (.int (s1 + (own_st w (s0, s1, s2, s3, s4, s5, s6, s7) 64).2.1)), (.int s2), (.int s3), (.int s4), (.int s5), (.int s6), (.int s7)] (.int 0) := Arv.set Ar90 cq90 cS90 cN90 cH90 cG90 rfl W90 1 rfl (Nat.le_of_ble_eq_true rfl)
      have K90 : Keep h0 h90 [a1] := Keep.wr K88 W90 (Or.inl (List.mem_of_getElem? (i := 0) rfl))
      have N90 := Fr.snoc X90 N88 g_a1
      refine own_go (B := T90.setTop (mkF m 208 #[.val (.ref a1), .val (.ref a2), .val (.int (own_st w (s0, s1, s2, s3, s4, s5, s6, s7) 64).1), .val (.int (own_st w (s0, s1, s2, s3, s4, s5, s6, s7) 64).2.1), .val (.int (own_st w (s0, s1, s2, s3, s4, s5, s6, s7) 64).2.2.1), .val (.int (own_st w (s0, s1, s2, s3, s4, s5, s6, s7) 64).2.2.2.1), .val (.int (own_st w (s0, s1, s2, s3, s4, s5, s6, s7) 64).2.2.2.2.1), .val (.int (own_st w (s0, s1, s2, s3, s4, s5, s6, s7) 64).2.2.2.2.2.1), .val (.int (own_st w (s0, s1, s2, s3, s4, s5, s6, s7) 64).2.2.2.2.2.2.1), .val (.int (own_st w (s0, s1, s2, s3, s4, s5, s6, s7) 64).2.2.2.2.2.2.2), .val (.int (Int32.ofNat 64)), z86_11, z86_12, z86_13, z86_14, z86_15] [(.int 2), (.ref a1), (.int 2), (.ref a1)])) (fun tg kt => ?_) ?_
      · refine XS.aloadN X90.here hx rfl (hb hby d4_205) rfl rfl ?_
        refine XS.iconst X90.here hx rfl (hb hby d4_206) ?_
        refine XT.dup2 X90.here hx rfl (hb hby d4_207) rfl rfl rfl ?_
        exact kt
      obtain ⟨cl91, Ar91, cq91, cS91, cN91, cH91, cG91⟩ := id V90
      have hin91 := inb_of (j := (2 : Int32)) cS91 ⟨by decide, by decide⟩
      have hat91 : cl91.slots[((2 : Int32)).toNatClampNeg]? = some (.int s2) := Has.at cH91 hin91 rfl
      refine own_go (B := T90.setTop (mkF m 212 #[.val (.ref a1), .val (.ref a2), .val (.int (own_st w (s0, s1, s2, s3, s4, s5, s6, s7) 64).1), .val (.int (own_st w (s0, s1, s2, s3, s4, s5, s6, s7) 64).2.1), .val (.int (own_st w (s0, s1, s2, s3, s4, s5, s6, s7) 64).2.2.1), .val (.int (own_st w (s0, s1, s2, s3, s4, s5, s6, s7) 64).2.2.2.1), .val (.int (own_st w (s0, s1, s2, s3, s4, s5, s6, s7) 64).2.2.2.2.1), .val (.int (own_st w (s0, s1, s2, s3, s4, s5, s6, s7) 64).2.2.2.2.2.1), .val (.int (own_st w (s0, s1, s2, s3, s4, s5, s6, s7) 64).2.2.2.2.2.2.1), .val (.int (own_st w (s0, s1, s2, s3, s4, s5, s6, s7) 64).2.2.2.2.2.2.2), .val (.int (Int32.ofNat 64)), z86_11, z86_12, z86_13, z86_14, z86_15] [(.int (s2 + (own_st w (s0, s1, s2, s3, s4, s5, s6, s7) 64).2.2.1)), (.int 2), (.ref a1)])) (fun tg kt => ?_) ?_
      · refine X90.iaload hx (j := (2 : Int32)) (v := (.int s2)) (by rw [e90]; exact Ar91.1) (State.isArrayOf_alike hZ.alike Ar91.2.1) Ar91.2.2 hin91 hat91 (g := (mkF m 208 #[.val (.ref a1), .val (.ref a2), .val (.int (own_st w (s0, s1, s2, s3, s4, s5, s6, s7) 64).1), .val (.int (own_st w (s0, s1, s2, s3, s4, s5, s6, s7) 64).2.1), .val (.int (own_st w (s0, s1, s2, s3, s4, s5, s6, s7) 64).2.2.1), .val (.int (own_st w (s0, s1, s2, s3, s4, s5, s6, s7) 64).2.2.2.1), .val (.int (own_st w (s0, s1, s2, s3, s4, s5, s6, s7) 64).2.2.2.2.1), .val (.int (own_st w (s0, s1, s2, s3, s4, s5, s6, s7) 64).2.2.2.2.2.1), .val (.int (own_st w (s0, s1, s2, s3, s4, s5, s6, s7) 64).2.2.2.2.2.2.1), .val (.int (own_st w (s0, s1, s2, s3, s4, s5, s6, s7) 64).2.2.2.2.2.2.2), .val (.int (Int32.ofNat 64)), z86_11, z86_12, z86_13, z86_14, z86_15] [(.int 2), (.ref a1), (.int 2), (.ref a1)])) rfl rfl (hb hby d4_208) _ ?_
        refine XS.iload X90.here hx rfl (hb hby d4_209) rfl ?_
        refine XS.iadd X90.here hx rfl (hb hby d4_211) rfl ?_
        exact kt
      obtain ⟨cl92, Ar92, cq92, cS92, cN92, cH92, cG92⟩ := id V90
      have hin92 := inb_of (j := (2 : Int32)) cS92 ⟨by decide, by decide⟩
      obtain ⟨T92, h92, X92, e92, W92, st92⟩ := stI X90 hx hZ e90 Ar92 (j := (2 : Int32)) hin92 (g := (mkF m 212 #[.val (.ref a1), .val (.ref a2), .val (.int (own_st w (s0, s1, s2, s3, s4, s5, s6, s7) 64).1), .val (.int (own_st w (s0, s1, s2, s3, s4, s5, s6, s7) 64).2.1), .val (.int (own_st w (s0, s1, s2, s3, s4, s5, s6, s7) 64).2.2.1), .val (.int (own_st w (s0, s1, s2, s3, s4, s5, s6, s7) 64).2.2.2.1), .val (.int (own_st w (s0, s1, s2, s3, s4, s5, s6, s7) 64).2.2.2.2.1), .val (.int (own_st w (s0, s1, s2, s3, s4, s5, s6, s7) 64).2.2.2.2.2.1), .val (.int (own_st w (s0, s1, s2, s3, s4, s5, s6, s7) 64).2.2.2.2.2.2.1), .val (.int (own_st w (s0, s1, s2, s3, s4, s5, s6, s7) 64).2.2.2.2.2.2.2), .val (.int (Int32.ofNat 64)), z86_11, z86_12, z86_13, z86_14, z86_15] [(.int (s2 + (own_st w (s0, s1, s2, s3, s4, s5, s6, s7) 64).2.2.1)), (.int 2), (.ref a1)])) rfl rfl (hb hby d4_212)
      refine own_go st92 ?_
      have V92 : Arv Z h92 a1 k1 .int (8 : Int32) [(.int (s0 + (own_st w (s0, s1, s2, s3, s4, s5, s6, s7) 64).1)), (.int (s1 + (own_st w (s0, s1, s2, s3, s4, s5, s6, s7) 64).2.1)), (.int (s2 + (own_st w (s0, s1, s2, s3, s4, s5, s6, s7) 64).2.2.1)), (.int s3), (.int s4), (.int s5), (.int s6), (.int s7)] (.int 0) := Arv.set Ar92 cq92 cS92 cN92 cH92 cG92 rfl W92 2 rfl (Nat.le_of_ble_eq_true rfl)
      have K92 : Keep h0 h92 [a1] := Keep.wr K90 W92 (Or.inl (List.mem_of_getElem? (i := 0) rfl))
      have N92 := Fr.snoc X92 N90 g_a1
      refine own_go (B := T92.setTop (mkF m 216 #[.val (.ref a1), .val (.ref a2), .val (.int (own_st w (s0, s1, s2, s3, s4, s5, s6, s7) 64).1), .val (.int (own_st w (s0, s1, s2, s3, s4, s5, s6, s7) 64).2.1), .val (.int (own_st w (s0, s1, s2, s3, s4, s5, s6, s7) 64).2.2.1), .val (.int (own_st w (s0, s1, s2, s3, s4, s5, s6, s7) 64).2.2.2.1), .val (.int (own_st w (s0, s1, s2, s3, s4, s5, s6, s7) 64).2.2.2.2.1), .val (.int (own_st w (s0, s1, s2, s3, s4, s5, s6, s7) 64).2.2.2.2.2.1), .val (.int (own_st w (s0, s1, s2, s3, s4, s5, s6, s7) 64).2.2.2.2.2.2.1), .val (.int (own_st w (s0, s1, s2, s3, s4, s5, s6, s7) 64).2.2.2.2.2.2.2), .val (.int (Int32.ofNat 64)), z86_11, z86_12, z86_13, z86_14, z86_15] [(.int 3), (.ref a1), (.int 3), (.ref a1)])) (fun tg kt => ?_) ?_
      · refine XS.aloadN X92.here hx rfl (hb hby d4_213) rfl rfl ?_
        refine XS.iconst X92.here hx rfl (hb hby d4_214) ?_
        refine XT.dup2 X92.here hx rfl (hb hby d4_215) rfl rfl rfl ?_
        exact kt
      obtain ⟨cl93, Ar93, cq93, cS93, cN93, cH93, cG93⟩ := id V92
      have hin93 := inb_of (j := (3 : Int32)) cS93 ⟨by decide, by decide⟩
      have hat93 : cl93.slots[((3 : Int32)).toNatClampNeg]? = some (.int s3) := Has.at cH93 hin93 rfl
      refine own_go (B := T92.setTop (mkF m 220 #[.val (.ref a1), .val (.ref a2), .val (.int (own_st w (s0, s1, s2, s3, s4, s5, s6, s7) 64).1), .val (.int (own_st w (s0, s1, s2, s3, s4, s5, s6, s7) 64).2.1), .val (.int (own_st w (s0, s1, s2, s3, s4, s5, s6, s7) 64).2.2.1), .val (.int (own_st w (s0, s1, s2, s3, s4, s5, s6, s7) 64).2.2.2.1), .val (.int (own_st w (s0, s1, s2, s3, s4, s5, s6, s7) 64).2.2.2.2.1), .val (.int (own_st w (s0, s1, s2, s3, s4, s5, s6, s7) 64).2.2.2.2.2.1), .val (.int (own_st w (s0, s1, s2, s3, s4, s5, s6, s7) 64).2.2.2.2.2.2.1), .val (.int (own_st w (s0, s1, s2, s3, s4, s5, s6, s7) 64).2.2.2.2.2.2.2), .val (.int (Int32.ofNat 64)), z86_11, z86_12, z86_13, z86_14, z86_15] [(.int (s3 + (own_st w (s0, s1, s2, s3, s4, s5, s6, s7) 64).2.2.2.1)), (.int 3), (.ref a1)])) (fun tg kt => ?_) ?_
      · refine X92.iaload hx (j := (3 : Int32)) (v := (.int s3)) (by rw [e92]; exact Ar93.1) (State.isArrayOf_alike hZ.alike Ar93.2.1) Ar93.2.2 hin93 hat93 (g := (mkF m 216 #[.val (.ref a1), .val (.ref a2), .val (.int (own_st w (s0, s1, s2, s3, s4, s5, s6, s7) 64).1), .val (.int (own_st w (s0, s1, s2, s3, s4, s5, s6, s7) 64).2.1), .val (.int (own_st w (s0, s1, s2, s3, s4, s5, s6, s7) 64).2.2.1), .val (.int (own_st w (s0, s1, s2, s3, s4, s5, s6, s7) 64).2.2.2.1), .val (.int (own_st w (s0, s1, s2, s3, s4, s5, s6, s7) 64).2.2.2.2.1), .val (.int (own_st w (s0, s1, s2, s3, s4, s5, s6, s7) 64).2.2.2.2.2.1), .val (.int (own_st w (s0, s1, s2, s3, s4, s5, s6, s7) 64).2.2.2.2.2.2.1), .val (.int (own_st w (s0, s1, s2, s3, s4, s5, s6, s7) 64).2.2.2.2.2.2.2), .val (.int (Int32.ofNat 64)), z86_11, z86_12, z86_13, z86_14, z86_15] [(.int 3), (.ref a1), (.int 3), (.ref a1)])) rfl rfl (hb hby d4_216) _ ?_
        refine XS.iload X92.here hx rfl (hb hby d4_217) rfl ?_
        refine XS.iadd X92.here hx rfl (hb hby d4_219) rfl ?_
        exact kt
      obtain ⟨cl94, Ar94, cq94, cS94, cN94, cH94, cG94⟩ := id V92
      have hin94 := inb_of (j := (3 : Int32)) cS94 ⟨by decide, by decide⟩
      obtain ⟨T94, h94, X94, e94, W94, st94⟩ := stI X92 hx hZ e92 Ar94 (j := (3 : Int32)) hin94 (g := (mkF m 220 #[.val (.ref a1), .val (.ref a2), .val (.int (own_st w (s0, s1, s2, s3, s4, s5, s6, s7) 64).1), .val (.int (own_st w (s0, s1, s2, s3, s4, s5, s6, s7) 64).2.1), .val (.int (own_st w (s0, s1, s2, s3, s4, s5, s6, s7) 64).2.2.1), .val (.int (own_st w (s0, s1, s2, s3, s4, s5, s6, s7) 64).2.2.2.1), .val (.int (own_st w (s0, s1, s2, s3, s4, s5, s6, s7) 64).2.2.2.2.1), .val (.int (own_st w (s0, s1, s2, s3, s4, s5, s6, s7) 64).2.2.2.2.2.1), .val (.int (own_st w (s0, s1, s2, s3, s4, s5, s6, s7) 64).2.2.2.2.2.2.1), .val (.int (own_st w (s0, s1, s2, s3, s4, s5, s6, s7) 64).2.2.2.2.2.2.2), .val (.int (Int32.ofNat 64)), z86_11, z86_12, z86_13, z86_14, z86_15] [(.int (s3 + (own_st w (s0, s1, s2, s3, s4, s5, s6, s7) 64).2.2.2.1)), (.int 3), (.ref a1)])) rfl rfl (hb hby d4_220)
      refine own_go st94 ?_
      have V94 : Arv Z h94 a1 k1 .int (8 : Int32) [(.int (s0 + (own_st w (s0, s1, s2, s3, s4, s5, s6, s7) 64).1)), (.int (s1 + (own_st w (s0, s1, s2, s3, s4, s5, s6, s7) 64).2.1)), (.int (s2 + (own_st w (s0, s1, s2, s3, s4, s5, s6, s7) 64).2.2.1)), (.int (s3 + (own_st w (s0, s1, s2, s3, s4, s5, s6, s7) 64).2.2.2.1)), (.int s4), (.int s5), (.int s6), (.int s7)] (.int 0) := Arv.set Ar94 cq94 cS94 cN94 cH94 cG94 rfl W94 3 rfl (Nat.le_of_ble_eq_true rfl)
      have K94 : Keep h0 h94 [a1] := Keep.wr K92 W94 (Or.inl (List.mem_of_getElem? (i := 0) rfl))
      have N94 := Fr.snoc X94 N92 g_a1
      refine own_go (B := T94.setTop (mkF m 224 #[.val (.ref a1), .val (.ref a2), .val (.int (own_st w (s0, s1, s2, s3, s4, s5, s6, s7) 64).1), .val (.int (own_st w (s0, s1, s2, s3, s4, s5, s6, s7) 64).2.1), .val (.int (own_st w (s0, s1, s2, s3, s4, s5, s6, s7) 64).2.2.1), .val (.int (own_st w (s0, s1, s2, s3, s4, s5, s6, s7) 64).2.2.2.1), .val (.int (own_st w (s0, s1, s2, s3, s4, s5, s6, s7) 64).2.2.2.2.1), .val (.int (own_st w (s0, s1, s2, s3, s4, s5, s6, s7) 64).2.2.2.2.2.1), .val (.int (own_st w (s0, s1, s2, s3, s4, s5, s6, s7) 64).2.2.2.2.2.2.1), .val (.int (own_st w (s0, s1, s2, s3, s4, s5, s6, s7) 64).2.2.2.2.2.2.2), .val (.int (Int32.ofNat 64)), z86_11, z86_12, z86_13, z86_14, z86_15] [(.int 4), (.ref a1), (.int 4), (.ref a1)])) (fun tg kt => ?_) ?_
      · refine XS.aloadN X94.here hx rfl (hb hby d4_221) rfl rfl ?_
        refine XS.iconst X94.here hx rfl (hb hby d4_222) ?_
        refine XT.dup2 X94.here hx rfl (hb hby d4_223) rfl rfl rfl ?_
        exact kt
      obtain ⟨cl95, Ar95, cq95, cS95, cN95, cH95, cG95⟩ := id V94
      have hin95 := inb_of (j := (4 : Int32)) cS95 ⟨by decide, by decide⟩
      have hat95 : cl95.slots[((4 : Int32)).toNatClampNeg]? = some (.int s4) := Has.at cH95 hin95 rfl
      refine own_go (B := T94.setTop (mkF m 228 #[.val (.ref a1), .val (.ref a2), .val (.int (own_st w (s0, s1, s2, s3, s4, s5, s6, s7) 64).1), .val (.int (own_st w (s0, s1, s2, s3, s4, s5, s6, s7) 64).2.1), .val (.int (own_st w (s0, s1, s2, s3, s4, s5, s6, s7) 64).2.2.1), .val (.int (own_st w (s0, s1, s2, s3, s4, s5, s6, s7) 64).2.2.2.1), .val (.int (own_st w (s0, s1, s2, s3, s4, s5, s6, s7) 64).2.2.2.2.1), .val (.int (own_st w (s0, s1, s2, s3, s4, s5, s6, s7) 64).2.2.2.2.2.1), .val (.int (own_st w (s0, s1, s2, s3, s4, s5, s6, s7) 64).2.2.2.2.2.2.1), .val (.int (own_st w (s0, s1, s2, s3, s4, s5, s6, s7) 64).2.2.2.2.2.2.2), .val (.int (Int32.ofNat 64)), z86_11, z86_12, z86_13, z86_14, z86_15] [(.int (s4 + (own_st w (s0, s1, s2, s3, s4, s5, s6, s7) 64).2.2.2.2.1)), (.int 4), (.ref a1)])) (fun tg kt => ?_) ?_
      · refine X94.iaload hx (j := (4 : Int32)) (v := (.int s4)) (by rw [e94]; exact Ar95.1) (State.isArrayOf_alike hZ.alike Ar95.2.1) Ar95.2.2 hin95 hat95 (g := (mkF m 224 #[.val (.ref a1), .val (.ref a2), .val (.int (own_st w (s0, s1, s2, s3, s4, s5, s6, s7) 64).1), .val (.int (own_st w (s0, s1, s2, s3, s4, s5, s6, s7) 64).2.1), .val (.int (own_st w (s0, s1, s2, s3, s4, s5, s6, s7) 64).2.2.1), .val (.int (own_st w (s0, s1, s2, s3, s4, s5, s6, s7) 64).2.2.2.1), .val (.int (own_st w (s0, s1, s2, s3, s4, s5, s6, s7) 64).2.2.2.2.1), .val (.int (own_st w (s0, s1, s2, s3, s4, s5, s6, s7) 64).2.2.2.2.2.1), .val (.int (own_st w (s0, s1, s2, s3, s4, s5, s6, s7) 64).2.2.2.2.2.2.1), .val (.int (own_st w (s0, s1, s2, s3, s4, s5, s6, s7) 64).2.2.2.2.2.2.2), .val (.int (Int32.ofNat 64)), z86_11, z86_12, z86_13, z86_14, z86_15] [(.int 4), (.ref a1), (.int 4), (.ref a1)])) rfl rfl (hb hby d4_224) _ ?_
        refine XS.iload X94.here hx rfl (hb hby d4_225) rfl ?_
        refine XS.iadd X94.here hx rfl (hb hby d4_227) rfl ?_
        exact kt
      obtain ⟨cl96, Ar96, cq96, cS96, cN96, cH96, cG96⟩ := id V94
      have hin96 := inb_of (j := (4 : Int32)) cS96 ⟨by decide, by decide⟩
      obtain ⟨T96, h96, X96, e96, W96, st96⟩ := stI X94 hx hZ e94 Ar96 (j := (4 : Int32)) hin96 (g := (mkF m 228 #[.val (.ref a1), .val (.ref a2), .val (.int (own_st w (s0, s1, s2, s3, s4, s5, s6, s7) 64).1), .val (.int (own_st w (s0, s1, s2, s3, s4, s5, s6, s7) 64).2.1), .val (.int (own_st w (s0, s1, s2, s3, s4, s5, s6, s7) 64).2.2.1), .val (.int (own_st w (s0, s1, s2, s3, s4, s5, s6, s7) 64).2.2.2.1), .val (.int (own_st w (s0, s1, s2, s3, s4, s5, s6, s7) 64).2.2.2.2.1), .val (.int (own_st w (s0, s1, s2, s3, s4, s5, s6, s7) 64).2.2.2.2.2.1), .val (.int (own_st w (s0, s1, s2, s3, s4, s5, s6, s7) 64).2.2.2.2.2.2.1), .val (.int (own_st w (s0, s1, s2, s3, s4, s5, s6, s7) 64).2.2.2.2.2.2.2), .val (.int (Int32.ofNat 64)), z86_11, z86_12, z86_13, z86_14, z86_15] [(.int (s4 + (own_st w (s0, s1, s2, s3, s4, s5, s6, s7) 64).2.2.2.2.1)), (.int 4), (.ref a1)])) rfl rfl (hb hby d4_228)
      refine own_go st96 ?_
      have V96 : Arv Z h96 a1 k1 .int (8 : Int32) [(.int (s0 + (own_st w (s0, s1, s2, s3, s4, s5, s6, s7) 64).1)), (.int (s1 + (own_st w (s0, s1, s2, s3, s4, s5, s6, s7) 64).2.1)), (.int (s2 + (own_st w (s0, s1, s2, s3, s4, s5, s6, s7) 64).2.2.1)), (.int (s3 + (own_st w (s0, s1, s2, s3, s4, s5, s6, s7) 64).2.2.2.1)), (.int (s4 + (own_st w (s0, s1, s2, s3, s4, s5, s6, s7) 64).2.2.2.2.1)), (.int s5), (.int s6), (.int s7)] (.int 0) := Arv.set Ar96 cq96 cS96 cN96 cH96 cG96 rfl W96 4 rfl (Nat.le_of_ble_eq_true rfl)
      have K96 : Keep h0 h96 [a1] := Keep.wr K94 W96 (Or.inl (List.mem_of_getElem? (i := 0) rfl))
      have N96 := Fr.snoc X96 N94 g_a1
      refine own_go (B := T96.setTop (mkF m 232 #[.val (.ref a1), .val (.ref a2), .val (.int (own_st w (s0, s1, s2, s3, s4, s5, s6, s7) 64).1), .val (.int (own_st w (s0, s1, s2, s3, s4, s5, s6, s7) 64).2.1), .val (.int (own_st w (s0, s1, s2, s3, s4, s5, s6, s7) 64).2.2.1), .val (.int (own_st w (s0, s1, s2, s3, s4, s5, s6, s7) 64).2.2.2.1), .val (.int (own_st w (s0, s1, s2, s3, s4, s5, s6, s7) 64).2.2.2.2.1), .val (.int (own_st w (s0, s1, s2, s3, s4, s5, s6, s7) 64).2.2.2.2.2.1), .val (.int (own_st w (s0, s1, s2, s3, s4, s5, s6, s7) 64).2.2.2.2.2.2.1), .val (.int (own_st w (s0, s1, s2, s3, s4, s5, s6, s7) 64).2.2.2.2.2.2.2), .val (.int (Int32.ofNat 64)), z86_11, z86_12, z86_13, z86_14, z86_15] [(.int 5), (.ref a1), (.int 5), (.ref a1)])) (fun tg kt => ?_) ?_
      · refine XS.aloadN X96.here hx rfl (hb hby d4_229) rfl rfl ?_
        refine XS.iconst X96.here hx rfl (hb hby d4_230) ?_
        refine XT.dup2 X96.here hx rfl (hb hby d4_231) rfl rfl rfl ?_
        exact kt
      obtain ⟨cl97, Ar97, cq97, cS97, cN97, cH97, cG97⟩ := id V96
      have hin97 := inb_of (j := (5 : Int32)) cS97 ⟨by decide, by decide⟩
      have hat97 : cl97.slots[((5 : Int32)).toNatClampNeg]? = some (.int s5) := Has.at cH97 hin97 rfl
      refine own_go (B := T96.setTop (mkF m 236 #[.val (.ref a1), .val (.ref a2), .val (.int (own_st w (s0, s1, s2, s3, s4, s5, s6, s7) 64).1), .val (.int (own_st w (s0, s1, s2, s3, s4, s5, s6, s7) 64).2.1), .val (.int (own_st w (s0, s1, s2, s3, s4, s5, s6, s7) 64).2.2.1), .val (.int (own_st w (s0, s1, s2, s3, s4, s5, s6, s7) 64).2.2.2.1), .val (.int (own_st w (s0, s1, s2, s3, s4, s5, s6, s7) 64).2.2.2.2.1), .val (.int (own_st w (s0, s1, s2, s3, s4, s5, s6, s7) 64).2.2.2.2.2.1), .val (.int (own_st w (s0, s1, s2, s3, s4, s5, s6, s7) 64).2.2.2.2.2.2.1), .val (.int (own_st w (s0, s1, s2, s3, s4, s5, s6, s7) 64).2.2.2.2.2.2.2), .val (.int (Int32.ofNat 64)), z86_11, z86_12, z86_13, z86_14, z86_15] [(.int (s5 + (own_st w (s0, s1, s2, s3, s4, s5, s6, s7) 64).2.2.2.2.2.1)), (.int 5), (.ref a1)])) (fun tg kt => ?_) ?_
      · refine X96.iaload hx (j := (5 : Int32)) (v := (.int s5)) (by rw [e96]; exact Ar97.1) (State.isArrayOf_alike hZ.alike Ar97.2.1) Ar97.2.2 hin97 hat97 (g := (mkF m 232 #[.val (.ref a1), .val (.ref a2), .val (.int (own_st w (s0, s1, s2, s3, s4, s5, s6, s7) 64).1), .val (.int (own_st w (s0, s1, s2, s3, s4, s5, s6, s7) 64).2.1), .val (.int (own_st w (s0, s1, s2, s3, s4, s5, s6, s7) 64).2.2.1), .val (.int (own_st w (s0, s1, s2, s3, s4, s5, s6, s7) 64).2.2.2.1), .val (.int (own_st w (s0, s1, s2, s3, s4, s5, s6, s7) 64).2.2.2.2.1), .val (.int (own_st w (s0, s1, s2, s3, s4, s5, s6, s7) 64).2.2.2.2.2.1), .val (.int (own_st w (s0, s1, s2, s3, s4, s5, s6, s7) 64).2.2.2.2.2.2.1), .val (.int (own_st w (s0, s1, s2, s3, s4, s5, s6, s7) 64).2.2.2.2.2.2.2), .val (.int (Int32.ofNat 64)), z86_11, z86_12, z86_13, z86_14, z86_15] [(.int 5), (.ref a1), (.int 5), (.ref a1)])) rfl rfl (hb hby d4_232) _ ?_
        refine XS.iload X96.here hx rfl (hb hby d4_233) rfl ?_
        refine XS.iadd X96.here hx rfl (hb hby d4_235) rfl ?_
        exact kt
      obtain ⟨cl98, Ar98, cq98, cS98, cN98, cH98, cG98⟩ := id V96
      have hin98 := inb_of (j := (5 : Int32)) cS98 ⟨by decide, by decide⟩
      obtain ⟨T98, h98, X98, e98, W98, st98⟩ := stI X96 hx hZ e96 Ar98 (j := (5 : Int32)) hin98 (g := (mkF m 236 #[.val (.ref a1), .val (.ref a2), .val (.int (own_st w (s0, s1, s2, s3, s4, s5, s6, s7) 64).1), .val (.int (own_st w (s0, s1, s2, s3, s4, s5, s6, s7) 64).2.1), .val (.int (own_st w (s0, s1, s2, s3, s4, s5, s6, s7) 64).2.2.1), .val (.int (own_st w (s0, s1, s2, s3, s4, s5, s6, s7) 64).2.2.2.1), .val (.int (own_st w (s0, s1, s2, s3, s4, s5, s6, s7) 64).2.2.2.2.1), .val (.int (own_st w (s0, s1, s2, s3, s4, s5, s6, s7) 64).2.2.2.2.2.1), .val (.int (own_st w (s0, s1, s2, s3, s4, s5, s6, s7) 64).2.2.2.2.2.2.1), .val (.int (own_st w (s0, s1, s2, s3, s4, s5, s6, s7) 64).2.2.2.2.2.2.2), .val (.int (Int32.ofNat 64)), z86_11, z86_12, z86_13, z86_14, z86_15] [(.int (s5 + (own_st w (s0, s1, s2, s3, s4, s5, s6, s7) 64).2.2.2.2.2.1)), (.int 5), (.ref a1)])) rfl rfl (hb hby d4_236)
      refine own_go st98 ?_
      have V98 : Arv Z h98 a1 k1 .int (8 : Int32) [(.int (s0 + (own_st w (s0, s1, s2, s3, s4, s5, s6, s7) 64).1)), (.int (s1 + (own_st w (s0, s1, s2, s3, s4, s5, s6, s7) 64).2.1)), (.int (s2 + (own_st w (s0, s1, s2, s3, s4, s5, s6, s7) 64).2.2.1)), (.int (s3 + (own_st w (s0, s1, s2, s3, s4, s5, s6, s7) 64).2.2.2.1)), (.int (s4 + (own_st w (s0, s1, s2, s3, s4, s5, s6, s7) 64).2.2.2.2.1)), (.int (s5 + (own_st w (s0, s1, s2, s3, s4, s5, s6, s7) 64).2.2.2.2.2.1)), (.int s6), (.int s7)] (.int 0) := Arv.set Ar98 cq98 cS98 cN98 cH98 cG98 rfl W98 5 rfl (Nat.le_of_ble_eq_true rfl)
      have K98 : Keep h0 h98 [a1] := Keep.wr K96 W98 (Or.inl (List.mem_of_getElem? (i := 0) rfl))
      have N98 := Fr.snoc X98 N96 g_a1
      refine own_go (B := T98.setTop (mkF m 241 #[.val (.ref a1), .val (.ref a2), .val (.int (own_st w (s0, s1, s2, s3, s4, s5, s6, s7) 64).1), .val (.int (own_st w (s0, s1, s2, s3, s4, s5, s6, s7) 64).2.1), .val (.int (own_st w (s0, s1, s2, s3, s4, s5, s6, s7) 64).2.2.1), .val (.int (own_st w (s0, s1, s2, s3, s4, s5, s6, s7) 64).2.2.2.1), .val (.int (own_st w (s0, s1, s2, s3, s4, s5, s6, s7) 64).2.2.2.2.1), .val (.int (own_st w (s0, s1, s2, s3, s4, s5, s6, s7) 64).2.2.2.2.2.1), .val (.int (own_st w (s0, s1, s2, s3, s4, s5, s6, s7) 64).2.2.2.2.2.2.1), .val (.int (own_st w (s0, s1, s2, s3, s4, s5, s6, s7) 64).2.2.2.2.2.2.2), .val (.int (Int32.ofNat 64)), z86_11, z86_12, z86_13, z86_14, z86_15] [(.int 6), (.ref a1), (.int 6), (.ref a1)])) (fun tg kt => ?_) ?_
      · refine XS.aloadN X98.here hx rfl (hb hby d4_237) rfl rfl ?_
        refine XS.bipush X98.here hx rfl (hb hby d4_238) ?_
        refine XT.dup2 X98.here hx rfl (hb hby d4_240) rfl rfl rfl ?_
        exact kt
      obtain ⟨cl99, Ar99, cq99, cS99, cN99, cH99, cG99⟩ := id V98
      have hin99 := inb_of (j := (6 : Int32)) cS99 ⟨by decide, by decide⟩
      have hat99 : cl99.slots[((6 : Int32)).toNatClampNeg]? = some (.int s6) := Has.at cH99 hin99 rfl
      refine own_go (B := T98.setTop (mkF m 245 #[.val (.ref a1), .val (.ref a2), .val (.int (own_st w (s0, s1, s2, s3, s4, s5, s6, s7) 64).1), .val (.int (own_st w (s0, s1, s2, s3, s4, s5, s6, s7) 64).2.1), .val (.int (own_st w (s0, s1, s2, s3, s4, s5, s6, s7) 64).2.2.1), .val (.int (own_st w (s0, s1, s2, s3, s4, s5, s6, s7) 64).2.2.2.1), .val (.int (own_st w (s0, s1, s2, s3, s4, s5, s6, s7) 64).2.2.2.2.1), .val (.int (own_st w (s0, s1, s2, s3, s4, s5, s6, s7) 64).2.2.2.2.2.1), .val (.int (own_st w (s0, s1, s2, s3, s4, s5, s6, s7) 64).2.2.2.2.2.2.1), .val (.int (own_st w (s0, s1, s2, s3, s4, s5, s6, s7) 64).2.2.2.2.2.2.2), .val (.int (Int32.ofNat 64)), z86_11, z86_12, z86_13, z86_14, z86_15] [(.int (s6 + (own_st w (s0, s1, s2, s3, s4, s5, s6, s7) 64).2.2.2.2.2.2.1)), (.int 6), (.ref a1)])) (fun tg kt => ?_) ?_
      · refine X98.iaload hx (j := (6 : Int32)) (v := (.int s6)) (by rw [e98]; exact Ar99.1) (State.isArrayOf_alike hZ.alike Ar99.2.1) Ar99.2.2 hin99 hat99 (g := (mkF m 241 #[.val (.ref a1), .val (.ref a2), .val (.int (own_st w (s0, s1, s2, s3, s4, s5, s6, s7) 64).1), .val (.int (own_st w (s0, s1, s2, s3, s4, s5, s6, s7) 64).2.1), .val (.int (own_st w (s0, s1, s2, s3, s4, s5, s6, s7) 64).2.2.1), .val (.int (own_st w (s0, s1, s2, s3, s4, s5, s6, s7) 64).2.2.2.1), .val (.int (own_st w (s0, s1, s2, s3, s4, s5, s6, s7) 64).2.2.2.2.1), .val (.int (own_st w (s0, s1, s2, s3, s4, s5, s6, s7) 64).2.2.2.2.2.1), .val (.int (own_st w (s0, s1, s2, s3, s4, s5, s6, s7) 64).2.2.2.2.2.2.1), .val (.int (own_st w (s0, s1, s2, s3, s4, s5, s6, s7) 64).2.2.2.2.2.2.2), .val (.int (Int32.ofNat 64)), z86_11, z86_12, z86_13, z86_14, z86_15] [(.int 6), (.ref a1), (.int 6), (.ref a1)])) rfl rfl (hb hby d4_241) _ ?_
        refine XS.iload X98.here hx rfl (hb hby d4_242) rfl ?_
        refine XS.iadd X98.here hx rfl (hb hby d4_244) rfl ?_
        exact kt
      obtain ⟨cl100, Ar100, cq100, cS100, cN100, cH100, cG100⟩ := id V98
      have hin100 := inb_of (j := (6 : Int32)) cS100 ⟨by decide, by decide⟩
      obtain ⟨T100, h100, X100, e100, W100, st100⟩ := stI X98 hx hZ e98 Ar100 (j := (6 : Int32)) hin100 (g := (mkF m 245 #[.val (.ref a1), .val (.ref a2), .val (.int (own_st w (s0, s1, s2, s3, s4, s5, s6, s7) 64).1), .val (.int (own_st w (s0, s1, s2, s3, s4, s5, s6, s7) 64).2.1), .val (.int (own_st w (s0, s1, s2, s3, s4, s5, s6, s7) 64).2.2.1), .val (.int (own_st w (s0, s1, s2, s3, s4, s5, s6, s7) 64).2.2.2.1), .val (.int (own_st w (s0, s1, s2, s3, s4, s5, s6, s7) 64).2.2.2.2.1), .val (.int (own_st w (s0, s1, s2, s3, s4, s5, s6, s7) 64).2.2.2.2.2.1), .val (.int (own_st w (s0, s1, s2, s3, s4, s5, s6, s7) 64).2.2.2.2.2.2.1), .val (.int (own_st w (s0, s1, s2, s3, s4, s5, s6, s7) 64).2.2.2.2.2.2.2), .val (.int (Int32.ofNat 64)), z86_11, z86_12, z86_13, z86_14, z86_15] [(.int (s6 + (own_st w (s0, s1, s2, s3, s4, s5, s6, s7) 64).2.2.2.2.2.2.1)), (.int 6), (.ref a1)])) rfl rfl (hb hby d4_245)
      refine own_go st100 ?_
      have V100 : Arv Z h100 a1 k1 .int (8 : Int32) [(.int (s0 + (own_st w (s0, s1, s2, s3, s4, s5, s6, s7) 64).1)), (.int (s1 + (own_st w (s0, s1, s2, s3, s4, s5, s6, s7) 64).2.1)), (.int (s2 + (own_st w (s0, s1, s2, s3, s4, s5, s6, s7) 64).2.2.1)), (.int (s3 + (own_st w (s0, s1, s2, s3, s4, s5, s6, s7) 64).2.2.2.1)), (.int (s4 + (own_st w (s0, s1, s2, s3, s4, s5, s6, s7) 64).2.2.2.2.1)), (.int (s5 + (own_st w (s0, s1, s2, s3, s4, s5, s6, s7) 64).2.2.2.2.2.1)), (.int (s6 + (own_st w (s0, s1, s2, s3, s4, s5, s6, s7) 64).2.2.2.2.2.2.1)), (.int s7)] (.int 0) := Arv.set Ar100 cq100 cS100 cN100 cH100 cG100 rfl W100 6 rfl (Nat.le_of_ble_eq_true rfl)
      have K100 : Keep h0 h100 [a1] := Keep.wr K98 W100 (Or.inl (List.mem_of_getElem? (i := 0) rfl))
      have N100 := Fr.snoc X100 N98 g_a1
      refine own_go (B := T100.setTop (mkF m 250 #[.val (.ref a1), .val (.ref a2), .val (.int (own_st w (s0, s1, s2, s3, s4, s5, s6, s7) 64).1), .val (.int (own_st w (s0, s1, s2, s3, s4, s5, s6, s7) 64).2.1), .val (.int (own_st w (s0, s1, s2, s3, s4, s5, s6, s7) 64).2.2.1), .val (.int (own_st w (s0, s1, s2, s3, s4, s5, s6, s7) 64).2.2.2.1), .val (.int (own_st w (s0, s1, s2, s3, s4, s5, s6, s7) 64).2.2.2.2.1), .val (.int (own_st w (s0, s1, s2, s3, s4, s5, s6, s7) 64).2.2.2.2.2.1), .val (.int (own_st w (s0, s1, s2, s3, s4, s5, s6, s7) 64).2.2.2.2.2.2.1), .val (.int (own_st w (s0, s1, s2, s3, s4, s5, s6, s7) 64).2.2.2.2.2.2.2), .val (.int (Int32.ofNat 64)), z86_11, z86_12, z86_13, z86_14, z86_15] [(.int 7), (.ref a1), (.int 7), (.ref a1)])) (fun tg kt => ?_) ?_
      · refine XS.aloadN X100.here hx rfl (hb hby d4_246) rfl rfl ?_
        refine XS.bipush X100.here hx rfl (hb hby d4_247) ?_
        refine XT.dup2 X100.here hx rfl (hb hby d4_249) rfl rfl rfl ?_
        exact kt
      obtain ⟨cl101, Ar101, cq101, cS101, cN101, cH101, cG101⟩ := id V100
      have hin101 := inb_of (j := (7 : Int32)) cS101 ⟨by decide, by decide⟩
      have hat101 : cl101.slots[((7 : Int32)).toNatClampNeg]? = some (.int s7) := Has.at cH101 hin101 rfl
      refine own_go (B := T100.setTop (mkF m 254 #[.val (.ref a1), .val (.ref a2), .val (.int (own_st w (s0, s1, s2, s3, s4, s5, s6, s7) 64).1), .val (.int (own_st w (s0, s1, s2, s3, s4, s5, s6, s7) 64).2.1), .val (.int (own_st w (s0, s1, s2, s3, s4, s5, s6, s7) 64).2.2.1), .val (.int (own_st w (s0, s1, s2, s3, s4, s5, s6, s7) 64).2.2.2.1), .val (.int (own_st w (s0, s1, s2, s3, s4, s5, s6, s7) 64).2.2.2.2.1), .val (.int (own_st w (s0, s1, s2, s3, s4, s5, s6, s7) 64).2.2.2.2.2.1), .val (.int (own_st w (s0, s1, s2, s3, s4, s5, s6, s7) 64).2.2.2.2.2.2.1), .val (.int (own_st w (s0, s1, s2, s3, s4, s5, s6, s7) 64).2.2.2.2.2.2.2), .val (.int (Int32.ofNat 64)), z86_11, z86_12, z86_13, z86_14, z86_15] [(.int (s7 + (own_st w (s0, s1, s2, s3, s4, s5, s6, s7) 64).2.2.2.2.2.2.2)), (.int 7), (.ref a1)])) (fun tg kt => ?_) ?_
      · refine X100.iaload hx (j := (7 : Int32)) (v := (.int s7)) (by rw [e100]; exact Ar101.1) (State.isArrayOf_alike hZ.alike Ar101.2.1) Ar101.2.2 hin101 hat101 (g := (mkF m 250 #[.val (.ref a1), .val (.ref a2), .val (.int (own_st w (s0, s1, s2, s3, s4, s5, s6, s7) 64).1), .val (.int (own_st w (s0, s1, s2, s3, s4, s5, s6, s7) 64).2.1), .val (.int (own_st w (s0, s1, s2, s3, s4, s5, s6, s7) 64).2.2.1), .val (.int (own_st w (s0, s1, s2, s3, s4, s5, s6, s7) 64).2.2.2.1), .val (.int (own_st w (s0, s1, s2, s3, s4, s5, s6, s7) 64).2.2.2.2.1), .val (.int (own_st w (s0, s1, s2, s3, s4, s5, s6, s7) 64).2.2.2.2.2.1), .val (.int (own_st w (s0, s1, s2, s3, s4, s5, s6, s7) 64).2.2.2.2.2.2.1), .val (.int (own_st w (s0, s1, s2, s3, s4, s5, s6, s7) 64).2.2.2.2.2.2.2), .val (.int (Int32.ofNat 64)), z86_11, z86_12, z86_13, z86_14, z86_15] [(.int 7), (.ref a1), (.int 7), (.ref a1)])) rfl rfl (hb hby d4_250) _ ?_
        refine XS.iload X100.here hx rfl (hb hby d4_251) rfl ?_
        refine XS.iadd X100.here hx rfl (hb hby d4_253) rfl ?_
        exact kt
      obtain ⟨cl102, Ar102, cq102, cS102, cN102, cH102, cG102⟩ := id V100
      have hin102 := inb_of (j := (7 : Int32)) cS102 ⟨by decide, by decide⟩
      obtain ⟨T102, h102, X102, e102, W102, st102⟩ := stI X100 hx hZ e100 Ar102 (j := (7 : Int32)) hin102 (g := (mkF m 254 #[.val (.ref a1), .val (.ref a2), .val (.int (own_st w (s0, s1, s2, s3, s4, s5, s6, s7) 64).1), .val (.int (own_st w (s0, s1, s2, s3, s4, s5, s6, s7) 64).2.1), .val (.int (own_st w (s0, s1, s2, s3, s4, s5, s6, s7) 64).2.2.1), .val (.int (own_st w (s0, s1, s2, s3, s4, s5, s6, s7) 64).2.2.2.1), .val (.int (own_st w (s0, s1, s2, s3, s4, s5, s6, s7) 64).2.2.2.2.1), .val (.int (own_st w (s0, s1, s2, s3, s4, s5, s6, s7) 64).2.2.2.2.2.1), .val (.int (own_st w (s0, s1, s2, s3, s4, s5, s6, s7) 64).2.2.2.2.2.2.1), .val (.int (own_st w (s0, s1, s2, s3, s4, s5, s6, s7) 64).2.2.2.2.2.2.2), .val (.int (Int32.ofNat 64)), z86_11, z86_12, z86_13, z86_14, z86_15] [(.int (s7 + (own_st w (s0, s1, s2, s3, s4, s5, s6, s7) 64).2.2.2.2.2.2.2)), (.int 7), (.ref a1)])) rfl rfl (hb hby d4_254)
      refine own_go st102 ?_
      have V102 : Arv Z h102 a1 k1 .int (8 : Int32) [(.int (s0 + (own_st w (s0, s1, s2, s3, s4, s5, s6, s7) 64).1)), (.int (s1 + (own_st w (s0, s1, s2, s3, s4, s5, s6, s7) 64).2.1)), (.int (s2 + (own_st w (s0, s1, s2, s3, s4, s5, s6, s7) 64).2.2.1)), (.int (s3 + (own_st w (s0, s1, s2, s3, s4, s5, s6, s7) 64).2.2.2.1)), (.int (s4 + (own_st w (s0, s1, s2, s3, s4, s5, s6, s7) 64).2.2.2.2.1)), (.int (s5 + (own_st w (s0, s1, s2, s3, s4, s5, s6, s7) 64).2.2.2.2.2.1)), (.int (s6 + (own_st w (s0, s1, s2, s3, s4, s5, s6, s7) 64).2.2.2.2.2.2.1)), (.int (s7 + (own_st w (s0, s1, s2, s3, s4, s5, s6, s7) 64).2.2.2.2.2.2.2))] (.int 0) := Arv.set Ar102 cq102 cS102 cN102 cH102 cG102 rfl W102 7 rfl (Nat.le_of_ble_eq_true rfl)
      have K102 : Keep h0 h102 [a1] := Keep.wr K100 W102 (Or.inl (List.mem_of_getElem? (i := 0) rfl))
      have N102 := Fr.snoc X102 N100 g_a1
      obtain ⟨fs, hr, hrun, hended, hW, hsame⟩ := X102.leave (v := none) (fun _ => rfl)
      refine ⟨_, _, ?_, hrun, hended, _, _, rfl, ?_, ⟨_, rfl⟩, hW, hsame.mono (by decide) (by decide)⟩
      · exact X102.returnOut hx Bd.returns (hb hby d4_255) hr
      · show Q4 Z a1 a2 w_ROUND k_ROUND k1 k2 s0 s1 s2 s3 s4 s5 s6 s7 w h0 n0 _ T102.heap _
        rw [e102]
        exact ⟨(own_st w (s0, s1, s2, s3, s4, s5, s6, s7) 64), rfl, N102, K102, V102, rfl⟩
    | succ k ih86 =>
      intro t T_86 lo_86 z86_11 z86_12 z86_13 z86_14 z86_15 hkt86 X_86 e_86 N_86 hz86_11 hz86_12 hz86_13 hz86_14 hz86_15
      have ht86 : t < 64 := by omega
      refine own_go (B := T_86.setTop (mkF m 54 #[.val (.ref a1), .val (.ref a2), .val (.int (own_st w (s0, s1, s2, s3, s4, s5, s6, s7) t).1), .val (.int (own_st w (s0, s1, s2, s3, s4, s5, s6, s7) t).2.1), .val (.int (own_st w (s0, s1, s2, s3, s4, s5, s6, s7) t).2.2.1), .val (.int (own_st w (s0, s1, s2, s3, s4, s5, s6, s7) t).2.2.2.1), .val (.int (own_st w (s0, s1, s2, s3, s4, s5, s6, s7) t).2.2.2.2.1), .val (.int (own_st w (s0, s1, s2, s3, s4, s5, s6, s7) t).2.2.2.2.2.1), .val (.int (own_st w (s0, s1, s2, s3, s4, s5, s6, s7) t).2.2.2.2.2.2.1), .val (.int (own_st w (s0, s1, s2, s3, s4, s5, s6, s7) t).2.2.2.2.2.2.2), .val (.int (Int32.ofNat t)), z86_11, z86_12, z86_13, z86_14, z86_15] [(.int 6), (.int (own_st w (s0, s1, s2, s3, s4, s5, s6, s7) t).2.2.2.2.1)])) (fun tg kt => ?_) ?_
      · refine XS.iload X_86.here hx rfl (hb hby d4_43) rfl ?_
        refine XS.bipush X_86.here hx rfl (hb hby d4_45) ?_
        refine XS.icmpNo X_86.here hx rfl (hb hby d4_47) rfl (tlt (show (Int32.ofNat t) < (64 : Int32) from (own_lt64 ht86).2)).2.1 ?_
        refine XS.iload X_86.here hx rfl (hb hby d4_50) rfl ?_
        refine XS.bipush X_86.here hx rfl (hb hby d4_52) ?_
        exact kt
      obtain ⟨_, _, ⟨T104, L104, k104, n104⟩, -, X104, ⟨Lc104, hQ104, l104, y104, z104⟩, st104⟩ := Jvm.LawKit.callS X_86 hx (y := (⟨"java/lang/Integer", "rotateRight", "(II)I"⟩ : MethodName)) hown (mvT hZ (hw _ (List.mem_of_getElem? (i := 27) rfl))) (mvT hZ (hw _ (List.mem_of_getElem? (i := 28) rfl))) (mvT hZ (hw _ (List.mem_of_getElem? (i := 29) rfl))) (mvT hZ (hw _ (List.mem_of_getElem? (i := 30) rfl))) (by decide) (backOf (W := 0) (rm3 l Z a0 hw [] ((own_st w (s0, s1, s2, s3, s4, s5, s6, s7) t).2.2.2.2.1) (6 : Int32) h0 n0 Z0 ) hZ (hw _ (List.mem_of_getElem? (i := 30) rfl)) (hw _ (List.mem_of_getElem? (i := 29) rfl)) (by decide) (by decide)) (g := (mkF m 54 #[.val (.ref a1), .val (.ref a2), .val (.int (own_st w (s0, s1, s2, s3, s4, s5, s6, s7) t).1), .val (.int (own_st w (s0, s1, s2, s3, s4, s5, s6, s7) t).2.1), .val (.int (own_st w (s0, s1, s2, s3, s4, s5, s6, s7) t).2.2.1), .val (.int (own_st w (s0, s1, s2, s3, s4, s5, s6, s7) t).2.2.2.1), .val (.int (own_st w (s0, s1, s2, s3, s4, s5, s6, s7) t).2.2.2.2.1), .val (.int (own_st w (s0, s1, s2, s3, s4, s5, s6, s7) t).2.2.2.2.2.1), .val (.int (own_st w (s0, s1, s2, s3, s4, s5, s6, s7) t).2.2.2.2.2.2.1), .val (.int (own_st w (s0, s1, s2, s3, s4, s5, s6, s7) t).2.2.2.2.2.2.2), .val (.int (Int32.ofNat t)), z86_11, z86_12, z86_13, z86_14, z86_15] [(.int 6), (.int (own_st w (s0, s1, s2, s3, s4, s5, s6, s7) t).2.2.2.2.1)])) rfl (by rw [hml]; rfl) (argsL := [(.int (own_st w (s0, s1, s2, s3, s4, s5, s6, s7) t).2.2.2.2.1), (.int 6)]) (rest := []) (lenOf pd_0 rfl) rfl (by show 2 * 0 + _ ≤ _; exact Nat.le_of_eq rfl) (hb hby d4_54) (fun _ _ => ⟨rfl, e_86, (by decide : 0 + 0 ≤ _), (by decide : 0 + 0 ≤ _)⟩)
      dsimp only [Pt.U, Pt.locs, Pt.cells, Pt.slots] at X104 l104 y104 z104 st104 hQ104
      rw [l104, y104, z104] at X104
      obtain ⟨rfl, M104, q104_0⟩ := hQ104
      have N104 := Fr.app N_86 M104
      refine own_go st104 ?_
      refine own_go (B := T104.setTop (mkF m 61 #[.val (.ref a1), .val (.ref a2), .val (.int (own_st w (s0, s1, s2, s3, s4, s5, s6, s7) t).1), .val (.int (own_st w (s0, s1, s2, s3, s4, s5, s6, s7) t).2.1), .val (.int (own_st w (s0, s1, s2, s3, s4, s5, s6, s7) t).2.2.1), .val (.int (own_st w (s0, s1, s2, s3, s4, s5, s6, s7) t).2.2.2.1), .val (.int (own_st w (s0, s1, s2, s3, s4, s5, s6, s7) t).2.2.2.2.1), .val (.int (own_st w (s0, s1, s2, s3, s4, s5, s6, s7) t).2.2.2.2.2.1), .val (.int (own_st w (s0, s1, s2, s3, s4, s5, s6, s7) t).2.2.2.2.2.2.1), .val (.int (own_st w (s0, s1, s2, s3, s4, s5, s6, s7) t).2.2.2.2.2.2.2), .val (.int (Int32.ofNat t)), z86_11, z86_12, z86_13, z86_14, z86_15] [(.int 11), (.int (own_st w (s0, s1, s2, s3, s4, s5, s6, s7) t).2.2.2.2.1), (.int (own_rr (own_st w (s0, s1, s2, s3, s4, s5, s6, s7) t).2.2.2.2.1 (6 : Int32)))])) (fun tg kt => ?_) ?_
      · refine XS.iload X104.here hx rfl (hb hby d4_57) rfl ?_
        refine XS.bipush X104.here hx rfl (hb hby d4_59) ?_
        exact kt
      obtain ⟨_, _, ⟨T105, L105, k105, n105⟩, -, X105, ⟨Lc105, hQ105, l105, y105, z105⟩, st105⟩ := Jvm.LawKit.callS X104 hx (y := (⟨"java/lang/Integer", "rotateRight", "(II)I"⟩ : MethodName)) hown (mvT hZ (hw _ (List.mem_of_getElem? (i := 27) rfl))) (mvT hZ (hw _ (List.mem_of_getElem? (i := 28) rfl))) (mvT hZ (hw _ (List.mem_of_getElem? (i := 29) rfl))) (mvT hZ (hw _ (List.mem_of_getElem? (i := 30) rfl))) (by decide) (backOf (W := 1) (rm3 l Z a0 hw [] ((own_st w (s0, s1, s2, s3, s4, s5, s6, s7) t).2.2.2.2.1) (11 : Int32) h0 n0 Z0 ) hZ (hw _ (List.mem_of_getElem? (i := 30) rfl)) (hw _ (List.mem_of_getElem? (i := 29) rfl)) (by decide) (by decide)) (g := (mkF m 61 #[.val (.ref a1), .val (.ref a2), .val (.int (own_st w (s0, s1, s2, s3, s4, s5, s6, s7) t).1), .val (.int (own_st w (s0, s1, s2, s3, s4, s5, s6, s7) t).2.1), .val (.int (own_st w (s0, s1, s2, s3, s4, s5, s6, s7) t).2.2.1), .val (.int (own_st w (s0, s1, s2, s3, s4, s5, s6, s7) t).2.2.2.1), .val (.int (own_st w (s0, s1, s2, s3, s4, s5, s6, s7) t).2.2.2.2.1), .val (.int (own_st w (s0, s1, s2, s3, s4, s5, s6, s7) t).2.2.2.2.2.1), .val (.int (own_st w (s0, s1, s2, s3, s4, s5, s6, s7) t).2.2.2.2.2.2.1), .val (.int (own_st w (s0, s1, s2, s3, s4, s5, s6, s7) t).2.2.2.2.2.2.2), .val (.int (Int32.ofNat t)), z86_11, z86_12, z86_13, z86_14, z86_15] [(.int 11), (.int (own_st w (s0, s1, s2, s3, s4, s5, s6, s7) t).2.2.2.2.1), (.int (own_rr (own_st w (s0, s1, s2, s3, s4, s5, s6, s7) t).2.2.2.2.1 (6 : Int32)))])) rfl (by rw [hml]; rfl) (argsL := [(.int (own_st w (s0, s1, s2, s3, s4, s5, s6, s7) t).2.2.2.2.1), (.int 11)]) (rest := [(.int (own_rr (own_st w (s0, s1, s2, s3, s4, s5, s6, s7) t).2.2.2.2.1 (6 : Int32)))]) (lenOf pd_0 rfl) rfl (by show 2 * 0 + _ ≤ _; exact Nat.le_of_eq rfl) (hb hby d4_61) (fun _ _ => ⟨rfl, q104_0, (by decide : 0 + 0 ≤ _), (by decide : 0 + 0 ≤ _)⟩)
      dsimp only [Pt.U, Pt.locs, Pt.cells, Pt.slots] at X105 l105 y105 z105 st105 hQ105
      rw [l105, y105, z105] at X105
      obtain ⟨rfl, M105, q105_0⟩ := hQ105
      have N105 := Fr.app N104 M105
      refine own_go st105 ?_
      refine own_go (B := T105.setTop (mkF m 69 #[.val (.ref a1), .val (.ref a2), .val (.int (own_st w (s0, s1, s2, s3, s4, s5, s6, s7) t).1), .val (.int (own_st w (s0, s1, s2, s3, s4, s5, s6, s7) t).2.1), .val (.int (own_st w (s0, s1, s2, s3, s4, s5, s6, s7) t).2.2.1), .val (.int (own_st w (s0, s1, s2, s3, s4, s5, s6, s7) t).2.2.2.1), .val (.int (own_st w (s0, s1, s2, s3, s4, s5, s6, s7) t).2.2.2.2.1), .val (.int (own_st w (s0, s1, s2, s3, s4, s5, s6, s7) t).2.2.2.2.2.1), .val (.int (own_st w (s0, s1, s2, s3, s4, s5, s6, s7) t).2.2.2.2.2.2.1), .val (.int (own_st w (s0, s1, s2, s3, s4, s5, s6, s7) t).2.2.2.2.2.2.2), .val (.int (Int32.ofNat t)), z86_11, z86_12, z86_13, z86_14, z86_15] [(.int 25), (.int (own_st w (s0, s1, s2, s3, s4, s5, s6, s7) t).2.2.2.2.1), (.int ((own_rr (own_st w (s0, s1, s2, s3, s4, s5, s6, s7) t).2.2.2.2.1 (6 : Int32)) ^^^ (own_rr (own_st w (s0, s1, s2, s3, s4, s5, s6, s7) t).2.2.2.2.1 (11 : Int32))))])) (fun tg kt => ?_) ?_
      · refine XS.ixor X105.here hx rfl (hb hby d4_64) rfl ?_
        refine XS.iload X105.here hx rfl (hb hby d4_65) rfl ?_
        refine XS.bipush X105.here hx rfl (hb hby d4_67) ?_
        exact kt
      obtain ⟨_, _, ⟨T106, L106, k106, n106⟩, -, X106, ⟨Lc106, hQ106, l106, y106, z106⟩, st106⟩ := Jvm.LawKit.callS X105 hx (y := (⟨"java/lang/Integer", "rotateRight", "(II)I"⟩ : MethodName)) hown (mvT hZ (hw _ (List.mem_of_getElem? (i := 27) rfl))) (mvT hZ (hw _ (List.mem_of_getElem? (i := 28) rfl))) (mvT hZ (hw _ (List.mem_of_getElem? (i := 29) rfl))) (mvT hZ (hw _ (List.mem_of_getElem? (i := 30) rfl))) (by decide) (backOf (W := 1) (rm3 l Z a0 hw [] ((own_st w (s0, s1, s2, s3, s4, s5, s6, s7) t).2.2.2.2.1) (25 : Int32) h0 n0 Z0 ) hZ (hw _ (List.mem_of_getElem? (i := 30) rfl)) (hw _ (List.mem_of_getElem? (i := 29) rfl)) (by decide) (by decide)) (g := (mkF m 69 #[.val (.ref a1), .val (.ref a2), .val (.int (own_st w (s0, s1, s2, s3, s4, s5, s6, s7) t).1), .val (.int (own_st w (s0, s1, s2, s3, s4, s5, s6, s7) t).2.1), .val (.int (own_st w (s0, s1, s2, s3, s4, s5, s6, s7) t).2.2.1), .val (.int (own_st w (s0, s1, s2, s3, s4, s5, s6, s7) t).2.2.2.1), .val (.int (own_st w (s0, s1, s2, s3, s4, s5, s6, s7) t).2.2.2.2.1), .val (.int (own_st w (s0, s1, s2, s3, s4, s5, s6, s7) t).2.2.2.2.2.1), .val (.int (own_st w (s0, s1, s2, s3, s4, s5, s6, s7) t).2.2.2.2.2.2.1), .val (.int (own_st w (s0, s1, s2, s3, s4, s5, s6, s7) t).2.2.2.2.2.2.2), .val (.int (Int32.ofNat t)), z86_11, z86_12, z86_13, z86_14, z86_15] [(.int 25), (.int (own_st w (s0, s1, s2, s3, s4, s5, s6, s7) t).2.2.2.2.1), (.int ((own_rr (own_st w (s0, s1, s2, s3, s4, s5, s6, s7) t).2.2.2.2.1 (6 : Int32)) ^^^ (own_rr (own_st w (s0, s1, s2, s3, s4, s5, s6, s7) t).2.2.2.2.1 (11 : Int32))))])) rfl (by rw [hml]; rfl) (argsL := [(.int (own_st w (s0, s1, s2, s3, s4, s5, s6, s7) t).2.2.2.2.1), (.int 25)]) (rest := [(.int ((own_rr (own_st w (s0, s1, s2, s3, s4, s5, s6, s7) t).2.2.2.2.1 (6 : Int32)) ^^^ (own_rr (own_st w (s0, s1, s2, s3, s4, s5, s6, s7) t).2.2.2.2.1 (11 : Int32))))]) (lenOf pd_0 rfl) rfl (by show 2 * 0 + _ ≤ _; exact Nat.le_of_eq rfl) (hb hby d4_69) (fun _ _ => ⟨rfl, q105_0, (by decide : 0 + 0 ≤ _), (by decide : 0 + 0 ≤ _)⟩)
      dsimp only [Pt.U, Pt.locs, Pt.cells, Pt.slots] at X106 l106 y106 z106 st106 hQ106
      rw [l106, y106, z106] at X106
      obtain ⟨rfl, M106, q106_0⟩ := hQ106
      have N106 := Fr.app N105 M106
      refine own_go st106 ?_
      refine own_go (B := T106.setTop (mkF m 98 #[.val (.ref a1), .val (.ref a2), .val (.int (own_st w (s0, s1, s2, s3, s4, s5, s6, s7) t).1), .val (.int (own_st w (s0, s1, s2, s3, s4, s5, s6, s7) t).2.1), .val (.int (own_st w (s0, s1, s2, s3, s4, s5, s6, s7) t).2.2.1), .val (.int (own_st w (s0, s1, s2, s3, s4, s5, s6, s7) t).2.2.2.1), .val (.int (own_st w (s0, s1, s2, s3, s4, s5, s6, s7) t).2.2.2.2.1), .val (.int (own_st w (s0, s1, s2, s3, s4, s5, s6, s7) t).2.2.2.2.2.1), .val (.int (own_st w (s0, s1, s2, s3, s4, s5, s6, s7) t).2.2.2.2.2.2.1), .val (.int (own_st w (s0, s1, s2, s3, s4, s5, s6, s7) t).2.2.2.2.2.2.2), .val (.int (Int32.ofNat t)), .val (.int (((own_rr (own_st w (s0, s1, s2, s3, s4, s5, s6, s7) t).2.2.2.2.1 (6 : Int32)) ^^^ (own_rr (own_st w (s0, s1, s2, s3, s4, s5, s6, s7) t).2.2.2.2.1 (11 : Int32))) ^^^ (own_rr (own_st w (s0, s1, s2, s3, s4, s5, s6, s7) t).2.2.2.2.1 (25 : Int32)))), .val (.int (((own_st w (s0, s1, s2, s3, s4, s5, s6, s7) t).2.2.2.2.1 &&& (own_st w (s0, s1, s2, s3, s4, s5, s6, s7) t).2.2.2.2.2.1) ^^^ (((own_st w (s0, s1, s2, s3, s4, s5, s6, s7) t).2.2.2.2.1 ^^^ (-1 : Int32)) &&& (own_st w (s0, s1, s2, s3, s4, s5, s6, s7) t).2.2.2.2.2.2.1))), z86_13, z86_14, z86_15] [(.int (((own_st w (s0, s1, s2, s3, s4, s5, s6, s7) t).2.2.2.2.2.2.2 + (((own_rr (own_st w (s0, s1, s2, s3, s4, s5, s6, s7) t).2.2.2.2.1 (6 : Int32)) ^^^ (own_rr (own_st w (s0, s1, s2, s3, s4, s5, s6, s7) t).2.2.2.2.1 (11 : Int32))) ^^^ (own_rr (own_st w (s0, s1, s2, s3, s4, s5, s6, s7) t).2.2.2.2.1 (25 : Int32)))) + (((own_st w (s0, s1, s2, s3, s4, s5, s6, s7) t).2.2.2.2.1 &&& (own_st w (s0, s1, s2, s3, s4, s5, s6, s7) t).2.2.2.2.2.1) ^^^ (((own_st w (s0, s1, s2, s3, s4, s5, s6, s7) t).2.2.2.2.1 ^^^ (-1 : Int32)) &&& (own_st w (s0, s1, s2, s3, s4, s5, s6, s7) t).2.2.2.2.2.2.1))))])) (fun tg kt => ?_) ?_
      · refine XS.ixor X106.here hx rfl (hb hby d4_72) rfl ?_
        refine XS.istoreS X106.here hx rfl (hb hby d4_73) rfl rfl hz86_11 ?_
        refine XS.iload X106.here hx rfl (hb hby d4_75) rfl ?_
        refine XS.iload X106.here hx rfl (hb hby d4_77) rfl ?_
        refine XS.iand X106.here hx rfl (hb hby d4_79) rfl ?_
        refine XS.iload X106.here hx rfl (hb hby d4_80) rfl ?_
        refine XS.iconst X106.here hx rfl (hb hby d4_82) ?_
        refine XS.ixor X106.here hx rfl (hb hby d4_83) rfl ?_
        refine XS.iload X106.here hx rfl (hb hby d4_84) rfl ?_
        refine XS.iand X106.here hx rfl (hb hby d4_86) rfl ?_
        refine XS.ixor X106.here hx rfl (hb hby d4_87) rfl ?_
        refine XS.istoreS X106.here hx rfl (hb hby d4_88) rfl rfl hz86_12 ?_
        refine XS.iload X106.here hx rfl (hb hby d4_90) rfl ?_
        refine XS.iload X106.here hx rfl (hb hby d4_92) rfl ?_
        refine XS.iadd X106.here hx rfl (hb hby d4_94) rfl ?_
        refine XS.iload X106.here hx rfl (hb hby d4_95) rfl ?_
        refine XS.iadd X106.here hx rfl (hb hby d4_97) rfl ?_
        exact kt
      obtain ⟨T107, X107, e107, st107⟩ := getS2 X106 hx hZ hown (host := "") (Or.inl (hw _ (List.mem_of_getElem? (i := 34) rfl))) Via.refl q106_0 S_ROUND (g := (mkF m 98 #[.val (.ref a1), .val (.ref a2), .val (.int (own_st w (s0, s1, s2, s3, s4, s5, s6, s7) t).1), .val (.int (own_st w (s0, s1, s2, s3, s4, s5, s6, s7) t).2.1), .val (.int (own_st w (s0, s1, s2, s3, s4, s5, s6, s7) t).2.2.1), .val (.int (own_st w (s0, s1, s2, s3, s4, s5, s6, s7) t).2.2.2.1), .val (.int (own_st w (s0, s1, s2, s3, s4, s5, s6, s7) t).2.2.2.2.1), .val (.int (own_st w (s0, s1, s2, s3, s4, s5, s6, s7) t).2.2.2.2.2.1), .val (.int (own_st w (s0, s1, s2, s3, s4, s5, s6, s7) t).2.2.2.2.2.2.1), .val (.int (own_st w (s0, s1, s2, s3, s4, s5, s6, s7) t).2.2.2.2.2.2.2), .val (.int (Int32.ofNat t)), .val (.int (((own_rr (own_st w (s0, s1, s2, s3, s4, s5, s6, s7) t).2.2.2.2.1 (6 : Int32)) ^^^ (own_rr (own_st w (s0, s1, s2, s3, s4, s5, s6, s7) t).2.2.2.2.1 (11 : Int32))) ^^^ (own_rr (own_st w (s0, s1, s2, s3, s4, s5, s6, s7) t).2.2.2.2.1 (25 : Int32)))), .val (.int (((own_st w (s0, s1, s2, s3, s4, s5, s6, s7) t).2.2.2.2.1 &&& (own_st w (s0, s1, s2, s3, s4, s5, s6, s7) t).2.2.2.2.2.1) ^^^ (((own_st w (s0, s1, s2, s3, s4, s5, s6, s7) t).2.2.2.2.1 ^^^ (-1 : Int32)) &&& (own_st w (s0, s1, s2, s3, s4, s5, s6, s7) t).2.2.2.2.2.2.1))), z86_13, z86_14, z86_15] [(.int (((own_st w (s0, s1, s2, s3, s4, s5, s6, s7) t).2.2.2.2.2.2.2 + (((own_rr (own_st w (s0, s1, s2, s3, s4, s5, s6, s7) t).2.2.2.2.1 (6 : Int32)) ^^^ (own_rr (own_st w (s0, s1, s2, s3, s4, s5, s6, s7) t).2.2.2.2.1 (11 : Int32))) ^^^ (own_rr (own_st w (s0, s1, s2, s3, s4, s5, s6, s7) t).2.2.2.2.1 (25 : Int32)))) + (((own_st w (s0, s1, s2, s3, s4, s5, s6, s7) t).2.2.2.2.1 &&& (own_st w (s0, s1, s2, s3, s4, s5, s6, s7) t).2.2.2.2.2.1) ^^^ (((own_st w (s0, s1, s2, s3, s4, s5, s6, s7) t).2.2.2.2.1 ^^^ (-1 : Int32)) &&& (own_st w (s0, s1, s2, s3, s4, s5, s6, s7) t).2.2.2.2.2.2.1))))])) rfl (hb hby d4_98)
      refine own_go st107 ?_
      refine own_go (B := T107.setTop (mkF m 103 #[.val (.ref a1), .val (.ref a2), .val (.int (own_st w (s0, s1, s2, s3, s4, s5, s6, s7) t).1), .val (.int (own_st w (s0, s1, s2, s3, s4, s5, s6, s7) t).2.1), .val (.int (own_st w (s0, s1, s2, s3, s4, s5, s6, s7) t).2.2.1), .val (.int (own_st w (s0, s1, s2, s3, s4, s5, s6, s7) t).2.2.2.1), .val (.int (own_st w (s0, s1, s2, s3, s4, s5, s6, s7) t).2.2.2.2.1), .val (.int (own_st w (s0, s1, s2, s3, s4, s5, s6, s7) t).2.2.2.2.2.1), .val (.int (own_st w (s0, s1, s2, s3, s4, s5, s6, s7) t).2.2.2.2.2.2.1), .val (.int (own_st w (s0, s1, s2, s3, s4, s5, s6, s7) t).2.2.2.2.2.2.2), .val (.int (Int32.ofNat t)), .val (.int (((own_rr (own_st w (s0, s1, s2, s3, s4, s5, s6, s7) t).2.2.2.2.1 (6 : Int32)) ^^^ (own_rr (own_st w (s0, s1, s2, s3, s4, s5, s6, s7) t).2.2.2.2.1 (11 : Int32))) ^^^ (own_rr (own_st w (s0, s1, s2, s3, s4, s5, s6, s7) t).2.2.2.2.1 (25 : Int32)))), .val (.int (((own_st w (s0, s1, s2, s3, s4, s5, s6, s7) t).2.2.2.2.1 &&& (own_st w (s0, s1, s2, s3, s4, s5, s6, s7) t).2.2.2.2.2.1) ^^^ (((own_st w (s0, s1, s2, s3, s4, s5, s6, s7) t).2.2.2.2.1 ^^^ (-1 : Int32)) &&& (own_st w (s0, s1, s2, s3, s4, s5, s6, s7) t).2.2.2.2.2.2.1))), z86_13, z86_14, z86_15] [(.int (Int32.ofNat t)), (.ref w_ROUND), (.int (((own_st w (s0, s1, s2, s3, s4, s5, s6, s7) t).2.2.2.2.2.2.2 + (((own_rr (own_st w (s0, s1, s2, s3, s4, s5, s6, s7) t).2.2.2.2.1 (6 : Int32)) ^^^ (own_rr (own_st w (s0, s1, s2, s3, s4, s5, s6, s7) t).2.2.2.2.1 (11 : Int32))) ^^^ (own_rr (own_st w (s0, s1, s2, s3, s4, s5, s6, s7) t).2.2.2.2.1 (25 : Int32)))) + (((own_st w (s0, s1, s2, s3, s4, s5, s6, s7) t).2.2.2.2.1 &&& (own_st w (s0, s1, s2, s3, s4, s5, s6, s7) t).2.2.2.2.2.1) ^^^ (((own_st w (s0, s1, s2, s3, s4, s5, s6, s7) t).2.2.2.2.1 ^^^ (-1 : Int32)) &&& (own_st w (s0, s1, s2, s3, s4, s5, s6, s7) t).2.2.2.2.2.2.1))))])) (fun tg kt => ?_) ?_
      · refine XS.iload X107.here hx rfl (hb hby d4_101) rfl ?_
        exact kt
      obtain ⟨cl108, Ar108, cq108, cS108, cN108, cH108, cG108⟩ := id V_ROUND
      have hin108 := inb_of (j := (Int32.ofNat t)) cS108 (own_lt64 ht86)
      have hat108 : cl108.slots[((Int32.ofNat t)).toNatClampNeg]? = some (.int (own_K t)) := Has.at cH108 hin108 (own_at own_K _ (own_toInt (by omega)) (by omega))
      refine own_go (B := T107.setTop (mkF m 108 #[.val (.ref a1), .val (.ref a2), .val (.int (own_st w (s0, s1, s2, s3, s4, s5, s6, s7) t).1), .val (.int (own_st w (s0, s1, s2, s3, s4, s5, s6, s7) t).2.1), .val (.int (own_st w (s0, s1, s2, s3, s4, s5, s6, s7) t).2.2.1), .val (.int (own_st w (s0, s1, s2, s3, s4, s5, s6, s7) t).2.2.2.1), .val (.int (own_st w (s0, s1, s2, s3, s4, s5, s6, s7) t).2.2.2.2.1), .val (.int (own_st w (s0, s1, s2, s3, s4, s5, s6, s7) t).2.2.2.2.2.1), .val (.int (own_st w (s0, s1, s2, s3, s4, s5, s6, s7) t).2.2.2.2.2.2.1), .val (.int (own_st w (s0, s1, s2, s3, s4, s5, s6, s7) t).2.2.2.2.2.2.2), .val (.int (Int32.ofNat t)), .val (.int (((own_rr (own_st w (s0, s1, s2, s3, s4, s5, s6, s7) t).2.2.2.2.1 (6 : Int32)) ^^^ (own_rr (own_st w (s0, s1, s2, s3, s4, s5, s6, s7) t).2.2.2.2.1 (11 : Int32))) ^^^ (own_rr (own_st w (s0, s1, s2, s3, s4, s5, s6, s7) t).2.2.2.2.1 (25 : Int32)))), .val (.int (((own_st w (s0, s1, s2, s3, s4, s5, s6, s7) t).2.2.2.2.1 &&& (own_st w (s0, s1, s2, s3, s4, s5, s6, s7) t).2.2.2.2.2.1) ^^^ (((own_st w (s0, s1, s2, s3, s4, s5, s6, s7) t).2.2.2.2.1 ^^^ (-1 : Int32)) &&& (own_st w (s0, s1, s2, s3, s4, s5, s6, s7) t).2.2.2.2.2.2.1))), z86_13, z86_14, z86_15] [(.int (Int32.ofNat t)), (.ref a2), (.int ((((own_st w (s0, s1, s2, s3, s4, s5, s6, s7) t).2.2.2.2.2.2.2 + (((own_rr (own_st w (s0, s1, s2, s3, s4, s5, s6, s7) t).2.2.2.2.1 (6 : Int32)) ^^^ (own_rr (own_st w (s0, s1, s2, s3, s4, s5, s6, s7) t).2.2.2.2.1 (11 : Int32))) ^^^ (own_rr (own_st w (s0, s1, s2, s3, s4, s5, s6, s7) t).2.2.2.2.1 (25 : Int32)))) + (((own_st w (s0, s1, s2, s3, s4, s5, s6, s7) t).2.2.2.2.1 &&& (own_st w (s0, s1, s2, s3, s4, s5, s6, s7) t).2.2.2.2.2.1) ^^^ (((own_st w (s0, s1, s2, s3, s4, s5, s6, s7) t).2.2.2.2.1 ^^^ (-1 : Int32)) &&& (own_st w (s0, s1, s2, s3, s4, s5, s6, s7) t).2.2.2.2.2.2.1))) + (own_K t)))])) (fun tg kt => ?_) ?_
      · refine X107.iaload hx (j := (Int32.ofNat t)) (v := (.int (own_K t))) (by rw [e107]; exact Ar108.1) (State.isArrayOf_alike hZ.alike Ar108.2.1) Ar108.2.2 hin108 hat108 (g := (mkF m 103 #[.val (.ref a1), .val (.ref a2), .val (.int (own_st w (s0, s1, s2, s3, s4, s5, s6, s7) t).1), .val (.int (own_st w (s0, s1, s2, s3, s4, s5, s6, s7) t).2.1), .val (.int (own_st w (s0, s1, s2, s3, s4, s5, s6, s7) t).2.2.1), .val (.int (own_st w (s0, s1, s2, s3, s4, s5, s6, s7) t).2.2.2.1), .val (.int (own_st w (s0, s1, s2, s3, s4, s5, s6, s7) t).2.2.2.2.1), .val (.int (own_st w (s0, s1, s2, s3, s4, s5, s6, s7) t).2.2.2.2.2.1), .val (.int (own_st w (s0, s1, s2, s3, s4, s5, s6, s7) t).2.2.2.2.2.2.1), .val (.int (own_st w (s0, s1, s2, s3, s4, s5, s6, s7) t).2.2.2.2.2.2.2), .val (.int (Int32.ofNat t)), .val (.int (((own_rr (own_st w (s0, s1, s2, s3, s4, s5, s6, s7) t).2.2.2.2.1 (6 : Int32)) ^^^ (own_rr (own_st w (s0, s1, s2, s3, s4, s5, s6, s7) t).2.2.2.2.1 (11 : Int32))) ^^^ (own_rr (own_st w (s0, s1, s2, s3, s4, s5, s6, s7) t).2.2.2.2.1 (25 : Int32)))), .val (.int (((own_st w (s0, s1, s2, s3, s4, s5, s6, s7) t).2.2.2.2.1 &&& (own_st w (s0, s1, s2, s3, s4, s5, s6, s7) t).2.2.2.2.2.1) ^^^ (((own_st w (s0, s1, s2, s3, s4, s5, s6, s7) t).2.2.2.2.1 ^^^ (-1 : Int32)) &&& (own_st w (s0, s1, s2, s3, s4, s5, s6, s7) t).2.2.2.2.2.2.1))), z86_13, z86_14, z86_15] [(.int (Int32.ofNat t)), (.ref w_ROUND), (.int (((own_st w (s0, s1, s2, s3, s4, s5, s6, s7) t).2.2.2.2.2.2.2 + (((own_rr (own_st w (s0, s1, s2, s3, s4, s5, s6, s7) t).2.2.2.2.1 (6 : Int32)) ^^^ (own_rr (own_st w (s0, s1, s2, s3, s4, s5, s6, s7) t).2.2.2.2.1 (11 : Int32))) ^^^ (own_rr (own_st w (s0, s1, s2, s3, s4, s5, s6, s7) t).2.2.2.2.1 (25 : Int32)))) + (((own_st w (s0, s1, s2, s3, s4, s5, s6, s7) t).2.2.2.2.1 &&& (own_st w (s0, s1, s2, s3, s4, s5, s6, s7) t).2.2.2.2.2.1) ^^^ (((own_st w (s0, s1, s2, s3, s4, s5, s6, s7) t).2.2.2.2.1 ^^^ (-1 : Int32)) &&& (own_st w (s0, s1, s2, s3, s4, s5, s6, s7) t).2.2.2.2.2.2.1))))])) rfl rfl (hb hby d4_103) _ ?_
        refine XS.iadd X107.here hx rfl (hb hby d4_104) rfl ?_
        refine XS.aloadN X107.here hx rfl (hb hby d4_105) rfl rfl ?_
        refine XS.iload X107.here hx rfl (hb hby d4_106) rfl ?_
        exact kt
      obtain ⟨cl109, Ar109, cq109, cS109, cN109, cH109, cG109⟩ := id V_2
      have hin109 := inb_of (j := (Int32.ofNat t)) cS109 (own_lt64 ht86)
      have hat109 : cl109.slots[((Int32.ofNat t)).toNatClampNeg]? = some (.int (w t)) := Has.at cH109 hin109 (own_at w _ (own_toInt (by omega)) (by omega))
      refine own_go (B := T107.setTop (mkF m 114 #[.val (.ref a1), .val (.ref a2), .val (.int (own_st w (s0, s1, s2, s3, s4, s5, s6, s7) t).1), .val (.int (own_st w (s0, s1, s2, s3, s4, s5, s6, s7) t).2.1), .val (.int (own_st w (s0, s1, s2, s3, s4, s5, s6, s7) t).2.2.1), .val (.int (own_st w (s0, s1, s2, s3, s4, s5, s6, s7) t).2.2.2.1), .val (.int (own_st w (s0, s1, s2, s3, s4, s5, s6, s7) t).2.2.2.2.1), .val (.int (own_st w (s0, s1, s2, s3, s4, s5, s6, s7) t).2.2.2.2.2.1), .val (.int (own_st w (s0, s1, s2, s3, s4, s5, s6, s7) t).2.2.2.2.2.2.1), .val (.int (own_st w (s0, s1, s2, s3, s4, s5, s6, s7) t).2.2.2.2.2.2.2), .val (.int (Int32.ofNat t)), .val (.int (((own_rr (own_st w (s0, s1, s2, s3, s4, s5, s6, s7) t).2.2.2.2.1 (6 : Int32)) ^^^ (own_rr (own_st w (s0, s1, s2, s3, s4, s5, s6, s7) t).2.2.2.2.1 (11 : Int32))) ^^^ (own_rr (own_st w (s0, s1, s2, s3, s4, s5, s6, s7) t).2.2.2.2.1 (25 : Int32)))), .val (.int (((own_st w (s0, s1, s2, s3, s4, s5, s6, s7) t).2.2.2.2.1 &&& (own_st w (s0, s1, s2, s3, s4, s5, s6, s7) t).2.2.2.2.2.1) ^^^ (((own_st w (s0, s1, s2, s3, s4, s5, s6, s7) t).2.2.2.2.1 ^^^ (-1 : Int32)) &&& (own_st w (s0, s1, s2, s3, s4, s5, s6, s7) t).2.2.2.2.2.2.1))), .val (.int (((((own_st w (s0, s1, s2, s3, s4, s5, s6, s7) t).2.2.2.2.2.2.2 + (((own_rr (own_st w (s0, s1, s2, s3, s4, s5, s6, s7) t).2.2.2.2.1 (6 : Int32)) ^^^ (own_rr (own_st w (s0, s1, s2, s3, s4, s5, s6, s7) t).2.2.2.2.1 (11 : Int32))) ^^^ (own_rr (own_st w (s0, s1, s2, s3, s4, s5, s6, s7) t).2.2.2.2.1 (25 : Int32)))) + (((own_st w (s0, s1, s2, s3, s4, s5, s6, s7) t).2.2.2.2.1 &&& (own_st w (s0, s1, s2, s3, s4, s5, s6, s7) t).2.2.2.2.2.1) ^^^ (((own_st w (s0, s1, s2, s3, s4, s5, s6, s7) t).2.2.2.2.1 ^^^ (-1 : Int32)) &&& (own_st w (s0, s1, s2, s3, s4, s5, s6, s7) t).2.2.2.2.2.2.1))) + (own_K t)) + (w t))), z86_14, z86_15] [(.int 2), (.int (own_st w (s0, s1, s2, s3, s4, s5, s6, s7) t).1)])) (fun tg kt => ?_) ?_
      · refine X107.iaload hx (j := (Int32.ofNat t)) (v := (.int (w t))) (by rw [e107]; exact Ar109.1) (State.isArrayOf_alike hZ.alike Ar109.2.1) Ar109.2.2 hin109 hat109 (g := (mkF m 108 #[.val (.ref a1), .val (.ref a2), .val (.int (own_st w (s0, s1, s2, s3, s4, s5, s6, s7) t).1), .val (.int (own_st w (s0, s1, s2, s3, s4, s5, s6, s7) t).2.1), .val (.int (own_st w (s0, s1, s2, s3, s4, s5, s6, s7) t).2.2.1), .val (.int (own_st w (s0, s1, s2, s3, s4, s5, s6, s7) t).2.2.2.1), .val (.int (own_st w (s0, s1, s2, s3, s4, s5, s6, s7) t).2.2.2.2.1), .val (.int (own_st w (s0, s1, s2, s3, s4, s5, s6, s7) t).2.2.2.2.2.1), .val (.int (own_st w (s0, s1, s2, s3, s4, s5, s6, s7) t).2.2.2.2.2.2.1), .val (.int (own_st w (s0, s1, s2, s3, s4, s5, s6, s7) t).2.2.2.2.2.2.2), .val (.int (Int32.ofNat t)), .val (.int (((own_rr (own_st w (s0, s1, s2, s3, s4, s5, s6, s7) t).2.2.2.2.1 (6 : Int32)) ^^^ (own_rr (own_st w (s0, s1, s2, s3, s4, s5, s6, s7) t).2.2.2.2.1 (11 : Int32))) ^^^ (own_rr (own_st w (s0, s1, s2, s3, s4, s5, s6, s7) t).2.2.2.2.1 (25 : Int32)))), .val (.int (((own_st w (s0, s1, s2, s3, s4, s5, s6, s7) t).2.2.2.2.1 &&& (own_st w (s0, s1, s2, s3, s4, s5, s6, s7) t).2.2.2.2.2.1) ^^^ (((own_st w (s0, s1, s2, s3, s4, s5, s6, s7) t).2.2.2.2.1 ^^^ (-1 : Int32)) &&& (own_st w (s0, s1, s2, s3, s4, s5, s6, s7) t).2.2.2.2.2.2.1))), z86_13, z86_14, z86_15] [(.int (Int32.ofNat t)), (.ref a2), (.int ((((own_st w (s0, s1, s2, s3, s4, s5, s6, s7) t).2.2.2.2.2.2.2 + (((own_rr (own_st w (s0, s1, s2, s3, s4, s5, s6, s7) t).2.2.2.2.1 (6 : Int32)) ^^^ (own_rr (own_st w (s0, s1, s2, s3, s4, s5, s6, s7) t).2.2.2.2.1 (11 : Int32))) ^^^ (own_rr (own_st w (s0, s1, s2, s3, s4, s5, s6, s7) t).2.2.2.2.1 (25 : Int32)))) + (((own_st w (s0, s1, s2, s3, s4, s5, s6, s7) t).2.2.2.2.1 &&& (own_st w (s0, s1, s2, s3, s4, s5, s6, s7) t).2.2.2.2.2.1) ^^^ (((own_st w (s0, s1, s2, s3, s4, s5, s6, s7) t).2.2.2.2.1 ^^^ (-1 : Int32)) &&& (own_st w (s0, s1, s2, s3, s4, s5, s6, s7) t).2.2.2.2.2.2.1))) + (own_K t)))])) rfl rfl (hb hby d4_108) _ ?_
        refine XS.iadd X107.here hx rfl (hb hby d4_109) rfl ?_
        refine XS.istoreS X107.here hx rfl (hb hby d4_110) rfl rfl hz86_13 ?_
        refine XS.iloadN X107.here hx rfl (hb hby d4_112) rfl ?_
        refine XS.iconst X107.here hx rfl (hb hby d4_113) ?_
        exact kt
      obtain ⟨_, _, ⟨T110, L110, k110, n110⟩, -, X110, ⟨Lc110, hQ110, l110, y110, z110⟩, st110⟩ := Jvm.LawKit.callS X107 hx (y := (⟨"java/lang/Integer", "rotateRight", "(II)I"⟩ : MethodName)) hown (mvT hZ (hw _ (List.mem_of_getElem? (i := 27) rfl))) (mvT hZ (hw _ (List.mem_of_getElem? (i := 28) rfl))) (mvT hZ (hw _ (List.mem_of_getElem? (i := 29) rfl))) (mvT hZ (hw _ (List.mem_of_getElem? (i := 30) rfl))) (by decide) (backOf (W := 0) (rm3 l Z a0 hw [] ((own_st w (s0, s1, s2, s3, s4, s5, s6, s7) t).1) (2 : Int32) h0 n0 Z0 ) hZ (hw _ (List.mem_of_getElem? (i := 30) rfl)) (hw _ (List.mem_of_getElem? (i := 29) rfl)) (by decide) (by decide)) (g := (mkF m 114 #[.val (.ref a1), .val (.ref a2), .val (.int (own_st w (s0, s1, s2, s3, s4, s5, s6, s7) t).1), .val (.int (own_st w (s0, s1, s2, s3, s4, s5, s6, s7) t).2.1), .val (.int (own_st w (s0, s1, s2, s3, s4, s5, s6, s7) t).2.2.1), .val (.int (own_st w (s0, s1, s2, s3, s4, s5, s6, s7) t).2.2.2.1), .val (.int (own_st w (s0, s1, s2, s3, s4, s5, s6, s7) t).2.2.2.2.1), .val (.int (own_st w (s0, s1, s2, s3, s4, s5, s6, s7) t).2.2.2.2.2.1), .val (.int (own_st w (s0, s1, s2, s3, s4, s5, s6, s7) t).2.2.2.2.2.2.1), .val (.int (own_st w (s0, s1, s2, s3, s4, s5, s6, s7) t).2.2.2.2.2.2.2), .val (.int (Int32.ofNat t)), .val (.int (((own_rr (own_st w (s0, s1, s2, s3, s4, s5, s6, s7) t).2.2.2.2.1 (6 : Int32)) ^^^ (own_rr (own_st w (s0, s1, s2, s3, s4, s5, s6, s7) t).2.2.2.2.1 (11 : Int32))) ^^^ (own_rr (own_st w (s0, s1, s2, s3, s4, s5, s6, s7) t).2.2.2.2.1 (25 : Int32)))), .val (.int (((own_st w (s0, s1, s2, s3, s4, s5, s6, s7) t).2.2.2.2.1 &&& (own_st w (s0, s1, s2, s3, s4, s5, s6, s7) t).2.2.2.2.2.1) ^^^ (((own_st w (s0, s1, s2, s3, s4, s5, s6, s7) t).2.2.2.2.1 ^^^ (-1 : Int32)) &&& (own_st w (s0, s1, s2, s3, s4, s5, s6, s7) t).2.2.2.2.2.2.1))), .val (.int (((((own_st w (s0, s1, s2, s3, s4, s5, s6, s7) t).2.2.2.2.2.2.2 + (((own_rr (own_st w (s0, s1, s2, s3, s4, s5, s6, s7) t).2.2.2.2.1 (6 : Int32)) ^^^ (own_rr (own_st w (s0, s1, s2, s3, s4, s5, s6, s7) t).2.2.2.2.1 (11 : Int32))) ^^^ (own_rr (own_st w (s0, s1, s2, s3, s4, s5, s6, s7) t).2.2.2.2.1 (25 : Int32)))) + (((own_st w (s0, s1, s2, s3, s4, s5, s6, s7) t).2.2.2.2.1 &&& (own_st w (s0, s1, s2, s3, s4, s5, s6, s7) t).2.2.2.2.2.1) ^^^ (((own_st w (s0, s1, s2, s3, s4, s5, s6, s7) t).2.2.2.2.1 ^^^ (-1 : Int32)) &&& (own_st w (s0, s1, s2, s3, s4, s5, s6, s7) t).2.2.2.2.2.2.1))) + (own_K t)) + (w t))), z86_14, z86_15] [(.int 2), (.int (own_st w (s0, s1, s2, s3, s4, s5, s6, s7) t).1)])) rfl (by rw [hml]; rfl) (argsL := [(.int (own_st w (s0, s1, s2, s3, s4, s5, s6, s7) t).1), (.int 2)]) (rest := []) (lenOf pd_0 rfl) rfl (by show 2 * 0 + _ ≤ _; exact Nat.le_of_eq rfl) (hb hby d4_114) (fun _ _ => ⟨rfl, e107, (by decide : 0 + 0 ≤ _), (by decide : 0 + 0 ≤ _)⟩)
      dsimp only [Pt.U, Pt.locs, Pt.cells, Pt.slots] at X110 l110 y110 z110 st110 hQ110
      rw [l110, y110, z110] at X110
      obtain ⟨rfl, M110, q110_0⟩ := hQ110
      have N110 := Fr.app N106 M110
      refine own_go st110 ?_
      refine own_go (B := T110.setTop (mkF m 120 #[.val (.ref a1), .val (.ref a2), .val (.int (own_st w (s0, s1, s2, s3, s4, s5, s6, s7) t).1), .val (.int (own_st w (s0, s1, s2, s3, s4, s5, s6, s7) t).2.1), .val (.int (own_st w (s0, s1, s2, s3, s4, s5, s6, s7) t).2.2.1), .val (.int (own_st w (s0, s1, s2, s3, s4, s5, s6, s7) t).2.2.2.1), .val (.int (own_st w (s0, s1, s2, s3, s4, s5, s6, s7) t).2.2.2.2.1), .val (.int (own_st w (s0, s1, s2, s3, s4, s5, s6, s7) t).2.2.2.2.2.1), .val (.int (own_st w (s0, s1, s2, s3, s4, s5, s6, s7) t).2.2.2.2.2.2.1), .val (.int (own_st w (s0, s1, s2, s3, s4, s5, s6, s7) t).2.2.2.2.2.2.2), .val (.int (Int32.ofNat t)), .val (.int (((own_rr (own_st w (s0, s1, s2, s3, s4, s5, s6, s7) t).2.2.2.2.1 (6 : Int32)) ^^^ (own_rr (own_st w (s0, s1, s2, s3, s4, s5, s6, s7) t).2.2.2.2.1 (11 : Int32))) ^^^ (own_rr (own_st w (s0, s1, s2, s3, s4, s5, s6, s7) t).2.2.2.2.1 (25 : Int32)))), .val (.int (((own_st w (s0, s1, s2, s3, s4, s5, s6, s7) t).2.2.2.2.1 &&& (own_st w (s0, s1, s2, s3, s4, s5, s6, s7) t).2.2.2.2.2.1) ^^^ (((own_st w (s0, s1, s2, s3, s4, s5, s6, s7) t).2.2.2.2.1 ^^^ (-1 : Int32)) &&& (own_st w (s0, s1, s2, s3, s4, s5, s6, s7) t).2.2.2.2.2.2.1))), .val (.int (((((own_st w (s0, s1, s2, s3, s4, s5, s6, s7) t).2.2.2.2.2.2.2 + (((own_rr (own_st w (s0, s1, s2, s3, s4, s5, s6, s7) t).2.2.2.2.1 (6 : Int32)) ^^^ (own_rr (own_st w (s0, s1, s2, s3, s4, s5, s6, s7) t).2.2.2.2.1 (11 : Int32))) ^^^ (own_rr (own_st w (s0, s1, s2, s3, s4, s5, s6, s7) t).2.2.2.2.1 (25 : Int32)))) + (((own_st w (s0, s1, s2, s3, s4, s5, s6, s7) t).2.2.2.2.1 &&& (own_st w (s0, s1, s2, s3, s4, s5, s6, s7) t).2.2.2.2.2.1) ^^^ (((own_st w (s0, s1, s2, s3, s4, s5, s6, s7) t).2.2.2.2.1 ^^^ (-1 : Int32)) &&& (own_st w (s0, s1, s2, s3, s4, s5, s6, s7) t).2.2.2.2.2.2.1))) + (own_K t)) + (w t))), z86_14, z86_15] [(.int 13), (.int (own_st w (s0, s1, s2, s3, s4, s5, s6, s7) t).1), (.int (own_rr (own_st w (s0, s1, s2, s3, s4, s5, s6, s7) t).1 (2 : Int32)))])) (fun tg kt => ?_) ?_
      · refine XS.iloadN X110.here hx rfl (hb hby d4_117) rfl ?_
        refine XS.bipush X110.here hx rfl (hb hby d4_118) ?_
        exact kt
      obtain ⟨_, _, ⟨T111, L111, k111, n111⟩, -, X111, ⟨Lc111, hQ111, l111, y111, z111⟩, st111⟩ := Jvm.LawKit.callS X110 hx (y := (⟨"java/lang/Integer", "rotateRight", "(II)I"⟩ : MethodName)) hown (mvT hZ (hw _ (List.mem_of_getElem? (i := 27) rfl))) (mvT hZ (hw _ (List.mem_of_getElem? (i := 28) rfl))) (mvT hZ (hw _ (List.mem_of_getElem? (i := 29) rfl))) (mvT hZ (hw _ (List.mem_of_getElem? (i := 30) rfl))) (by decide) (backOf (W := 1) (rm3 l Z a0 hw [] ((own_st w (s0, s1, s2, s3, s4, s5, s6, s7) t).1) (13 : Int32) h0 n0 Z0 ) hZ (hw _ (List.mem_of_getElem? (i := 30) rfl)) (hw _ (List.mem_of_getElem? (i := 29) rfl)) (by decide) (by decide)) (g := (mkF m 120 #[.val (.ref a1), .val (.ref a2), .val (.int (own_st w (s0, s1, s2, s3, s4, s5, s6, s7) t).1), .val (.int (own_st w (s0, s1, s2, s3, s4, s5, s6, s7) t).2.1), .val (.int (own_st w (s0, s1, s2, s3, s4, s5, s6, s7) t).2.2.1), .val (.int (own_st w (s0, s1, s2, s3, s4, s5, s6, s7) t).2.2.2.1), .val (.int (own_st w (s0, s1, s2, s3, s4, s5, s6, s7) t).2.2.2.2.1), .val (.int (own_st w (s0, s1, s2, s3, s4, s5, s6, s7) t).2.2.2.2.2.1), .val (.int (own_st w (s0, s1, s2, s3, s4, s5, s6, s7) t).2.2.2.2.2.2.1), .val (.int (own_st w (s0, s1, s2, s3, s4, s5, s6, s7) t).2.2.2.2.2.2.2), .val (.int (Int32.ofNat t)), .val (.int (((own_rr (own_st w (s0, s1, s2, s3, s4, s5, s6, s7) t).2.2.2.2.1 (6 : Int32)) ^^^ (own_rr (own_st w (s0, s1, s2, s3, s4, s5, s6, s7) t).2.2.2.2.1 (11 : Int32))) ^^^ (own_rr (own_st w (s0, s1, s2, s3, s4, s5, s6, s7) t).2.2.2.2.1 (25 : Int32)))), .val (.int (((own_st w (s0, s1, s2, s3, s4, s5, s6, s7) t).2.2.2.2.1 &&& (own_st w (s0, s1, s2, s3, s4, s5, s6, s7) t).2.2.2.2.2.1) ^^^ (((own_st w (s0, s1, s2, s3, s4, s5, s6, s7) t).2.2.2.2.1 ^^^ (-1 : Int32)) &&& (own_st w (s0, s1, s2, s3, s4, s5, s6, s7) t).2.2.2.2.2.2.1))), .val (.int (((((own_st w (s0, s1, s2, s3, s4, s5, s6, s7) t).2.2.2.2.2.2.2 + (((own_rr (own_st w (s0, s1, s2, s3, s4, s5, s6, s7) t).2.2.2.2.1 (6 : Int32)) ^^^ (own_rr (own_st w (s0, s1, s2, s3, s4, s5, s6, s7) t).2.2.2.2.1 (11 : Int32))) ^^^ (own_rr (own_st w (s0, s1, s2, s3, s4, s5, s6, s7) t).2.2.2.2.1 (25 : Int32)))) + (((own_st w (s0, s1, s2, s3, s4, s5, s6, s7) t).2.2.2.2.1 &&& (own_st w (s0, s1, s2, s3, s4, s5, s6, s7) t).2.2.2.2.2.1) ^^^ (((own_st w (s0, s1, s2, s3, s4, s5, s6, s7) t).2.2.2.2.1 ^^^ (-1 : Int32)) &&& (own_st w (s0, s1, s2, s3, s4, s5, s6, s7) t).2.2.2.2.2.2.1))) + (own_K t)) + (w t))), z86_14, z86_15] [(.int 13), (.int (own_st w (s0, s1, s2, s3, s4, s5, s6, s7) t).1), (.int (own_rr (own_st w (s0, s1, s2, s3, s4, s5, s6, s7) t).1 (2 : Int32)))])) rfl (by rw [hml]; rfl) (argsL := [(.int (own_st w (s0, s1, s2, s3, s4, s5, s6, s7) t).1), (.int 13)]) (rest := [(.int (own_rr (own_st w (s0, s1, s2, s3, s4, s5, s6, s7) t).1 (2 : Int32)))]) (lenOf pd_0 rfl) rfl (by show 2 * 0 + _ ≤ _; exact Nat.le_of_eq rfl) (hb hby d4_120) (fun _ _ => ⟨rfl, q110_0, (by decide : 0 + 0 ≤ _), (by decide : 0 + 0 ≤ _)⟩)
      dsimp only [Pt.U, Pt.locs, Pt.cells, Pt.slots] at X111 l111 y111 z111 st111 hQ111
      rw [l111, y111, z111] at X111
      obtain ⟨rfl, M111, q111_0⟩ := hQ111
      have N111 := Fr.app N110 M111
      refine own_go st111 ?_
      refine own_go (B := T111.setTop (mkF m 127 #[.val (.ref a1), .val (.ref a2), .val (.int (own_st w (s0, s1, s2, s3, s4, s5, s6, s7) t).1), .val (.int (own_st w (s0, s1, s2, s3, s4, s5, s6, s7) t).2.1), .val (.int (own_st w (s0, s1, s2, s3, s4, s5, s6, s7) t).2.2.1), .val (.int (own_st w (s0, s1, s2, s3, s4, s5, s6, s7) t).2.2.2.1), .val (.int (own_st w (s0, s1, s2, s3, s4, s5, s6, s7) t).2.2.2.2.1), .val (.int (own_st w (s0, s1, s2, s3, s4, s5, s6, s7) t).2.2.2.2.2.1), .val (.int (own_st w (s0, s1, s2, s3, s4, s5, s6, s7) t).2.2.2.2.2.2.1), .val (.int (own_st w (s0, s1, s2, s3, s4, s5, s6, s7) t).2.2.2.2.2.2.2), .val (.int (Int32.ofNat t)), .val (.int (((own_rr (own_st w (s0, s1, s2, s3, s4, s5, s6, s7) t).2.2.2.2.1 (6 : Int32)) ^^^ (own_rr (own_st w (s0, s1, s2, s3, s4, s5, s6, s7) t).2.2.2.2.1 (11 : Int32))) ^^^ (own_rr (own_st w (s0, s1, s2, s3, s4, s5, s6, s7) t).2.2.2.2.1 (25 : Int32)))), .val (.int (((own_st w (s0, s1, s2, s3, s4, s5, s6, s7) t).2.2.2.2.1 &&& (own_st w (s0, s1, s2, s3, s4, s5, s6, s7) t).2.2.2.2.2.1) ^^^ (((own_st w (s0, s1, s2, s3, s4, s5, s6, s7) t).2.2.2.2.1 ^^^ (-1 : Int32)) &&& (own_st w (s0, s1, s2, s3, s4, s5, s6, s7) t).2.2.2.2.2.2.1))), .val (.int (((((own_st w (s0, s1, s2, s3, s4, s5, s6, s7) t).2.2.2.2.2.2.2 + (((own_rr (own_st w (s0, s1, s2, s3, s4, s5, s6, s7) t).2.2.2.2.1 (6 : Int32)) ^^^ (own_rr (own_st w (s0, s1, s2, s3, s4, s5, s6, s7) t).2.2.2.2.1 (11 : Int32))) ^^^ (own_rr (own_st w (s0, s1, s2, s3, s4, s5, s6, s7) t).2.2.2.2.1 (25 : Int32)))) + (((own_st w (s0, s1, s2, s3, s4, s5, s6, s7) t).2.2.2.2.1 &&& (own_st w (s0, s1, s2, s3, s4, s5, s6, s7) t).2.2.2.2.2.1) ^^^ (((own_st w (s0, s1, s2, s3, s4, s5, s6, s7) t).2.2.2.2.1 ^^^ (-1 : Int32)) &&& (own_st w (s0, s1, s2, s3, s4, s5, s6, s7) t).2.2.2.2.2.2.1))) + (own_K t)) + (w t))), z86_14, z86_15] [(.int 22), (.int (own_st w (s0, s1, s2, s3, s4, s5, s6, s7) t).1), (.int ((own_rr (own_st w (s0, s1, s2, s3, s4, s5, s6, s7) t).1 (2 : Int32)) ^^^ (own_rr (own_st w (s0, s1, s2, s3, s4, s5, s6, s7) t).1 (13 : Int32))))])) (fun tg kt => ?_) ?_
      · refine XS.ixor X111.here hx rfl (hb hby d4_123) rfl ?_
        refine XS.iloadN X111.here hx rfl (hb hby d4_124) rfl ?_
        refine XS.bipush X111.here hx rfl (hb hby d4_125) ?_
        exact kt
      obtain ⟨_, _, ⟨T112, L112, k112, n112⟩, -, X112, ⟨Lc112, hQ112, l112, y112, z112⟩, st112⟩ := Jvm.LawKit.callS X111 hx (y := (⟨"java/lang/Integer", "rotateRight", "(II)I"⟩ : MethodName)) hown (mvT hZ (hw _ (List.mem_of_getElem? (i := 27) rfl))) (mvT hZ (hw _ (List.mem_of_getElem? (i := 28) rfl))) (mvT hZ (hw _ (List.mem_of_getElem? (i := 29) rfl))) (mvT hZ (hw _ (List.mem_of_getElem? (i := 30) rfl))) (by decide) (backOf (W := 1) (rm3 l Z a0 hw [] ((own_st w (s0, s1, s2, s3, s4, s5, s6, s7) t).1) (22 : Int32) h0 n0 Z0 ) hZ (hw _ (List.mem_of_getElem? (i := 30) rfl)) (hw _ (List.mem_of_getElem? (i := 29) rfl)) (by decide) (by decide)) (g := (mkF m 127 #[.val (.ref a1), .val (.ref a2), .val (.int (own_st w (s0, s1, s2, s3, s4, s5, s6, s7) t).1), .val (.int (own_st w (s0, s1, s2, s3, s4, s5, s6, s7) t).2.1), .val (.int (own_st w (s0, s1, s2, s3, s4, s5, s6, s7) t).2.2.1), .val (.int (own_st w (s0, s1, s2, s3, s4, s5, s6, s7) t).2.2.2.1), .val (.int (own_st w (s0, s1, s2, s3, s4, s5, s6, s7) t).2.2.2.2.1), .val (.int (own_st w (s0, s1, s2, s3, s4, s5, s6, s7) t).2.2.2.2.2.1), .val (.int (own_st w (s0, s1, s2, s3, s4, s5, s6, s7) t).2.2.2.2.2.2.1), .val (.int (own_st w (s0, s1, s2, s3, s4, s5, s6, s7) t).2.2.2.2.2.2.2), .val (.int (Int32.ofNat t)), .val (.int (((own_rr (own_st w (s0, s1, s2, s3, s4, s5, s6, s7) t).2.2.2.2.1 (6 : Int32)) ^^^ (own_rr (own_st w (s0, s1, s2, s3, s4, s5, s6, s7) t).2.2.2.2.1 (11 : Int32))) ^^^ (own_rr (own_st w (s0, s1, s2, s3, s4, s5, s6, s7) t).2.2.2.2.1 (25 : Int32)))), .val (.int (((own_st w (s0, s1, s2, s3, s4, s5, s6, s7) t).2.2.2.2.1 &&& (own_st w (s0, s1, s2, s3, s4, s5, s6, s7) t).2.2.2.2.2.1) ^^^ (((own_st w (s0, s1, s2, s3, s4, s5, s6, s7) t).2.2.2.2.1 ^^^ (-1 : Int32)) &&& (own_st w (s0, s1, s2, s3, s4, s5, s6, s7) t).2.2.2.2.2.2.1))), .val (.int (((((own_st w (s0, s1, s2, s3, s4, s5, s6, s7) t).2.2.2.2.2.2.2 + (((own_rr (own_st w (s0, s1, s2, s3, s4, s5, s6, s7) t).2.2.2.2.1 (6 : Int32)) ^^^ (own_rr (own_st w (s0, s1, s2, s3, s4, s5, s6, s7) t).2.2.2.2.1 (11 : Int32))) ^^^ (own_rr (own_st w (s0, s1, s2, s3, s4, s5, s6, s7) t).2.2.2.2.1 (25 : Int32)))) + (((own_st w (s0, s1, s2, s3, s4, s5, s6, s7) t).2.2.2.2.1 &&& (own_st w (s0, s1, s2, s3, s4, s5, s6, s7) t).2.2.2.2.2.1) ^^^ (((own_st w (s0, s1, s2, s3, s4, s5, s6, s7) t).2.2.2.2.1 ^^^ (-1 : Int32)) &&& (own_st w (s0, s1, s2, s3, s4, s5, s6, s7) t).2.2.2.2.2.2.1))) + (own_K t)) + (w t))), z86_14, z86_15] [(.int 22), (.int (own_st w (s0, s1, s2, s3, s4, s5, s6, s7) t).1), (.int ((own_rr (own_st w (s0, s1, s2, s3, s4, s5, s6, s7) t).1 (2 : Int32)) ^^^ (own_rr (own_st w (s0, s1, s2, s3, s4, s5, s6, s7) t).1 (13 : Int32))))])) rfl (by rw [hml]; rfl) (argsL := [(.int (own_st w (s0, s1, s2, s3, s4, s5, s6, s7) t).1), (.int 22)]) (rest := [(.int ((own_rr (own_st w (s0, s1, s2, s3, s4, s5, s6, s7) t).1 (2 : Int32)) ^^^ (own_rr (own_st w (s0, s1, s2, s3, s4, s5, s6, s7) t).1 (13 : Int32))))]) (lenOf pd_0 rfl) rfl (by show 2 * 0 + _ ≤ _; exact Nat.le_of_eq rfl) (hb hby d4_127) (fun _ _ => ⟨rfl, q111_0, (by decide : 0 + 0 ≤ _), (by decide : 0 + 0 ≤ _)⟩)
      dsimp only [Pt.U, Pt.locs, Pt.cells, Pt.slots] at X112 l112 y112 z112 st112 hQ112
      rw [l112, y112, z112] at X112
      obtain ⟨rfl, M112, q112_0⟩ := hQ112
      have N112 := Fr.app N111 M112
      refine own_go st112 ?_
      refine own_go (B := T112.setTop (mkF m 43 #[.val (.ref a1), .val (.ref a2), .val (.int ((((((own_st w (s0, s1, s2, s3, s4, s5, s6, s7) t).2.2.2.2.2.2.2 + (((own_rr (own_st w (s0, s1, s2, s3, s4, s5, s6, s7) t).2.2.2.2.1 (6 : Int32)) ^^^ (own_rr (own_st w (s0, s1, s2, s3, s4, s5, s6, s7) t).2.2.2.2.1 (11 : Int32))) ^^^ (own_rr (own_st w (s0, s1, s2, s3, s4, s5, s6, s7) t).2.2.2.2.1 (25 : Int32)))) + (((own_st w (s0, s1, s2, s3, s4, s5, s6, s7) t).2.2.2.2.1 &&& (own_st w (s0, s1, s2, s3, s4, s5, s6, s7) t).2.2.2.2.2.1) ^^^ (((own_st w (s0, s1, s2, s3, s4, s5, s6, s7) t).2.2.2.2.1 ^^^ (-1 : Int32)) &&& (own_st w (s0, s1, s2, s3, s4, s5, s6, s7) t).2.2.2.2.2.2.1))) + (own_K t)) + (w t)) + ((((own_rr (own_st w (s0, s1, s2, s3, s4, s5, s6, s7) t).1 (2 : Int32)) ^^^ (own_rr (own_st w (s0, s1, s2, s3, s4, s5, s6, s7) t).1 (13 : Int32))) ^^^ (own_rr (own_st w (s0, s1, s2, s3, s4, s5, s6, s7) t).1 (22 : Int32))) + ((((own_st w (s0, s1, s2, s3, s4, s5, s6, s7) t).1 &&& (own_st w (s0, s1, s2, s3, s4, s5, s6, s7) t).2.1) ^^^ ((own_st w (s0, s1, s2, s3, s4, s5, s6, s7) t).1 &&& (own_st w (s0, s1, s2, s3, s4, s5, s6, s7) t).2.2.1)) ^^^ ((own_st w (s0, s1, s2, s3, s4, s5, s6, s7) t).2.1 &&& (own_st w (s0, s1, s2, s3, s4, s5, s6, s7) t).2.2.1))))), .val (.int (own_st w (s0, s1, s2, s3, s4, s5, s6, s7) t).1), .val (.int (own_st w (s0, s1, s2, s3, s4, s5, s6, s7) t).2.1), .val (.int (own_st w (s0, s1, s2, s3, s4, s5, s6, s7) t).2.2.1), .val (.int ((own_st w (s0, s1, s2, s3, s4, s5, s6, s7) t).2.2.2.1 + (((((own_st w (s0, s1, s2, s3, s4, s5, s6, s7) t).2.2.2.2.2.2.2 + (((own_rr (own_st w (s0, s1, s2, s3, s4, s5, s6, s7) t).2.2.2.2.1 (6 : Int32)) ^^^ (own_rr (own_st w (s0, s1, s2, s3, s4, s5, s6, s7) t).2.2.2.2.1 (11 : Int32))) ^^^ (own_rr (own_st w (s0, s1, s2, s3, s4, s5, s6, s7) t).2.2.2.2.1 (25 : Int32)))) + (((own_st w (s0, s1, s2, s3, s4, s5, s6, s7) t).2.2.2.2.1 &&& (own_st w (s0, s1, s2, s3, s4, s5, s6, s7) t).2.2.2.2.2.1) ^^^ (((own_st w (s0, s1, s2, s3, s4, s5, s6, s7) t).2.2.2.2.1 ^^^ (-1 : Int32)) &&& (own_st w (s0, s1, s2, s3, s4, s5, s6, s7) t).2.2.2.2.2.2.1))) + (own_K t)) + (w t)))), .val (.int (own_st w (s0, s1, s2, s3, s4, s5, s6, s7) t).2.2.2.2.1), .val (.int (own_st w (s0, s1, s2, s3, s4, s5, s6, s7) t).2.2.2.2.2.1), .val (.int (own_st w (s0, s1, s2, s3, s4, s5, s6, s7) t).2.2.2.2.2.2.1), .val (.int ((Int32.ofNat t) + (1 : Int32))), .val (.int (((own_rr (own_st w (s0, s1, s2, s3, s4, s5, s6, s7) t).2.2.2.2.1 (6 : Int32)) ^^^ (own_rr (own_st w (s0, s1, s2, s3, s4, s5, s6, s7) t).2.2.2.2.1 (11 : Int32))) ^^^ (own_rr (own_st w (s0, s1, s2, s3, s4, s5, s6, s7) t).2.2.2.2.1 (25 : Int32)))), .val (.int (((own_st w (s0, s1, s2, s3, s4, s5, s6, s7) t).2.2.2.2.1 &&& (own_st w (s0, s1, s2, s3, s4, s5, s6, s7) t).2.2.2.2.2.1) ^^^ (((own_st w (s0, s1, s2, s3, s4, s5, s6, s7) t).2.2.2.2.1 ^^^ (-1 : Int32)) &&& (own_st w (s0, s1, s2, s3, s4, s5, s6, s7) t).2.2.2.2.2.2.1))), .val (.int (((((own_st w (s0, s1, s2, s3, s4, s5, s6, s7) t).2.2.2.2.2.2.2 + (((own_rr (own_st w (s0, s1, s2, s3, s4, s5, s6, s7) t).2.2.2.2.1 (6 : Int32)) ^^^ (own_rr (own_st w (s0, s1, s2, s3, s4, s5, s6, s7) t).2.2.2.2.1 (11 : Int32))) ^^^ (own_rr (own_st w (s0, s1, s2, s3, s4, s5, s6, s7) t).2.2.2.2.1 (25 : Int32)))) + (((own_st w (s0, s1, s2, s3, s4, s5, s6, s7) t).2.2.2.2.1 &&& (own_st w (s0, s1, s2, s3, s4, s5, s6, s7) t).2.2.2.2.2.1) ^^^ (((own_st w (s0, s1, s2, s3, s4, s5, s6, s7) t).2.2.2.2.1 ^^^ (-1 : Int32)) &&& (own_st w (s0, s1, s2, s3, s4, s5, s6, s7) t).2.2.2.2.2.2.1))) + (own_K t)) + (w t))), .val (.int (((own_rr (own_st w (s0, s1, s2, s3, s4, s5, s6, s7) t).1 (2 : Int32)) ^^^ (own_rr (own_st w (s0, s1, s2, s3, s4, s5, s6, s7) t).1 (13 : Int32))) ^^^ (own_rr (own_st w (s0, s1, s2, s3, s4, s5, s6, s7) t).1 (22 : Int32)))), .val (.int ((((own_rr (own_st w (s0, s1, s2, s3, s4, s5, s6, s7) t).1 (2 : Int32)) ^^^ (own_rr (own_st w (s0, s1, s2, s3, s4, s5, s6, s7) t).1 (13 : Int32))) ^^^ (own_rr (own_st w (s0, s1, s2, s3, s4, s5, s6, s7) t).1 (22 : Int32))) + ((((own_st w (s0, s1, s2, s3, s4, s5, s6, s7) t).1 &&& (own_st w (s0, s1, s2, s3, s4, s5, s6, s7) t).2.1) ^^^ ((own_st w (s0, s1, s2, s3, s4, s5, s6, s7) t).1 &&& (own_st w (s0, s1, s2, s3, s4, s5, s6, s7) t).2.2.1)) ^^^ ((own_st w (s0, s1, s2, s3, s4, s5, s6, s7) t).2.1 &&& (own_st w (s0, s1, s2, s3, s4, s5, s6, s7) t).2.2.1))))] [])) (fun tg kt => ?_) ?_
      · refine XS.ixor X112.here hx rfl (hb hby d4_130) rfl ?_
        refine XS.istoreS X112.here hx rfl (hb hby d4_131) rfl rfl hz86_14 ?_
        refine XS.iload X112.here hx rfl (hb hby d4_133) rfl ?_
        refine XS.iloadN X112.here hx rfl (hb hby d4_135) rfl ?_
        refine XS.iloadN X112.here hx rfl (hb hby d4_136) rfl ?_
        refine XS.iand X112.here hx rfl (hb hby d4_137) rfl ?_
        refine XS.iloadN X112.here hx rfl (hb hby d4_138) rfl ?_
        refine XS.iload X112.here hx rfl (hb hby d4_139) rfl ?_
        refine XS.iand X112.here hx rfl (hb hby d4_141) rfl ?_
        refine XS.ixor X112.here hx rfl (hb hby d4_142) rfl ?_
        refine XS.iloadN X112.here hx rfl (hb hby d4_143) rfl ?_
        refine XS.iload X112.here hx rfl (hb hby d4_144) rfl ?_
        refine XS.iand X112.here hx rfl (hb hby d4_146) rfl ?_
        refine XS.ixor X112.here hx rfl (hb hby d4_147) rfl ?_
        refine XS.iadd X112.here hx rfl (hb hby d4_148) rfl ?_
        refine XS.istoreS X112.here hx rfl (hb hby d4_149) rfl rfl hz86_15 ?_
        refine XS.iload X112.here hx rfl (hb hby d4_151) rfl ?_
        refine XS.istore X112.here hx rfl (hb hby d4_153) rfl (l' := #[.val (.ref a1), .val (.ref a2), .val (.int (own_st w (s0, s1, s2, s3, s4, s5, s6, s7) t).1), .val (.int (own_st w (s0, s1, s2, s3, s4, s5, s6, s7) t).2.1), .val (.int (own_st w (s0, s1, s2, s3, s4, s5, s6, s7) t).2.2.1), .val (.int (own_st w (s0, s1, s2, s3, s4, s5, s6, s7) t).2.2.2.1), .val (.int (own_st w (s0, s1, s2, s3, s4, s5, s6, s7) t).2.2.2.2.1), .val (.int (own_st w (s0, s1, s2, s3, s4, s5, s6, s7) t).2.2.2.2.2.1), .val (.int (own_st w (s0, s1, s2, s3, s4, s5, s6, s7) t).2.2.2.2.2.2.1), .val (.int (own_st w (s0, s1, s2, s3, s4, s5, s6, s7) t).2.2.2.2.2.2.1), .val (.int (Int32.ofNat t)), .val (.int (((own_rr (own_st w (s0, s1, s2, s3, s4, s5, s6, s7) t).2.2.2.2.1 (6 : Int32)) ^^^ (own_rr (own_st w (s0, s1, s2, s3, s4, s5, s6, s7) t).2.2.2.2.1 (11 : Int32))) ^^^ (own_rr (own_st w (s0, s1, s2, s3, s4, s5, s6, s7) t).2.2.2.2.1 (25 : Int32)))), .val (.int (((own_st w (s0, s1, s2, s3, s4, s5, s6, s7) t).2.2.2.2.1 &&& (own_st w (s0, s1, s2, s3, s4, s5, s6, s7) t).2.2.2.2.2.1) ^^^ (((own_st w (s0, s1, s2, s3, s4, s5, s6, s7) t).2.2.2.2.1 ^^^ (-1 : Int32)) &&& (own_st w (s0, s1, s2, s3, s4, s5, s6, s7) t).2.2.2.2.2.2.1))), .val (.int (((((own_st w (s0, s1, s2, s3, s4, s5, s6, s7) t).2.2.2.2.2.2.2 + (((own_rr (own_st w (s0, s1, s2, s3, s4, s5, s6, s7) t).2.2.2.2.1 (6 : Int32)) ^^^ (own_rr (own_st w (s0, s1, s2, s3, s4, s5, s6, s7) t).2.2.2.2.1 (11 : Int32))) ^^^ (own_rr (own_st w (s0, s1, s2, s3, s4, s5, s6, s7) t).2.2.2.2.1 (25 : Int32)))) + (((own_st w (s0, s1, s2, s3, s4, s5, s6, s7) t).2.2.2.2.1 &&& (own_st w (s0, s1, s2, s3, s4, s5, s6, s7) t).2.2.2.2.2.1) ^^^ (((own_st w (s0, s1, s2, s3, s4, s5, s6, s7) t).2.2.2.2.1 ^^^ (-1 : Int32)) &&& (own_st w (s0, s1, s2, s3, s4, s5, s6, s7) t).2.2.2.2.2.2.1))) + (own_K t)) + (w t))), .val (.int (((own_rr (own_st w (s0, s1, s2, s3, s4, s5, s6, s7) t).1 (2 : Int32)) ^^^ (own_rr (own_st w (s0, s1, s2, s3, s4, s5, s6, s7) t).1 (13 : Int32))) ^^^ (own_rr (own_st w (s0, s1, s2, s3, s4, s5, s6, s7) t).1 (22 : Int32)))), .val (.int ((((own_rr (own_st w (s0, s1, s2, s3, s4, s5, s6, s7) t).1 (2 : Int32)) ^^^ (own_rr (own_st w (s0, s1, s2, s3, s4, s5, s6, s7) t).1 (13 : Int32))) ^^^ (own_rr (own_st w (s0, s1, s2, s3, s4, s5, s6, s7) t).1 (22 : Int32))) + ((((own_st w (s0, s1, s2, s3, s4, s5, s6, s7) t).1 &&& (own_st w (s0, s1, s2, s3, s4, s5, s6, s7) t).2.1) ^^^ ((own_st w (s0, s1, s2, s3, s4, s5, s6, s7) t).1 &&& (own_st w (s0, s1, s2, s3, s4, s5, s6, s7) t).2.2.1)) ^^^ ((own_st w (s0, s1, s2, s3, s4, s5, s6, s7) t).2.1 &&& (own_st w (s0, s1, s2, s3, s4, s5, s6, s7) t).2.2.1))))]) rfl ?_
        refine XS.iload X112.here hx rfl (hb hby d4_155) rfl ?_
        refine XS.istore X112.here hx rfl (hb hby d4_157) rfl (l' := #[.val (.ref a1), .val (.ref a2), .val (.int (own_st w (s0, s1, s2, s3, s4, s5, s6, s7) t).1), .val (.int (own_st w (s0, s1, s2, s3, s4, s5, s6, s7) t).2.1), .val (.int (own_st w (s0, s1, s2, s3, s4, s5, s6, s7) t).2.2.1), .val (.int (own_st w (s0, s1, s2, s3, s4, s5, s6, s7) t).2.2.2.1), .val (.int (own_st w (s0, s1, s2, s3, s4, s5, s6, s7) t).2.2.2.2.1), .val (.int (own_st w (s0, s1, s2, s3, s4, s5, s6, s7) t).2.2.2.2.2.1), .val (.int (own_st w (s0, s1, s2, s3, s4, s5, s6, s7) t).2.2.2.2.2.1), .val (.int (own_st w (s0, s1, s2, s3, s4, s5, s6, s7) t).2.2.2.2.2.2.1), .val (.int (Int32.ofNat t)), .val (.int (((own_rr (own_st w (s0, s1, s2, s3, s4, s5, s6, s7) t).2.2.2.2.1 (6 : Int32)) ^^^ (own_rr (own_st w (s0, s1, s2, s3, s4, s5, s6, s7) t).2.2.2.2.1 (11 : Int32))) ^^^ (own_rr (own_st w (s0, s1, s2, s3, s4, s5, s6, s7) t).2.2.2.2.1 (25 : Int32)))), .val (.int (((own_st w (s0, s1, s2, s3, s4, s5, s6, s7) t).2.2.2.2.1 &&& (own_st w (s0, s1, s2, s3, s4, s5, s6, s7) t).2.2.2.2.2.1) ^^^ (((own_st w (s0, s1, s2, s3, s4, s5, s6, s7) t).2.2.2.2.1 ^^^ (-1 : Int32)) &&& (own_st w (s0, s1, s2, s3, s4, s5, s6, s7) t).2.2.2.2.2.2.1))), .val (.int (((((own_st w (s0, s1, s2, s3, s4, s5, s6, s7) t).2.2.2.2.2.2.2 + (((own_rr (own_st w (s0, s1, s2, s3, s4, s5, s6, s7) t).2.2.2.2.1 (6 : Int32)) ^^^ (own_rr (own_st w (s0, s1, s2, s3, s4, s5, s6, s7) t).2.2.2.2.1 (11 : Int32))) ^^^ (own_rr (own_st w (s0, s1, s2, s3, s4, s5, s6, s7) t).2.2.2.2.1 (25 : Int32)))) + (((own_st w (s0, s1, s2, s3, s4, s5, s6, s7) t).2.2.2.2.1 &&& (own_st w (s0, s1, s2, s3, s4, s5, s6, s7) t).2.2.2.2.2.1) ^^^ (((own_st w (s0, s1, s2, s3, s4, s5, s6, s7) t).2.2.2.2.1 ^^^ (-1 : Int32)) &&& (own_st w (s0, s1, s2, s3, s4, s5, s6, s7) t).2.2.2.2.2.2.1))) + (own_K t)) + (w t))), .val (.int (((own_rr (own_st w (s0, s1, s2, s3, s4, s5, s6, s7) t).1 (2 : Int32)) ^^^ (own_rr (own_st w (s0, s1, s2, s3, s4, s5, s6, s7) t).1 (13 : Int32))) ^^^ (own_rr (own_st w (s0, s1, s2, s3, s4, s5, s6, s7) t).1 (22 : Int32)))), .val (.int ((((own_rr (own_st w (s0, s1, s2, s3, s4, s5, s6, s7) t).1 (2 : Int32)) ^^^ (own_rr (own_st w (s0, s1, s2, s3, s4, s5, s6, s7) t).1 (13 : Int32))) ^^^ (own_rr (own_st w (s0, s1, s2, s3, s4, s5, s6, s7) t).1 (22 : Int32))) + ((((own_st w (s0, s1, s2, s3, s4, s5, s6, s7) t).1 &&& (own_st w (s0, s1, s2, s3, s4, s5, s6, s7) t).2.1) ^^^ ((own_st w (s0, s1, s2, s3, s4, s5, s6, s7) t).1 &&& (own_st w (s0, s1, s2, s3, s4, s5, s6, s7) t).2.2.1)) ^^^ ((own_st w (s0, s1, s2, s3, s4, s5, s6, s7) t).2.1 &&& (own_st w (s0, s1, s2, s3, s4, s5, s6, s7) t).2.2.1))))]) rfl ?_
        refine XS.iload X112.here hx rfl (hb hby d4_159) rfl ?_
        refine XS.istore X112.here hx rfl (hb hby d4_161) rfl (l' := #[.val (.ref a1), .val (.ref a2), .val (.int (own_st w (s0, s1, s2, s3, s4, s5, s6, s7) t).1), .val (.int (own_st w (s0, s1, s2, s3, s4, s5, s6, s7) t).2.1), .val (.int (own_st w (s0, s1, s2, s3, s4, s5, s6, s7) t).2.2.1), .val (.int (own_st w (s0, s1, s2, s3, s4, s5, s6, s7) t).2.2.2.1), .val (.int (own_st w (s0, s1, s2, s3, s4, s5, s6, s7) t).2.2.2.2.1), .val (.int (own_st w (s0, s1, s2, s3, s4, s5, s6, s7) t).2.2.2.2.1), .val (.int (own_st w (s0, s1, s2, s3, s4, s5, s6, s7) t).2.2.2.2.2.1), .val (.int (own_st w (s0, s1, s2, s3, s4, s5, s6, s7) t).2.2.2.2.2.2.1), .val (.int (Int32.ofNat t)), .val (.int (((own_rr (own_st w (s0, s1, s2, s3, s4, s5, s6, s7) t).2.2.2.2.1 (6 : Int32)) ^^^ (own_rr (own_st w (s0, s1, s2, s3, s4, s5, s6, s7) t).2.2.2.2.1 (11 : Int32))) ^^^ (own_rr (own_st w (s0, s1, s2, s3, s4, s5, s6, s7) t).2.2.2.2.1 (25 : Int32)))), .val (.int (((own_st w (s0, s1, s2, s3, s4, s5, s6, s7) t).2.2.2.2.1 &&& (own_st w (s0, s1, s2, s3, s4, s5, s6, s7) t).2.2.2.2.2.1) ^^^ (((own_st w (s0, s1, s2, s3, s4, s5, s6, s7) t).2.2.2.2.1 ^^^ (-1 : Int32)) &&& (own_st w (s0, s1, s2, s3, s4, s5, s6, s7) t).2.2.2.2.2.2.1))), .val (.int (((((own_st w (s0, s1, s2, s3, s4, s5, s6, s7) t).2.2.2.2.2.2.2 + (((own_rr (own_st w (s0, s1, s2, s3, s4, s5, s6, s7) t).2.2.2.2.1 (6 : Int32)) ^^^ (own_rr (own_st w (s0, s1, s2, s3, s4, s5, s6, s7) t).2.2.2.2.1 (11 : Int32))) ^^^ (own_rr (own_st w (s0, s1, s2, s3, s4, s5, s6, s7) t).2.2.2.2.1 (25 : Int32)))) + (((own_st w (s0, s1, s2, s3, s4, s5, s6, s7) t).2.2.2.2.1 &&& (own_st w (s0, s1, s2, s3, s4, s5, s6, s7) t).2.2.2.2.2.1) ^^^ (((own_st w (s0, s1, s2, s3, s4, s5, s6, s7) t).2.2.2.2.1 ^^^ (-1 : Int32)) &&& (own_st w (s0, s1, s2, s3, s4, s5, s6, s7) t).2.2.2.2.2.2.1))) + (own_K t)) + (w t))), .val (.int (((own_rr (own_st w (s0, s1, s2, s3, s4, s5, s6, s7) t).1 (2 : Int32)) ^^^ (own_rr (own_st w (s0, s1, s2, s3, s4, s5, s6, s7) t).1 (13 : Int32))) ^^^ (own_rr (own_st w (s0, s1, s2, s3, s4, s5, s6, s7) t).1 (22 : Int32)))), .val (.int ((((own_rr (own_st w (s0, s1, s2, s3, s4, s5, s6, s7) t).1 (2 : Int32)) ^^^ (own_rr (own_st w (s0, s1, s2, s3, s4, s5, s6, s7) t).1 (13 : Int32))) ^^^ (own_rr (own_st w (s0, s1, s2, s3, s4, s5, s6, s7) t).1 (22 : Int32))) + ((((own_st w (s0, s1, s2, s3, s4, s5, s6, s7) t).1 &&& (own_st w (s0, s1, s2, s3, s4, s5, s6, s7) t).2.1) ^^^ ((own_st w (s0, s1, s2, s3, s4, s5, s6, s7) t).1 &&& (own_st w (s0, s1, s2, s3, s4, s5, s6, s7) t).2.2.1)) ^^^ ((own_st w (s0, s1, s2, s3, s4, s5, s6, s7) t).2.1 &&& (own_st w (s0, s1, s2, s3, s4, s5, s6, s7) t).2.2.1))))]) rfl ?_
        refine XS.iload X112.here hx rfl (hb hby d4_163) rfl ?_
        refine XS.iload X112.here hx rfl (hb hby d4_165) rfl ?_
        refine XS.iadd X112.here hx rfl (hb hby d4_167) rfl ?_
        refine XS.istore X112.here hx rfl (hb hby d4_168) rfl (l' := #[.val (.ref a1), .val (.ref a2), .val (.int (own_st w (s0, s1, s2, s3, s4, s5, s6, s7) t).1), .val (.int (own_st w (s0, s1, s2, s3, s4, s5, s6, s7) t).2.1), .val (.int (own_st w (s0, s1, s2, s3, s4, s5, s6, s7) t).2.2.1), .val (.int (own_st w (s0, s1, s2, s3, s4, s5, s6, s7) t).2.2.2.1), .val (.int ((own_st w (s0, s1, s2, s3, s4, s5, s6, s7) t).2.2.2.1 + (((((own_st w (s0, s1, s2, s3, s4, s5, s6, s7) t).2.2.2.2.2.2.2 + (((own_rr (own_st w (s0, s1, s2, s3, s4, s5, s6, s7) t).2.2.2.2.1 (6 : Int32)) ^^^ (own_rr (own_st w (s0, s1, s2, s3, s4, s5, s6, s7) t).2.2.2.2.1 (11 : Int32))) ^^^ (own_rr (own_st w (s0, s1, s2, s3, s4, s5, s6, s7) t).2.2.2.2.1 (25 : Int32)))) + (((own_st w (s0, s1, s2, s3, s4, s5, s6, s7) t).2.2.2.2.1 &&& (own_st w (s0, s1, s2, s3, s4, s5, s6, s7) t).2.2.2.2.2.1) ^^^ (((own_st w (s0, s1, s2, s3, s4, s5, s6, s7) t).2.2.2.2.1 ^^^ (-1 : Int32)) &&& (own_st w (s0, s1, s2, s3, s4, s5, s6, s7) t).2.2.2.2.2.2.1))) + (own_K t)) + (w t)))), .val (.int (own_st w (s0, s1, s2, s3, s4, s5, s6, s7) t).2.2.2.2.1), .val (.int (own_st w (s0, s1, s2, s3, s4, s5, s6, s7) t).2.2.2.2.2.1), .val (.int (own_st w (s0, s1, s2, s3, s4, s5, s6, s7) t).2.2.2.2.2.2.1), .val (.int (Int32.ofNat t)), .val (.int (((own_rr (own_st w (s0, s1, s2, s3, s4, s5, s6, s7) t).2.2.2.2.1 (6 : Int32)) ^^^ (own_rr (own_st w (s0, s1, s2, s3, s4, s5, s6, s7) t).2.2.2.2.1 (11 : Int32))) ^^^ (own_rr (own_st w (s0, s1, s2, s3, s4, s5, s6, s7) t).2.2.2.2.1 (25 : Int32)))), .val (.int (((own_st w (s0, s1, s2, s3, s4, s5, s6, s7) t).2.2.2.2.1 &&& (own_st w (s0, s1, s2, s3, s4, s5, s6, s7) t).2.2.2.2.2.1) ^^^ (((own_st w (s0, s1, s2, s3, s4, s5, s6, s7) t).2.2.2.2.1 ^^^ (-1 : Int32)) &&& (own_st w (s0, s1, s2, s3, s4, s5, s6, s7) t).2.2.2.2.2.2.1))), .val (.int (((((own_st w (s0, s1, s2, s3, s4, s5, s6, s7) t).2.2.2.2.2.2.2 + (((own_rr (own_st w (s0, s1, s2, s3, s4, s5, s6, s7) t).2.2.2.2.1 (6 : Int32)) ^^^ (own_rr (own_st w (s0, s1, s2, s3, s4, s5, s6, s7) t).2.2.2.2.1 (11 : Int32))) ^^^ (own_rr (own_st w (s0, s1, s2, s3, s4, s5, s6, s7) t).2.2.2.2.1 (25 : Int32)))) + (((own_st w (s0, s1, s2, s3, s4, s5, s6, s7) t).2.2.2.2.1 &&& (own_st w (s0, s1, s2, s3, s4, s5, s6, s7) t).2.2.2.2.2.1) ^^^ (((own_st w (s0, s1, s2, s3, s4, s5, s6, s7) t).2.2.2.2.1 ^^^ (-1 : Int32)) &&& (own_st w (s0, s1, s2, s3, s4, s5, s6, s7) t).2.2.2.2.2.2.1))) + (own_K t)) + (w t))), .val (.int (((own_rr (own_st w (s0, s1, s2, s3, s4, s5, s6, s7) t).1 (2 : Int32)) ^^^ (own_rr (own_st w (s0, s1, s2, s3, s4, s5, s6, s7) t).1 (13 : Int32))) ^^^ (own_rr (own_st w (s0, s1, s2, s3, s4, s5, s6, s7) t).1 (22 : Int32)))), .val (.int ((((own_rr (own_st w (s0, s1, s2, s3, s4, s5, s6, s7) t).1 (2 : Int32)) ^^^ (own_rr (own_st w (s0, s1, s2, s3, s4, s5, s6, s7) t).1 (13 : Int32))) ^^^ (own_rr (own_st w (s0, s1, s2, s3, s4, s5, s6, s7) t).1 (22 : Int32))) + ((((own_st w (s0, s1, s2, s3, s4, s5, s6, s7) t).1 &&& (own_st w (s0, s1, s2, s3, s4, s5, s6, s7) t).2.1) ^^^ ((own_st w (s0, s1, s2, s3, s4, s5, s6, s7) t).1 &&& (own_st w (s0, s1, s2, s3, s4, s5, s6, s7) t).2.2.1)) ^^^ ((own_st w (s0, s1, s2, s3, s4, s5, s6, s7) t).2.1 &&& (own_st w (s0, s1, s2, s3, s4, s5, s6, s7) t).2.2.1))))]) rfl ?_
        refine XS.iload X112.here hx rfl (hb hby d4_170) rfl ?_
        refine XS.istore X112.here hx rfl (hb hby d4_172) rfl (l' := #[.val (.ref a1), .val (.ref a2), .val (.int (own_st w (s0, s1, s2, s3, s4, s5, s6, s7) t).1), .val (.int (own_st w (s0, s1, s2, s3, s4, s5, s6, s7) t).2.1), .val (.int (own_st w (s0, s1, s2, s3, s4, s5, s6, s7) t).2.2.1), .val (.int (own_st w (s0, s1, s2, s3, s4, s5, s6, s7) t).2.2.1), .val (.int ((own_st w (s0, s1, s2, s3, s4, s5, s6, s7) t).2.2.2.1 + (((((own_st w (s0, s1, s2, s3, s4, s5, s6, s7) t).2.2.2.2.2.2.2 + (((own_rr (own_st w (s0, s1, s2, s3, s4, s5, s6, s7) t).2.2.2.2.1 (6 : Int32)) ^^^ (own_rr (own_st w (s0, s1, s2, s3, s4, s5, s6, s7) t).2.2.2.2.1 (11 : Int32))) ^^^ (own_rr (own_st w (s0, s1, s2, s3, s4, s5, s6, s7) t).2.2.2.2.1 (25 : Int32)))) + (((own_st w (s0, s1, s2, s3, s4, s5, s6, s7) t).2.2.2.2.1 &&& (own_st w (s0, s1, s2, s3, s4, s5, s6, s7) t).2.2.2.2.2.1) ^^^ (((own_st w (s0, s1, s2, s3, s4, s5, s6, s7) t).2.2.2.2.1 ^^^ (-1 : Int32)) &&& (own_st w (s0, s1, s2, s3, s4, s5, s6, s7) t).2.2.2.2.2.2.1))) + (own_K t)) + (w t)))), .val (.int (own_st w (s0, s1, s2, s3, s4, s5, s6, s7) t).2.2.2.2.1), .val (.int (own_st w (s0, s1, s2, s3, s4, s5, s6, s7) t).2.2.2.2.2.1), .val (.int (own_st w (s0, s1, s2, s3, s4, s5, s6, s7) t).2.2.2.2.2.2.1), .val (.int (Int32.ofNat t)), .val (.int (((own_rr (own_st w (s0, s1, s2, s3, s4, s5, s6, s7) t).2.2.2.2.1 (6 : Int32)) ^^^ (own_rr (own_st w (s0, s1, s2, s3, s4, s5, s6, s7) t).2.2.2.2.1 (11 : Int32))) ^^^ (own_rr (own_st w (s0, s1, s2, s3, s4, s5, s6, s7) t).2.2.2.2.1 (25 : Int32)))), .val (.int (((own_st w (s0, s1, s2, s3, s4, s5, s6, s7) t).2.2.2.2.1 &&& (own_st w (s0, s1, s2, s3, s4, s5, s6, s7) t).2.2.2.2.2.1) ^^^ (((own_st w (s0, s1, s2, s3, s4, s5, s6, s7) t).2.2.2.2.1 ^^^ (-1 : Int32)) &&& (own_st w (s0, s1, s2, s3, s4, s5, s6, s7) t).2.2.2.2.2.2.1))), .val (.int (((((own_st w (s0, s1, s2, s3, s4, s5, s6, s7) t).2.2.2.2.2.2.2 + (((own_rr (own_st w (s0, s1, s2, s3, s4, s5, s6, s7) t).2.2.2.2.1 (6 : Int32)) ^^^ (own_rr (own_st w (s0, s1, s2, s3, s4, s5, s6, s7) t).2.2.2.2.1 (11 : Int32))) ^^^ (own_rr (own_st w (s0, s1, s2, s3, s4, s5, s6, s7) t).2.2.2.2.1 (25 : Int32)))) + (((own_st w (s0, s1, s2, s3, s4, s5, s6, s7) t).2.2.2.2.1 &&& (own_st w (s0, s1, s2, s3, s4, s5, s6, s7) t).2.2.2.2.2.1) ^^^ (((own_st w (s0, s1, s2, s3, s4, s5, s6, s7) t).2.2.2.2.1 ^^^ (-1 : Int32)) &&& (own_st w (s0, s1, s2, s3, s4, s5, s6, s7) t).2.2.2.2.2.2.1))) + (own_K t)) + (w t))), .val (.int (((own_rr (own_st w (s0, s1, s2, s3, s4, s5, s6, s7) t).1 (2 : Int32)) ^^^ (own_rr (own_st w (s0, s1, s2, s3, s4, s5, s6, s7) t).1 (13 : Int32))) ^^^ (own_rr (own_st w (s0, s1, s2, s3, s4, s5, s6, s7) t).1 (22 : Int32)))), .val (.int ((((own_rr (own_st w (s0, s1, s2, s3, s4, s5, s6, s7) t).1 (2 : Int32)) ^^^ (own_rr (own_st w (s0, s1, s2, s3, s4, s5, s6, s7) t).1 (13 : Int32))) ^^^ (own_rr (own_st w (s0, s1, s2, s3, s4, s5, s6, s7) t).1 (22 : Int32))) + ((((own_st w (s0, s1, s2, s3, s4, s5, s6, s7) t).1 &&& (own_st w (s0, s1, s2, s3, s4, s5, s6, s7) t).2.1) ^^^ ((own_st w (s0, s1, s2, s3, s4, s5, s6, s7) t).1 &&& (own_st w (s0, s1, s2, s3, s4, s5, s6, s7) t).2.2.1)) ^^^ ((own_st w (s0, s1, s2, s3, s4, s5, s6, s7) t).2.1 &&& (own_st w (s0, s1, s2, s3, s4, s5, s6, s7) t).2.2.1))))]) rfl ?_
        refine XS.iloadN X112.here hx rfl (hb hby d4_174) rfl ?_
        refine XS.istore X112.here hx rfl (hb hby d4_175) rfl (l' := #[.val (.ref a1), .val (.ref a2), .val (.int (own_st w (s0, s1, s2, s3, s4, s5, s6, s7) t).1), .val (.int (own_st w (s0, s1, s2, s3, s4, s5, s6, s7) t).2.1), .val (.int (own_st w (s0, s1, s2, s3, s4, s5, s6, s7) t).2.1), .val (.int (own_st w (s0, s1, s2, s3, s4, s5, s6, s7) t).2.2.1), .val (.int ((own_st w (s0, s1, s2, s3, s4, s5, s6, s7) t).2.2.2.1 + (((((own_st w (s0, s1, s2, s3, s4, s5, s6, s7) t).2.2.2.2.2.2.2 + (((own_rr (own_st w (s0, s1, s2, s3, s4, s5, s6, s7) t).2.2.2.2.1 (6 : Int32)) ^^^ (own_rr (own_st w (s0, s1, s2, s3, s4, s5, s6, s7) t).2.2.2.2.1 (11 : Int32))) ^^^ (own_rr (own_st w (s0, s1, s2, s3, s4, s5, s6, s7) t).2.2.2.2.1 (25 : Int32)))) + (((own_st w (s0, s1, s2, s3, s4, s5, s6, s7) t).2.2.2.2.1 &&& (own_st w (s0, s1, s2, s3, s4, s5, s6, s7) t).2.2.2.2.2.1) ^^^ (((own_st w (s0, s1, s2, s3, s4, s5, s6, s7) t).2.2.2.2.1 ^^^ (-1 : Int32)) &&& (own_st w (s0, s1, s2, s3, s4, s5, s6, s7) t).2.2.2.2.2.2.1))) + (own_K t)) + (w t)))), .val (.int (own_st w (s0, s1, s2, s3, s4, s5, s6, s7) t).2.2.2.2.1), .val (.int (own_st w (s0, s1, s2, s3, s4, s5, s6, s7) t).2.2.2.2.2.1), .val (.int (own_st w (s0, s1, s2, s3, s4, s5, s6, s7) t).2.2.2.2.2.2.1), .val (.int (Int32.ofNat t)), .val (.int (((own_rr (own_st w (s0, s1, s2, s3, s4, s5, s6, s7) t).2.2.2.2.1 (6 : Int32)) ^^^ (own_rr (own_st w (s0, s1, s2, s3, s4, s5, s6, s7) t).2.2.2.2.1 (11 : Int32))) ^^^ (own_rr (own_st w (s0, s1, s2, s3, s4, s5, s6, s7) t).2.2.2.2.1 (25 : Int32)))), .val (.int (((own_st w (s0, s1, s2, s3, s4, s5, s6, s7) t).2.2.2.2.1 &&& (own_st w (s0, s1, s2, s3, s4, s5, s6, s7) t).2.2.2.2.2.1) ^^^ (((own_st w (s0, s1, s2, s3, s4, s5, s6, s7) t).2.2.2.2.1 ^^^ (-1 : Int32)) &&& (own_st w (s0, s1, s2, s3, s4, s5, s6, s7) t).2.2.2.2.2.2.1))), .val (.int (((((own_st w (s0, s1, s2, s3, s4, s5, s6, s7) t).2.2.2.2.2.2.2 + (((own_rr (own_st w (s0, s1, s2, s3, s4, s5, s6, s7) t).2.2.2.2.1 (6 : Int32)) ^^^ (own_rr (own_st w (s0, s1, s2, s3, s4, s5, s6, s7) t).2.2.2.2.1 (11 : Int32))) ^^^ (own_rr (own_st w (s0, s1, s2, s3, s4, s5, s6, s7) t).2.2.2.2.1 (25 : Int32)))) + (((own_st w (s0, s1, s2, s3, s4, s5, s6, s7) t).2.2.2.2.1 &&& (own_st w (s0, s1, s2, s3, s4, s5, s6, s7) t).2.2.2.2.2.1) ^^^ (((own_st w (s0, s1, s2, s3, s4, s5, s6, s7) t).2.2.2.2.1 ^^^ (-1 : Int32)) &&& (own_st w (s0, s1, s2, s3, s4, s5, s6, s7) t).2.2.2.2.2.2.1))) + (own_K t)) + (w t))), .val (.int (((own_rr (own_st w (s0, s1, s2, s3, s4, s5, s6, s7) t).1 (2 : Int32)) ^^^ (own_rr (own_st w (s0, s1, s2, s3, s4, s5, s6, s7) t).1 (13 : Int32))) ^^^ (own_rr (own_st w (s0, s1, s2, s3, s4, s5, s6, s7) t).1 (22 : Int32)))), .val (.int ((((own_rr (own_st w (s0, s1, s2, s3, s4, s5, s6, s7) t).1 (2 : Int32)) ^^^ (own_rr (own_st w (s0, s1, s2, s3, s4, s5, s6, s7) t).1 (13 : Int32))) ^^^ (own_rr (own_st w (s0, s1, s2, s3, s4, s5, s6, s7) t).1 (22 : Int32))) + ((((own_st w (s0, s1, s2, s3, s4, s5, s6, s7) t).1 &&& (own_st w (s0, s1, s2, s3, s4, s5, s6, s7) t).2.1) ^^^ ((own_st w (s0, s1, s2, s3, s4, s5, s6, s7) t).1 &&& (own_st w (s0, s1, s2, s3, s4, s5, s6, s7) t).2.2.1)) ^^^ ((own_st w (s0, s1, s2, s3, s4, s5, s6, s7) t).2.1 &&& (own_st w (s0, s1, s2, s3, s4, s5, s6, s7) t).2.2.1))))]) rfl ?_
        refine XS.iloadN X112.here hx rfl (hb hby d4_177) rfl ?_
        refine XS.istoreN X112.here hx rfl (hb hby d4_178) rfl (l' := #[.val (.ref a1), .val (.ref a2), .val (.int (own_st w (s0, s1, s2, s3, s4, s5, s6, s7) t).1), .val (.int (own_st w (s0, s1, s2, s3, s4, s5, s6, s7) t).1), .val (.int (own_st w (s0, s1, s2, s3, s4, s5, s6, s7) t).2.1), .val (.int (own_st w (s0, s1, s2, s3, s4, s5, s6, s7) t).2.2.1), .val (.int ((own_st w (s0, s1, s2, s3, s4, s5, s6, s7) t).2.2.2.1 + (((((own_st w (s0, s1, s2, s3, s4, s5, s6, s7) t).2.2.2.2.2.2.2 + (((own_rr (own_st w (s0, s1, s2, s3, s4, s5, s6, s7) t).2.2.2.2.1 (6 : Int32)) ^^^ (own_rr (own_st w (s0, s1, s2, s3, s4, s5, s6, s7) t).2.2.2.2.1 (11 : Int32))) ^^^ (own_rr (own_st w (s0, s1, s2, s3, s4, s5, s6, s7) t).2.2.2.2.1 (25 : Int32)))) + (((own_st w (s0, s1, s2, s3, s4, s5, s6, s7) t).2.2.2.2.1 &&& (own_st w (s0, s1, s2, s3, s4, s5, s6, s7) t).2.2.2.2.2.1) ^^^ (((own_st w (s0, s1, s2, s3, s4, s5, s6, s7) t).2.2.2.2.1 ^^^ (-1 : Int32)) &&& (own_st w (s0, s1, s2, s3, s4, s5, s6, s7) t).2.2.2.2.2.2.1))) + (own_K t)) + (w t)))), .val (.int (own_st w (s0, s1, s2, s3, s4, s5, s6, s7) t).2.2.2.2.1), .val (.int (own_st w (s0, s1, s2, s3, s4, s5, s6, s7) t).2.2.2.2.2.1), .val (.int (own_st w (s0, s1, s2, s3, s4, s5, s6, s7) t).2.2.2.2.2.2.1), .val (.int (Int32.ofNat t)), .val (.int (((own_rr (own_st w (s0, s1, s2, s3, s4, s5, s6, s7) t).2.2.2.2.1 (6 : Int32)) ^^^ (own_rr (own_st w (s0, s1, s2, s3, s4, s5, s6, s7) t).2.2.2.2.1 (11 : Int32))) ^^^ (own_rr (own_st w (s0, s1, s2, s3, s4, s5, s6, s7) t).2.2.2.2.1 (25 : Int32)))), .val (.int (((own_st w (s0, s1, s2, s3, s4, s5, s6, s7) t).2.2.2.2.1 &&& (own_st w (s0, s1, s2, s3, s4, s5, s6, s7) t).2.2.2.2.2.1) ^^^ (((own_st w (s0, s1, s2, s3, s4, s5, s6, s7) t).2.2.2.2.1 ^^^ (-1 : Int32)) &&& (own_st w (s0, s1, s2, s3, s4, s5, s6, s7) t).2.2.2.2.2.2.1))), .val (.int (((((own_st w (s0, s1, s2, s3, s4, s5, s6, s7) t).2.2.2.2.2.2.2 + (((own_rr (own_st w (s0, s1, s2, s3, s4, s5, s6, s7) t).2.2.2.2.1 (6 : Int32)) ^^^ (own_rr (own_st w (s0, s1, s2, s3, s4, s5, s6, s7) t).2.2.2.2.1 (11 : Int32))) ^^^ (own_rr (own_st w (s0, s1, s2, s3, s4, s5, s6, s7) t).2.2.2.2.1 (25 : Int32)))) + (((own_st w (s0, s1, s2, s3, s4, s5, s6, s7) t).2.2.2.2.1 &&& (own_st w (s0, s1, s2, s3, s4, s5, s6, s7) t).2.2.2.2.2.1) ^^^ (((own_st w (s0, s1, s2, s3, s4, s5, s6, s7) t).2.2.2.2.1 ^^^ (-1 : Int32)) &&& (own_st w (s0, s1, s2, s3, s4, s5, s6, s7) t).2.2.2.2.2.2.1))) + (own_K t)) + (w t))), .val (.int (((own_rr (own_st w (s0, s1, s2, s3, s4, s5, s6, s7) t).1 (2 : Int32)) ^^^ (own_rr (own_st w (s0, s1, s2, s3, s4, s5, s6, s7) t).1 (13 : Int32))) ^^^ (own_rr (own_st w (s0, s1, s2, s3, s4, s5, s6, s7) t).1 (22 : Int32)))), .val (.int ((((own_rr (own_st w (s0, s1, s2, s3, s4, s5, s6, s7) t).1 (2 : Int32)) ^^^ (own_rr (own_st w (s0, s1, s2, s3, s4, s5, s6, s7) t).1 (13 : Int32))) ^^^ (own_rr (own_st w (s0, s1, s2, s3, s4, s5, s6, s7) t).1 (22 : Int32))) + ((((own_st w (s0, s1, s2, s3, s4, s5, s6, s7) t).1 &&& (own_st w (s0, s1, s2, s3, s4, s5, s6, s7) t).2.1) ^^^ ((own_st w (s0, s1, s2, s3, s4, s5, s6, s7) t).1 &&& (own_st w (s0, s1, s2, s3, s4, s5, s6, s7) t).2.2.1)) ^^^ ((own_st w (s0, s1, s2, s3, s4, s5, s6, s7) t).2.1 &&& (own_st w (s0, s1, s2, s3, s4, s5, s6, s7) t).2.2.1))))]) rfl ?_
        refine XS.iload X112.here hx rfl (hb hby d4_179) rfl ?_
        refine XS.iload X112.here hx rfl (hb hby d4_181) rfl ?_
        refine XS.iadd X112.here hx rfl (hb hby d4_183) rfl ?_
        refine XS.istoreN X112.here hx rfl (hb hby d4_184) rfl (l' := #[.val (.ref a1), .val (.ref a2), .val (.int ((((((own_st w (s0, s1, s2, s3, s4, s5, s6, s7) t).2.2.2.2.2.2.2 + (((own_rr (own_st w (s0, s1, s2, s3, s4, s5, s6, s7) t).2.2.2.2.1 (6 : Int32)) ^^^ (own_rr (own_st w (s0, s1, s2, s3, s4, s5, s6, s7) t).2.2.2.2.1 (11 : Int32))) ^^^ (own_rr (own_st w (s0, s1, s2, s3, s4, s5, s6, s7) t).2.2.2.2.1 (25 : Int32)))) + (((own_st w (s0, s1, s2, s3, s4, s5, s6, s7) t).2.2.2.2.1 &&& (own_st w (s0, s1, s2, s3, s4, s5, s6, s7) t).2.2.2.2.2.1) ^^^ (((own_st w (s0, s1, s2, s3, s4, s5, s6, s7) t).2.2.2.2.1 ^^^ (-1 : Int32)) &&& (own_st w (s0, s1, s2, s3, s4, s5, s6, s7) t).2.2.2.2.2.2.1))) + (own_K t)) + (w t)) + ((((own_rr (own_st w (s0, s1, s2, s3, s4, s5, s6, s7) t).1 (2 : Int32)) ^^^ (own_rr (own_st w (s0, s1, s2, s3, s4, s5, s6, s7) t).1 (13 : Int32))) ^^^ (own_rr (own_st w (s0, s1, s2, s3, s4, s5, s6, s7) t).1 (22 : Int32))) + ((((own_st w (s0, s1, s2, s3, s4, s5, s6, s7) t).1 &&& (own_st w (s0, s1, s2, s3, s4, s5, s6, s7) t).2.1) ^^^ ((own_st w (s0, s1, s2, s3, s4, s5, s6, s7) t).1 &&& (own_st w (s0, s1, s2, s3, s4, s5, s6, s7) t).2.2.1)) ^^^ ((own_st w (s0, s1, s2, s3, s4, s5, s6, s7) t).2.1 &&& (own_st w (s0, s1, s2, s3, s4, s5, s6, s7) t).2.2.1))))), .val (.int (own_st w (s0, s1, s2, s3, s4, s5, s6, s7) t).1), .val (.int (own_st w (s0, s1, s2, s3, s4, s5, s6, s7) t).2.1), .val (.int (own_st w (s0, s1, s2, s3, s4, s5, s6, s7) t).2.2.1), .val (.int ((own_st w (s0, s1, s2, s3, s4, s5, s6, s7) t).2.2.2.1 + (((((own_st w (s0, s1, s2, s3, s4, s5, s6, s7) t).2.2.2.2.2.2.2 + (((own_rr (own_st w (s0, s1, s2, s3, s4, s5, s6, s7) t).2.2.2.2.1 (6 : Int32)) ^^^ (own_rr (own_st w (s0, s1, s2, s3, s4, s5, s6, s7) t).2.2.2.2.1 (11 : Int32))) ^^^ (own_rr (own_st w (s0, s1, s2, s3, s4, s5, s6, s7) t).2.2.2.2.1 (25 : Int32)))) + (((own_st w (s0, s1, s2, s3, s4, s5, s6, s7) t).2.2.2.2.1 &&& (own_st w (s0, s1, s2, s3, s4, s5, s6, s7) t).2.2.2.2.2.1) ^^^ (((own_st w (s0, s1, s2, s3, s4, s5, s6, s7) t).2.2.2.2.1 ^^^ (-1 : Int32)) &&& (own_st w (s0, s1, s2, s3, s4, s5, s6, s7) t).2.2.2.2.2.2.1))) + (own_K t)) + (w t)))), .val (.int (own_st w (s0, s1, s2, s3, s4, s5, s6, s7) t).2.2.2.2.1), .val (.int (own_st w (s0, s1, s2, s3, s4, s5, s6, s7) t).2.2.2.2.2.1), .val (.int (own_st w (s0, s1, s2, s3, s4, s5, s6, s7) t).2.2.2.2.2.2.1), .val (.int (Int32.ofNat t)), .val (.int (((own_rr (own_st w (s0, s1, s2, s3, s4, s5, s6, s7) t).2.2.2.2.1 (6 : Int32)) ^^^ (own_rr (own_st w (s0, s1, s2, s3, s4, s5, s6, s7) t).2.2.2.2.1 (11 : Int32))) ^^^ (own_rr (own_st w (s0, s1, s2, s3, s4, s5, s6, s7) t).2.2.2.2.1 (25 : Int32)))), .val (.int (((own_st w (s0, s1, s2, s3, s4, s5, s6, s7) t).2.2.2.2.1 &&& (own_st w (s0, s1, s2, s3, s4, s5, s6, s7) t).2.2.2.2.2.1) ^^^ (((own_st w (s0, s1, s2, s3, s4, s5, s6, s7) t).2.2.2.2.1 ^^^ (-1 : Int32)) &&& (own_st w (s0, s1, s2, s3, s4, s5, s6, s7) t).2.2.2.2.2.2.1))), .val (.int (((((own_st w (s0, s1, s2, s3, s4, s5, s6, s7) t).2.2.2.2.2.2.2 + (((own_rr (own_st w (s0, s1, s2, s3, s4, s5, s6, s7) t).2.2.2.2.1 (6 : Int32)) ^^^ (own_rr (own_st w (s0, s1, s2, s3, s4, s5, s6, s7) t).2.2.2.2.1 (11 : Int32))) ^^^ (own_rr (own_st w (s0, s1, s2, s3, s4, s5, s6, s7) t).2.2.2.2.1 (25 : Int32)))) + (((own_st w (s0, s1, s2, s3, s4, s5, s6, s7) t).2.2.2.2.1 &&& (own_st w (s0, s1, s2, s3, s4, s5, s6, s7) t).2.2.2.2.2.1) ^^^ (((own_st w (s0, s1, s2, s3, s4, s5, s6, s7) t).2.2.2.2.1 ^^^ (-1 : Int32)) &&& (own_st w (s0, s1, s2, s3, s4, s5, s6, s7) t).2.2.2.2.2.2.1))) + (own_K t)) + (w t))), .val (.int (((own_rr (own_st w (s0, s1, s2, s3, s4, s5, s6, s7) t).1 (2 : Int32)) ^^^ (own_rr (own_st w (s0, s1, s2, s3, s4, s5, s6, s7) t).1 (13 : Int32))) ^^^ (own_rr (own_st w (s0, s1, s2, s3, s4, s5, s6, s7) t).1 (22 : Int32)))), .val (.int ((((own_rr (own_st w (s0, s1, s2, s3, s4, s5, s6, s7) t).1 (2 : Int32)) ^^^ (own_rr (own_st w (s0, s1, s2, s3, s4, s5, s6, s7) t).1 (13 : Int32))) ^^^ (own_rr (own_st w (s0, s1, s2, s3, s4, s5, s6, s7) t).1 (22 : Int32))) + ((((own_st w (s0, s1, s2, s3, s4, s5, s6, s7) t).1 &&& (own_st w (s0, s1, s2, s3, s4, s5, s6, s7) t).2.1) ^^^ ((own_st w (s0, s1, s2, s3, s4, s5, s6, s7) t).1 &&& (own_st w (s0, s1, s2, s3, s4, s5, s6, s7) t).2.2.1)) ^^^ ((own_st w (s0, s1, s2, s3, s4, s5, s6, s7) t).2.1 &&& (own_st w (s0, s1, s2, s3, s4, s5, s6, s7) t).2.2.1))))]) rfl ?_
        refine XS.iinc X112.here hx rfl (hb hby d4_185) rfl (l' := #[.val (.ref a1), .val (.ref a2), .val (.int ((((((own_st w (s0, s1, s2, s3, s4, s5, s6, s7) t).2.2.2.2.2.2.2 + (((own_rr (own_st w (s0, s1, s2, s3, s4, s5, s6, s7) t).2.2.2.2.1 (6 : Int32)) ^^^ (own_rr (own_st w (s0, s1, s2, s3, s4, s5, s6, s7) t).2.2.2.2.1 (11 : Int32))) ^^^ (own_rr (own_st w (s0, s1, s2, s3, s4, s5, s6, s7) t).2.2.2.2.1 (25 : Int32)))) + (((own_st w (s0, s1, s2, s3, s4, s5, s6, s7) t).2.2.2.2.1 &&& (own_st w (s0, s1, s2, s3, s4, s5, s6, s7) t).2.2.2.2.2.1) ^^^ (((own_st w (s0, s1, s2, s3, s4, s5, s6, s7) t).2.2.2.2.1 ^^^ (-1 : Int32)) &&& (own_st w (s0, s1, s2, s3, s4, s5, s6, s7) t).2.2.2.2.2.2.1))) + (own_K t)) + (w t)) + ((((own_rr (own_st w (s0, s1, s2, s3, s4, s5, s6, s7) t).1 (2 : Int32)) ^^^ (own_rr (own_st w (s0, s1, s2, s3, s4, s5, s6, s7) t).1 (13 : Int32))) ^^^ (own_rr (own_st w (s0, s1, s2, s3, s4, s5, s6, s7) t).1 (22 : Int32))) + ((((own_st w (s0, s1, s2, s3, s4, s5, s6, s7) t).1 &&& (own_st w (s0, s1, s2, s3, s4, s5, s6, s7) t).2.1) ^^^ ((own_st w (s0, s1, s2, s3, s4, s5, s6, s7) t).1 &&& (own_st w (s0, s1, s2, s3, s4, s5, s6, s7) t).2.2.1)) ^^^ ((own_st w (s0, s1, s2, s3, s4, s5, s6, s7) t).2.1 &&& (own_st w (s0, s1, s2, s3, s4, s5, s6, s7) t).2.2.1))))), .val (.int (own_st w (s0, s1, s2, s3, s4, s5, s6, s7) t).1), .val (.int (own_st w (s0, s1, s2, s3, s4, s5, s6, s7) t).2.1), .val (.int (own_st w (s0, s1, s2, s3, s4, s5, s6, s7) t).2.2.1), .val (.int ((own_st w (s0, s1, s2, s3, s4, s5, s6, s7) t).2.2.2.1 + (((((own_st w (s0, s1, s2, s3, s4, s5, s6, s7) t).2.2.2.2.2.2.2 + (((own_rr (own_st w (s0, s1, s2, s3, s4, s5, s6, s7) t).2.2.2.2.1 (6 : Int32)) ^^^ (own_rr (own_st w (s0, s1, s2, s3, s4, s5, s6, s7) t).2.2.2.2.1 (11 : Int32))) ^^^ (own_rr (own_st w (s0, s1, s2, s3, s4, s5, s6, s7) t).2.2.2.2.1 (25 : Int32)))) + (((own_st w (s0, s1, s2, s3, s4, s5, s6, s7) t).2.2.2.2.1 &&& (own_st w (s0, s1, s2, s3, s4, s5, s6, s7) t).2.2.2.2.2.1) ^^^ (((own_st w (s0, s1, s2, s3, s4, s5, s6, s7) t).2.2.2.2.1 ^^^ (-1 : Int32)) &&& (own_st w (s0, s1, s2, s3, s4, s5, s6, s7) t).2.2.2.2.2.2.1))) + (own_K t)) + (w t)))), .val (.int (own_st w (s0, s1, s2, s3, s4, s5, s6, s7) t).2.2.2.2.1), .val (.int (own_st w (s0, s1, s2, s3, s4, s5, s6, s7) t).2.2.2.2.2.1), .val (.int (own_st w (s0, s1, s2, s3, s4, s5, s6, s7) t).2.2.2.2.2.2.1), .val (.int ((Int32.ofNat t) + (1 : Int32))), .val (.int (((own_rr (own_st w (s0, s1, s2, s3, s4, s5, s6, s7) t).2.2.2.2.1 (6 : Int32)) ^^^ (own_rr (own_st w (s0, s1, s2, s3, s4, s5, s6, s7) t).2.2.2.2.1 (11 : Int32))) ^^^ (own_rr (own_st w (s0, s1, s2, s3, s4, s5, s6, s7) t).2.2.2.2.1 (25 : Int32)))), .val (.int (((own_st w (s0, s1, s2, s3, s4, s5, s6, s7) t).2.2.2.2.1 &&& (own_st w (s0, s1, s2, s3, s4, s5, s6, s7) t).2.2.2.2.2.1) ^^^ (((own_st w (s0, s1, s2, s3, s4, s5, s6, s7) t).2.2.2.2.1 ^^^ (-1 : Int32)) &&& (own_st w (s0, s1, s2, s3, s4, s5, s6, s7) t).2.2.2.2.2.2.1))), .val (.int (((((own_st w (s0, s1, s2, s3, s4, s5, s6, s7) t).2.2.2.2.2.2.2 + (((own_rr (own_st w (s0, s1, s2, s3, s4, s5, s6, s7) t).2.2.2.2.1 (6 : Int32)) ^^^ (own_rr (own_st w (s0, s1, s2, s3, s4, s5, s6, s7) t).2.2.2.2.1 (11 : Int32))) ^^^ (own_rr (own_st w (s0, s1, s2, s3, s4, s5, s6, s7) t).2.2.2.2.1 (25 : Int32)))) + (((own_st w (s0, s1, s2, s3, s4, s5, s6, s7) t).2.2.2.2.1 &&& (own_st w (s0, s1, s2, s3, s4, s5, s6, s7) t).2.2.2.2.2.1) ^^^ (((own_st w (s0, s1, s2, s3, s4, s5, s6, s7) t).2.2.2.2.1 ^^^ (-1 : Int32)) &&& (own_st w (s0, s1, s2, s3, s4, s5, s6, s7) t).2.2.2.2.2.2.1))) + (own_K t)) + (w t))), .val (.int (((own_rr (own_st w (s0, s1, s2, s3, s4, s5, s6, s7) t).1 (2 : Int32)) ^^^ (own_rr (own_st w (s0, s1, s2, s3, s4, s5, s6, s7) t).1 (13 : Int32))) ^^^ (own_rr (own_st w (s0, s1, s2, s3, s4, s5, s6, s7) t).1 (22 : Int32)))), .val (.int ((((own_rr (own_st w (s0, s1, s2, s3, s4, s5, s6, s7) t).1 (2 : Int32)) ^^^ (own_rr (own_st w (s0, s1, s2, s3, s4, s5, s6, s7) t).1 (13 : Int32))) ^^^ (own_rr (own_st w (s0, s1, s2, s3, s4, s5, s6, s7) t).1 (22 : Int32))) + ((((own_st w (s0, s1, s2, s3, s4, s5, s6, s7) t).1 &&& (own_st w (s0, s1, s2, s3, s4, s5, s6, s7) t).2.1) ^^^ ((own_st w (s0, s1, s2, s3, s4, s5, s6, s7) t).1 &&& (own_st w (s0, s1, s2, s3, s4, s5, s6, s7) t).2.2.1)) ^^^ ((own_st w (s0, s1, s2, s3, s4, s5, s6, s7) t).2.1 &&& (own_st w (s0, s1, s2, s3, s4, s5, s6, s7) t).2.2.1))))]) rfl ?_
        refine XS.goto X112.here hx rfl (pc0 := 188) (pc' := 43) rfl (hb hby d4_188) (by decide) (by decide) ?_
        exact kt
      rw [show ((Int32.ofNat t) + (1 : Int32)) = (Int32.ofNat (t + 1)) from own_isucc _]
      exact ih86 (t + 1) T112 _ _ _ _ _ _ (by omega) X112 q112_0 N112 (One.val rfl) (One.val rfl) (One.val rfl) (One.val rfl) (One.val rfl)
  exact loop86 64 0 s₁ _ _ _ _ _ _ rfl X0 e0 N0 One.u One.u One.u One.u One.u
theorem pd_1 : parseMethodDescriptor "([I[I)V" = some ⟨[(.array .int), (.array .int)], none⟩ := by decide +kernel
theorem d2_0 : decode prog_4_method_2_code 0 = .ok (.ldc2_w 7, 3) := by decide +kernel
theorem d2_3 : decode prog_4_method_2_code 3 = .ok (.aload_n 0, 1) := by decide +kernel
theorem d2_4 : decode prog_4_method_2_code 4 = .ok (.arraylength, 1) := by decide +kernel
theorem d2_5 : decode prog_4_method_2_code 5 = .ok (.i2l, 1) := by decide +kernel
theorem d2_6 : decode prog_4_method_2_code 6 = .ok (.lmul, 1) := by decide +kernel
theorem d2_7 : decode prog_4_method_2_code 7 = .ok (.lstore_n 1, 1) := by decide +kernel
theorem d2_8 : decode prog_4_method_2_code 8 = .ok (.aload_n 0, 1) := by decide +kernel
theorem d2_9 : decode prog_4_method_2_code 9 = .ok (.arraylength, 1) := by decide +kernel
theorem d2_10 : decode prog_4_method_2_code 10 = .ok (.bipush 8, 2) := by decide +kernel
theorem d2_12 : decode prog_4_method_2_code 12 = .ok (.iadd, 1) := by decide +kernel
theorem d2_13 : decode prog_4_method_2_code 13 = .ok (.bipush 64, 2) := by decide +kernel
theorem d2_15 : decode prog_4_method_2_code 15 = .ok (.idiv, 1) := by decide +kernel
theorem d2_16 : decode prog_4_method_2_code 16 = .ok (.iconst 1, 1) := by decide +kernel
theorem d2_17 : decode prog_4_method_2_code 17 = .ok (.iadd, 1) := by decide +kernel
theorem d2_18 : decode prog_4_method_2_code 18 = .ok (.istore_n 3, 1) := by decide +kernel
theorem d2_19 : decode prog_4_method_2_code 19 = .ok (.iload_n 3, 1) := by decide +kernel
theorem d2_20 : decode prog_4_method_2_code 20 = .ok (.bipush 64, 2) := by decide +kernel
theorem d2_22 : decode prog_4_method_2_code 22 = .ok (.imul, 1) := by decide +kernel
theorem d2_23 : decode prog_4_method_2_code 23 = .ok (.newarray .byte, 2) := by decide +kernel
theorem d2_25 : decode prog_4_method_2_code 25 = .ok (.astore 4, 2) := by decide +kernel
theorem d2_27 : decode prog_4_method_2_code 27 = .ok (.aload_n 0, 1) := by decide +kernel
theorem d2_28 : decode prog_4_method_2_code 28 = .ok (.iconst 0, 1) := by decide +kernel
theorem d2_29 : decode prog_4_method_2_code 29 = .ok (.aload 4, 2) := by decide +kernel
theorem d2_31 : decode prog_4_method_2_code 31 = .ok (.iconst 0, 1) := by decide +kernel
theorem d2_32 : decode prog_4_method_2_code 32 = .ok (.aload_n 0, 1) := by decide +kernel
theorem d2_33 : decode prog_4_method_2_code 33 = .ok (.arraylength, 1) := by decide +kernel
theorem d2_34 : decode prog_4_method_2_code 34 = .ok (.invokestatic 9, 3) := by decide +kernel
theorem d2_37 : decode prog_4_method_2_code 37 = .ok (.aload 4, 2) := by decide +kernel
theorem d2_39 : decode prog_4_method_2_code 39 = .ok (.aload_n 0, 1) := by decide +kernel
theorem d2_40 : decode prog_4_method_2_code 40 = .ok (.arraylength, 1) := by decide +kernel
theorem d2_41 : decode prog_4_method_2_code 41 = .ok (.bipush (-128), 2) := by decide +kernel
theorem d2_43 : decode prog_4_method_2_code 43 = .ok (.bastore, 1) := by decide +kernel
theorem d2_44 : decode prog_4_method_2_code 44 = .ok (.iconst 0, 1) := by decide +kernel
theorem d2_45 : decode prog_4_method_2_code 45 = .ok (.istore 5, 2) := by decide +kernel
theorem d2_47 : decode prog_4_method_2_code 47 = .ok (.iload 5, 2) := by decide +kernel
theorem d2_49 : decode prog_4_method_2_code 49 = .ok (.bipush 8, 2) := by decide +kernel
theorem d2_51 : decode prog_4_method_2_code 51 = .ok (.if_icmp .ge 29, 3) := by decide +kernel
theorem d2_54 : decode prog_4_method_2_code 54 = .ok (.aload 4, 2) := by decide +kernel
theorem d2_56 : decode prog_4_method_2_code 56 = .ok (.aload 4, 2) := by decide +kernel
theorem d2_58 : decode prog_4_method_2_code 58 = .ok (.arraylength, 1) := by decide +kernel
theorem d2_59 : decode prog_4_method_2_code 59 = .ok (.iconst 1, 1) := by decide +kernel
theorem d2_60 : decode prog_4_method_2_code 60 = .ok (.isub, 1) := by decide +kernel
theorem d2_61 : decode prog_4_method_2_code 61 = .ok (.iload 5, 2) := by decide +kernel
theorem d2_63 : decode prog_4_method_2_code 63 = .ok (.isub, 1) := by decide +kernel
theorem d2_64 : decode prog_4_method_2_code 64 = .ok (.lload_n 1, 1) := by decide +kernel
theorem d2_65 : decode prog_4_method_2_code 65 = .ok (.bipush 8, 2) := by decide +kernel
theorem d2_67 : decode prog_4_method_2_code 67 = .ok (.iload 5, 2) := by decide +kernel
theorem d2_69 : decode prog_4_method_2_code 69 = .ok (.imul, 1) := by decide +kernel
theorem d2_70 : decode prog_4_method_2_code 70 = .ok (.lushr, 1) := by decide +kernel
theorem d2_71 : decode prog_4_method_2_code 71 = .ok (.l2i, 1) := by decide +kernel
theorem d2_72 : decode prog_4_method_2_code 72 = .ok (.i2b, 1) := by decide +kernel
theorem d2_73 : decode prog_4_method_2_code 73 = .ok (.bastore, 1) := by decide +kernel
theorem d2_74 : decode prog_4_method_2_code 74 = .ok (.iinc 5 1, 3) := by decide +kernel
theorem d2_77 : decode prog_4_method_2_code 77 = .ok (.goto (-30), 3) := by decide +kernel
theorem d2_80 : decode prog_4_method_2_code 80 = .ok (.getstatic 15, 3) := by decide +kernel
theorem d2_83 : decode prog_4_method_2_code 83 = .ok (.invokevirtual 21, 3) := by decide +kernel
theorem d2_86 : decode prog_4_method_2_code 86 = .ok (.checkcast 22, 3) := by decide +kernel
theorem d2_89 : decode prog_4_method_2_code 89 = .ok (.astore 5, 2) := by decide +kernel
theorem d2_91 : decode prog_4_method_2_code 91 = .ok (.bipush 64, 2) := by decide +kernel
theorem d2_93 : decode prog_4_method_2_code 93 = .ok (.newarray .int, 2) := by decide +kernel
theorem d2_95 : decode prog_4_method_2_code 95 = .ok (.astore 6, 2) := by decide +kernel
theorem d2_97 : decode prog_4_method_2_code 97 = .ok (.iconst 0, 1) := by decide +kernel
theorem d2_98 : decode prog_4_method_2_code 98 = .ok (.istore 7, 2) := by decide +kernel
theorem d2_100 : decode prog_4_method_2_code 100 = .ok (.iload 7, 2) := by decide +kernel
theorem d2_102 : decode prog_4_method_2_code 102 = .ok (.iload_n 3, 1) := by decide +kernel
theorem d2_103 : decode prog_4_method_2_code 103 = .ok (.if_icmp .ge 212, 3) := by decide +kernel
theorem d2_106 : decode prog_4_method_2_code 106 = .ok (.iconst 0, 1) := by decide +kernel
theorem d2_107 : decode prog_4_method_2_code 107 = .ok (.istore 8, 2) := by decide +kernel
theorem d2_109 : decode prog_4_method_2_code 109 = .ok (.iload 8, 2) := by decide +kernel
theorem d2_111 : decode prog_4_method_2_code 111 = .ok (.bipush 16, 2) := by decide +kernel
theorem d2_113 : decode prog_4_method_2_code 113 = .ok (.if_icmp .ge 80, 3) := by decide +kernel
theorem d2_116 : decode prog_4_method_2_code 116 = .ok (.iload 7, 2) := by decide +kernel
theorem d2_118 : decode prog_4_method_2_code 118 = .ok (.bipush 64, 2) := by decide +kernel
theorem d2_120 : decode prog_4_method_2_code 120 = .ok (.imul, 1) := by decide +kernel
theorem d2_121 : decode prog_4_method_2_code 121 = .ok (.iconst 4, 1) := by decide +kernel
theorem d2_122 : decode prog_4_method_2_code 122 = .ok (.iload 8, 2) := by decide +kernel
theorem d2_124 : decode prog_4_method_2_code 124 = .ok (.imul, 1) := by decide +kernel
theorem d2_125 : decode prog_4_method_2_code 125 = .ok (.iadd, 1) := by decide +kernel
theorem d2_126 : decode prog_4_method_2_code 126 = .ok (.istore 9, 2) := by decide +kernel
theorem d2_128 : decode prog_4_method_2_code 128 = .ok (.aload 6, 2) := by decide +kernel
theorem d2_130 : decode prog_4_method_2_code 130 = .ok (.iload 8, 2) := by decide +kernel
theorem d2_132 : decode prog_4_method_2_code 132 = .ok (.aload 4, 2) := by decide +kernel
theorem d2_134 : decode prog_4_method_2_code 134 = .ok (.iload 9, 2) := by decide +kernel
theorem d2_136 : decode prog_4_method_2_code 136 = .ok (.baload, 1) := by decide +kernel
theorem d2_137 : decode prog_4_method_2_code 137 = .ok (.sipush 255, 3) := by decide +kernel
theorem d2_140 : decode prog_4_method_2_code 140 = .ok (.iand, 1) := by decide +kernel
theorem d2_141 : decode prog_4_method_2_code 141 = .ok (.bipush 24, 2) := by decide +kernel
theorem d2_143 : decode prog_4_method_2_code 143 = .ok (.ishl, 1) := by decide +kernel
theorem d2_144 : decode prog_4_method_2_code 144 = .ok (.aload 4, 2) := by decide +kernel
theorem d2_146 : decode prog_4_method_2_code 146 = .ok (.iload 9, 2) := by decide +kernel
theorem d2_148 : decode prog_4_method_2_code 148 = .ok (.iconst 1, 1) := by decide +kernel
theorem d2_149 : decode prog_4_method_2_code 149 = .ok (.iadd, 1) := by decide +kernel
theorem d2_150 : decode prog_4_method_2_code 150 = .ok (.baload, 1) := by decide +kernel
theorem d2_151 : decode prog_4_method_2_code 151 = .ok (.sipush 255, 3) := by decide +kernel
theorem d2_154 : decode prog_4_method_2_code 154 = .ok (.iand, 1) := by decide +kernel
theorem d2_155 : decode prog_4_method_2_code 155 = .ok (.bipush 16, 2) := by decide +kernel
theorem d2_157 : decode prog_4_method_2_code 157 = .ok (.ishl, 1) := by decide +kernel
theorem d2_158 : decode prog_4_method_2_code 158 = .ok (.ior, 1) := by decide +kernel
theorem d2_159 : decode prog_4_method_2_code 159 = .ok (.aload 4, 2) := by decide +kernel
theorem d2_161 : decode prog_4_method_2_code 161 = .ok (.iload 9, 2) := by decide +kernel
theorem d2_163 : decode prog_4_method_2_code 163 = .ok (.iconst 2, 1) := by decide +kernel
theorem d2_164 : decode prog_4_method_2_code 164 = .ok (.iadd, 1) := by decide +kernel
theorem d2_165 : decode prog_4_method_2_code 165 = .ok (.baload, 1) := by decide +kernel
theorem d2_166 : decode prog_4_method_2_code 166 = .ok (.sipush 255, 3) := by decide +kernel
theorem d2_169 : decode prog_4_method_2_code 169 = .ok (.iand, 1) := by decide +kernel
theorem d2_170 : decode prog_4_method_2_code 170 = .ok (.bipush 8, 2) := by decide +kernel
theorem d2_172 : decode prog_4_method_2_code 172 = .ok (.ishl, 1) := by decide +kernel
theorem d2_173 : decode prog_4_method_2_code 173 = .ok (.ior, 1) := by decide +kernel
theorem d2_174 : decode prog_4_method_2_code 174 = .ok (.aload 4, 2) := by decide +kernel
theorem d2_176 : decode prog_4_method_2_code 176 = .ok (.iload 9, 2) := by decide +kernel
theorem d2_178 : decode prog_4_method_2_code 178 = .ok (.iconst 3, 1) := by decide +kernel
theorem d2_179 : decode prog_4_method_2_code 179 = .ok (.iadd, 1) := by decide +kernel
theorem d2_180 : decode prog_4_method_2_code 180 = .ok (.baload, 1) := by decide +kernel
theorem d2_181 : decode prog_4_method_2_code 181 = .ok (.sipush 255, 3) := by decide +kernel
theorem d2_184 : decode prog_4_method_2_code 184 = .ok (.iand, 1) := by decide +kernel
theorem d2_185 : decode prog_4_method_2_code 185 = .ok (.ior, 1) := by decide +kernel
theorem d2_186 : decode prog_4_method_2_code 186 = .ok (.iastore, 1) := by decide +kernel
theorem d2_187 : decode prog_4_method_2_code 187 = .ok (.iinc 8 1, 3) := by decide +kernel
theorem d2_190 : decode prog_4_method_2_code 190 = .ok (.goto (-81), 3) := by decide +kernel
theorem d2_193 : decode prog_4_method_2_code 193 = .ok (.bipush 16, 2) := by decide +kernel
theorem d2_195 : decode prog_4_method_2_code 195 = .ok (.istore 8, 2) := by decide +kernel
theorem d2_197 : decode prog_4_method_2_code 197 = .ok (.iload 8, 2) := by decide +kernel
theorem d2_199 : decode prog_4_method_2_code 199 = .ok (.bipush 64, 2) := by decide +kernel
theorem d2_201 : decode prog_4_method_2_code 201 = .ok (.if_icmp .ge 101, 3) := by decide +kernel
theorem d2_204 : decode prog_4_method_2_code 204 = .ok (.aload 6, 2) := by decide +kernel
theorem d2_206 : decode prog_4_method_2_code 206 = .ok (.iload 8, 2) := by decide +kernel
theorem d2_208 : decode prog_4_method_2_code 208 = .ok (.bipush 15, 2) := by decide +kernel
theorem d2_210 : decode prog_4_method_2_code 210 = .ok (.isub, 1) := by decide +kernel
theorem d2_211 : decode prog_4_method_2_code 211 = .ok (.iaload, 1) := by decide +kernel
theorem d2_212 : decode prog_4_method_2_code 212 = .ok (.istore 9, 2) := by decide +kernel
theorem d2_214 : decode prog_4_method_2_code 214 = .ok (.aload 6, 2) := by decide +kernel
theorem d2_216 : decode prog_4_method_2_code 216 = .ok (.iload 8, 2) := by decide +kernel
theorem d2_218 : decode prog_4_method_2_code 218 = .ok (.iconst 2, 1) := by decide +kernel
theorem d2_219 : decode prog_4_method_2_code 219 = .ok (.isub, 1) := by decide +kernel
theorem d2_220 : decode prog_4_method_2_code 220 = .ok (.iaload, 1) := by decide +kernel
theorem d2_221 : decode prog_4_method_2_code 221 = .ok (.istore 10, 2) := by decide +kernel
theorem d2_223 : decode prog_4_method_2_code 223 = .ok (.iload 9, 2) := by decide +kernel
theorem d2_225 : decode prog_4_method_2_code 225 = .ok (.bipush 7, 2) := by decide +kernel
theorem d2_227 : decode prog_4_method_2_code 227 = .ok (.invokestatic 26, 3) := by decide +kernel
theorem d2_230 : decode prog_4_method_2_code 230 = .ok (.iload 9, 2) := by decide +kernel
theorem d2_232 : decode prog_4_method_2_code 232 = .ok (.bipush 18, 2) := by decide +kernel
theorem d2_234 : decode prog_4_method_2_code 234 = .ok (.invokestatic 26, 3) := by decide +kernel
theorem d2_237 : decode prog_4_method_2_code 237 = .ok (.ixor, 1) := by decide +kernel
theorem d2_238 : decode prog_4_method_2_code 238 = .ok (.iload 9, 2) := by decide +kernel
theorem d2_240 : decode prog_4_method_2_code 240 = .ok (.iconst 3, 1) := by decide +kernel
theorem d2_241 : decode prog_4_method_2_code 241 = .ok (.iushr, 1) := by decide +kernel
theorem d2_242 : decode prog_4_method_2_code 242 = .ok (.ixor, 1) := by decide +kernel
theorem d2_243 : decode prog_4_method_2_code 243 = .ok (.istore 11, 2) := by decide +kernel
theorem d2_245 : decode prog_4_method_2_code 245 = .ok (.iload 10, 2) := by decide +kernel
theorem d2_247 : decode prog_4_method_2_code 247 = .ok (.bipush 17, 2) := by decide +kernel
theorem d2_249 : decode prog_4_method_2_code 249 = .ok (.invokestatic 26, 3) := by decide +kernel
theorem d2_252 : decode prog_4_method_2_code 252 = .ok (.iload 10, 2) := by decide +kernel
theorem d2_254 : decode prog_4_method_2_code 254 = .ok (.bipush 19, 2) := by decide +kernel
theorem d2_256 : decode prog_4_method_2_code 256 = .ok (.invokestatic 26, 3) := by decide +kernel
theorem d2_259 : decode prog_4_method_2_code 259 = .ok (.ixor, 1) := by decide +kernel
theorem d2_260 : decode prog_4_method_2_code 260 = .ok (.iload 10, 2) := by decide +kernel
theorem d2_262 : decode prog_4_method_2_code 262 = .ok (.bipush 10, 2) := by decide +kernel
theorem d2_264 : decode prog_4_method_2_code 264 = .ok (.iushr, 1) := by decide +kernel
theorem d2_265 : decode prog_4_method_2_code 265 = .ok (.ixor, 1) := by decide +kernel
theorem d2_266 : decode prog_4_method_2_code 266 = .ok (.istore 12, 2) := by decide +kernel
theorem d2_268 : decode prog_4_method_2_code 268 = .ok (.aload 6, 2) := by decide +kernel
theorem d2_270 : decode prog_4_method_2_code 270 = .ok (.iload 8, 2) := by decide +kernel
theorem d2_272 : decode prog_4_method_2_code 272 = .ok (.iload 12, 2) := by decide +kernel
theorem d2_274 : decode prog_4_method_2_code 274 = .ok (.aload 6, 2) := by decide +kernel
theorem d2_276 : decode prog_4_method_2_code 276 = .ok (.iload 8, 2) := by decide +kernel
theorem d2_278 : decode prog_4_method_2_code 278 = .ok (.bipush 7, 2) := by decide +kernel
theorem d2_280 : decode prog_4_method_2_code 280 = .ok (.isub, 1) := by decide +kernel
theorem d2_281 : decode prog_4_method_2_code 281 = .ok (.iaload, 1) := by decide +kernel
theorem d2_282 : decode prog_4_method_2_code 282 = .ok (.iadd, 1) := by decide +kernel
theorem d2_283 : decode prog_4_method_2_code 283 = .ok (.iload 11, 2) := by decide +kernel
theorem d2_285 : decode prog_4_method_2_code 285 = .ok (.iadd, 1) := by decide +kernel
theorem d2_286 : decode prog_4_method_2_code 286 = .ok (.aload 6, 2) := by decide +kernel
theorem d2_288 : decode prog_4_method_2_code 288 = .ok (.iload 8, 2) := by decide +kernel
theorem d2_290 : decode prog_4_method_2_code 290 = .ok (.bipush 16, 2) := by decide +kernel
theorem d2_292 : decode prog_4_method_2_code 292 = .ok (.isub, 1) := by decide +kernel
theorem d2_293 : decode prog_4_method_2_code 293 = .ok (.iaload, 1) := by decide +kernel
theorem d2_294 : decode prog_4_method_2_code 294 = .ok (.iadd, 1) := by decide +kernel
theorem d2_295 : decode prog_4_method_2_code 295 = .ok (.iastore, 1) := by decide +kernel
theorem d2_296 : decode prog_4_method_2_code 296 = .ok (.iinc 8 1, 3) := by decide +kernel
theorem d2_299 : decode prog_4_method_2_code 299 = .ok (.goto (-102), 3) := by decide +kernel
theorem d2_302 : decode prog_4_method_2_code 302 = .ok (.aload 5, 2) := by decide +kernel
theorem d2_304 : decode prog_4_method_2_code 304 = .ok (.aload 6, 2) := by decide +kernel
theorem d2_306 : decode prog_4_method_2_code 306 = .ok (.invokestatic 32, 3) := by decide +kernel
theorem d2_309 : decode prog_4_method_2_code 309 = .ok (.iinc 7 1, 3) := by decide +kernel
theorem d2_312 : decode prog_4_method_2_code 312 = .ok (.goto (-212), 3) := by decide +kernel
theorem d2_315 : decode prog_4_method_2_code 315 = .ok (.bipush 32, 2) := by decide +kernel
theorem d2_317 : decode prog_4_method_2_code 317 = .ok (.newarray .byte, 2) := by decide +kernel
theorem d2_319 : decode prog_4_method_2_code 319 = .ok (.astore 7, 2) := by decide +kernel
theorem d2_321 : decode prog_4_method_2_code 321 = .ok (.iconst 0, 1) := by decide +kernel
theorem d2_322 : decode prog_4_method_2_code 322 = .ok (.istore 8, 2) := by decide +kernel
theorem d2_324 : decode prog_4_method_2_code 324 = .ok (.iload 8, 2) := by decide +kernel
theorem d2_326 : decode prog_4_method_2_code 326 = .ok (.bipush 32, 2) := by decide +kernel
theorem d2_328 : decode prog_4_method_2_code 328 = .ok (.if_icmp .ge 33, 3) := by decide +kernel
theorem d2_331 : decode prog_4_method_2_code 331 = .ok (.aload 7, 2) := by decide +kernel
theorem d2_333 : decode prog_4_method_2_code 333 = .ok (.iload 8, 2) := by decide +kernel
theorem d2_335 : decode prog_4_method_2_code 335 = .ok (.aload 5, 2) := by decide +kernel
theorem d2_337 : decode prog_4_method_2_code 337 = .ok (.iload 8, 2) := by decide +kernel
theorem d2_339 : decode prog_4_method_2_code 339 = .ok (.iconst 4, 1) := by decide +kernel
theorem d2_340 : decode prog_4_method_2_code 340 = .ok (.idiv, 1) := by decide +kernel
theorem d2_341 : decode prog_4_method_2_code 341 = .ok (.iaload, 1) := by decide +kernel
theorem d2_342 : decode prog_4_method_2_code 342 = .ok (.bipush 24, 2) := by decide +kernel
theorem d2_344 : decode prog_4_method_2_code 344 = .ok (.bipush 8, 2) := by decide +kernel
theorem d2_346 : decode prog_4_method_2_code 346 = .ok (.iload 8, 2) := by decide +kernel
theorem d2_348 : decode prog_4_method_2_code 348 = .ok (.iconst 4, 1) := by decide +kernel
theorem d2_349 : decode prog_4_method_2_code 349 = .ok (.irem, 1) := by decide +kernel
theorem d2_350 : decode prog_4_method_2_code 350 = .ok (.imul, 1) := by decide +kernel
theorem d2_351 : decode prog_4_method_2_code 351 = .ok (.isub, 1) := by decide +kernel
theorem d2_352 : decode prog_4_method_2_code 352 = .ok (.iushr, 1) := by decide +kernel
theorem d2_353 : decode prog_4_method_2_code 353 = .ok (.i2b, 1) := by decide +kernel
theorem d2_354 : decode prog_4_method_2_code 354 = .ok (.bastore, 1) := by decide +kernel
theorem d2_355 : decode prog_4_method_2_code 355 = .ok (.iinc 8 1, 3) := by decide +kernel
theorem d2_358 : decode prog_4_method_2_code 358 = .ok (.goto (-34), 3) := by decide +kernel
theorem d2_361 : decode prog_4_method_2_code 361 = .ok (.aload 7, 2) := by decide +kernel
theorem d2_363 : decode prog_4_method_2_code 363 = .ok (.areturn, 1) := by decide +kernel
theorem ef_2A (m : MethodId) (a1 : Addr) : entryFrame m #[(.ref a1)] 13 = mkF m 0 #[.val (.ref a1), .unset, .unset, .unset, .unset, .unset, .unset, .unset, .unset, .unset, .unset, .unset, .unset] [] := by first | (simp [entryFrame, mkF, argsToLocals, Value.category]; done) | rfl
def Q2A (Z : State) (a1 : Addr) (w_ROUND : Addr) (k_ROUND : ClassId) (w_INITIAL : Addr) (k_INITIAL : ClassId) (k1 : ClassId) (n : Int32) (vs : List Value) (B : Nat → Int32) (h0 : Heap) (n0 : Nat) (v : Option Value) (h : Heap) (L : List Loc) : Prop := ∃ (bn : Addr) (kn : ClassId) (y : St8), v = some (.ref bn) ∧ Fr n0 L ∧ Keep h0 h [] ∧ h0.size ≤ bn ∧ Arv Z h bn kn .byte (32 : Int32) (own_tab 32 (own_oa (own_ob y) 32)) (.int 0) ∧ y = (own_blk (own_gA n B) 0 (fun _ => 0) ((1779033703 : Int32), (-1150833019 : Int32), (1013904242 : Int32), (-1521486534 : Int32), (1359893119 : Int32), (-1694144372 : Int32), (528734635 : Int32), (1541459225 : Int32)))
set_option maxRecDepth 65536 in
set_option maxHeartbeats 40000000 in
theorem rm2A (l : Launch) (Z : State) (a0 : Array Value) (hw : ∀ d ∈ tables_1, d.before a0 Z = true) (ws : List Jvm.Cond) (a1 : Addr) (w_ROUND : Addr) (k_ROUND : ClassId) (w_INITIAL : Addr) (k_INITIAL : ClassId) (k1 : ClassId) (n : Int32) (vs : List Value) (B : Nat → Int32) (h0 : Heap) (n0 : Nat) (Z0 : n0 ≤ h0.size) (S_ROUND : Sta Z h0 "tributary/Digests" "ROUND" "[I" (.ref w_ROUND)) (V_ROUND : Arv Z h0 w_ROUND k_ROUND .int (64 : Int32) (own_tab 64 own_K) (.int 0)) (S_INITIAL : Sta Z h0 "tributary/Digests" "INITIAL" "[I" (.ref w_INITIAL)) (E_INITIAL : Exa Z h0 w_INITIAL "[I") (V_INITIAL : Arv Z h0 w_INITIAL k_INITIAL .int (8 : Int32) [(.int 1779033703), (.int (-1150833019)), (.int 1013904242), (.int (-1521486534)), (.int 1359893119), (.int (-1694144372)), (.int 528734635), (.int 1541459225)] (.int 0)) (V_1 : Arv Z h0 a1 k1 .byte n vs (.int 0)) (hB : ∀ i, i < n.toNatClampNeg → vs.getD i (.int 0) = .int (B i)) (hn : 0 ≤ n.toInt ∧ n.toInt ≤ 55) :
    MetFree l (⟨"tributary/Digests", "sha256", "([B)[B"⟩ : MethodName) (head1 (Jvm.Cond.code (⟨"tributary/Digests", "sha256", "([B)[B"⟩ : MethodName) prog_4_method_2_code 13 (some (.array .byte)) :: ws) ({ frames := 2, cells := 4, slots := 168, locals := 41 } : Room)) (fun a U => a = #[(.ref a1)] ∧ Z.Warmed39 U.vm ∧ U.heap = h0) (fun _ _ _ _ _ => True) (fun _ U o U' => ∃ v L, o = .returned v ∧ Q2A Z a1 w_ROUND k_ROUND w_INITIAL k_INITIAL k1 n vs B h0 n0 v U'.heap L ∧ FrameEnd U o U' L ({ frames := 2, cells := 4, slots := 168, locals := 41 } : Room).cells ({ frames := 2, cells := 4, slots := 168, locals := 41 } : Room).slots) := by
  refine MetFree.of_bodySF (plainFor_of_name pn_188) hisR ?_
  intro p e s m args below meth c s₁ Bd hml0 hP hK
  obtain ⟨rfl, hZ, hh⟩ := hP
  have hx := Bd.exec
  have hby := Bd.bytes
  have hml : c.maxLocals = 13 := hml0
  have hown : s.vm.findClass "tributary/Digests" = some m.cls := findClass_of_methodNamed Bd.named
  have hnm := (name_of_methodNamed Bd.named Bd.method).1
  have X0 : Stand p l e ({ frames := 2, cells := 4, slots := 168, locals := 41 } : Room) s m #[(.ref a1)] below meth c s₁ [] 0 0 := Stand.of_body Bd
  have e0 : s₁.heap = h0 := by rw [← hh, Bd.state]; rfl
  have N0 := Fr.nil n0
  refine own_go (B := s₁.setTop (mkF m 0 #[.val (.ref a1), .unset, .unset, .unset, .unset, .unset, .unset, .unset, .unset, .unset, .unset, .unset, .unset] [])) (fun t k => castTop (ef_2A m a1) k) ?_
  refine own_go (B := s₁.setTop (mkF m 4 #[.val (.ref a1), .unset, .unset, .unset, .unset, .unset, .unset, .unset, .unset, .unset, .unset, .unset, .unset] [(.ref a1), (.long (8 : Int64))])) (fun tg kt => ?_) ?_
  · refine X0.ldc2Long hx hown (mvT hZ (hw _ (List.mem_of_getElem? (i := 10) rfl))) (g := (mkF m 0 #[.val (.ref a1), .unset, .unset, .unset, .unset, .unset, .unset, .unset, .unset, .unset, .unset, .unset, .unset] [])) rfl (hb hby d2_0) _ ?_
    refine XS.aloadN X0.here hx rfl (hb hby d2_3) rfl rfl ?_
    exact kt
  obtain ⟨cl113, Ar113, cq113, cS113, cN113, cH113, cG113⟩ := id V_1
  refine own_go (B := s₁.setTop (mkF m 9 #[.val (.ref a1), .val (.long ((8 : Int64) * (n.toInt64))), .second, .unset, .unset, .unset, .unset, .unset, .unset, .unset, .unset, .unset, .unset] [(.ref a1)])) (fun tg kt => ?_) ?_
  · refine X0.arraylength hx (by rw [e0]; exact Ar113.1) (State.isArrayOf_alike hZ.alike Ar113.2.1) (g := (mkF m 4 #[.val (.ref a1), .unset, .unset, .unset, .unset, .unset, .unset, .unset, .unset, .unset, .unset, .unset, .unset] [(.ref a1), (.long (8 : Int64))])) rfl rfl (hb hby d2_4) _ ?_
    rw [len_of cS113 cN113]
    refine XS.i2l X0.here hx rfl (hb hby d2_5) rfl ?_
    refine XS.lmul X0.here hx rfl (hb hby d2_6) rfl ?_
    refine XS.lstoreN X0.here hx rfl (hb hby d2_7) rfl (l' := #[.val (.ref a1), .val (.long ((8 : Int64) * (n.toInt64))), .second, .unset, .unset, .unset, .unset, .unset, .unset, .unset, .unset, .unset, .unset]) rfl ?_
    refine XS.aloadN X0.here hx rfl (hb hby d2_8) rfl rfl ?_
    exact kt
  obtain ⟨cl114, Ar114, cq114, cS114, cN114, cH114, cG114⟩ := id V_1
  refine own_go (B := s₁.setTop (mkF m 19 #[.val (.ref a1), .val (.long ((8 : Int64) * (n.toInt64))), .second, .val (.int (((n + (8 : Int32)) / (64 : Int32)) + (1 : Int32))), .unset, .unset, .unset, .unset, .unset, .unset, .unset, .unset, .unset] [])) (fun tg kt => ?_) ?_
  · refine X0.arraylength hx (by rw [e0]; exact Ar114.1) (State.isArrayOf_alike hZ.alike Ar114.2.1) (g := (mkF m 9 #[.val (.ref a1), .val (.long ((8 : Int64) * (n.toInt64))), .second, .unset, .unset, .unset, .unset, .unset, .unset, .unset, .unset, .unset, .unset] [(.ref a1)])) rfl rfl (hb hby d2_9) _ ?_
    rw [len_of cS114 cN114]
    refine XS.bipush X0.here hx rfl (hb hby d2_10) ?_
    refine XS.iadd X0.here hx rfl (hb hby d2_12) rfl ?_
    refine XS.bipush X0.here hx rfl (hb hby d2_13) ?_
    refine XS.idiv X0.here hx rfl (hb hby d2_15) rfl (by decide) ?_
    refine XS.iconst X0.here hx rfl (hb hby d2_16) ?_
    refine XS.iadd X0.here hx rfl (hb hby d2_17) rfl ?_
    refine XS.istoreN X0.here hx rfl (hb hby d2_18) rfl (l' := #[.val (.ref a1), .val (.long ((8 : Int64) * (n.toInt64))), .second, .val (.int (((n + (8 : Int32)) / (64 : Int32)) + (1 : Int32))), .unset, .unset, .unset, .unset, .unset, .unset, .unset, .unset, .unset]) rfl ?_
    exact kt
  rw [show (((n + (8 : Int32)) / (64 : Int32)) + (1 : Int32)) = (1 : Int32) from own_nblk n hn]
  refine own_go (B := s₁.setTop (mkF m 23 #[.val (.ref a1), .val (.long ((8 : Int64) * (n.toInt64))), .second, .val (.int 1), .unset, .unset, .unset, .unset, .unset, .unset, .unset, .unset, .unset] [(.int 64)])) (fun tg kt => ?_) ?_
  · refine XS.iloadN X0.here hx rfl (hb hby d2_19) rfl ?_
    refine XS.bipush X0.here hx rfl (hb hby d2_20) ?_
    refine XS.imul X0.here hx rfl (hb hby d2_22) rfl ?_
    exact kt
  obtain ⟨T115, h115, k115, X115, e115, E115, A115, st115⟩ := newP X0 hx hZ (hw _ (List.mem_of_getElem? (i := 1) rfl)) e0 (g := (mkF m 23 #[.val (.ref a1), .val (.long ((8 : Int64) * (n.toInt64))), .second, .val (.int 1), .unset, .unset, .unset, .unset, .unset, .unset, .unset, .unset, .unset] [(.int 64)])) rfl (hb hby d2_23) rfl (by decide) (cap := 64) (by decide) (by decide) (by decide) (by decide)
  obtain ⟨b115, g115⟩ : ∃ z, z = h0.size := ⟨_, rfl⟩
  rw [← g115] at A115 st115
  refine own_go st115 ?_
  have K115 : Keep h0 h115 [] := Keep.ext (Keep.refl h0 []) E115
  have V115 : Arv Z h115 b115 k115 .byte (64 : Int32) (own_tab 64 (fun _ => 0)) (.int 0) := (Arv.new A115 (by decide)).pad (own_tab0 64)
  refine own_go (B := T115.setTop (mkF m 33 #[.val (.ref a1), .val (.long ((8 : Int64) * (n.toInt64))), .second, .val (.int 1), .val (.ref b115), .unset, .unset, .unset, .unset, .unset, .unset, .unset, .unset] [(.ref a1), (.int 0), (.ref b115), (.int 0), (.ref a1)])) (fun tg kt => ?_) ?_
  · refine XS.astore X115.here hx rfl (hb hby d2_25) rfl rfl (l' := #[.val (.ref a1), .val (.long ((8 : Int64) * (n.toInt64))), .second, .val (.int 1), .val (.ref b115), .unset, .unset, .unset, .unset, .unset, .unset, .unset, .unset]) rfl ?_
    refine XS.aloadN X115.here hx rfl (hb hby d2_27) rfl rfl ?_
    refine XS.iconst X115.here hx rfl (hb hby d2_28) ?_
    refine XS.aload X115.here hx rfl (hb hby d2_29) rfl rfl ?_
    refine XS.iconst X115.here hx rfl (hb hby d2_31) ?_
    refine XS.aloadN X115.here hx rfl (hb hby d2_32) rfl rfl ?_
    exact kt
  have f116 : Arv Z h115 a1 k1 .byte n vs (.int 0) := (V_1.ext E115)
  obtain ⟨cl117, Ar117, cq117, cS117, cN117, cH117, cG117⟩ := id f116
  refine own_go (B := T115.setTop (mkF m 34 #[.val (.ref a1), .val (.long ((8 : Int64) * (n.toInt64))), .second, .val (.int 1), .val (.ref b115), .unset, .unset, .unset, .unset, .unset, .unset, .unset, .unset] [(.int n), (.int 0), (.ref b115), (.int 0), (.ref a1)])) (fun tg kt => ?_) ?_
  · refine X115.arraylength hx (by rw [e115]; exact Ar117.1) (State.isArrayOf_alike hZ.alike Ar117.2.1) (g := (mkF m 33 #[.val (.ref a1), .val (.long ((8 : Int64) * (n.toInt64))), .second, .val (.int 1), .val (.ref b115), .unset, .unset, .unset, .unset, .unset, .unset, .unset, .unset] [(.ref a1), (.int 0), (.ref b115), (.int 0), (.ref a1)])) rfl rfl (hb hby d2_33) _ ?_
    rw [len_of cS117 cN117]
    exact kt
  obtain ⟨T118, h118, L118, X118, e118, N118, K118', V118', st118⟩ := cpA X115 hx hZ hown (hw _ (List.mem_of_getElem? (i := 11) rfl)) (hw _ (List.mem_of_getElem? (i := 14) rfl)) (hw _ (List.mem_of_getElem? (i := 12) rfl)) (hw _ (List.mem_of_getElem? (i := 13) rfl)) e115 f116 V115 (Or.inl ⟨rfl, rfl⟩) (by decide) (by decide) (own_ix' hn).1 (by simp) (by have q := (own_ix' hn).2; simp; omega) rfl (by rw [own_tab_len]; have q := (own_ix' hn).2; simp; omega) N0 (Nat.le_trans Z0 (Nat.le_of_eq g115.symm)) (g := (mkF m 34 #[.val (.ref a1), .val (.long ((8 : Int64) * (n.toInt64))), .second, .val (.int 1), .val (.ref b115), .unset, .unset, .unset, .unset, .unset, .unset, .unset, .unset] [(.int n), (.int 0), (.ref b115), (.int 0), (.ref a1)])) rfl (by rw [hml]; rfl) (rest := []) rfl (hb hby d2_34) (by decide) (W := 0) (by show 2 * 0 + _ ≤ _; exact Nat.le_of_eq rfl) (by decide)
  have K118 : Keep h0 h118 [] := Keep.trans K115 K118' (allS (Or.inr (Nat.le_of_eq g115.symm)) all0)
  have V118 : Arv Z h118 b115 k115 .byte (64 : Int32) (own_tab 64 (fun j => if j < n.toNatClampNeg then B j else 0)) (.int 0) := by have q := V118'; rw [own_copy (N := 64) (n := n.toNatClampNeg) (B := B) (g := fun _ => 0) hB (by have q := (own_ix' hn).2; omega)] at q; exact q
  refine own_go st118 ?_
  refine own_go (B := T118.setTop (mkF m 40 #[.val (.ref a1), .val (.long ((8 : Int64) * (n.toInt64))), .second, .val (.int 1), .val (.ref b115), .unset, .unset, .unset, .unset, .unset, .unset, .unset, .unset] [(.ref a1), (.ref b115)])) (fun tg kt => ?_) ?_
  · refine XS.aload X118.here hx rfl (hb hby d2_37) rfl rfl ?_
    refine XS.aloadN X118.here hx rfl (hb hby d2_39) rfl rfl ?_
    exact kt
  have ne119 : a1 ≠ b115 := (Nat.ne_of_lt (Nat.lt_of_lt_of_le V_1.lt (Nat.le_of_eq g115.symm)))
  have f120 : Arv Z h118 a1 k1 .byte n vs (.int 0) := (f116.keep K118' (ninS ne119 nin0))
  obtain ⟨cl121, Ar121, cq121, cS121, cN121, cH121, cG121⟩ := id f120
  refine own_go (B := T118.setTop (mkF m 43 #[.val (.ref a1), .val (.long ((8 : Int64) * (n.toInt64))), .second, .val (.int 1), .val (.ref b115), .unset, .unset, .unset, .unset, .unset, .unset, .unset, .unset] [(.int (-128)), (.int n), (.ref b115)])) (fun tg kt => ?_) ?_
  · refine X118.arraylength hx (by rw [e118]; exact Ar121.1) (State.isArrayOf_alike hZ.alike Ar121.2.1) (g := (mkF m 40 #[.val (.ref a1), .val (.long ((8 : Int64) * (n.toInt64))), .second, .val (.int 1), .val (.ref b115), .unset, .unset, .unset, .unset, .unset, .unset, .unset, .unset] [(.ref a1), (.ref b115)])) rfl rfl (hb hby d2_40) _ ?_
    rw [len_of cS121 cN121]
    refine XS.bipush X118.here hx rfl (hb hby d2_41) ?_
    exact kt
  obtain ⟨cl122, Ar122, cq122, cS122, cN122, cH122, cG122⟩ := id V118
  have hin122 := inb_of (j := n) cS122 ⟨(own_ix' hn).1, own_lt55 n hn⟩
  obtain ⟨T122, h122, X122, e122, W122, st122⟩ := stB X118 hx hZ e118 Ar122 (j := n) hin122 (g := (mkF m 43 #[.val (.ref a1), .val (.long ((8 : Int64) * (n.toInt64))), .second, .val (.int 1), .val (.ref b115), .unset, .unset, .unset, .unset, .unset, .unset, .unset, .unset] [(.int (-128)), (.int n), (.ref b115)])) rfl rfl (hb hby d2_43)
  refine own_go st122 ?_
  have V122 : Arv Z h122 b115 k115 .byte (64 : Int32) (own_tab 64 (fun j => if j = n.toNatClampNeg then (-128) else (fun j => if j < n.toNatClampNeg then B j else 0) j)) (.int 0) := by have q := Arv.set Ar122 cq122 cS122 cN122 cH122 cG122 (fits_nar_byte _) W122 n.toNatClampNeg rfl (by rw [own_tab_len]; have q := (own_ix' hn).2; omega); rw [own_tab_set _ _ (by have q := (own_ix' hn).2; omega)] at q; exact q
  have K122 : Keep h0 h122 [] := Keep.wr K118 W122 (Or.inr (Nat.le_of_eq g115.symm))
  have N122 := Fr.snoc X122 N118 (Nat.le_trans Z0 (Nat.le_of_eq g115.symm))
  refine own_go (B := T122.setTop (mkF m 58 #[.val (.ref a1), .val (.long ((8 : Int64) * (n.toInt64))), .second, .val (.int 1), .val (.ref b115), .val (.int 0), .unset, .unset, .unset, .unset, .unset, .unset, .unset] [(.ref b115), (.ref b115)])) (fun tg kt => ?_) ?_
  · refine XS.iconst X122.here hx rfl (hb hby d2_44) ?_
    refine XS.istore X122.here hx rfl (hb hby d2_45) rfl (l' := #[.val (.ref a1), .val (.long ((8 : Int64) * (n.toInt64))), .second, .val (.int 1), .val (.ref b115), .val (.int 0), .unset, .unset, .unset, .unset, .unset, .unset, .unset]) rfl ?_
    refine XS.iload X122.here hx rfl (hb hby d2_47) rfl ?_
    refine XS.bipush X122.here hx rfl (hb hby d2_49) ?_
    refine XS.icmpNo X122.here hx rfl (hb hby d2_51) rfl (tlt (by decide : (0 : Int32) < (8 : Int32))).2.1 ?_
    refine XS.aload X122.here hx rfl (hb hby d2_54) rfl rfl ?_
    refine XS.aload X122.here hx rfl (hb hby d2_56) rfl rfl ?_
    exact kt
  obtain ⟨cl123, Ar123, cq123, cS123, cN123, cH123, cG123⟩ := id V122
  refine own_go (B := T122.setTop (mkF m 73 #[.val (.ref a1), .val (.long ((8 : Int64) * (n.toInt64))), .second, .val (.int 1), .val (.ref b115), .val (.int 0), .unset, .unset, .unset, .unset, .unset, .unset, .unset] [(.int (own_bz ((8 : Int64) * (n.toInt64)) 0)), (.int 63), (.ref b115)])) (fun tg kt => ?_) ?_
  · refine X122.arraylength hx (by rw [e122]; exact Ar123.1) (State.isArrayOf_alike hZ.alike Ar123.2.1) (g := (mkF m 58 #[.val (.ref a1), .val (.long ((8 : Int64) * (n.toInt64))), .second, .val (.int 1), .val (.ref b115), .val (.int 0), .unset, .unset, .unset, .unset, .unset, .unset, .unset] [(.ref b115), (.ref b115)])) rfl rfl (hb hby d2_58) _ ?_
    rw [len_of cS123 cN123]
    refine XS.iconst X122.here hx rfl (hb hby d2_59) ?_
    refine XS.isub X122.here hx rfl (hb hby d2_60) rfl ?_
    refine XS.iload X122.here hx rfl (hb hby d2_61) rfl ?_
    refine XS.isub X122.here hx rfl (hb hby d2_63) rfl ?_
    refine XS.lloadN X122.here hx rfl (hb hby d2_64) rfl ?_
    refine XS.bipush X122.here hx rfl (hb hby d2_65) ?_
    refine XS.iload X122.here hx rfl (hb hby d2_67) rfl ?_
    refine XS.imul X122.here hx rfl (hb hby d2_69) rfl ?_
    refine XS.lushr X122.here hx rfl (hb hby d2_70) rfl ?_
    refine XS.l2i X122.here hx rfl (hb hby d2_71) rfl ?_
    refine XS.i2b X122.here hx rfl (hb hby d2_72) rfl ?_
    exact kt
  obtain ⟨cl124, Ar124, cq124, cS124, cN124, cH124, cG124⟩ := id V122
  have hin124 := inb_of (j := (63 : Int32)) cS124 ⟨by decide, by decide⟩
  obtain ⟨T124, h124, X124, e124, W124, st124⟩ := stB X122 hx hZ e122 Ar124 (j := (63 : Int32)) hin124 (g := (mkF m 73 #[.val (.ref a1), .val (.long ((8 : Int64) * (n.toInt64))), .second, .val (.int 1), .val (.ref b115), .val (.int 0), .unset, .unset, .unset, .unset, .unset, .unset, .unset] [(.int (own_bz ((8 : Int64) * (n.toInt64)) 0)), (.int 63), (.ref b115)])) rfl rfl (hb hby d2_73)
  refine own_go st124 ?_
  have V124 : Arv Z h124 b115 k115 .byte (64 : Int32) (own_tab 64 (fun j => if j = 63 then (own_bz ((8 : Int64) * (n.toInt64)) 0) else (fun j => if j = n.toNatClampNeg then (-128) else (fun j => if j < n.toNatClampNeg then B j else 0) j) j)) (.int 0) := by have q := Arv.set Ar124 cq124 cS124 cN124 cH124 cG124 (fits_nar_byte _) W124 63 rfl (by rw [own_tab_len]; decide); rw [own_tab_set _ _ (by decide), own_narB] at q; exact q
  have K124 : Keep h0 h124 [] := Keep.wr K122 W124 (Or.inr (Nat.le_of_eq g115.symm))
  have N124 := Fr.snoc X124 N122 (Nat.le_trans Z0 (Nat.le_of_eq g115.symm))
  refine own_go (B := T124.setTop (mkF m 58 #[.val (.ref a1), .val (.long ((8 : Int64) * (n.toInt64))), .second, .val (.int 1), .val (.ref b115), .val (.int 1), .unset, .unset, .unset, .unset, .unset, .unset, .unset] [(.ref b115), (.ref b115)])) (fun tg kt => ?_) ?_
  · refine XS.iinc X124.here hx rfl (hb hby d2_74) rfl (l' := #[.val (.ref a1), .val (.long ((8 : Int64) * (n.toInt64))), .second, .val (.int 1), .val (.ref b115), .val (.int 1), .unset, .unset, .unset, .unset, .unset, .unset, .unset]) rfl ?_
    refine XS.goto X124.here hx rfl (pc0 := 77) (pc' := 47) rfl (hb hby d2_77) (by decide) (by decide) ?_
    refine XS.iload X124.here hx rfl (hb hby d2_47) rfl ?_
    refine XS.bipush X124.here hx rfl (hb hby d2_49) ?_
    refine XS.icmpNo X124.here hx rfl (hb hby d2_51) rfl (tlt (by decide : (1 : Int32) < (8 : Int32))).2.1 ?_
    refine XS.aload X124.here hx rfl (hb hby d2_54) rfl rfl ?_
    refine XS.aload X124.here hx rfl (hb hby d2_56) rfl rfl ?_
    exact kt
  obtain ⟨cl125, Ar125, cq125, cS125, cN125, cH125, cG125⟩ := id V124
  refine own_go (B := T124.setTop (mkF m 73 #[.val (.ref a1), .val (.long ((8 : Int64) * (n.toInt64))), .second, .val (.int 1), .val (.ref b115), .val (.int 1), .unset, .unset, .unset, .unset, .unset, .unset, .unset] [(.int (own_bz ((8 : Int64) * (n.toInt64)) 8)), (.int 62), (.ref b115)])) (fun tg kt => ?_) ?_
  · refine X124.arraylength hx (by rw [e124]; exact Ar125.1) (State.isArrayOf_alike hZ.alike Ar125.2.1) (g := (mkF m 58 #[.val (.ref a1), .val (.long ((8 : Int64) * (n.toInt64))), .second, .val (.int 1), .val (.ref b115), .val (.int 1), .unset, .unset, .unset, .unset, .unset, .unset, .unset] [(.ref b115), (.ref b115)])) rfl rfl (hb hby d2_58) _ ?_
    rw [len_of cS125 cN125]
    refine XS.iconst X124.here hx rfl (hb hby d2_59) ?_
    refine XS.isub X124.here hx rfl (hb hby d2_60) rfl ?_
    refine XS.iload X124.here hx rfl (hb hby d2_61) rfl ?_
    refine XS.isub X124.here hx rfl (hb hby d2_63) rfl ?_
    refine XS.lloadN X124.here hx rfl (hb hby d2_64) rfl ?_
    refine XS.bipush X124.here hx rfl (hb hby d2_65) ?_
    refine XS.iload X124.here hx rfl (hb hby d2_67) rfl ?_
    refine XS.imul X124.here hx rfl (hb hby d2_69) rfl ?_
    refine XS.lushr X124.here hx rfl (hb hby d2_70) rfl ?_
    refine XS.l2i X124.here hx rfl (hb hby d2_71) rfl ?_
    refine XS.i2b X124.here hx rfl (hb hby d2_72) rfl ?_
    exact kt
  obtain ⟨cl126, Ar126, cq126, cS126, cN126, cH126, cG126⟩ := id V124
  have hin126 := inb_of (j := (62 : Int32)) cS126 ⟨by decide, by decide⟩
  obtain ⟨T126, h126, X126, e126, W126, st126⟩ := stB X124 hx hZ e124 Ar126 (j := (62 : Int32)) hin126 (g := (mkF m 73 #[.val (.ref a1), .val (.long ((8 : Int64) * (n.toInt64))), .second, .val (.int 1), .val (.ref b115), .val (.int 1), .unset, .unset, .unset, .unset, .unset, .unset, .unset] [(.int (own_bz ((8 : Int64) * (n.toInt64)) 8)), (.int 62), (.ref b115)])) rfl rfl (hb hby d2_73)
  refine own_go st126 ?_
  have V126 : Arv Z h126 b115 k115 .byte (64 : Int32) (own_tab 64 (fun j => if j = 62 then (own_bz ((8 : Int64) * (n.toInt64)) 8) else (fun j => if j = 63 then (own_bz ((8 : Int64) * (n.toInt64)) 0) else (fun j => if j = n.toNatClampNeg then (-128) else (fun j => if j < n.toNatClampNeg then B j else 0) j) j) j)) (.int 0) := by have q := Arv.set Ar126 cq126 cS126 cN126 cH126 cG126 (fits_nar_byte _) W126 62 rfl (by rw [own_tab_len]; decide); rw [own_tab_set _ _ (by decide), own_narB] at q; exact q
  have K126 : Keep h0 h126 [] := Keep.wr K124 W126 (Or.inr (Nat.le_of_eq g115.symm))
  have N126 := Fr.snoc X126 N124 (Nat.le_trans Z0 (Nat.le_of_eq g115.symm))
  refine own_go (B := T126.setTop (mkF m 58 #[.val (.ref a1), .val (.long ((8 : Int64) * (n.toInt64))), .second, .val (.int 1), .val (.ref b115), .val (.int 2), .unset, .unset, .unset, .unset, .unset, .unset, .unset] [(.ref b115), (.ref b115)])) (fun tg kt => ?_) ?_
  · refine XS.iinc X126.here hx rfl (hb hby d2_74) rfl (l' := #[.val (.ref a1), .val (.long ((8 : Int64) * (n.toInt64))), .second, .val (.int 1), .val (.ref b115), .val (.int 2), .unset, .unset, .unset, .unset, .unset, .unset, .unset]) rfl ?_
    refine XS.goto X126.here hx rfl (pc0 := 77) (pc' := 47) rfl (hb hby d2_77) (by decide) (by decide) ?_
    refine XS.iload X126.here hx rfl (hb hby d2_47) rfl ?_
    refine XS.bipush X126.here hx rfl (hb hby d2_49) ?_
    refine XS.icmpNo X126.here hx rfl (hb hby d2_51) rfl (tlt (by decide : (2 : Int32) < (8 : Int32))).2.1 ?_
    refine XS.aload X126.here hx rfl (hb hby d2_54) rfl rfl ?_
    refine XS.aload X126.here hx rfl (hb hby d2_56) rfl rfl ?_
    exact kt
  obtain ⟨cl127, Ar127, cq127, cS127, cN127, cH127, cG127⟩ := id V126
  refine own_go (B := T126.setTop (mkF m 73 #[.val (.ref a1), .val (.long ((8 : Int64) * (n.toInt64))), .second, .val (.int 1), .val (.ref b115), .val (.int 2), .unset, .unset, .unset, .unset, .unset, .unset, .unset] [(.int (own_bz ((8 : Int64) * (n.toInt64)) 16)), (.int 61), (.ref b115)])) (fun tg kt => ?_) ?_
  · refine X126.arraylength hx (by rw [e126]; exact Ar127.1) (State.isArrayOf_alike hZ.alike Ar127.2.1) (g := (mkF m 58 #[.val (.ref a1), .val (.long ((8 : Int64) * (n.toInt64))), .second, .val (.int 1), .val (.ref b115), .val (.int 2), .unset, .unset, .unset, .unset, .unset, .unset, .unset] [(.ref b115), (.ref b115)])) rfl rfl (hb hby d2_58) _ ?_
    rw [len_of cS127 cN127]
    refine XS.iconst X126.here hx rfl (hb hby d2_59) ?_
    refine XS.isub X126.here hx rfl (hb hby d2_60) rfl ?_
    refine XS.iload X126.here hx rfl (hb hby d2_61) rfl ?_
    refine XS.isub X126.here hx rfl (hb hby d2_63) rfl ?_
    refine XS.lloadN X126.here hx rfl (hb hby d2_64) rfl ?_
    refine XS.bipush X126.here hx rfl (hb hby d2_65) ?_
    refine XS.iload X126.here hx rfl (hb hby d2_67) rfl ?_
    refine XS.imul X126.here hx rfl (hb hby d2_69) rfl ?_
    refine XS.lushr X126.here hx rfl (hb hby d2_70) rfl ?_
    refine XS.l2i X126.here hx rfl (hb hby d2_71) rfl ?_
    refine XS.i2b X126.here hx rfl (hb hby d2_72) rfl ?_
    exact kt
  obtain ⟨cl128, Ar128, cq128, cS128, cN128, cH128, cG128⟩ := id V126
  have hin128 := inb_of (j := (61 : Int32)) cS128 ⟨by decide, by decide⟩
  obtain ⟨T128, h128, X128, e128, W128, st128⟩ := stB X126 hx hZ e126 Ar128 (j := (61 : Int32)) hin128 (g := (mkF m 73 #[.val (.ref a1), .val (.long ((8 : Int64) * (n.toInt64))), .second, .val (.int 1), .val (.ref b115), .val (.int 2), .unset, .unset, .unset, .unset, .unset, .unset, .unset] [(.int (own_bz ((8 : Int64) * (n.toInt64)) 16)), (.int 61), (.ref b115)])) rfl rfl (hb hby d2_73)
  refine own_go st128 ?_
  have V128 : Arv Z h128 b115 k115 .byte (64 : Int32) (own_tab 64 (fun j => if j = 61 then (own_bz ((8 : Int64) * (n.toInt64)) 16) else (fun j => if j = 62 then (own_bz ((8 : Int64) * (n.toInt64)) 8) else (fun j => if j = 63 then (own_bz ((8 : Int64) * (n.toInt64)) 0) else (fun j => if j = n.toNatClampNeg then (-128) else (fun j => if j < n.toNatClampNeg then B j else 0) j) j) j) j)) (.int 0) := by have q := Arv.set Ar128 cq128 cS128 cN128 cH128 cG128 (fits_nar_byte _) W128 61 rfl (by rw [own_tab_len]; decide); rw [own_tab_set _ _ (by decide), own_narB] at q; exact q
  have K128 : Keep h0 h128 [] := Keep.wr K126 W128 (Or.inr (Nat.le_of_eq g115.symm))
  have N128 := Fr.snoc X128 N126 (Nat.le_trans Z0 (Nat.le_of_eq g115.symm))
  refine own_go (B := T128.setTop (mkF m 58 #[.val (.ref a1), .val (.long ((8 : Int64) * (n.toInt64))), .second, .val (.int 1), .val (.ref b115), .val (.int 3), .unset, .unset, .unset, .unset, .unset, .unset, .unset] [(.ref b115), (.ref b115)])) (fun tg kt => ?_) ?_
  · refine XS.iinc X128.here hx rfl (hb hby d2_74) rfl (l' := #[.val (.ref a1), .val (.long ((8 : Int64) * (n.toInt64))), .second, .val (.int 1), .val (.ref b115), .val (.int 3), .unset, .unset, .unset, .unset, .unset, .unset, .unset]) rfl ?_
    refine XS.goto X128.here hx rfl (pc0 := 77) (pc' := 47) rfl (hb hby d2_77) (by decide) (by decide) ?_
    refine XS.iload X128.here hx rfl (hb hby d2_47) rfl ?_
    refine XS.bipush X128.here hx rfl (hb hby d2_49) ?_
    refine XS.icmpNo X128.here hx rfl (hb hby d2_51) rfl (tlt (by decide : (3 : Int32) < (8 : Int32))).2.1 ?_
    refine XS.aload X128.here hx rfl (hb hby d2_54) rfl rfl ?_
    refine XS.aload X128.here hx rfl (hb hby d2_56) rfl rfl ?_
    exact kt
  obtain ⟨cl129, Ar129, cq129, cS129, cN129, cH129, cG129⟩ := id V128
  refine own_go (B := T128.setTop (mkF m 73 #[.val (.ref a1), .val (.long ((8 : Int64) * (n.toInt64))), .second, .val (.int 1), .val (.ref b115), .val (.int 3), .unset, .unset, .unset, .unset, .unset, .unset, .unset] [(.int (own_bz ((8 : Int64) * (n.toInt64)) 24)), (.int 60), (.ref b115)])) (fun tg kt => ?_) ?_
  · refine X128.arraylength hx (by rw [e128]; exact Ar129.1) (State.isArrayOf_alike hZ.alike Ar129.2.1) (g := (mkF m 58 #[.val (.ref a1), .val (.long ((8 : Int64) * (n.toInt64))), .second, .val (.int 1), .val (.ref b115), .val (.int 3), .unset, .unset, .unset, .unset, .unset, .unset, .unset] [(.ref b115), (.ref b115)])) rfl rfl (hb hby d2_58) _ ?_
    rw [len_of cS129 cN129]
    refine XS.iconst X128.here hx rfl (hb hby d2_59) ?_
    refine XS.isub X128.here hx rfl (hb hby d2_60) rfl ?_
    refine XS.iload X128.here hx rfl (hb hby d2_61) rfl ?_
    refine XS.isub X128.here hx rfl (hb hby d2_63) rfl ?_
    refine XS.lloadN X128.here hx rfl (hb hby d2_64) rfl ?_
    refine XS.bipush X128.here hx rfl (hb hby d2_65) ?_
    refine XS.iload X128.here hx rfl (hb hby d2_67) rfl ?_
    refine XS.imul X128.here hx rfl (hb hby d2_69) rfl ?_
    refine XS.lushr X128.here hx rfl (hb hby d2_70) rfl ?_
    refine XS.l2i X128.here hx rfl (hb hby d2_71) rfl ?_
    refine XS.i2b X128.here hx rfl (hb hby d2_72) rfl ?_
    exact kt
  obtain ⟨cl130, Ar130, cq130, cS130, cN130, cH130, cG130⟩ := id V128
  have hin130 := inb_of (j := (60 : Int32)) cS130 ⟨by decide, by decide⟩
  obtain ⟨T130, h130, X130, e130, W130, st130⟩ := stB X128 hx hZ e128 Ar130 (j := (60 : Int32)) hin130 (g := (mkF m 73 #[.val (.ref a1), .val (.long ((8 : Int64) * (n.toInt64))), .second, .val (.int 1), .val (.ref b115), .val (.int 3), .unset, .unset, .unset, .unset, .unset, .unset, .unset] [(.int (own_bz ((8 : Int64) * (n.toInt64)) 24)), (.int 60), (.ref b115)])) rfl rfl (hb hby d2_73)
  refine own_go st130 ?_
  have V130 : Arv Z h130 b115 k115 .byte (64 : Int32) (own_tab 64 (fun j => if j = 60 then (own_bz ((8 : Int64) * (n.toInt64)) 24) else (fun j => if j = 61 then (own_bz ((8 : Int64) * (n.toInt64)) 16) else (fun j => if j = 62 then (own_bz ((8 : Int64) * (n.toInt64)) 8) else (fun j => if j = 63 then (own_bz ((8 : Int64) * (n.toInt64)) 0) else (fun j => if j = n.toNatClampNeg then (-128) else (fun j => if j < n.toNatClampNeg then B j else 0) j) j) j) j) j)) (.int 0) := by have q := Arv.set Ar130 cq130 cS130 cN130 cH130 cG130 (fits_nar_byte _) W130 60 rfl (by rw [own_tab_len]; decide); rw [own_tab_set _ _ (by decide), own_narB] at q; exact q
  have K130 : Keep h0 h130 [] := Keep.wr K128 W130 (Or.inr (Nat.le_of_eq g115.symm))
  have N130 := Fr.snoc X130 N128 (Nat.le_trans Z0 (Nat.le_of_eq g115.symm))
  refine own_go (B := T130.setTop (mkF m 58 #[.val (.ref a1), .val (.long ((8 : Int64) * (n.toInt64))), .second, .val (.int 1), .val (.ref b115), .val (.int 4), .unset, .unset, .unset, .unset, .unset, .unset, .unset] [(.ref b115), (.ref b115)])) (fun tg kt => ?_) ?_
  · refine XS.iinc X130.here hx rfl (hb hby d2_74) rfl (l' := #[.val (.ref a1), .val (.long ((8 : Int64) * (n.toInt64))), .second, .val (.int 1), .val (.ref b115), .val (.int 4), .unset, .unset, .unset, .unset, .unset, .unset, .unset]) rfl ?_
    refine XS.goto X130.here hx rfl (pc0 := 77) (pc' := 47) rfl (hb hby d2_77) (by decide) (by decide) ?_
    refine XS.iload X130.here hx rfl (hb hby d2_47) rfl ?_
    refine XS.bipush X130.here hx rfl (hb hby d2_49) ?_
    refine XS.icmpNo X130.here hx rfl (hb hby d2_51) rfl (tlt (by decide : (4 : Int32) < (8 : Int32))).2.1 ?_
    refine XS.aload X130.here hx rfl (hb hby d2_54) rfl rfl ?_
    refine XS.aload X130.here hx rfl (hb hby d2_56) rfl rfl ?_
    exact kt
  obtain ⟨cl131, Ar131, cq131, cS131, cN131, cH131, cG131⟩ := id V130
  refine own_go (B := T130.setTop (mkF m 73 #[.val (.ref a1), .val (.long ((8 : Int64) * (n.toInt64))), .second, .val (.int 1), .val (.ref b115), .val (.int 4), .unset, .unset, .unset, .unset, .unset, .unset, .unset] [(.int (own_bz ((8 : Int64) * (n.toInt64)) 32)), (.int 59), (.ref b115)])) (fun tg kt => ?_) ?_
  · refine X130.arraylength hx (by rw [e130]; exact Ar131.1) (State.isArrayOf_alike hZ.alike Ar131.2.1) (g := (mkF m 58 #[.val (.ref a1), .val (.long ((8 : Int64) * (n.toInt64))), .second, .val (.int 1), .val (.ref b115), .val (.int 4), .unset, .unset, .unset, .unset, .unset, .unset, .unset] [(.ref b115), (.ref b115)])) rfl rfl (hb hby d2_58) _ ?_
    rw [len_of cS131 cN131]
    refine XS.iconst X130.here hx rfl (hb hby d2_59) ?_
    refine XS.isub X130.here hx rfl (hb hby d2_60) rfl ?_
    refine XS.iload X130.here hx rfl (hb hby d2_61) rfl ?_
    refine XS.isub X130.here hx rfl (hb hby d2_63) rfl ?_
    refine XS.lloadN X130.here hx rfl (hb hby d2_64) rfl ?_
    refine XS.bipush X130.here hx rfl (hb hby d2_65) ?_
    refine XS.iload X130.here hx rfl (hb hby d2_67) rfl ?_
    refine XS.imul X130.here hx rfl (hb hby d2_69) rfl ?_
    refine XS.lushr X130.here hx rfl (hb hby d2_70) rfl ?_
    refine XS.l2i X130.here hx rfl (hb hby d2_71) rfl ?_
    refine XS.i2b X130.here hx rfl (hb hby d2_72) rfl ?_
    exact kt
  obtain ⟨cl132, Ar132, cq132, cS132, cN132, cH132, cG132⟩ := id V130
  have hin132 := inb_of (j := (59 : Int32)) cS132 ⟨by decide, by decide⟩
  obtain ⟨T132, h132, X132, e132, W132, st132⟩ := stB X130 hx hZ e130 Ar132 (j := (59 : Int32)) hin132 (g := (mkF m 73 #[.val (.ref a1), .val (.long ((8 : Int64) * (n.toInt64))), .second, .val (.int 1), .val (.ref b115), .val (.int 4), .unset, .unset, .unset, .unset, .unset, .unset, .unset] [(.int (own_bz ((8 : Int64) * (n.toInt64)) 32)), (.int 59), (.ref b115)])) rfl rfl (hb hby d2_73)
  refine own_go st132 ?_
  have V132 : Arv Z h132 b115 k115 .byte (64 : Int32) (own_tab 64 (fun j => if j = 59 then (own_bz ((8 : Int64) * (n.toInt64)) 32) else (fun j => if j = 60 then (own_bz ((8 : Int64) * (n.toInt64)) 24) else (fun j => if j = 61 then (own_bz ((8 : Int64) * (n.toInt64)) 16) else (fun j => if j = 62 then (own_bz ((8 : Int64) * (n.toInt64)) 8) else (fun j => if j = 63 then (own_bz ((8 : Int64) * (n.toInt64)) 0) else (fun j => if j = n.toNatClampNeg then (-128) else (fun j => if j < n.toNatClampNeg then B j else 0) j) j) j) j) j) j)) (.int 0) := by have q := Arv.set Ar132 cq132 cS132 cN132 cH132 cG132 (fits_nar_byte _) W132 59 rfl (by rw [own_tab_len]; decide); rw [own_tab_set _ _ (by decide), own_narB] at q; exact q
  have K132 : Keep h0 h132 [] := Keep.wr K130 W132 (Or.inr (Nat.le_of_eq g115.symm))
  have N132 := Fr.snoc X132 N130 (Nat.le_trans Z0 (Nat.le_of_eq g115.symm))
  refine own_go (B := T132.setTop (mkF m 58 #[.val (.ref a1), .val (.long ((8 : Int64) * (n.toInt64))), .second, .val (.int 1), .val (.ref b115), .val (.int 5), .unset, .unset, .unset, .unset, .unset, .unset, .unset] [(.ref b115), (.ref b115)])) (fun tg kt => ?_) ?_
  · refine XS.iinc X132.here hx rfl (hb hby d2_74) rfl (l' := #[.val (.ref a1), .val (.long ((8 : Int64) * (n.toInt64))), .second, .val (.int 1), .val (.ref b115), .val (.int 5), .unset, .unset, .unset, .unset, .unset, .unset, .unset]) rfl ?_
    refine XS.goto X132.here hx rfl (pc0 := 77) (pc' := 47) rfl (hb hby d2_77) (by decide) (by decide) ?_
    refine XS.iload X132.here hx rfl (hb hby d2_47) rfl ?_
    refine XS.bipush X132.here hx rfl (hb hby d2_49) ?_
    refine XS.icmpNo X132.here hx rfl (hb hby d2_51) rfl (tlt (by decide : (5 : Int32) < (8 : Int32))).2.1 ?_
    refine XS.aload X132.here hx rfl (hb hby d2_54) rfl rfl ?_
    refine XS.aload X132.here hx rfl (hb hby d2_56) rfl rfl ?_
    exact kt
  obtain ⟨cl133, Ar133, cq133, cS133, cN133, cH133, cG133⟩ := id V132
  refine own_go (B := T132.setTop (mkF m 73 #[.val (.ref a1), .val (.long ((8 : Int64) * (n.toInt64))), .second, .val (.int 1), .val (.ref b115), .val (.int 5), .unset, .unset, .unset, .unset, .unset, .unset, .unset] [(.int (own_bz ((8 : Int64) * (n.toInt64)) 40)), (.int 58), (.ref b115)])) (fun tg kt => ?_) ?_
  · refine X132.arraylength hx (by rw [e132]; exact Ar133.1) (State.isArrayOf_alike hZ.alike Ar133.2.1) (g := (mkF m 58 #[.val (.ref a1), .val (.long ((8 : Int64) * (n.toInt64))), .second, .val (.int 1), .val (.ref b115), .val (.int 5), .unset, .unset, .unset, .unset, .unset, .unset, .unset] [(.ref b115), (.ref b115)])) rfl rfl (hb hby d2_58) _ ?_
    rw [len_of cS133 cN133]
    refine XS.iconst X132.here hx rfl (hb hby d2_59) ?_
    refine XS.isub X132.here hx rfl (hb hby d2_60) rfl ?_
    refine XS.iload X132.here hx rfl (hb hby d2_61) rfl ?_
    refine XS.isub X132.here hx rfl (hb hby d2_63) rfl ?_
    refine XS.lloadN X132.here hx rfl (hb hby d2_64) rfl ?_
    refine XS.bipush X132.here hx rfl (hb hby d2_65) ?_
    refine XS.iload X132.here hx rfl (hb hby d2_67) rfl ?_
    refine XS.imul X132.here hx rfl (hb hby d2_69) rfl ?_
    refine XS.lushr X132.here hx rfl (hb hby d2_70) rfl ?_
    refine XS.l2i X132.here hx rfl (hb hby d2_71) rfl ?_
    refine XS.i2b X132.here hx rfl (hb hby d2_72) rfl ?_
    exact kt
  obtain ⟨cl134, Ar134, cq134, cS134, cN134, cH134, cG134⟩ := id V132
  have hin134 := inb_of (j := (58 : Int32)) cS134 ⟨by decide, by decide⟩
  obtain ⟨T134, h134, X134, e134, W134, st134⟩ := stB X132 hx hZ e132 Ar134 (j := (58 : Int32)) hin134 (g := (mkF m 73 #[.val (.ref a1), .val (.long ((8 : Int64) * (n.toInt64))), .second, .val (.int 1), .val (.ref b115), .val (.int 5), .unset, .unset, .unset, .unset, .unset, .unset, .unset] [(.int (own_bz ((8 : Int64) * (n.toInt64)) 40)), (.int 58), (.ref b115)])) rfl rfl (hb hby d2_73)
  refine own_go st134 ?_
  have V134 : Arv Z h134 b115 k115 .byte (64 : Int32) (own_tab 64 (fun j => if j = 58 then (own_bz ((8 : Int64) * (n.toInt64)) 40) else (fun j => if j = 59 then (own_bz ((8 : Int64) * (n.toInt64)) 32) else (fun j => if j = 60 then (own_bz ((8 : Int64) * (n.toInt64)) 24) else (fun j => if j = 61 then (own_bz ((8 : Int64) * (n.toInt64)) 16) else (fun j => if j = 62 then (own_bz ((8 : Int64) * (n.toInt64)) 8) else (fun j => if j = 63 then (own_bz ((8 : Int64) * (n.toInt64)) 0) else (fun j => if j = n.toNatClampNeg then (-128) else (fun j => if j < n.toNatClampNeg then B j else 0) j) j) j) j) j) j) j)) (.int 0) := by have q := Arv.set Ar134 cq134 cS134 cN134 cH134 cG134 (fits_nar_byte _) W134 58 rfl (by rw [own_tab_len]; decide); rw [own_tab_set _ _ (by decide), own_narB] at q; exact q
  have K134 : Keep h0 h134 [] := Keep.wr K132 W134 (Or.inr (Nat.le_of_eq g115.symm))
  have N134 := Fr.snoc X134 N132 (Nat.le_trans Z0 (Nat.le_of_eq g115.symm))
  refine own_go (B := T134.setTop (mkF m 58 #[.val (.ref a1), .val (.long ((8 : Int64) * (n.toInt64))), .second, .val (.int 1), .val (.ref b115), .val (.int 6), .unset, .unset, .unset, .unset, .unset, .unset, .unset] [(.ref b115), (.ref b115)])) (fun tg kt => ?_) ?_
  · refine XS.iinc X134.here hx rfl (hb hby d2_74) rfl (l' := #[.val (.ref a1), .val (.long ((8 : Int64) * (n.toInt64))), .second, .val (.int 1), .val (.ref b115), .val (.int 6), .unset, .unset, .unset, .unset, .unset, .unset, .unset]) rfl ?_
    refine XS.goto X134.here hx rfl (pc0 := 77) (pc' := 47) rfl (hb hby d2_77) (by decide) (by decide) ?_
    refine XS.iload X134.here hx rfl (hb hby d2_47) rfl ?_
    refine XS.bipush X134.here hx rfl (hb hby d2_49) ?_
    refine XS.icmpNo X134.here hx rfl (hb hby d2_51) rfl (tlt (by decide : (6 : Int32) < (8 : Int32))).2.1 ?_
    refine XS.aload X134.here hx rfl (hb hby d2_54) rfl rfl ?_
    refine XS.aload X134.here hx rfl (hb hby d2_56) rfl rfl ?_
    exact kt
  obtain ⟨cl135, Ar135, cq135, cS135, cN135, cH135, cG135⟩ := id V134
  refine own_go (B := T134.setTop (mkF m 73 #[.val (.ref a1), .val (.long ((8 : Int64) * (n.toInt64))), .second, .val (.int 1), .val (.ref b115), .val (.int 6), .unset, .unset, .unset, .unset, .unset, .unset, .unset] [(.int (own_bz ((8 : Int64) * (n.toInt64)) 48)), (.int 57), (.ref b115)])) (fun tg kt => ?_) ?_
  · refine X134.arraylength hx (by rw [e134]; exact Ar135.1) (State.isArrayOf_alike hZ.alike Ar135.2.1) (g := (mkF m 58 #[.val (.ref a1), .val (.long ((8 : Int64) * (n.toInt64))), .second, .val (.int 1), .val (.ref b115), .val (.int 6), .unset, .unset, .unset, .unset, .unset, .unset, .unset] [(.ref b115), (.ref b115)])) rfl rfl (hb hby d2_58) _ ?_
    rw [len_of cS135 cN135]
    refine XS.iconst X134.here hx rfl (hb hby d2_59) ?_
    refine XS.isub X134.here hx rfl (hb hby d2_60) rfl ?_
    refine XS.iload X134.here hx rfl (hb hby d2_61) rfl ?_
    refine XS.isub X134.here hx rfl (hb hby d2_63) rfl ?_
    refine XS.lloadN X134.here hx rfl (hb hby d2_64) rfl ?_
    refine XS.bipush X134.here hx rfl (hb hby d2_65) ?_
    refine XS.iload X134.here hx rfl (hb hby d2_67) rfl ?_
    refine XS.imul X134.here hx rfl (hb hby d2_69) rfl ?_
    refine XS.lushr X134.here hx rfl (hb hby d2_70) rfl ?_
    refine XS.l2i X134.here hx rfl (hb hby d2_71) rfl ?_
    refine XS.i2b X134.here hx rfl (hb hby d2_72) rfl ?_
    exact kt
  obtain ⟨cl136, Ar136, cq136, cS136, cN136, cH136, cG136⟩ := id V134
  have hin136 := inb_of (j := (57 : Int32)) cS136 ⟨by decide, by decide⟩
  obtain ⟨T136, h136, X136, e136, W136, st136⟩ := stB X134 hx hZ e134 Ar136 (j := (57 : Int32)) hin136 (g := (mkF m 73 #[.val (.ref a1), .val (.long ((8 : Int64) * (n.toInt64))), .second, .val (.int 1), .val (.ref b115), .val (.int 6), .unset, .unset, .unset, .unset, .unset, .unset, .unset] [(.int (own_bz ((8 : Int64) * (n.toInt64)) 48)), (.int 57), (.ref b115)])) rfl rfl (hb hby d2_73)
  refine own_go st136 ?_
  have V136 : Arv Z h136 b115 k115 .byte (64 : Int32) (own_tab 64 (fun j => if j = 57 then (own_bz ((8 : Int64) * (n.toInt64)) 48) else (fun j => if j = 58 then (own_bz ((8 : Int64) * (n.toInt64)) 40) else (fun j => if j = 59 then (own_bz ((8 : Int64) * (n.toInt64)) 32) else (fun j => if j = 60 then (own_bz ((8 : Int64) * (n.toInt64)) 24) else (fun j => if j = 61 then (own_bz ((8 : Int64) * (n.toInt64)) 16) else (fun j => if j = 62 then (own_bz ((8 : Int64) * (n.toInt64)) 8) else (fun j => if j = 63 then (own_bz ((8 : Int64) * (n.toInt64)) 0) else (fun j => if j = n.toNatClampNeg then (-128) else (fun j => if j < n.toNatClampNeg then B j else 0) j) j) j) j) j) j) j) j)) (.int 0) := by have q := Arv.set Ar136 cq136 cS136 cN136 cH136 cG136 (fits_nar_byte _) W136 57 rfl (by rw [own_tab_len]; decide); rw [own_tab_set _ _ (by decide), own_narB] at q; exact q
  have K136 : Keep h0 h136 [] := Keep.wr K134 W136 (Or.inr (Nat.le_of_eq g115.symm))
  have N136 := Fr.snoc X136 N134 (Nat.le_trans Z0 (Nat.le_of_eq g115.symm))
  refine own_go (B := T136.setTop (mkF m 58 #[.val (.ref a1), .val (.long ((8 : Int64) * (n.toInt64))), .second, .val (.int 1), .val (.ref b115), .val (.int 7), .unset, .unset, .unset, .unset, .unset, .unset, .unset] [(.ref b115), (.ref b115)])) (fun tg kt => ?_) ?_
  · refine XS.iinc X136.here hx rfl (hb hby d2_74) rfl (l' := #[.val (.ref a1), .val (.long ((8 : Int64) * (n.toInt64))), .second, .val (.int 1), .val (.ref b115), .val (.int 7), .unset, .unset, .unset, .unset, .unset, .unset, .unset]) rfl ?_
    refine XS.goto X136.here hx rfl (pc0 := 77) (pc' := 47) rfl (hb hby d2_77) (by decide) (by decide) ?_
    refine XS.iload X136.here hx rfl (hb hby d2_47) rfl ?_
    refine XS.bipush X136.here hx rfl (hb hby d2_49) ?_
    refine XS.icmpNo X136.here hx rfl (hb hby d2_51) rfl (tlt (by decide : (7 : Int32) < (8 : Int32))).2.1 ?_
    refine XS.aload X136.here hx rfl (hb hby d2_54) rfl rfl ?_
    refine XS.aload X136.here hx rfl (hb hby d2_56) rfl rfl ?_
    exact kt
  obtain ⟨cl137, Ar137, cq137, cS137, cN137, cH137, cG137⟩ := id V136
  refine own_go (B := T136.setTop (mkF m 73 #[.val (.ref a1), .val (.long ((8 : Int64) * (n.toInt64))), .second, .val (.int 1), .val (.ref b115), .val (.int 7), .unset, .unset, .unset, .unset, .unset, .unset, .unset] [(.int (own_bz ((8 : Int64) * (n.toInt64)) 56)), (.int 56), (.ref b115)])) (fun tg kt => ?_) ?_
  · refine X136.arraylength hx (by rw [e136]; exact Ar137.1) (State.isArrayOf_alike hZ.alike Ar137.2.1) (g := (mkF m 58 #[.val (.ref a1), .val (.long ((8 : Int64) * (n.toInt64))), .second, .val (.int 1), .val (.ref b115), .val (.int 7), .unset, .unset, .unset, .unset, .unset, .unset, .unset] [(.ref b115), (.ref b115)])) rfl rfl (hb hby d2_58) _ ?_
    rw [len_of cS137 cN137]
    refine XS.iconst X136.here hx rfl (hb hby d2_59) ?_
    refine XS.isub X136.here hx rfl (hb hby d2_60) rfl ?_
    refine XS.iload X136.here hx rfl (hb hby d2_61) rfl ?_
    refine XS.isub X136.here hx rfl (hb hby d2_63) rfl ?_
    refine XS.lloadN X136.here hx rfl (hb hby d2_64) rfl ?_
    refine XS.bipush X136.here hx rfl (hb hby d2_65) ?_
    refine XS.iload X136.here hx rfl (hb hby d2_67) rfl ?_
    refine XS.imul X136.here hx rfl (hb hby d2_69) rfl ?_
    refine XS.lushr X136.here hx rfl (hb hby d2_70) rfl ?_
    refine XS.l2i X136.here hx rfl (hb hby d2_71) rfl ?_
    refine XS.i2b X136.here hx rfl (hb hby d2_72) rfl ?_
    exact kt
  obtain ⟨cl138, Ar138, cq138, cS138, cN138, cH138, cG138⟩ := id V136
  have hin138 := inb_of (j := (56 : Int32)) cS138 ⟨by decide, by decide⟩
  obtain ⟨T138, h138, X138, e138, W138, st138⟩ := stB X136 hx hZ e136 Ar138 (j := (56 : Int32)) hin138 (g := (mkF m 73 #[.val (.ref a1), .val (.long ((8 : Int64) * (n.toInt64))), .second, .val (.int 1), .val (.ref b115), .val (.int 7), .unset, .unset, .unset, .unset, .unset, .unset, .unset] [(.int (own_bz ((8 : Int64) * (n.toInt64)) 56)), (.int 56), (.ref b115)])) rfl rfl (hb hby d2_73)
  refine own_go st138 ?_
  have V138 : Arv Z h138 b115 k115 .byte (64 : Int32) (own_tab 64 (fun j => if j = 56 then (own_bz ((8 : Int64) * (n.toInt64)) 56) else (fun j => if j = 57 then (own_bz ((8 : Int64) * (n.toInt64)) 48) else (fun j => if j = 58 then (own_bz ((8 : Int64) * (n.toInt64)) 40) else (fun j => if j = 59 then (own_bz ((8 : Int64) * (n.toInt64)) 32) else (fun j => if j = 60 then (own_bz ((8 : Int64) * (n.toInt64)) 24) else (fun j => if j = 61 then (own_bz ((8 : Int64) * (n.toInt64)) 16) else (fun j => if j = 62 then (own_bz ((8 : Int64) * (n.toInt64)) 8) else (fun j => if j = 63 then (own_bz ((8 : Int64) * (n.toInt64)) 0) else (fun j => if j = n.toNatClampNeg then (-128) else (fun j => if j < n.toNatClampNeg then B j else 0) j) j) j) j) j) j) j) j) j)) (.int 0) := by have q := Arv.set Ar138 cq138 cS138 cN138 cH138 cG138 (fits_nar_byte _) W138 56 rfl (by rw [own_tab_len]; decide); rw [own_tab_set _ _ (by decide), own_narB] at q; exact q
  have K138 : Keep h0 h138 [] := Keep.wr K136 W138 (Or.inr (Nat.le_of_eq g115.symm))
  have N138 := Fr.snoc X138 N136 (Nat.le_trans Z0 (Nat.le_of_eq g115.symm))
  have V139 : Arv Z h138 b115 k115 .byte (64 : Int32) (own_tab 64 (own_gA n B)) (.int 0) := V138
  refine own_go (B := T138.setTop (mkF m 80 #[.val (.ref a1), .val (.long ((8 : Int64) * (n.toInt64))), .second, .val (.int 1), .val (.ref b115), .val (.int 8), .unset, .unset, .unset, .unset, .unset, .unset, .unset] [])) (fun tg kt => ?_) ?_
  · refine XS.iinc X138.here hx rfl (hb hby d2_74) rfl (l' := #[.val (.ref a1), .val (.long ((8 : Int64) * (n.toInt64))), .second, .val (.int 1), .val (.ref b115), .val (.int 8), .unset, .unset, .unset, .unset, .unset, .unset, .unset]) rfl ?_
    refine XS.goto X138.here hx rfl (pc0 := 77) (pc' := 47) rfl (hb hby d2_77) (by decide) (by decide) ?_
    refine XS.iload X138.here hx rfl (hb hby d2_47) rfl ?_
    refine XS.bipush X138.here hx rfl (hb hby d2_49) ?_
    refine XS.icmpYes X138.here hx rfl (pc0 := 51) (pc' := 80) rfl (hb hby d2_51) rfl (flt (by decide : ¬ ((8 : Int32) < (8 : Int32)))).2.1 (by decide) (by decide) ?_
    exact kt
  have f141 : Sta Z h138 "tributary/Digests" "INITIAL" "[I" (.ref w_INITIAL) := ((((((((((own_staKeep (S_INITIAL.ext E115) K118' (own_nsS (own_nsV V115) own_ns0)).wr W122).wr W124).wr W126).wr W128).wr W130).wr W132).wr W134).wr W136).wr W138)
  obtain ⟨T140, X140, e140, st140⟩ := getS2 X138 hx hZ hown (host := "") (Or.inl (hw _ (List.mem_of_getElem? (i := 15) rfl))) Via.refl e138 f141 (g := (mkF m 80 #[.val (.ref a1), .val (.long ((8 : Int64) * (n.toInt64))), .second, .val (.int 1), .val (.ref b115), .val (.int 8), .unset, .unset, .unset, .unset, .unset, .unset, .unset] [])) rfl (hb hby d2_80)
  refine own_go st140 ?_
  have ne143 : w_INITIAL ≠ b115 := (Nat.ne_of_lt (Nat.lt_of_lt_of_le E_INITIAL.lt (Nat.le_of_eq g115.symm)))
  have f144 : Arv Z h138 w_INITIAL k_INITIAL .int (8 : Int32) [(.int 1779033703), (.int (-1150833019)), (.int 1013904242), (.int (-1521486534)), (.int 1359893119), (.int (-1694144372)), (.int 528734635), (.int 1541459225)] (.int 0) := (((((((((((V_INITIAL.ext E115).keep K118' (ninS ne143 nin0)).other W122 ne143).other W124 ne143).other W126 ne143).other W128 ne143).other W130 ne143).other W132 ne143).other W134 ne143).other W136 ne143).other W138 ne143)
  have f145 : Exa Z h138 w_INITIAL "[I" := (((((((((((E_INITIAL.ext E115).keep K118').wr W122).wr W124).wr W126).wr W128).wr W130).wr W132).wr W134).wr W136).wr W138)
  obtain ⟨T142, h142, X142, e142, E142, V142', A142, st142⟩ := cloneH X140 hx hZ hown (hw _ (List.mem_of_getElem? (i := 17) rfl)) (hw _ (List.mem_of_getElem? (i := 18) rfl)) (hw _ (List.mem_of_getElem? (i := 22) rfl)) (hw _ (List.mem_of_getElem? (i := 20) rfl)) (hw _ (List.mem_of_getElem? (i := 21) rfl)) (hw _ (List.mem_of_getElem? (i := 23) rfl)) e140 f144.arh f145 (g := (mkF m 83 #[.val (.ref a1), .val (.long ((8 : Int64) * (n.toInt64))), .second, .val (.int 1), .val (.ref b115), .val (.int 8), .unset, .unset, .unset, .unset, .unset, .unset, .unset] [(.ref w_INITIAL)])) rfl (by rw [hml]; rfl) (rest := []) rfl (hb hby d2_83) (by decide) (W := 0) (cap := 8) (by show 2 * 0 + _ ≤ _; exact Nat.le_of_eq rfl) (by decide) (by decide) (by decide) (by decide)
  obtain ⟨b142, g142⟩ : ∃ z, z = h138.size := ⟨_, rfl⟩
  rw [← g142] at V142' A142 st142
  refine own_go st142 ?_
  have K142 : Keep h0 h142 [] := Keep.ext K138 E142
  have V142 : Arv Z h142 b142 k_INITIAL .int (8 : Int32) [(.int 1779033703), (.int (-1150833019)), (.int 1013904242), (.int (-1521486534)), (.int 1359893119), (.int (-1694144372)), (.int 528734635), (.int 1541459225)] (.int 0) := V142'
  obtain ⟨T146, X146, e146, st146⟩ := castY X142 hx hZ hown (hw _ (List.mem_of_getElem? (i := 24) rfl)) e142 (Ins.self A142) (g := (mkF m 86 #[.val (.ref a1), .val (.long ((8 : Int64) * (n.toInt64))), .second, .val (.int 1), .val (.ref b115), .val (.int 8), .unset, .unset, .unset, .unset, .unset, .unset, .unset] [(.ref b142)])) rfl rfl (hb hby d2_86)
  refine own_go st146 ?_
  refine own_go (B := T146.setTop (mkF m 93 #[.val (.ref a1), .val (.long ((8 : Int64) * (n.toInt64))), .second, .val (.int 1), .val (.ref b115), .val (.ref b142), .unset, .unset, .unset, .unset, .unset, .unset, .unset] [(.int 64)])) (fun tg kt => ?_) ?_
  · refine XS.astore X146.here hx rfl (hb hby d2_89) rfl rfl (l' := #[.val (.ref a1), .val (.long ((8 : Int64) * (n.toInt64))), .second, .val (.int 1), .val (.ref b115), .val (.ref b142), .unset, .unset, .unset, .unset, .unset, .unset, .unset]) rfl ?_
    refine XS.bipush X146.here hx rfl (hb hby d2_91) ?_
    exact kt
  obtain ⟨T147, h147, k147, X147, e147, E147, A147, st147⟩ := newP X146 hx hZ (hw _ (List.mem_of_getElem? (i := 26) rfl)) e146 (g := (mkF m 93 #[.val (.ref a1), .val (.long ((8 : Int64) * (n.toInt64))), .second, .val (.int 1), .val (.ref b115), .val (.ref b142), .unset, .unset, .unset, .unset, .unset, .unset, .unset] [(.int 64)])) rfl (hb hby d2_93) rfl (by decide) (cap := 64) (by decide) (by decide) (by decide) (by decide)
  obtain ⟨b147, g147⟩ : ∃ z, z = h142.size := ⟨_, rfl⟩
  rw [← g147] at A147 st147
  refine own_go st147 ?_
  have K147 : Keep h0 h147 [] := Keep.ext K142 E147
  have V147 : Arv Z h147 b147 k147 .int (64 : Int32) (own_tab 64 (fun _ => 0)) (.int 0) := (Arv.new A147 (by decide)).pad (own_tab0 64)
  refine own_go (B := T147.setTop (mkF m 109 #[.val (.ref a1), .val (.long ((8 : Int64) * (n.toInt64))), .second, .val (.int 1), .val (.ref b115), .val (.ref b142), .val (.ref b147), .val (.int 0), .val (.int 0), .unset, .unset, .unset, .unset] [])) (fun tg kt => ?_) ?_
  · refine XS.astore X147.here hx rfl (hb hby d2_95) rfl rfl (l' := #[.val (.ref a1), .val (.long ((8 : Int64) * (n.toInt64))), .second, .val (.int 1), .val (.ref b115), .val (.ref b142), .val (.ref b147), .unset, .unset, .unset, .unset, .unset, .unset]) rfl ?_
    refine XS.iconst X147.here hx rfl (hb hby d2_97) ?_
    refine XS.istore X147.here hx rfl (hb hby d2_98) rfl (l' := #[.val (.ref a1), .val (.long ((8 : Int64) * (n.toInt64))), .second, .val (.int 1), .val (.ref b115), .val (.ref b142), .val (.ref b147), .val (.int 0), .unset, .unset, .unset, .unset, .unset]) rfl ?_
    refine XS.iload X147.here hx rfl (hb hby d2_100) rfl ?_
    refine XS.iloadN X147.here hx rfl (hb hby d2_102) rfl ?_
    refine XS.icmpNo X147.here hx rfl (hb hby d2_103) rfl (tlt (by decide : (0 : Int32) < (1 : Int32))).2.1 ?_
    refine XS.iconst X147.here hx rfl (hb hby d2_106) ?_
    refine XS.istore X147.here hx rfl (hb hby d2_107) rfl (l' := #[.val (.ref a1), .val (.long ((8 : Int64) * (n.toInt64))), .second, .val (.int 1), .val (.ref b115), .val (.ref b142), .val (.ref b147), .val (.int 0), .val (.int 0), .unset, .unset, .unset, .unset]) rfl ?_
    exact kt
  have low148_b115 : h0.size ≤ b115 := (Nat.le_of_eq g115.symm)
  have le149 : h0.size ≤ h138.size := (Nat.le_trans (Nat.le_trans (Nat.le_trans (Nat.le_trans (Nat.le_trans (Nat.le_trans (Nat.le_trans (Nat.le_trans (Nat.le_trans (Nat.le_trans E115.1 K118'.1) (Nat.le_of_eq (Wr.size W122).symm)) (Nat.le_of_eq (Wr.size W124).symm)) (Nat.le_of_eq (Wr.size W126).symm)) (Nat.le_of_eq (Wr.size W128).symm)) (Nat.le_of_eq (Wr.size W130).symm)) (Nat.le_of_eq (Wr.size W132).symm)) (Nat.le_of_eq (Wr.size W134).symm)) (Nat.le_of_eq (Wr.size W136).symm)) (Nat.le_of_eq (Wr.size W138).symm))
  have low148_b142 : h0.size ≤ b142 := (Nat.le_trans le149 (Nat.le_of_eq g142.symm))
  have le150 : h0.size ≤ h142.size := (Nat.le_trans (Nat.le_trans (Nat.le_trans (Nat.le_trans (Nat.le_trans (Nat.le_trans (Nat.le_trans (Nat.le_trans (Nat.le_trans (Nat.le_trans (Nat.le_trans E115.1 K118'.1) (Nat.le_of_eq (Wr.size W122).symm)) (Nat.le_of_eq (Wr.size W124).symm)) (Nat.le_of_eq (Wr.size W126).symm)) (Nat.le_of_eq (Wr.size W128).symm)) (Nat.le_of_eq (Wr.size W130).symm)) (Nat.le_of_eq (Wr.size W132).symm)) (Nat.le_of_eq (Wr.size W134).symm)) (Nat.le_of_eq (Wr.size W136).symm)) (Nat.le_of_eq (Wr.size W138).symm)) E142.1)
  have low148_b147 : h0.size ≤ b147 := (Nat.le_trans le150 (Nat.le_of_eq g147.symm))
  have le151 : h115.size ≤ h138.size := (Nat.le_trans (Nat.le_trans (Nat.le_trans (Nat.le_trans (Nat.le_trans (Nat.le_trans (Nat.le_trans (Nat.le_trans (Nat.le_trans K118'.1 (Nat.le_of_eq (Wr.size W122).symm)) (Nat.le_of_eq (Wr.size W124).symm)) (Nat.le_of_eq (Wr.size W126).symm)) (Nat.le_of_eq (Wr.size W128).symm)) (Nat.le_of_eq (Wr.size W130).symm)) (Nat.le_of_eq (Wr.size W132).symm)) (Nat.le_of_eq (Wr.size W134).symm)) (Nat.le_of_eq (Wr.size W136).symm)) (Nat.le_of_eq (Wr.size W138).symm))
  have ne152 : b115 ≠ b142 := (Nat.ne_of_lt (Nat.lt_of_lt_of_le (Nat.lt_of_lt_of_le V115.lt le151) (Nat.le_of_eq g142.symm)))
  have le153 : h115.size ≤ h142.size := (Nat.le_trans (Nat.le_trans (Nat.le_trans (Nat.le_trans (Nat.le_trans (Nat.le_trans (Nat.le_trans (Nat.le_trans (Nat.le_trans (Nat.le_trans K118'.1 (Nat.le_of_eq (Wr.size W122).symm)) (Nat.le_of_eq (Wr.size W124).symm)) (Nat.le_of_eq (Wr.size W126).symm)) (Nat.le_of_eq (Wr.size W128).symm)) (Nat.le_of_eq (Wr.size W130).symm)) (Nat.le_of_eq (Wr.size W132).symm)) (Nat.le_of_eq (Wr.size W134).symm)) (Nat.le_of_eq (Wr.size W136).symm)) (Nat.le_of_eq (Wr.size W138).symm)) E142.1)
  have ne154 : b115 ≠ b147 := (Nat.ne_of_lt (Nat.lt_of_lt_of_le (Nat.lt_of_lt_of_le V115.lt le153) (Nat.le_of_eq g147.symm)))
  have ne155 : b142 ≠ b147 := (Nat.ne_of_lt (Nat.lt_of_lt_of_le V142.lt (Nat.le_of_eq g147.symm)))
  have f156 : Arv Z h147 b115 k115 .byte (64 : Int32) (own_tab 64 (own_gA n B)) (.int 0) := ((V139.ext E142).ext E147)
  have f157 : Arv Z h147 b142 k_INITIAL .int (8 : Int32) [(.int 1779033703), (.int (-1150833019)), (.int 1013904242), (.int (-1521486534)), (.int 1359893119), (.int (-1694144372)), (.int 528734635), (.int 1541459225)] (.int 0) := (V142.ext E147)
  have f158 : Exa Z h147 b142 "[I" := (A142.ext E147)
  have loop148 : ∀ (k t : Nat) (T_148 : State) (h_148 : Heap) (lo_148 : List Loc) (z148_9 : Slot), k + t = 16 → Stand p l e ({ frames := 2, cells := 4, slots := 168, locals := 41 } : Room) s m #[(.ref a1)] below meth c T_148 lo_148 3 136 → T_148.heap = h_148 → Fr n0 lo_148 → Keep h0 h_148 [] → One z148_9 → Arv Z h_148 b115 k115 .byte (64 : Int32) (own_tab 64 (own_gA n B)) (.int 0) → Arv Z h_148 b142 k_INITIAL .int (8 : Int32) [(.int 1779033703), (.int (-1150833019)), (.int 1013904242), (.int (-1521486534)), (.int 1359893119), (.int (-1694144372)), (.int 528734635), (.int 1541459225)] (.int 0) → Exa Z h_148 b142 "[I" → Arv Z h_148 b147 k147 .int (64 : Int32) (own_tab 64 (own_wa (own_gA n B) 0 (fun _ => 0) t)) (.int 0) → ∃ s₂ o, Steps p.tables e below (T_148.setTop (mkF m 109 #[.val (.ref a1), .val (.long ((8 : Int64) * (n.toInt64))), .second, .val (.int 1), .val (.ref b115), .val (.ref b142), .val (.ref b147), .val (.int 0), .val (.int (Int32.ofNat t)), z148_9, .unset, .unset, .unset] [])) s₂ ∧ s₂.status = .running ∧ Ended s₂ below o ∧ ∃ v L, o = .returned v ∧ Q2A Z a1 w_ROUND k_ROUND w_INITIAL k_INITIAL k1 n vs B h0 n0 v s₂.heap L ∧ FrameEnd s o s₂ L ({ frames := 2, cells := 4, slots := 168, locals := 41 } : Room).cells ({ frames := 2, cells := 4, slots := 168, locals := 41 } : Room).slots := by
    intro k
    induction k with
    | zero =>
      intro t T_148 h_148 lo_148 z148_9 hkt148 X_148 e_148 N_148 K_148 hz148_9 fl148_0 fl148_1 fl148_2 fl148_3
      obtain rfl : t = 16 := by omega
      refine own_go (B := T_148.setTop (mkF m 197 #[.val (.ref a1), .val (.long ((8 : Int64) * (n.toInt64))), .second, .val (.int 1), .val (.ref b115), .val (.ref b142), .val (.ref b147), .val (.int 0), .val (.int 16), z148_9, .unset, .unset, .unset] [])) (fun tg kt => ?_) ?_
      · refine XS.iload X_148.here hx rfl (hb hby d2_109) rfl ?_
        refine XS.bipush X_148.here hx rfl (hb hby d2_111) ?_
        refine XS.icmpYes X_148.here hx rfl (pc0 := 113) (pc' := 193) rfl (hb hby d2_113) rfl (flt (show ¬ ((Int32.ofNat 16) < (16 : Int32)) from (by decide))).2.1 (by decide) (by decide) ?_
        refine XS.bipush X_148.here hx rfl (hb hby d2_193) ?_
        refine XS.istore X_148.here hx rfl (hb hby d2_195) rfl (l' := #[.val (.ref a1), .val (.long ((8 : Int64) * (n.toInt64))), .second, .val (.int 1), .val (.ref b115), .val (.ref b142), .val (.ref b147), .val (.int 0), .val (.int 16), z148_9, .unset, .unset, .unset]) rfl ?_
        exact kt
      have low159_b115 : h0.size ≤ b115 := low148_b115
      have low159_b142 : h0.size ≤ b142 := low148_b142
      have low159_b147 : h0.size ≤ b147 := low148_b147
      have loop159 : ∀ (k t : Nat) (T_159 : State) (h_159 : Heap) (lo_159 : List Loc) (z159_9 : Slot) (z159_10 : Slot) (z159_11 : Slot) (z159_12 : Slot), k + t = 48 → Stand p l e ({ frames := 2, cells := 4, slots := 168, locals := 41 } : Room) s m #[(.ref a1)] below meth c T_159 lo_159 3 136 → T_159.heap = h_159 → Fr n0 lo_159 → Keep h0 h_159 [] → One z159_9 → One z159_10 → One z159_11 → One z159_12 → Arv Z h_159 b115 k115 .byte (64 : Int32) (own_tab 64 (own_gA n B)) (.int 0) → Arv Z h_159 b142 k_INITIAL .int (8 : Int32) [(.int 1779033703), (.int (-1150833019)), (.int 1013904242), (.int (-1521486534)), (.int 1359893119), (.int (-1694144372)), (.int 528734635), (.int 1541459225)] (.int 0) → Exa Z h_159 b142 "[I" → Arv Z h_159 b147 k147 .int (64 : Int32) (own_tab 64 (own_wf (own_wa (own_gA n B) 0 (fun _ => 0) 16) t)) (.int 0) → ∃ s₂ o, Steps p.tables e below (T_159.setTop (mkF m 197 #[.val (.ref a1), .val (.long ((8 : Int64) * (n.toInt64))), .second, .val (.int 1), .val (.ref b115), .val (.ref b142), .val (.ref b147), .val (.int 0), .val (.int (Int32.ofNat (16 + t))), z159_9, z159_10, z159_11, z159_12] [])) s₂ ∧ s₂.status = .running ∧ Ended s₂ below o ∧ ∃ v L, o = .returned v ∧ Q2A Z a1 w_ROUND k_ROUND w_INITIAL k_INITIAL k1 n vs B h0 n0 v s₂.heap L ∧ FrameEnd s o s₂ L ({ frames := 2, cells := 4, slots := 168, locals := 41 } : Room).cells ({ frames := 2, cells := 4, slots := 168, locals := 41 } : Room).slots := by
        intro k
        induction k with
        | zero =>
          intro t T_159 h_159 lo_159 z159_9 z159_10 z159_11 z159_12 hkt159 X_159 e_159 N_159 K_159 hz159_9 hz159_10 hz159_11 hz159_12 fl159_0 fl159_1 fl159_2 fl159_3
          obtain rfl : t = 48 := by omega
          refine own_go (B := T_159.setTop (mkF m 306 #[.val (.ref a1), .val (.long ((8 : Int64) * (n.toInt64))), .second, .val (.int 1), .val (.ref b115), .val (.ref b142), .val (.ref b147), .val (.int 0), .val (.int (Int32.ofNat (16 + 48))), z159_9, z159_10, z159_11, z159_12] [(.ref b147), (.ref b142)])) (fun tg kt => ?_) ?_
          · refine XS.iload X_159.here hx rfl (hb hby d2_197) rfl ?_
            refine XS.bipush X_159.here hx rfl (hb hby d2_199) ?_
            refine XS.icmpYes X_159.here hx rfl (pc0 := 201) (pc' := 302) rfl (hb hby d2_201) rfl (flt (show ¬ ((Int32.ofNat (16 + 48)) < (64 : Int32)) from (by decide))).2.1 (by decide) (by decide) ?_
            refine XS.aload X_159.here hx rfl (hb hby d2_302) rfl rfl ?_
            refine XS.aload X_159.here hx rfl (hb hby d2_304) rfl rfl ?_
            exact kt
          have f161 : Sta Z h_159 "tributary/Digests" "ROUND" "[I" (.ref w_ROUND) := (own_staKeep S_ROUND K_159 (fun x hx_ => nomatch hx_))
          have f162 : Arv Z h_159 w_ROUND k_ROUND .int (64 : Int32) (own_tab 64 own_K) (.int 0) := (V_ROUND.keep K_159 nin0)
          obtain ⟨_, _, ⟨T160, L160, k160, n160⟩, -, X160, ⟨Lc160, hQ160, l160, y160, z160⟩, st160⟩ := Jvm.LawKit.callS X_159 hx (y := (⟨"tributary/Digests", "compress", "([I[I)V"⟩ : MethodName)) hown (mvT hZ (hw _ (List.mem_of_getElem? (i := 31) rfl))) (mvT hZ (hw _ (List.mem_of_getElem? (i := 32) rfl))) (mvT hZ (hw _ (List.mem_of_getElem? (i := 8) rfl))) (mvT hZ (hw _ (List.mem_of_getElem? (i := 33) rfl))) (by decide) (backOf (W := 0) (rm4 l Z a0 hw [] b142 b147 w_ROUND k_ROUND k_INITIAL k147 (1779033703 : Int32) (-1150833019 : Int32) (1013904242 : Int32) (-1521486534 : Int32) (1359893119 : Int32) (-1694144372 : Int32) (528734635 : Int32) (1541459225 : Int32) (own_wf (own_wa (own_gA n B) 0 (fun _ => 0) 16) 48) h_159 n0 (Nat.le_trans Z0 K_159.1) f161 f162 fl159_1 fl159_3 (Nat.le_trans Z0 low159_b142)) hZ (hw _ (List.mem_of_getElem? (i := 33) rfl)) (hw _ (List.mem_of_getElem? (i := 8) rfl)) (by decide) (by decide)) (g := (mkF m 306 #[.val (.ref a1), .val (.long ((8 : Int64) * (n.toInt64))), .second, .val (.int 1), .val (.ref b115), .val (.ref b142), .val (.ref b147), .val (.int 0), .val (.int (Int32.ofNat (16 + 48))), z159_9, z159_10, z159_11, z159_12] [(.ref b147), (.ref b142)])) rfl (by rw [hml]; rfl) (argsL := [(.ref b142), (.ref b147)]) (rest := []) (lenOf pd_1 rfl) rfl (by show 2 * 0 + _ ≤ _; exact Nat.le_of_eq rfl) (hb hby d2_306) (fun _ _ => ⟨rfl, e_159, (by decide : 3 + 0 ≤ _), (by decide : 136 + 0 ≤ _)⟩)
          dsimp only [Pt.U, Pt.locs, Pt.cells, Pt.slots] at X160 l160 y160 z160 st160 hQ160
          rw [l160, y160, z160] at X160
          obtain ⟨r_160, rfl, M160, q160_0, q160_1, q160_2⟩ := hQ160
          have N160 := Fr.app N_159 M160
          have K160 : Keep h0 T160.heap [] := Keep.trans K_159 q160_0 (allS (Or.inr low159_b142) all0)
          refine own_go st160 ?_
          obtain ⟨x0_0, ex0_0⟩ : ∃ z, z = ((1779033703 : Int32) + r_160.1) := ⟨_, rfl⟩
          obtain ⟨x0_1, ex0_1⟩ : ∃ z, z = ((-1150833019 : Int32) + r_160.2.1) := ⟨_, rfl⟩
          obtain ⟨x0_2, ex0_2⟩ : ∃ z, z = ((1013904242 : Int32) + r_160.2.2.1) := ⟨_, rfl⟩
          obtain ⟨x0_3, ex0_3⟩ : ∃ z, z = ((-1521486534 : Int32) + r_160.2.2.2.1) := ⟨_, rfl⟩
          obtain ⟨x0_4, ex0_4⟩ : ∃ z, z = ((1359893119 : Int32) + r_160.2.2.2.2.1) := ⟨_, rfl⟩
          obtain ⟨x0_5, ex0_5⟩ : ∃ z, z = ((-1694144372 : Int32) + r_160.2.2.2.2.2.1) := ⟨_, rfl⟩
          obtain ⟨x0_6, ex0_6⟩ : ∃ z, z = ((528734635 : Int32) + r_160.2.2.2.2.2.2.1) := ⟨_, rfl⟩
          obtain ⟨x0_7, ex0_7⟩ : ∃ z, z = ((1541459225 : Int32) + r_160.2.2.2.2.2.2.2) := ⟨_, rfl⟩
          have V163 : Arv Z T160.heap b142 k_INITIAL .int (8 : Int32) [(.int x0_0), (.int x0_1), (.int x0_2), (.int x0_3), (.int x0_4), (.int x0_5), (.int x0_6), (.int x0_7)] (.int 0) := by rw [ex0_0, ex0_1, ex0_2, ex0_3, ex0_4, ex0_5, ex0_6, ex0_7]; exact q160_1
          have hb0 : (x0_0, x0_1, x0_2, x0_3, x0_4, x0_5, x0_6, x0_7) = (own_blk (own_gA n B) 0 (fun _ => 0) ((1779033703 : Int32), (-1150833019 : Int32), (1013904242 : Int32), (-1521486534 : Int32), (1359893119 : Int32), (-1694144372 : Int32), (528734635 : Int32), (1541459225 : Int32))) := by rw [own_blk_of q160_2, ex0_0, ex0_1, ex0_2, ex0_3, ex0_4, ex0_5, ex0_6, ex0_7]; rfl
          refine own_go (B := T160.setTop (mkF m 317 #[.val (.ref a1), .val (.long ((8 : Int64) * (n.toInt64))), .second, .val (.int 1), .val (.ref b115), .val (.ref b142), .val (.ref b147), .val (.int 1), .val (.int (Int32.ofNat (16 + 48))), z159_9, z159_10, z159_11, z159_12] [(.int 32)])) (fun tg kt => ?_) ?_
          · refine XS.iinc X160.here hx rfl (hb hby d2_309) rfl (l' := #[.val (.ref a1), .val (.long ((8 : Int64) * (n.toInt64))), .second, .val (.int 1), .val (.ref b115), .val (.ref b142), .val (.ref b147), .val (.int 1), .val (.int (Int32.ofNat (16 + 48))), z159_9, z159_10, z159_11, z159_12]) rfl ?_
            refine XS.goto X160.here hx rfl (pc0 := 312) (pc' := 100) rfl (hb hby d2_312) (by decide) (by decide) ?_
            refine XS.iload X160.here hx rfl (hb hby d2_100) rfl ?_
            refine XS.iloadN X160.here hx rfl (hb hby d2_102) rfl ?_
            refine XS.icmpYes X160.here hx rfl (pc0 := 103) (pc' := 315) rfl (hb hby d2_103) rfl (flt (by decide : ¬ ((1 : Int32) < (1 : Int32)))).2.1 (by decide) (by decide) ?_
            refine XS.bipush X160.here hx rfl (hb hby d2_315) ?_
            exact kt
          obtain ⟨T164, h164, k164, X164, e164, E164, A164, st164⟩ := newP X160 hx hZ (hw _ (List.mem_of_getElem? (i := 1) rfl)) rfl (g := (mkF m 317 #[.val (.ref a1), .val (.long ((8 : Int64) * (n.toInt64))), .second, .val (.int 1), .val (.ref b115), .val (.ref b142), .val (.ref b147), .val (.int 1), .val (.int (Int32.ofNat (16 + 48))), z159_9, z159_10, z159_11, z159_12] [(.int 32)])) rfl (hb hby d2_317) rfl (by decide) (cap := 32) (by decide) (by decide) (by decide) (by decide)
          obtain ⟨b164, g164⟩ : ∃ z, z = T160.heap.size := ⟨_, rfl⟩
          rw [← g164] at A164 st164
          refine own_go st164 ?_
          have K164 : Keep h0 h164 [] := Keep.ext K160 E164
          have V164 : Arv Z h164 b164 k164 .byte (32 : Int32) (own_tab 32 (fun _ => 0)) (.int 0) := (Arv.new A164 (by decide)).pad (own_tab0 32)
          have f165 : Arv Z h164 b142 k_INITIAL .int (8 : Int32) [(.int x0_0), (.int x0_1), (.int x0_2), (.int x0_3), (.int x0_4), (.int x0_5), (.int x0_6), (.int x0_7)] (.int 0) := (V163.ext E164)
          obtain ⟨sx, hsx⟩ : ∃ z : St8, z = (x0_0, x0_1, x0_2, x0_3, x0_4, x0_5, x0_6, x0_7) := ⟨_, rfl⟩
          have V166 : Arv Z h164 b142 k_INITIAL .int (8 : Int32) (own_tab 8 (own_x8 sx)) (.int 0) := by rw [hsx]; exact f165
          refine own_go (B := T164.setTop (mkF m 324 #[.val (.ref a1), .val (.long ((8 : Int64) * (n.toInt64))), .second, .val (.int 1), .val (.ref b115), .val (.ref b142), .val (.ref b147), .val (.ref b164), .val (.int 0), z159_9, z159_10, z159_11, z159_12] [])) (fun tg kt => ?_) ?_
          · refine XS.astore X164.here hx rfl (hb hby d2_319) rfl rfl (l' := #[.val (.ref a1), .val (.long ((8 : Int64) * (n.toInt64))), .second, .val (.int 1), .val (.ref b115), .val (.ref b142), .val (.ref b147), .val (.ref b164), .val (.int (Int32.ofNat (16 + 48))), z159_9, z159_10, z159_11, z159_12]) rfl ?_
            refine XS.iconst X164.here hx rfl (hb hby d2_321) ?_
            refine XS.istore X164.here hx rfl (hb hby d2_322) rfl (l' := #[.val (.ref a1), .val (.long ((8 : Int64) * (n.toInt64))), .second, .val (.int 1), .val (.ref b115), .val (.ref b142), .val (.ref b147), .val (.ref b164), .val (.int 0), z159_9, z159_10, z159_11, z159_12]) rfl ?_
            exact kt
          have low167_b115 : h0.size ≤ b115 := low159_b115
          have low167_b142 : h0.size ≤ b142 := low159_b142
          have low167_b147 : h0.size ≤ b147 := low159_b147
          have le168 : h0.size ≤ T160.heap.size := (Nat.le_trans K_159.1 q160_0.1)
          have low167_b164 : h0.size ≤ b164 := (Nat.le_trans le168 (Nat.le_of_eq g164.symm))
          have ne169 : b115 ≠ b164 := (Nat.ne_of_lt (Nat.lt_of_lt_of_le (Nat.lt_of_lt_of_le fl159_0.lt q160_0.1) (Nat.le_of_eq g164.symm)))
          have ne170 : b142 ≠ b164 := (Nat.ne_of_lt (Nat.lt_of_lt_of_le (Nat.lt_of_lt_of_le fl159_2.lt q160_0.1) (Nat.le_of_eq g164.symm)))
          have ne171 : b147 ≠ b164 := (Nat.ne_of_lt (Nat.lt_of_lt_of_le (Nat.lt_of_lt_of_le fl159_3.lt q160_0.1) (Nat.le_of_eq g164.symm)))
          have f172 : Arv Z h164 b115 k115 .byte (64 : Int32) (own_tab 64 (own_gA n B)) (.int 0) := ((fl159_0.keep q160_0 (ninS ne152 nin0)).ext E164)
          have f173 : Exa Z h164 b142 "[I" := ((fl159_2.keep q160_0).ext E164)
          have f174 : Arv Z h164 b147 k147 .int (64 : Int32) (own_tab 64 (own_wf (own_wa (own_gA n B) 0 (fun _ => 0) 16) 48)) (.int 0) := ((fl159_3.keep q160_0 (ninS (Ne.symm ne155) nin0)).ext E164)
          have loop167 : ∀ (k t : Nat) (T_167 : State) (h_167 : Heap) (lo_167 : List Loc), k + t = 32 → Stand p l e ({ frames := 2, cells := 4, slots := 168, locals := 41 } : Room) s m #[(.ref a1)] below meth c T_167 lo_167 4 168 → T_167.heap = h_167 → Fr n0 lo_167 → Keep h0 h_167 [] → Arv Z h_167 b115 k115 .byte (64 : Int32) (own_tab 64 (own_gA n B)) (.int 0) → Exa Z h_167 b142 "[I" → Arv Z h_167 b147 k147 .int (64 : Int32) (own_tab 64 (own_wf (own_wa (own_gA n B) 0 (fun _ => 0) 16) 48)) (.int 0) → Arv Z h_167 b142 k_INITIAL .int (8 : Int32) (own_tab 8 (own_x8 sx)) (.int 0) → Arv Z h_167 b164 k164 .byte (32 : Int32) (own_tab 32 (own_oa (own_ob sx) t)) (.int 0) → ∃ s₂ o, Steps p.tables e below (T_167.setTop (mkF m 324 #[.val (.ref a1), .val (.long ((8 : Int64) * (n.toInt64))), .second, .val (.int 1), .val (.ref b115), .val (.ref b142), .val (.ref b147), .val (.ref b164), .val (.int (Int32.ofNat t)), z159_9, z159_10, z159_11, z159_12] [])) s₂ ∧ s₂.status = .running ∧ Ended s₂ below o ∧ ∃ v L, o = .returned v ∧ Q2A Z a1 w_ROUND k_ROUND w_INITIAL k_INITIAL k1 n vs B h0 n0 v s₂.heap L ∧ FrameEnd s o s₂ L ({ frames := 2, cells := 4, slots := 168, locals := 41 } : Room).cells ({ frames := 2, cells := 4, slots := 168, locals := 41 } : Room).slots := by
            intro k
            induction k with
            | zero =>
              intro t T_167 h_167 lo_167 hkt167 X_167 e_167 N_167 K_167 fl167_0 fl167_1 fl167_2 fl167_3 fl167_4
              obtain rfl : t = 32 := by omega
              refine own_go (B := T_167.setTop (mkF m 363 #[.val (.ref a1), .val (.long ((8 : Int64) * (n.toInt64))), .second, .val (.int 1), .val (.ref b115), .val (.ref b142), .val (.ref b147), .val (.ref b164), .val (.int (Int32.ofNat 32)), z159_9, z159_10, z159_11, z159_12] [(.ref b164)])) (fun tg kt => ?_) ?_
              · refine XS.iload X_167.here hx rfl (hb hby d2_324) rfl ?_
                refine XS.bipush X_167.here hx rfl (hb hby d2_326) ?_
                refine XS.icmpYes X_167.here hx rfl (pc0 := 328) (pc' := 361) rfl (hb hby d2_328) rfl (flt (show ¬ ((Int32.ofNat 32) < (32 : Int32)) from (by decide))).2.1 (by decide) (by decide) ?_
                refine XS.aload X_167.here hx rfl (hb hby d2_361) rfl rfl ?_
                exact kt
              obtain ⟨fs, hr, hrun, hended, hW, hsame⟩ := X_167.leave (v := some (.ref b164)) (fun h => by rw [Bd.returns] at h; cases h)
              refine ⟨_, _, ?_, hrun, hended, _, _, rfl, ?_, ⟨_, rfl⟩, hW, hsame.mono (by decide) (by decide)⟩
              · exact own_retR X_167 hx Bd.returns rfl rfl (hb hby d2_363) hr
              · show Q2A Z a1 w_ROUND k_ROUND w_INITIAL k_INITIAL k1 n vs B h0 n0 _ T_167.heap _
                rw [e_167]
                exact ⟨b164, k164, sx, rfl, N_167, K_167, low167_b164, fl167_4, (hsx.trans hb0)⟩
            | succ k ih167 =>
              intro t T_167 h_167 lo_167 hkt167 X_167 e_167 N_167 K_167 fl167_0 fl167_1 fl167_2 fl167_3 fl167_4
              have ht167 : t < 32 := by omega
              refine own_go (B := T_167.setTop (mkF m 341 #[.val (.ref a1), .val (.long ((8 : Int64) * (n.toInt64))), .second, .val (.int 1), .val (.ref b115), .val (.ref b142), .val (.ref b147), .val (.ref b164), .val (.int (Int32.ofNat t)), z159_9, z159_10, z159_11, z159_12] [(.int ((Int32.ofNat t) / (4 : Int32))), (.ref b142), (.int (Int32.ofNat t)), (.ref b164)])) (fun tg kt => ?_) ?_
              · refine XS.iload X_167.here hx rfl (hb hby d2_324) rfl ?_
                refine XS.bipush X_167.here hx rfl (hb hby d2_326) ?_
                refine XS.icmpNo X_167.here hx rfl (hb hby d2_328) rfl (tlt (show (Int32.ofNat t) < (32 : Int32) from (own_lt32 ht167))).2.1 ?_
                refine XS.aload X_167.here hx rfl (hb hby d2_331) rfl rfl ?_
                refine XS.iload X_167.here hx rfl (hb hby d2_333) rfl ?_
                refine XS.aload X_167.here hx rfl (hb hby d2_335) rfl rfl ?_
                refine XS.iload X_167.here hx rfl (hb hby d2_337) rfl ?_
                refine XS.iconst X_167.here hx rfl (hb hby d2_339) ?_
                refine XS.idiv X_167.here hx rfl (hb hby d2_340) rfl (by decide) ?_
                exact kt
              obtain ⟨cl176, Ar176, cq176, cS176, cN176, cH176, cG176⟩ := id fl167_3
              have hin176 := inb_of (j := ((Int32.ofNat t) / (4 : Int32))) cS176 (own_inb (N := 8) (own_d4 ht167) (by omega) (by decide))
              have hat176 : cl176.slots[(((Int32.ofNat t) / (4 : Int32))).toNatClampNeg]? = some (.int (own_x8 sx (t / 4))) := Has.at cH176 hin176 (own_at (own_x8 sx) _ (own_d4 ht167) (by omega))
              refine own_go (B := T_167.setTop (mkF m 354 #[.val (.ref a1), .val (.long ((8 : Int64) * (n.toInt64))), .second, .val (.int 1), .val (.ref b115), .val (.ref b142), .val (.ref b147), .val (.ref b164), .val (.int (Int32.ofNat t)), z159_9, z159_10, z159_11, z159_12] [(.int ((((own_x8 sx (t / 4)).toUInt32 >>> (((24 : Int32) - ((8 : Int32) * ((Int32.ofNat t) % (4 : Int32)))) &&& 31).toUInt32).toInt32).toInt8.toInt32)), (.int (Int32.ofNat t)), (.ref b164)])) (fun tg kt => ?_) ?_
              · refine X_167.iaload hx (j := ((Int32.ofNat t) / (4 : Int32))) (v := (.int (own_x8 sx (t / 4)))) (by rw [e_167]; exact Ar176.1) (State.isArrayOf_alike hZ.alike Ar176.2.1) Ar176.2.2 hin176 hat176 (g := (mkF m 341 #[.val (.ref a1), .val (.long ((8 : Int64) * (n.toInt64))), .second, .val (.int 1), .val (.ref b115), .val (.ref b142), .val (.ref b147), .val (.ref b164), .val (.int (Int32.ofNat t)), z159_9, z159_10, z159_11, z159_12] [(.int ((Int32.ofNat t) / (4 : Int32))), (.ref b142), (.int (Int32.ofNat t)), (.ref b164)])) rfl rfl (hb hby d2_341) _ ?_
                refine XS.bipush X_167.here hx rfl (hb hby d2_342) ?_
                refine XS.bipush X_167.here hx rfl (hb hby d2_344) ?_
                refine XS.iload X_167.here hx rfl (hb hby d2_346) rfl ?_
                refine XS.iconst X_167.here hx rfl (hb hby d2_348) ?_
                refine iremM X_167 hx rfl (hb hby d2_349) rfl (by decide) ?_
                refine XS.imul X_167.here hx rfl (hb hby d2_350) rfl ?_
                refine XS.isub X_167.here hx rfl (hb hby d2_351) rfl ?_
                refine XS.iushr X_167.here hx rfl (hb hby d2_352) rfl ?_
                refine XS.i2b X_167.here hx rfl (hb hby d2_353) rfl ?_
                exact kt
              obtain ⟨cl177, Ar177, cq177, cS177, cN177, cH177, cG177⟩ := id fl167_4
              have hin177 := inb_of (j := (Int32.ofNat t)) cS177 (own_ltc ht167 (by decide) _ (by decide))
              obtain ⟨T177, h177, X177, e177, W177, st177⟩ := stB X_167 hx hZ e_167 Ar177 (j := (Int32.ofNat t)) hin177 (g := (mkF m 354 #[.val (.ref a1), .val (.long ((8 : Int64) * (n.toInt64))), .second, .val (.int 1), .val (.ref b115), .val (.ref b142), .val (.ref b147), .val (.ref b164), .val (.int (Int32.ofNat t)), z159_9, z159_10, z159_11, z159_12] [(.int ((((own_x8 sx (t / 4)).toUInt32 >>> (((24 : Int32) - ((8 : Int32) * ((Int32.ofNat t) % (4 : Int32)))) &&& 31).toUInt32).toInt32).toInt8.toInt32)), (.int (Int32.ofNat t)), (.ref b164)])) rfl rfl (hb hby d2_354)
              refine own_go st177 ?_
              have V177 : Arv Z h177 b164 k164 .byte (32 : Int32) (own_tab 32 (fun j => if j = t then (own_ob sx t) else (own_oa (own_ob sx) t) j)) (.int 0) := by have q := Arv.set Ar177 cq177 cS177 cN177 cH177 cG177 (fits_nar_byte _) W177 t (own_nat (by omega)) (by rw [own_tab_len]; omega); rw [own_tab_set _ _ (by omega), own_narB] at q; exact q
              have K177 : Keep h0 h177 [] := Keep.wr K_167 W177 (Or.inr low167_b164)
              have N177 := Fr.snoc X177 N_167 (Nat.le_trans Z0 low167_b164)
              refine own_go (B := T177.setTop (mkF m 324 #[.val (.ref a1), .val (.long ((8 : Int64) * (n.toInt64))), .second, .val (.int 1), .val (.ref b115), .val (.ref b142), .val (.ref b147), .val (.ref b164), .val (.int ((Int32.ofNat t) + (1 : Int32))), z159_9, z159_10, z159_11, z159_12] [])) (fun tg kt => ?_) ?_
              · refine XS.iinc X177.here hx rfl (hb hby d2_355) rfl (l' := #[.val (.ref a1), .val (.long ((8 : Int64) * (n.toInt64))), .second, .val (.int 1), .val (.ref b115), .val (.ref b142), .val (.ref b147), .val (.ref b164), .val (.int ((Int32.ofNat t) + (1 : Int32))), z159_9, z159_10, z159_11, z159_12]) rfl ?_
                refine XS.goto X177.here hx rfl (pc0 := 358) (pc' := 324) rfl (hb hby d2_358) (by decide) (by decide) ?_
                exact kt
              rw [show ((Int32.ofNat t) + (1 : Int32)) = (Int32.ofNat (t + 1)) from own_isucc _]
              have f178 : Arv Z h177 b115 k115 .byte (64 : Int32) (own_tab 64 (own_gA n B)) (.int 0) := (fl167_0.other W177 ne169)
              have f179 : Exa Z h177 b142 "[I" := (fl167_1.wr W177)
              have f180 : Arv Z h177 b147 k147 .int (64 : Int32) (own_tab 64 (own_wf (own_wa (own_gA n B) 0 (fun _ => 0) 16) 48)) (.int 0) := (fl167_2.other W177 ne171)
              have f181 : Arv Z h177 b142 k_INITIAL .int (8 : Int32) (own_tab 8 (own_x8 sx)) (.int 0) := (fl167_3.other W177 ne170)
              exact ih167 (t + 1) T177 h177 _ (by omega) X177 e177 N177 K177 f178 f179 f180 f181 V177
          exact loop167 32 0 T164 h164 _ rfl X164 e164 N160 K164 f172 f173 f174 V166 V164
        | succ k ih159 =>
          intro t T_159 h_159 lo_159 z159_9 z159_10 z159_11 z159_12 hkt159 X_159 e_159 N_159 K_159 hz159_9 hz159_10 hz159_11 hz159_12 fl159_0 fl159_1 fl159_2 fl159_3
          have ht159 : t < 48 := by omega
          refine own_go (B := T_159.setTop (mkF m 211 #[.val (.ref a1), .val (.long ((8 : Int64) * (n.toInt64))), .second, .val (.int 1), .val (.ref b115), .val (.ref b142), .val (.ref b147), .val (.int 0), .val (.int (Int32.ofNat (16 + t))), z159_9, z159_10, z159_11, z159_12] [(.int ((Int32.ofNat (16 + t)) - (15 : Int32))), (.ref b147)])) (fun tg kt => ?_) ?_
          · refine XS.iload X_159.here hx rfl (hb hby d2_197) rfl ?_
            refine XS.bipush X_159.here hx rfl (hb hby d2_199) ?_
            refine XS.icmpNo X_159.here hx rfl (hb hby d2_201) rfl (tlt (show (Int32.ofNat (16 + t)) < (64 : Int32) from (own_lt48 ht159))).2.1 ?_
            refine XS.aload X_159.here hx rfl (hb hby d2_204) rfl rfl ?_
            refine XS.iload X_159.here hx rfl (hb hby d2_206) rfl ?_
            refine XS.bipush X_159.here hx rfl (hb hby d2_208) ?_
            refine XS.isub X_159.here hx rfl (hb hby d2_210) rfl ?_
            exact kt
          obtain ⟨cl182, Ar182, cq182, cS182, cN182, cH182, cG182⟩ := id fl159_3
          have hin182 := inb_of (j := ((Int32.ofNat (16 + t)) - (15 : Int32))) cS182 (own_inb (N := 64) (own_si (n := t + 1) (d := 15) ht159 (by omega) (by decide)) (by omega) (by decide))
          have hat182 : cl182.slots[(((Int32.ofNat (16 + t)) - (15 : Int32))).toNatClampNeg]? = some (.int ((own_wf (own_wa (own_gA n B) 0 (fun _ => 0) 16) t) (t + 1))) := Has.at cH182 hin182 (own_at (own_wf (own_wa (own_gA n B) 0 (fun _ => 0) 16) t) _ (own_si (n := t + 1) (d := 15) ht159 (by omega) (by decide)) (by omega))
          refine own_go (B := T_159.setTop (mkF m 220 #[.val (.ref a1), .val (.long ((8 : Int64) * (n.toInt64))), .second, .val (.int 1), .val (.ref b115), .val (.ref b142), .val (.ref b147), .val (.int 0), .val (.int (Int32.ofNat (16 + t))), .val (.int ((own_wf (own_wa (own_gA n B) 0 (fun _ => 0) 16) t) (t + 1))), z159_10, z159_11, z159_12] [(.int ((Int32.ofNat (16 + t)) - (2 : Int32))), (.ref b147)])) (fun tg kt => ?_) ?_
          · refine X_159.iaload hx (j := ((Int32.ofNat (16 + t)) - (15 : Int32))) (v := (.int ((own_wf (own_wa (own_gA n B) 0 (fun _ => 0) 16) t) (t + 1)))) (by rw [e_159]; exact Ar182.1) (State.isArrayOf_alike hZ.alike Ar182.2.1) Ar182.2.2 hin182 hat182 (g := (mkF m 211 #[.val (.ref a1), .val (.long ((8 : Int64) * (n.toInt64))), .second, .val (.int 1), .val (.ref b115), .val (.ref b142), .val (.ref b147), .val (.int 0), .val (.int (Int32.ofNat (16 + t))), z159_9, z159_10, z159_11, z159_12] [(.int ((Int32.ofNat (16 + t)) - (15 : Int32))), (.ref b147)])) rfl rfl (hb hby d2_211) _ ?_
            refine XS.istoreS X_159.here hx rfl (hb hby d2_212) rfl rfl hz159_9 ?_
            refine XS.aload X_159.here hx rfl (hb hby d2_214) rfl rfl ?_
            refine XS.iload X_159.here hx rfl (hb hby d2_216) rfl ?_
            refine XS.iconst X_159.here hx rfl (hb hby d2_218) ?_
            refine XS.isub X_159.here hx rfl (hb hby d2_219) rfl ?_
            exact kt
          obtain ⟨cl183, Ar183, cq183, cS183, cN183, cH183, cG183⟩ := id fl159_3
          have hin183 := inb_of (j := ((Int32.ofNat (16 + t)) - (2 : Int32))) cS183 (own_inb (N := 64) (own_si (n := t + 14) (d := 2) ht159 (by omega) (by decide)) (by omega) (by decide))
          have hat183 : cl183.slots[(((Int32.ofNat (16 + t)) - (2 : Int32))).toNatClampNeg]? = some (.int ((own_wf (own_wa (own_gA n B) 0 (fun _ => 0) 16) t) (t + 14))) := Has.at cH183 hin183 (own_at (own_wf (own_wa (own_gA n B) 0 (fun _ => 0) 16) t) _ (own_si (n := t + 14) (d := 2) ht159 (by omega) (by decide)) (by omega))
          refine own_go (B := T_159.setTop (mkF m 227 #[.val (.ref a1), .val (.long ((8 : Int64) * (n.toInt64))), .second, .val (.int 1), .val (.ref b115), .val (.ref b142), .val (.ref b147), .val (.int 0), .val (.int (Int32.ofNat (16 + t))), .val (.int ((own_wf (own_wa (own_gA n B) 0 (fun _ => 0) 16) t) (t + 1))), .val (.int ((own_wf (own_wa (own_gA n B) 0 (fun _ => 0) 16) t) (t + 14))), z159_11, z159_12] [(.int 7), (.int ((own_wf (own_wa (own_gA n B) 0 (fun _ => 0) 16) t) (t + 1)))])) (fun tg kt => ?_) ?_
          · refine X_159.iaload hx (j := ((Int32.ofNat (16 + t)) - (2 : Int32))) (v := (.int ((own_wf (own_wa (own_gA n B) 0 (fun _ => 0) 16) t) (t + 14)))) (by rw [e_159]; exact Ar183.1) (State.isArrayOf_alike hZ.alike Ar183.2.1) Ar183.2.2 hin183 hat183 (g := (mkF m 220 #[.val (.ref a1), .val (.long ((8 : Int64) * (n.toInt64))), .second, .val (.int 1), .val (.ref b115), .val (.ref b142), .val (.ref b147), .val (.int 0), .val (.int (Int32.ofNat (16 + t))), .val (.int ((own_wf (own_wa (own_gA n B) 0 (fun _ => 0) 16) t) (t + 1))), z159_10, z159_11, z159_12] [(.int ((Int32.ofNat (16 + t)) - (2 : Int32))), (.ref b147)])) rfl rfl (hb hby d2_220) _ ?_
            refine XS.istoreS X_159.here hx rfl (hb hby d2_221) rfl rfl hz159_10 ?_
            refine XS.iload X_159.here hx rfl (hb hby d2_223) rfl ?_
            refine XS.bipush X_159.here hx rfl (hb hby d2_225) ?_
            exact kt
          obtain ⟨_, _, ⟨T184, L184, k184, n184⟩, -, X184, ⟨Lc184, hQ184, l184, y184, z184⟩, st184⟩ := Jvm.LawKit.callS X_159 hx (y := (⟨"java/lang/Integer", "rotateRight", "(II)I"⟩ : MethodName)) hown (mvT hZ (hw _ (List.mem_of_getElem? (i := 27) rfl))) (mvT hZ (hw _ (List.mem_of_getElem? (i := 28) rfl))) (mvT hZ (hw _ (List.mem_of_getElem? (i := 29) rfl))) (mvT hZ (hw _ (List.mem_of_getElem? (i := 30) rfl))) (by decide) (backOf (W := 0) (rm3 l Z a0 hw [] ((own_wf (own_wa (own_gA n B) 0 (fun _ => 0) 16) t) (t + 1)) (7 : Int32) h_159 n0 (Nat.le_trans Z0 K_159.1) ) hZ (hw _ (List.mem_of_getElem? (i := 30) rfl)) (hw _ (List.mem_of_getElem? (i := 29) rfl)) (by decide) (by decide)) (g := (mkF m 227 #[.val (.ref a1), .val (.long ((8 : Int64) * (n.toInt64))), .second, .val (.int 1), .val (.ref b115), .val (.ref b142), .val (.ref b147), .val (.int 0), .val (.int (Int32.ofNat (16 + t))), .val (.int ((own_wf (own_wa (own_gA n B) 0 (fun _ => 0) 16) t) (t + 1))), .val (.int ((own_wf (own_wa (own_gA n B) 0 (fun _ => 0) 16) t) (t + 14))), z159_11, z159_12] [(.int 7), (.int ((own_wf (own_wa (own_gA n B) 0 (fun _ => 0) 16) t) (t + 1)))])) rfl (by rw [hml]; rfl) (argsL := [(.int ((own_wf (own_wa (own_gA n B) 0 (fun _ => 0) 16) t) (t + 1))), (.int 7)]) (rest := []) (lenOf pd_0 rfl) rfl (by show 2 * 0 + _ ≤ _; exact Nat.le_of_eq rfl) (hb hby d2_227) (fun _ _ => ⟨rfl, e_159, (by decide : 3 + 0 ≤ _), (by decide : 136 + 0 ≤ _)⟩)
          dsimp only [Pt.U, Pt.locs, Pt.cells, Pt.slots] at X184 l184 y184 z184 st184 hQ184
          rw [l184, y184, z184] at X184
          obtain ⟨rfl, M184, q184_0⟩ := hQ184
          have N184 := Fr.app N_159 M184
          refine own_go st184 ?_
          refine own_go (B := T184.setTop (mkF m 234 #[.val (.ref a1), .val (.long ((8 : Int64) * (n.toInt64))), .second, .val (.int 1), .val (.ref b115), .val (.ref b142), .val (.ref b147), .val (.int 0), .val (.int (Int32.ofNat (16 + t))), .val (.int ((own_wf (own_wa (own_gA n B) 0 (fun _ => 0) 16) t) (t + 1))), .val (.int ((own_wf (own_wa (own_gA n B) 0 (fun _ => 0) 16) t) (t + 14))), z159_11, z159_12] [(.int 18), (.int ((own_wf (own_wa (own_gA n B) 0 (fun _ => 0) 16) t) (t + 1))), (.int (own_rr ((own_wf (own_wa (own_gA n B) 0 (fun _ => 0) 16) t) (t + 1)) (7 : Int32)))])) (fun tg kt => ?_) ?_
          · refine XS.iload X184.here hx rfl (hb hby d2_230) rfl ?_
            refine XS.bipush X184.here hx rfl (hb hby d2_232) ?_
            exact kt
          obtain ⟨_, _, ⟨T185, L185, k185, n185⟩, -, X185, ⟨Lc185, hQ185, l185, y185, z185⟩, st185⟩ := Jvm.LawKit.callS X184 hx (y := (⟨"java/lang/Integer", "rotateRight", "(II)I"⟩ : MethodName)) hown (mvT hZ (hw _ (List.mem_of_getElem? (i := 27) rfl))) (mvT hZ (hw _ (List.mem_of_getElem? (i := 28) rfl))) (mvT hZ (hw _ (List.mem_of_getElem? (i := 29) rfl))) (mvT hZ (hw _ (List.mem_of_getElem? (i := 30) rfl))) (by decide) (backOf (W := 1) (rm3 l Z a0 hw [] ((own_wf (own_wa (own_gA n B) 0 (fun _ => 0) 16) t) (t + 1)) (18 : Int32) h_159 n0 (Nat.le_trans Z0 K_159.1) ) hZ (hw _ (List.mem_of_getElem? (i := 30) rfl)) (hw _ (List.mem_of_getElem? (i := 29) rfl)) (by decide) (by decide)) (g := (mkF m 234 #[.val (.ref a1), .val (.long ((8 : Int64) * (n.toInt64))), .second, .val (.int 1), .val (.ref b115), .val (.ref b142), .val (.ref b147), .val (.int 0), .val (.int (Int32.ofNat (16 + t))), .val (.int ((own_wf (own_wa (own_gA n B) 0 (fun _ => 0) 16) t) (t + 1))), .val (.int ((own_wf (own_wa (own_gA n B) 0 (fun _ => 0) 16) t) (t + 14))), z159_11, z159_12] [(.int 18), (.int ((own_wf (own_wa (own_gA n B) 0 (fun _ => 0) 16) t) (t + 1))), (.int (own_rr ((own_wf (own_wa (own_gA n B) 0 (fun _ => 0) 16) t) (t + 1)) (7 : Int32)))])) rfl (by rw [hml]; rfl) (argsL := [(.int ((own_wf (own_wa (own_gA n B) 0 (fun _ => 0) 16) t) (t + 1))), (.int 18)]) (rest := [(.int (own_rr ((own_wf (own_wa (own_gA n B) 0 (fun _ => 0) 16) t) (t + 1)) (7 : Int32)))]) (lenOf pd_0 rfl) rfl (by show 2 * 0 + _ ≤ _; exact Nat.le_of_eq rfl) (hb hby d2_234) (fun _ _ => ⟨rfl, q184_0, (by decide : 3 + 0 ≤ _), (by decide : 136 + 0 ≤ _)⟩)
          dsimp only [Pt.U, Pt.locs, Pt.cells, Pt.slots] at X185 l185 y185 z185 st185 hQ185
          rw [l185, y185, z185] at X185
          obtain ⟨rfl, M185, q185_0⟩ := hQ185
          have N185 := Fr.app N184 M185
          refine own_go st185 ?_
          refine own_go (B := T185.setTop (mkF m 249 #[.val (.ref a1), .val (.long ((8 : Int64) * (n.toInt64))), .second, .val (.int 1), .val (.ref b115), .val (.ref b142), .val (.ref b147), .val (.int 0), .val (.int (Int32.ofNat (16 + t))), .val (.int ((own_wf (own_wa (own_gA n B) 0 (fun _ => 0) 16) t) (t + 1))), .val (.int ((own_wf (own_wa (own_gA n B) 0 (fun _ => 0) 16) t) (t + 14))), .val (.int (((own_rr ((own_wf (own_wa (own_gA n B) 0 (fun _ => 0) 16) t) (t + 1)) (7 : Int32)) ^^^ (own_rr ((own_wf (own_wa (own_gA n B) 0 (fun _ => 0) 16) t) (t + 1)) (18 : Int32))) ^^^ ((((own_wf (own_wa (own_gA n B) 0 (fun _ => 0) 16) t) (t + 1)).toUInt32 >>> ((3 : Int32) &&& 31).toUInt32).toInt32))), z159_12] [(.int 17), (.int ((own_wf (own_wa (own_gA n B) 0 (fun _ => 0) 16) t) (t + 14)))])) (fun tg kt => ?_) ?_
          · refine XS.ixor X185.here hx rfl (hb hby d2_237) rfl ?_
            refine XS.iload X185.here hx rfl (hb hby d2_238) rfl ?_
            refine XS.iconst X185.here hx rfl (hb hby d2_240) ?_
            refine XS.iushr X185.here hx rfl (hb hby d2_241) rfl ?_
            refine XS.ixor X185.here hx rfl (hb hby d2_242) rfl ?_
            refine XS.istoreS X185.here hx rfl (hb hby d2_243) rfl rfl hz159_11 ?_
            refine XS.iload X185.here hx rfl (hb hby d2_245) rfl ?_
            refine XS.bipush X185.here hx rfl (hb hby d2_247) ?_
            exact kt
          obtain ⟨_, _, ⟨T186, L186, k186, n186⟩, -, X186, ⟨Lc186, hQ186, l186, y186, z186⟩, st186⟩ := Jvm.LawKit.callS X185 hx (y := (⟨"java/lang/Integer", "rotateRight", "(II)I"⟩ : MethodName)) hown (mvT hZ (hw _ (List.mem_of_getElem? (i := 27) rfl))) (mvT hZ (hw _ (List.mem_of_getElem? (i := 28) rfl))) (mvT hZ (hw _ (List.mem_of_getElem? (i := 29) rfl))) (mvT hZ (hw _ (List.mem_of_getElem? (i := 30) rfl))) (by decide) (backOf (W := 0) (rm3 l Z a0 hw [] ((own_wf (own_wa (own_gA n B) 0 (fun _ => 0) 16) t) (t + 14)) (17 : Int32) h_159 n0 (Nat.le_trans Z0 K_159.1) ) hZ (hw _ (List.mem_of_getElem? (i := 30) rfl)) (hw _ (List.mem_of_getElem? (i := 29) rfl)) (by decide) (by decide)) (g := (mkF m 249 #[.val (.ref a1), .val (.long ((8 : Int64) * (n.toInt64))), .second, .val (.int 1), .val (.ref b115), .val (.ref b142), .val (.ref b147), .val (.int 0), .val (.int (Int32.ofNat (16 + t))), .val (.int ((own_wf (own_wa (own_gA n B) 0 (fun _ => 0) 16) t) (t + 1))), .val (.int ((own_wf (own_wa (own_gA n B) 0 (fun _ => 0) 16) t) (t + 14))), .val (.int (((own_rr ((own_wf (own_wa (own_gA n B) 0 (fun _ => 0) 16) t) (t + 1)) (7 : Int32)) ^^^ (own_rr ((own_wf (own_wa (own_gA n B) 0 (fun _ => 0) 16) t) (t + 1)) (18 : Int32))) ^^^ ((((own_wf (own_wa (own_gA n B) 0 (fun _ => 0) 16) t) (t + 1)).toUInt32 >>> ((3 : Int32) &&& 31).toUInt32).toInt32))), z159_12] [(.int 17), (.int ((own_wf (own_wa (own_gA n B) 0 (fun _ => 0) 16) t) (t + 14)))])) rfl (by rw [hml]; rfl) (argsL := [(.int ((own_wf (own_wa (own_gA n B) 0 (fun _ => 0) 16) t) (t + 14))), (.int 17)]) (rest := []) (lenOf pd_0 rfl) rfl (by show 2 * 0 + _ ≤ _; exact Nat.le_of_eq rfl) (hb hby d2_249) (fun _ _ => ⟨rfl, q185_0, (by decide : 3 + 0 ≤ _), (by decide : 136 + 0 ≤ _)⟩)
          dsimp only [Pt.U, Pt.locs, Pt.cells, Pt.slots] at X186 l186 y186 z186 st186 hQ186
          rw [l186, y186, z186] at X186
          obtain ⟨rfl, M186, q186_0⟩ := hQ186
          have N186 := Fr.app N185 M186
          refine own_go st186 ?_
          refine own_go (B := T186.setTop (mkF m 256 #[.val (.ref a1), .val (.long ((8 : Int64) * (n.toInt64))), .second, .val (.int 1), .val (.ref b115), .val (.ref b142), .val (.ref b147), .val (.int 0), .val (.int (Int32.ofNat (16 + t))), .val (.int ((own_wf (own_wa (own_gA n B) 0 (fun _ => 0) 16) t) (t + 1))), .val (.int ((own_wf (own_wa (own_gA n B) 0 (fun _ => 0) 16) t) (t + 14))), .val (.int (((own_rr ((own_wf (own_wa (own_gA n B) 0 (fun _ => 0) 16) t) (t + 1)) (7 : Int32)) ^^^ (own_rr ((own_wf (own_wa (own_gA n B) 0 (fun _ => 0) 16) t) (t + 1)) (18 : Int32))) ^^^ ((((own_wf (own_wa (own_gA n B) 0 (fun _ => 0) 16) t) (t + 1)).toUInt32 >>> ((3 : Int32) &&& 31).toUInt32).toInt32))), z159_12] [(.int 19), (.int ((own_wf (own_wa (own_gA n B) 0 (fun _ => 0) 16) t) (t + 14))), (.int (own_rr ((own_wf (own_wa (own_gA n B) 0 (fun _ => 0) 16) t) (t + 14)) (17 : Int32)))])) (fun tg kt => ?_) ?_
          · refine XS.iload X186.here hx rfl (hb hby d2_252) rfl ?_
            refine XS.bipush X186.here hx rfl (hb hby d2_254) ?_
            exact kt
          obtain ⟨_, _, ⟨T187, L187, k187, n187⟩, -, X187, ⟨Lc187, hQ187, l187, y187, z187⟩, st187⟩ := Jvm.LawKit.callS X186 hx (y := (⟨"java/lang/Integer", "rotateRight", "(II)I"⟩ : MethodName)) hown (mvT hZ (hw _ (List.mem_of_getElem? (i := 27) rfl))) (mvT hZ (hw _ (List.mem_of_getElem? (i := 28) rfl))) (mvT hZ (hw _ (List.mem_of_getElem? (i := 29) rfl))) (mvT hZ (hw _ (List.mem_of_getElem? (i := 30) rfl))) (by decide) (backOf (W := 1) (rm3 l Z a0 hw [] ((own_wf (own_wa (own_gA n B) 0 (fun _ => 0) 16) t) (t + 14)) (19 : Int32) h_159 n0 (Nat.le_trans Z0 K_159.1) ) hZ (hw _ (List.mem_of_getElem? (i := 30) rfl)) (hw _ (List.mem_of_getElem? (i := 29) rfl)) (by decide) (by decide)) (g := (mkF m 256 #[.val (.ref a1), .val (.long ((8 : Int64) * (n.toInt64))), .second, .val (.int 1), .val (.ref b115), .val (.ref b142), .val (.ref b147), .val (.int 0), .val (.int (Int32.ofNat (16 + t))), .val (.int ((own_wf (own_wa (own_gA n B) 0 (fun _ => 0) 16) t) (t + 1))), .val (.int ((own_wf (own_wa (own_gA n B) 0 (fun _ => 0) 16) t) (t + 14))), .val (.int (((own_rr ((own_wf (own_wa (own_gA n B) 0 (fun _ => 0) 16) t) (t + 1)) (7 : Int32)) ^^^ (own_rr ((own_wf (own_wa (own_gA n B) 0 (fun _ => 0) 16) t) (t + 1)) (18 : Int32))) ^^^ ((((own_wf (own_wa (own_gA n B) 0 (fun _ => 0) 16) t) (t + 1)).toUInt32 >>> ((3 : Int32) &&& 31).toUInt32).toInt32))), z159_12] [(.int 19), (.int ((own_wf (own_wa (own_gA n B) 0 (fun _ => 0) 16) t) (t + 14))), (.int (own_rr ((own_wf (own_wa (own_gA n B) 0 (fun _ => 0) 16) t) (t + 14)) (17 : Int32)))])) rfl (by rw [hml]; rfl) (argsL := [(.int ((own_wf (own_wa (own_gA n B) 0 (fun _ => 0) 16) t) (t + 14))), (.int 19)]) (rest := [(.int (own_rr ((own_wf (own_wa (own_gA n B) 0 (fun _ => 0) 16) t) (t + 14)) (17 : Int32)))]) (lenOf pd_0 rfl) rfl (by show 2 * 0 + _ ≤ _; exact Nat.le_of_eq rfl) (hb hby d2_256) (fun _ _ => ⟨rfl, q186_0, (by decide : 3 + 0 ≤ _), (by decide : 136 + 0 ≤ _)⟩)
          dsimp only [Pt.U, Pt.locs, Pt.cells, Pt.slots] at X187 l187 y187 z187 st187 hQ187
          rw [l187, y187, z187] at X187
          obtain ⟨rfl, M187, q187_0⟩ := hQ187
          have N187 := Fr.app N186 M187
          refine own_go st187 ?_
          refine own_go (B := T187.setTop (mkF m 281 #[.val (.ref a1), .val (.long ((8 : Int64) * (n.toInt64))), .second, .val (.int 1), .val (.ref b115), .val (.ref b142), .val (.ref b147), .val (.int 0), .val (.int (Int32.ofNat (16 + t))), .val (.int ((own_wf (own_wa (own_gA n B) 0 (fun _ => 0) 16) t) (t + 1))), .val (.int ((own_wf (own_wa (own_gA n B) 0 (fun _ => 0) 16) t) (t + 14))), .val (.int (((own_rr ((own_wf (own_wa (own_gA n B) 0 (fun _ => 0) 16) t) (t + 1)) (7 : Int32)) ^^^ (own_rr ((own_wf (own_wa (own_gA n B) 0 (fun _ => 0) 16) t) (t + 1)) (18 : Int32))) ^^^ ((((own_wf (own_wa (own_gA n B) 0 (fun _ => 0) 16) t) (t + 1)).toUInt32 >>> ((3 : Int32) &&& 31).toUInt32).toInt32))), .val (.int (((own_rr ((own_wf (own_wa (own_gA n B) 0 (fun _ => 0) 16) t) (t + 14)) (17 : Int32)) ^^^ (own_rr ((own_wf (own_wa (own_gA n B) 0 (fun _ => 0) 16) t) (t + 14)) (19 : Int32))) ^^^ ((((own_wf (own_wa (own_gA n B) 0 (fun _ => 0) 16) t) (t + 14)).toUInt32 >>> ((10 : Int32) &&& 31).toUInt32).toInt32)))] [(.int ((Int32.ofNat (16 + t)) - (7 : Int32))), (.ref b147), (.int (((own_rr ((own_wf (own_wa (own_gA n B) 0 (fun _ => 0) 16) t) (t + 14)) (17 : Int32)) ^^^ (own_rr ((own_wf (own_wa (own_gA n B) 0 (fun _ => 0) 16) t) (t + 14)) (19 : Int32))) ^^^ ((((own_wf (own_wa (own_gA n B) 0 (fun _ => 0) 16) t) (t + 14)).toUInt32 >>> ((10 : Int32) &&& 31).toUInt32).toInt32))), (.int (Int32.ofNat (16 + t))), (.ref b147)])) (fun tg kt => ?_) ?_
          · refine XS.ixor X187.here hx rfl (hb hby d2_259) rfl ?_
            refine XS.iload X187.here hx rfl (hb hby d2_260) rfl ?_
            refine XS.bipush X187.here hx rfl (hb hby d2_262) ?_
            refine XS.iushr X187.here hx rfl (hb hby d2_264) rfl ?_
            refine XS.ixor X187.here hx rfl (hb hby d2_265) rfl ?_
            refine XS.istoreS X187.here hx rfl (hb hby d2_266) rfl rfl hz159_12 ?_
            refine XS.aload X187.here hx rfl (hb hby d2_268) rfl rfl ?_
            refine XS.iload X187.here hx rfl (hb hby d2_270) rfl ?_
            refine XS.iload X187.here hx rfl (hb hby d2_272) rfl ?_
            refine XS.aload X187.here hx rfl (hb hby d2_274) rfl rfl ?_
            refine XS.iload X187.here hx rfl (hb hby d2_276) rfl ?_
            refine XS.bipush X187.here hx rfl (hb hby d2_278) ?_
            refine XS.isub X187.here hx rfl (hb hby d2_280) rfl ?_
            exact kt
          obtain ⟨cl188, Ar188, cq188, cS188, cN188, cH188, cG188⟩ := id fl159_3
          have hin188 := inb_of (j := ((Int32.ofNat (16 + t)) - (7 : Int32))) cS188 (own_inb (N := 64) (own_si (n := t + 9) (d := 7) ht159 (by omega) (by decide)) (by omega) (by decide))
          have hat188 : cl188.slots[(((Int32.ofNat (16 + t)) - (7 : Int32))).toNatClampNeg]? = some (.int ((own_wf (own_wa (own_gA n B) 0 (fun _ => 0) 16) t) (t + 9))) := Has.at cH188 hin188 (own_at (own_wf (own_wa (own_gA n B) 0 (fun _ => 0) 16) t) _ (own_si (n := t + 9) (d := 7) ht159 (by omega) (by decide)) (by omega))
          refine own_go (B := T187.setTop (mkF m 293 #[.val (.ref a1), .val (.long ((8 : Int64) * (n.toInt64))), .second, .val (.int 1), .val (.ref b115), .val (.ref b142), .val (.ref b147), .val (.int 0), .val (.int (Int32.ofNat (16 + t))), .val (.int ((own_wf (own_wa (own_gA n B) 0 (fun _ => 0) 16) t) (t + 1))), .val (.int ((own_wf (own_wa (own_gA n B) 0 (fun _ => 0) 16) t) (t + 14))), .val (.int (((own_rr ((own_wf (own_wa (own_gA n B) 0 (fun _ => 0) 16) t) (t + 1)) (7 : Int32)) ^^^ (own_rr ((own_wf (own_wa (own_gA n B) 0 (fun _ => 0) 16) t) (t + 1)) (18 : Int32))) ^^^ ((((own_wf (own_wa (own_gA n B) 0 (fun _ => 0) 16) t) (t + 1)).toUInt32 >>> ((3 : Int32) &&& 31).toUInt32).toInt32))), .val (.int (((own_rr ((own_wf (own_wa (own_gA n B) 0 (fun _ => 0) 16) t) (t + 14)) (17 : Int32)) ^^^ (own_rr ((own_wf (own_wa (own_gA n B) 0 (fun _ => 0) 16) t) (t + 14)) (19 : Int32))) ^^^ ((((own_wf (own_wa (own_gA n B) 0 (fun _ => 0) 16) t) (t + 14)).toUInt32 >>> ((10 : Int32) &&& 31).toUInt32).toInt32)))] [(.int ((Int32.ofNat (16 + t)) - (16 : Int32))), (.ref b147), (.int (((((own_rr ((own_wf (own_wa (own_gA n B) 0 (fun _ => 0) 16) t) (t + 14)) (17 : Int32)) ^^^ (own_rr ((own_wf (own_wa (own_gA n B) 0 (fun _ => 0) 16) t) (t + 14)) (19 : Int32))) ^^^ ((((own_wf (own_wa (own_gA n B) 0 (fun _ => 0) 16) t) (t + 14)).toUInt32 >>> ((10 : Int32) &&& 31).toUInt32).toInt32)) + ((own_wf (own_wa (own_gA n B) 0 (fun _ => 0) 16) t) (t + 9))) + (((own_rr ((own_wf (own_wa (own_gA n B) 0 (fun _ => 0) 16) t) (t + 1)) (7 : Int32)) ^^^ (own_rr ((own_wf (own_wa (own_gA n B) 0 (fun _ => 0) 16) t) (t + 1)) (18 : Int32))) ^^^ ((((own_wf (own_wa (own_gA n B) 0 (fun _ => 0) 16) t) (t + 1)).toUInt32 >>> ((3 : Int32) &&& 31).toUInt32).toInt32)))), (.int (Int32.ofNat (16 + t))), (.ref b147)])) (fun tg kt => ?_) ?_
          · refine X187.iaload hx (j := ((Int32.ofNat (16 + t)) - (7 : Int32))) (v := (.int ((own_wf (own_wa (own_gA n B) 0 (fun _ => 0) 16) t) (t + 9)))) (by rw [q187_0]; exact Ar188.1) (State.isArrayOf_alike hZ.alike Ar188.2.1) Ar188.2.2 hin188 hat188 (g := (mkF m 281 #[.val (.ref a1), .val (.long ((8 : Int64) * (n.toInt64))), .second, .val (.int 1), .val (.ref b115), .val (.ref b142), .val (.ref b147), .val (.int 0), .val (.int (Int32.ofNat (16 + t))), .val (.int ((own_wf (own_wa (own_gA n B) 0 (fun _ => 0) 16) t) (t + 1))), .val (.int ((own_wf (own_wa (own_gA n B) 0 (fun _ => 0) 16) t) (t + 14))), .val (.int (((own_rr ((own_wf (own_wa (own_gA n B) 0 (fun _ => 0) 16) t) (t + 1)) (7 : Int32)) ^^^ (own_rr ((own_wf (own_wa (own_gA n B) 0 (fun _ => 0) 16) t) (t + 1)) (18 : Int32))) ^^^ ((((own_wf (own_wa (own_gA n B) 0 (fun _ => 0) 16) t) (t + 1)).toUInt32 >>> ((3 : Int32) &&& 31).toUInt32).toInt32))), .val (.int (((own_rr ((own_wf (own_wa (own_gA n B) 0 (fun _ => 0) 16) t) (t + 14)) (17 : Int32)) ^^^ (own_rr ((own_wf (own_wa (own_gA n B) 0 (fun _ => 0) 16) t) (t + 14)) (19 : Int32))) ^^^ ((((own_wf (own_wa (own_gA n B) 0 (fun _ => 0) 16) t) (t + 14)).toUInt32 >>> ((10 : Int32) &&& 31).toUInt32).toInt32)))] [(.int ((Int32.ofNat (16 + t)) - (7 : Int32))), (.ref b147), (.int (((own_rr ((own_wf (own_wa (own_gA n B) 0 (fun _ => 0) 16) t) (t + 14)) (17 : Int32)) ^^^ (own_rr ((own_wf (own_wa (own_gA n B) 0 (fun _ => 0) 16) t) (t + 14)) (19 : Int32))) ^^^ ((((own_wf (own_wa (own_gA n B) 0 (fun _ => 0) 16) t) (t + 14)).toUInt32 >>> ((10 : Int32) &&& 31).toUInt32).toInt32))), (.int (Int32.ofNat (16 + t))), (.ref b147)])) rfl rfl (hb hby d2_281) _ ?_
            refine XS.iadd X187.here hx rfl (hb hby d2_282) rfl ?_
            refine XS.iload X187.here hx rfl (hb hby d2_283) rfl ?_
            refine XS.iadd X187.here hx rfl (hb hby d2_285) rfl ?_
            refine XS.aload X187.here hx rfl (hb hby d2_286) rfl rfl ?_
            refine XS.iload X187.here hx rfl (hb hby d2_288) rfl ?_
            refine XS.bipush X187.here hx rfl (hb hby d2_290) ?_
            refine XS.isub X187.here hx rfl (hb hby d2_292) rfl ?_
            exact kt
          obtain ⟨cl189, Ar189, cq189, cS189, cN189, cH189, cG189⟩ := id fl159_3
          have hin189 := inb_of (j := ((Int32.ofNat (16 + t)) - (16 : Int32))) cS189 (own_inb (N := 64) (own_si (n := t) (d := 16) ht159 (by omega) (by decide)) (by omega) (by decide))
          have hat189 : cl189.slots[(((Int32.ofNat (16 + t)) - (16 : Int32))).toNatClampNeg]? = some (.int ((own_wf (own_wa (own_gA n B) 0 (fun _ => 0) 16) t) t)) := Has.at cH189 hin189 (own_at (own_wf (own_wa (own_gA n B) 0 (fun _ => 0) 16) t) _ (own_si (n := t) (d := 16) ht159 (by omega) (by decide)) (by omega))
          refine own_go (B := T187.setTop (mkF m 295 #[.val (.ref a1), .val (.long ((8 : Int64) * (n.toInt64))), .second, .val (.int 1), .val (.ref b115), .val (.ref b142), .val (.ref b147), .val (.int 0), .val (.int (Int32.ofNat (16 + t))), .val (.int ((own_wf (own_wa (own_gA n B) 0 (fun _ => 0) 16) t) (t + 1))), .val (.int ((own_wf (own_wa (own_gA n B) 0 (fun _ => 0) 16) t) (t + 14))), .val (.int (((own_rr ((own_wf (own_wa (own_gA n B) 0 (fun _ => 0) 16) t) (t + 1)) (7 : Int32)) ^^^ (own_rr ((own_wf (own_wa (own_gA n B) 0 (fun _ => 0) 16) t) (t + 1)) (18 : Int32))) ^^^ ((((own_wf (own_wa (own_gA n B) 0 (fun _ => 0) 16) t) (t + 1)).toUInt32 >>> ((3 : Int32) &&& 31).toUInt32).toInt32))), .val (.int (((own_rr ((own_wf (own_wa (own_gA n B) 0 (fun _ => 0) 16) t) (t + 14)) (17 : Int32)) ^^^ (own_rr ((own_wf (own_wa (own_gA n B) 0 (fun _ => 0) 16) t) (t + 14)) (19 : Int32))) ^^^ ((((own_wf (own_wa (own_gA n B) 0 (fun _ => 0) 16) t) (t + 14)).toUInt32 >>> ((10 : Int32) &&& 31).toUInt32).toInt32)))] [(.int ((((((own_rr ((own_wf (own_wa (own_gA n B) 0 (fun _ => 0) 16) t) (t + 14)) (17 : Int32)) ^^^ (own_rr ((own_wf (own_wa (own_gA n B) 0 (fun _ => 0) 16) t) (t + 14)) (19 : Int32))) ^^^ ((((own_wf (own_wa (own_gA n B) 0 (fun _ => 0) 16) t) (t + 14)).toUInt32 >>> ((10 : Int32) &&& 31).toUInt32).toInt32)) + ((own_wf (own_wa (own_gA n B) 0 (fun _ => 0) 16) t) (t + 9))) + (((own_rr ((own_wf (own_wa (own_gA n B) 0 (fun _ => 0) 16) t) (t + 1)) (7 : Int32)) ^^^ (own_rr ((own_wf (own_wa (own_gA n B) 0 (fun _ => 0) 16) t) (t + 1)) (18 : Int32))) ^^^ ((((own_wf (own_wa (own_gA n B) 0 (fun _ => 0) 16) t) (t + 1)).toUInt32 >>> ((3 : Int32) &&& 31).toUInt32).toInt32))) + ((own_wf (own_wa (own_gA n B) 0 (fun _ => 0) 16) t) t))), (.int (Int32.ofNat (16 + t))), (.ref b147)])) (fun tg kt => ?_) ?_
          · refine X187.iaload hx (j := ((Int32.ofNat (16 + t)) - (16 : Int32))) (v := (.int ((own_wf (own_wa (own_gA n B) 0 (fun _ => 0) 16) t) t))) (by rw [q187_0]; exact Ar189.1) (State.isArrayOf_alike hZ.alike Ar189.2.1) Ar189.2.2 hin189 hat189 (g := (mkF m 293 #[.val (.ref a1), .val (.long ((8 : Int64) * (n.toInt64))), .second, .val (.int 1), .val (.ref b115), .val (.ref b142), .val (.ref b147), .val (.int 0), .val (.int (Int32.ofNat (16 + t))), .val (.int ((own_wf (own_wa (own_gA n B) 0 (fun _ => 0) 16) t) (t + 1))), .val (.int ((own_wf (own_wa (own_gA n B) 0 (fun _ => 0) 16) t) (t + 14))), .val (.int (((own_rr ((own_wf (own_wa (own_gA n B) 0 (fun _ => 0) 16) t) (t + 1)) (7 : Int32)) ^^^ (own_rr ((own_wf (own_wa (own_gA n B) 0 (fun _ => 0) 16) t) (t + 1)) (18 : Int32))) ^^^ ((((own_wf (own_wa (own_gA n B) 0 (fun _ => 0) 16) t) (t + 1)).toUInt32 >>> ((3 : Int32) &&& 31).toUInt32).toInt32))), .val (.int (((own_rr ((own_wf (own_wa (own_gA n B) 0 (fun _ => 0) 16) t) (t + 14)) (17 : Int32)) ^^^ (own_rr ((own_wf (own_wa (own_gA n B) 0 (fun _ => 0) 16) t) (t + 14)) (19 : Int32))) ^^^ ((((own_wf (own_wa (own_gA n B) 0 (fun _ => 0) 16) t) (t + 14)).toUInt32 >>> ((10 : Int32) &&& 31).toUInt32).toInt32)))] [(.int ((Int32.ofNat (16 + t)) - (16 : Int32))), (.ref b147), (.int (((((own_rr ((own_wf (own_wa (own_gA n B) 0 (fun _ => 0) 16) t) (t + 14)) (17 : Int32)) ^^^ (own_rr ((own_wf (own_wa (own_gA n B) 0 (fun _ => 0) 16) t) (t + 14)) (19 : Int32))) ^^^ ((((own_wf (own_wa (own_gA n B) 0 (fun _ => 0) 16) t) (t + 14)).toUInt32 >>> ((10 : Int32) &&& 31).toUInt32).toInt32)) + ((own_wf (own_wa (own_gA n B) 0 (fun _ => 0) 16) t) (t + 9))) + (((own_rr ((own_wf (own_wa (own_gA n B) 0 (fun _ => 0) 16) t) (t + 1)) (7 : Int32)) ^^^ (own_rr ((own_wf (own_wa (own_gA n B) 0 (fun _ => 0) 16) t) (t + 1)) (18 : Int32))) ^^^ ((((own_wf (own_wa (own_gA n B) 0 (fun _ => 0) 16) t) (t + 1)).toUInt32 >>> ((3 : Int32) &&& 31).toUInt32).toInt32)))), (.int (Int32.ofNat (16 + t))), (.ref b147)])) rfl rfl (hb hby d2_293) _ ?_
            refine XS.iadd X187.here hx rfl (hb hby d2_294) rfl ?_
            exact kt
          obtain ⟨cl190, Ar190, cq190, cS190, cN190, cH190, cG190⟩ := id fl159_3
          have hin190 := inb_of (j := (Int32.ofNat (16 + t))) cS190 (own_lt48' ht159)
          obtain ⟨T190, h190, X190, e190, W190, st190⟩ := stI X187 hx hZ q187_0 Ar190 (j := (Int32.ofNat (16 + t))) hin190 (g := (mkF m 295 #[.val (.ref a1), .val (.long ((8 : Int64) * (n.toInt64))), .second, .val (.int 1), .val (.ref b115), .val (.ref b142), .val (.ref b147), .val (.int 0), .val (.int (Int32.ofNat (16 + t))), .val (.int ((own_wf (own_wa (own_gA n B) 0 (fun _ => 0) 16) t) (t + 1))), .val (.int ((own_wf (own_wa (own_gA n B) 0 (fun _ => 0) 16) t) (t + 14))), .val (.int (((own_rr ((own_wf (own_wa (own_gA n B) 0 (fun _ => 0) 16) t) (t + 1)) (7 : Int32)) ^^^ (own_rr ((own_wf (own_wa (own_gA n B) 0 (fun _ => 0) 16) t) (t + 1)) (18 : Int32))) ^^^ ((((own_wf (own_wa (own_gA n B) 0 (fun _ => 0) 16) t) (t + 1)).toUInt32 >>> ((3 : Int32) &&& 31).toUInt32).toInt32))), .val (.int (((own_rr ((own_wf (own_wa (own_gA n B) 0 (fun _ => 0) 16) t) (t + 14)) (17 : Int32)) ^^^ (own_rr ((own_wf (own_wa (own_gA n B) 0 (fun _ => 0) 16) t) (t + 14)) (19 : Int32))) ^^^ ((((own_wf (own_wa (own_gA n B) 0 (fun _ => 0) 16) t) (t + 14)).toUInt32 >>> ((10 : Int32) &&& 31).toUInt32).toInt32)))] [(.int ((((((own_rr ((own_wf (own_wa (own_gA n B) 0 (fun _ => 0) 16) t) (t + 14)) (17 : Int32)) ^^^ (own_rr ((own_wf (own_wa (own_gA n B) 0 (fun _ => 0) 16) t) (t + 14)) (19 : Int32))) ^^^ ((((own_wf (own_wa (own_gA n B) 0 (fun _ => 0) 16) t) (t + 14)).toUInt32 >>> ((10 : Int32) &&& 31).toUInt32).toInt32)) + ((own_wf (own_wa (own_gA n B) 0 (fun _ => 0) 16) t) (t + 9))) + (((own_rr ((own_wf (own_wa (own_gA n B) 0 (fun _ => 0) 16) t) (t + 1)) (7 : Int32)) ^^^ (own_rr ((own_wf (own_wa (own_gA n B) 0 (fun _ => 0) 16) t) (t + 1)) (18 : Int32))) ^^^ ((((own_wf (own_wa (own_gA n B) 0 (fun _ => 0) 16) t) (t + 1)).toUInt32 >>> ((3 : Int32) &&& 31).toUInt32).toInt32))) + ((own_wf (own_wa (own_gA n B) 0 (fun _ => 0) 16) t) t))), (.int (Int32.ofNat (16 + t))), (.ref b147)])) rfl rfl (hb hby d2_295)
          refine own_go st190 ?_
          have V190 : Arv Z h190 b147 k147 .int (64 : Int32) (own_tab 64 (fun j => if j = (16 + t) then (own_ws (own_wf (own_wa (own_gA n B) 0 (fun _ => 0) 16) t (t + 1)) (own_wf (own_wa (own_gA n B) 0 (fun _ => 0) 16) t (t + 14)) (own_wf (own_wa (own_gA n B) 0 (fun _ => 0) 16) t (t + 9)) (own_wf (own_wa (own_gA n B) 0 (fun _ => 0) 16) t t)) else (own_wf (own_wa (own_gA n B) 0 (fun _ => 0) 16) t) j)) (.int 0) := by have q := Arv.set Ar190 cq190 cS190 cN190 cH190 cG190 rfl W190 (16 + t) (own_nat (by omega)) (by rw [own_tab_len]; omega); rw [own_tab_set _ _ (by omega)] at q; exact q
          have K190 : Keep h0 h190 [] := Keep.wr K_159 W190 (Or.inr low159_b147)
          have N190 := Fr.snoc X190 N187 (Nat.le_trans Z0 low159_b147)
          refine own_go (B := T190.setTop (mkF m 197 #[.val (.ref a1), .val (.long ((8 : Int64) * (n.toInt64))), .second, .val (.int 1), .val (.ref b115), .val (.ref b142), .val (.ref b147), .val (.int 0), .val (.int ((Int32.ofNat (16 + t)) + (1 : Int32))), .val (.int ((own_wf (own_wa (own_gA n B) 0 (fun _ => 0) 16) t) (t + 1))), .val (.int ((own_wf (own_wa (own_gA n B) 0 (fun _ => 0) 16) t) (t + 14))), .val (.int (((own_rr ((own_wf (own_wa (own_gA n B) 0 (fun _ => 0) 16) t) (t + 1)) (7 : Int32)) ^^^ (own_rr ((own_wf (own_wa (own_gA n B) 0 (fun _ => 0) 16) t) (t + 1)) (18 : Int32))) ^^^ ((((own_wf (own_wa (own_gA n B) 0 (fun _ => 0) 16) t) (t + 1)).toUInt32 >>> ((3 : Int32) &&& 31).toUInt32).toInt32))), .val (.int (((own_rr ((own_wf (own_wa (own_gA n B) 0 (fun _ => 0) 16) t) (t + 14)) (17 : Int32)) ^^^ (own_rr ((own_wf (own_wa (own_gA n B) 0 (fun _ => 0) 16) t) (t + 14)) (19 : Int32))) ^^^ ((((own_wf (own_wa (own_gA n B) 0 (fun _ => 0) 16) t) (t + 14)).toUInt32 >>> ((10 : Int32) &&& 31).toUInt32).toInt32)))] [])) (fun tg kt => ?_) ?_
          · refine XS.iinc X190.here hx rfl (hb hby d2_296) rfl (l' := #[.val (.ref a1), .val (.long ((8 : Int64) * (n.toInt64))), .second, .val (.int 1), .val (.ref b115), .val (.ref b142), .val (.ref b147), .val (.int 0), .val (.int ((Int32.ofNat (16 + t)) + (1 : Int32))), .val (.int ((own_wf (own_wa (own_gA n B) 0 (fun _ => 0) 16) t) (t + 1))), .val (.int ((own_wf (own_wa (own_gA n B) 0 (fun _ => 0) 16) t) (t + 14))), .val (.int (((own_rr ((own_wf (own_wa (own_gA n B) 0 (fun _ => 0) 16) t) (t + 1)) (7 : Int32)) ^^^ (own_rr ((own_wf (own_wa (own_gA n B) 0 (fun _ => 0) 16) t) (t + 1)) (18 : Int32))) ^^^ ((((own_wf (own_wa (own_gA n B) 0 (fun _ => 0) 16) t) (t + 1)).toUInt32 >>> ((3 : Int32) &&& 31).toUInt32).toInt32))), .val (.int (((own_rr ((own_wf (own_wa (own_gA n B) 0 (fun _ => 0) 16) t) (t + 14)) (17 : Int32)) ^^^ (own_rr ((own_wf (own_wa (own_gA n B) 0 (fun _ => 0) 16) t) (t + 14)) (19 : Int32))) ^^^ ((((own_wf (own_wa (own_gA n B) 0 (fun _ => 0) 16) t) (t + 14)).toUInt32 >>> ((10 : Int32) &&& 31).toUInt32).toInt32)))]) rfl ?_
            refine XS.goto X190.here hx rfl (pc0 := 299) (pc' := 197) rfl (hb hby d2_299) (by decide) (by decide) ?_
            exact kt
          rw [show ((Int32.ofNat (16 + t)) + (1 : Int32)) = (Int32.ofNat (16 + (t + 1))) from own_isucc _]
          have f191 : Arv Z h190 b115 k115 .byte (64 : Int32) (own_tab 64 (own_gA n B)) (.int 0) := (fl159_0.other W190 ne154)
          have f192 : Arv Z h190 b142 k_INITIAL .int (8 : Int32) [(.int 1779033703), (.int (-1150833019)), (.int 1013904242), (.int (-1521486534)), (.int 1359893119), (.int (-1694144372)), (.int 528734635), (.int 1541459225)] (.int 0) := (fl159_1.other W190 ne155)
          have f193 : Exa Z h190 b142 "[I" := (fl159_2.wr W190)
          exact ih159 (t + 1) T190 h190 _ _ _ _ _ (by omega) X190 e190 N190 K190 (One.val rfl) (One.val rfl) (One.val rfl) (One.val rfl) f191 f192 f193 V190
      exact loop159 48 0 T_148 h_148 _ _ _ _ _ rfl X_148 e_148 N_148 K_148 hz148_9 One.u One.u One.u fl148_0 fl148_1 fl148_2 fl148_3
    | succ k ih148 =>
      intro t T_148 h_148 lo_148 z148_9 hkt148 X_148 e_148 N_148 K_148 hz148_9 fl148_0 fl148_1 fl148_2 fl148_3
      have ht148 : t < 16 := by omega
      refine own_go (B := T_148.setTop (mkF m 136 #[.val (.ref a1), .val (.long ((8 : Int64) * (n.toInt64))), .second, .val (.int 1), .val (.ref b115), .val (.ref b142), .val (.ref b147), .val (.int 0), .val (.int (Int32.ofNat t)), .val (.int ((0 : Int32) + ((4 : Int32) * (Int32.ofNat t)))), .unset, .unset, .unset] [(.int ((0 : Int32) + ((4 : Int32) * (Int32.ofNat t)))), (.ref b115), (.int (Int32.ofNat t)), (.ref b147)])) (fun tg kt => ?_) ?_
      · refine XS.iload X_148.here hx rfl (hb hby d2_109) rfl ?_
        refine XS.bipush X_148.here hx rfl (hb hby d2_111) ?_
        refine XS.icmpNo X_148.here hx rfl (hb hby d2_113) rfl (tlt (show (Int32.ofNat t) < (16 : Int32) from (own_lt16 ht148))).2.1 ?_
        refine XS.iload X_148.here hx rfl (hb hby d2_116) rfl ?_
        refine XS.bipush X_148.here hx rfl (hb hby d2_118) ?_
        refine XS.imul X_148.here hx rfl (hb hby d2_120) rfl ?_
        refine XS.iconst X_148.here hx rfl (hb hby d2_121) ?_
        refine XS.iload X_148.here hx rfl (hb hby d2_122) rfl ?_
        refine XS.imul X_148.here hx rfl (hb hby d2_124) rfl ?_
        refine XS.iadd X_148.here hx rfl (hb hby d2_125) rfl ?_
        refine XS.istoreS X_148.here hx rfl (hb hby d2_126) rfl rfl hz148_9 ?_
        refine XS.aload X_148.here hx rfl (hb hby d2_128) rfl rfl ?_
        refine XS.iload X_148.here hx rfl (hb hby d2_130) rfl ?_
        refine XS.aload X_148.here hx rfl (hb hby d2_132) rfl rfl ?_
        refine XS.iload X_148.here hx rfl (hb hby d2_134) rfl ?_
        exact kt
      obtain ⟨cl194, Ar194, cq194, cS194, cN194, cH194, cG194⟩ := id fl148_0
      have hin194 := inb_of (j := ((0 : Int32) + ((4 : Int32) * (Int32.ofNat t)))) cS194 (own_inb (N := 64) (own_b0 (o := 0) (t := t) (by decide) (by decide) ht148) (by omega) (by decide))
      have hat194 : cl194.slots[(((0 : Int32) + ((4 : Int32) * (Int32.ofNat t)))).toNatClampNeg]? = some (.int ((own_gA n B) (0 + 4 * t))) := Has.at cH194 hin194 (own_at (own_gA n B) _ (own_b0 (o := 0) (t := t) (by decide) (by decide) ht148) (by omega))
      refine own_go (B := T_148.setTop (mkF m 150 #[.val (.ref a1), .val (.long ((8 : Int64) * (n.toInt64))), .second, .val (.int 1), .val (.ref b115), .val (.ref b142), .val (.ref b147), .val (.int 0), .val (.int (Int32.ofNat t)), .val (.int ((0 : Int32) + ((4 : Int32) * (Int32.ofNat t)))), .unset, .unset, .unset] [(.int (((0 : Int32) + ((4 : Int32) * (Int32.ofNat t))) + (1 : Int32))), (.ref b115), (.int ((((own_gA n B) (0 + 4 * t)) &&& (255 : Int32)) <<< ((24 : Int32) &&& 31))), (.int (Int32.ofNat t)), (.ref b147)])) (fun tg kt => ?_) ?_
      · refine X_148.baloadBytes hx (j := ((0 : Int32) + ((4 : Int32) * (Int32.ofNat t)))) (v := (.int ((own_gA n B) (0 + 4 * t)))) (by rw [e_148]; exact Ar194.1) (State.isArrayOf_alike hZ.alike Ar194.2.1) Ar194.2.2 hin194 hat194 (g := (mkF m 136 #[.val (.ref a1), .val (.long ((8 : Int64) * (n.toInt64))), .second, .val (.int 1), .val (.ref b115), .val (.ref b142), .val (.ref b147), .val (.int 0), .val (.int (Int32.ofNat t)), .val (.int ((0 : Int32) + ((4 : Int32) * (Int32.ofNat t)))), .unset, .unset, .unset] [(.int ((0 : Int32) + ((4 : Int32) * (Int32.ofNat t)))), (.ref b115), (.int (Int32.ofNat t)), (.ref b147)])) rfl rfl (hb hby d2_136) _ ?_
        refine XS.sipush X_148.here hx rfl (hb hby d2_137) ?_
        refine XS.iand X_148.here hx rfl (hb hby d2_140) rfl ?_
        refine XS.bipush X_148.here hx rfl (hb hby d2_141) ?_
        refine XS.ishl X_148.here hx rfl (hb hby d2_143) rfl ?_
        refine XS.aload X_148.here hx rfl (hb hby d2_144) rfl rfl ?_
        refine XS.iload X_148.here hx rfl (hb hby d2_146) rfl ?_
        refine XS.iconst X_148.here hx rfl (hb hby d2_148) ?_
        refine XS.iadd X_148.here hx rfl (hb hby d2_149) rfl ?_
        exact kt
      obtain ⟨cl195, Ar195, cq195, cS195, cN195, cH195, cG195⟩ := id fl148_0
      have hin195 := inb_of (j := (((0 : Int32) + ((4 : Int32) * (Int32.ofNat t))) + (1 : Int32))) cS195 (own_inb (N := 64) (own_br (r := 1) (k := 0 + 4 * t) (own_b0 (o := 0) (t := t) (by decide) (by decide) ht148) (by omega) (by decide) (by decide)) (by omega) (by decide))
      have hat195 : cl195.slots[((((0 : Int32) + ((4 : Int32) * (Int32.ofNat t))) + (1 : Int32))).toNatClampNeg]? = some (.int ((own_gA n B) (0 + 4 * t + 1))) := Has.at cH195 hin195 (own_at (own_gA n B) _ (own_br (r := 1) (k := 0 + 4 * t) (own_b0 (o := 0) (t := t) (by decide) (by decide) ht148) (by omega) (by decide) (by decide)) (by omega))
      refine own_go (B := T_148.setTop (mkF m 165 #[.val (.ref a1), .val (.long ((8 : Int64) * (n.toInt64))), .second, .val (.int 1), .val (.ref b115), .val (.ref b142), .val (.ref b147), .val (.int 0), .val (.int (Int32.ofNat t)), .val (.int ((0 : Int32) + ((4 : Int32) * (Int32.ofNat t)))), .unset, .unset, .unset] [(.int (((0 : Int32) + ((4 : Int32) * (Int32.ofNat t))) + (2 : Int32))), (.ref b115), (.int (((((own_gA n B) (0 + 4 * t)) &&& (255 : Int32)) <<< ((24 : Int32) &&& 31)) ||| ((((own_gA n B) (0 + 4 * t + 1)) &&& (255 : Int32)) <<< ((16 : Int32) &&& 31)))), (.int (Int32.ofNat t)), (.ref b147)])) (fun tg kt => ?_) ?_
      · refine X_148.baloadBytes hx (j := (((0 : Int32) + ((4 : Int32) * (Int32.ofNat t))) + (1 : Int32))) (v := (.int ((own_gA n B) (0 + 4 * t + 1)))) (by rw [e_148]; exact Ar195.1) (State.isArrayOf_alike hZ.alike Ar195.2.1) Ar195.2.2 hin195 hat195 (g := (mkF m 150 #[.val (.ref a1), .val (.long ((8 : Int64) * (n.toInt64))), .second, .val (.int 1), .val (.ref b115), .val (.ref b142), .val (.ref b147), .val (.int 0), .val (.int (Int32.ofNat t)), .val (.int ((0 : Int32) + ((4 : Int32) * (Int32.ofNat t)))), .unset, .unset, .unset] [(.int (((0 : Int32) + ((4 : Int32) * (Int32.ofNat t))) + (1 : Int32))), (.ref b115), (.int ((((own_gA n B) (0 + 4 * t)) &&& (255 : Int32)) <<< ((24 : Int32) &&& 31))), (.int (Int32.ofNat t)), (.ref b147)])) rfl rfl (hb hby d2_150) _ ?_
        refine XS.sipush X_148.here hx rfl (hb hby d2_151) ?_
        refine XS.iand X_148.here hx rfl (hb hby d2_154) rfl ?_
        refine XS.bipush X_148.here hx rfl (hb hby d2_155) ?_
        refine XS.ishl X_148.here hx rfl (hb hby d2_157) rfl ?_
        refine XS.ior X_148.here hx rfl (hb hby d2_158) rfl ?_
        refine XS.aload X_148.here hx rfl (hb hby d2_159) rfl rfl ?_
        refine XS.iload X_148.here hx rfl (hb hby d2_161) rfl ?_
        refine XS.iconst X_148.here hx rfl (hb hby d2_163) ?_
        refine XS.iadd X_148.here hx rfl (hb hby d2_164) rfl ?_
        exact kt
      obtain ⟨cl196, Ar196, cq196, cS196, cN196, cH196, cG196⟩ := id fl148_0
      have hin196 := inb_of (j := (((0 : Int32) + ((4 : Int32) * (Int32.ofNat t))) + (2 : Int32))) cS196 (own_inb (N := 64) (own_br (r := 2) (k := 0 + 4 * t) (own_b0 (o := 0) (t := t) (by decide) (by decide) ht148) (by omega) (by decide) (by decide)) (by omega) (by decide))
      have hat196 : cl196.slots[((((0 : Int32) + ((4 : Int32) * (Int32.ofNat t))) + (2 : Int32))).toNatClampNeg]? = some (.int ((own_gA n B) (0 + 4 * t + 2))) := Has.at cH196 hin196 (own_at (own_gA n B) _ (own_br (r := 2) (k := 0 + 4 * t) (own_b0 (o := 0) (t := t) (by decide) (by decide) ht148) (by omega) (by decide) (by decide)) (by omega))
      refine own_go (B := T_148.setTop (mkF m 180 #[.val (.ref a1), .val (.long ((8 : Int64) * (n.toInt64))), .second, .val (.int 1), .val (.ref b115), .val (.ref b142), .val (.ref b147), .val (.int 0), .val (.int (Int32.ofNat t)), .val (.int ((0 : Int32) + ((4 : Int32) * (Int32.ofNat t)))), .unset, .unset, .unset] [(.int (((0 : Int32) + ((4 : Int32) * (Int32.ofNat t))) + (3 : Int32))), (.ref b115), (.int ((((((own_gA n B) (0 + 4 * t)) &&& (255 : Int32)) <<< ((24 : Int32) &&& 31)) ||| ((((own_gA n B) (0 + 4 * t + 1)) &&& (255 : Int32)) <<< ((16 : Int32) &&& 31))) ||| ((((own_gA n B) (0 + 4 * t + 2)) &&& (255 : Int32)) <<< ((8 : Int32) &&& 31)))), (.int (Int32.ofNat t)), (.ref b147)])) (fun tg kt => ?_) ?_
      · refine X_148.baloadBytes hx (j := (((0 : Int32) + ((4 : Int32) * (Int32.ofNat t))) + (2 : Int32))) (v := (.int ((own_gA n B) (0 + 4 * t + 2)))) (by rw [e_148]; exact Ar196.1) (State.isArrayOf_alike hZ.alike Ar196.2.1) Ar196.2.2 hin196 hat196 (g := (mkF m 165 #[.val (.ref a1), .val (.long ((8 : Int64) * (n.toInt64))), .second, .val (.int 1), .val (.ref b115), .val (.ref b142), .val (.ref b147), .val (.int 0), .val (.int (Int32.ofNat t)), .val (.int ((0 : Int32) + ((4 : Int32) * (Int32.ofNat t)))), .unset, .unset, .unset] [(.int (((0 : Int32) + ((4 : Int32) * (Int32.ofNat t))) + (2 : Int32))), (.ref b115), (.int (((((own_gA n B) (0 + 4 * t)) &&& (255 : Int32)) <<< ((24 : Int32) &&& 31)) ||| ((((own_gA n B) (0 + 4 * t + 1)) &&& (255 : Int32)) <<< ((16 : Int32) &&& 31)))), (.int (Int32.ofNat t)), (.ref b147)])) rfl rfl (hb hby d2_165) _ ?_
        refine XS.sipush X_148.here hx rfl (hb hby d2_166) ?_
        refine XS.iand X_148.here hx rfl (hb hby d2_169) rfl ?_
        refine XS.bipush X_148.here hx rfl (hb hby d2_170) ?_
        refine XS.ishl X_148.here hx rfl (hb hby d2_172) rfl ?_
        refine XS.ior X_148.here hx rfl (hb hby d2_173) rfl ?_
        refine XS.aload X_148.here hx rfl (hb hby d2_174) rfl rfl ?_
        refine XS.iload X_148.here hx rfl (hb hby d2_176) rfl ?_
        refine XS.iconst X_148.here hx rfl (hb hby d2_178) ?_
        refine XS.iadd X_148.here hx rfl (hb hby d2_179) rfl ?_
        exact kt
      obtain ⟨cl197, Ar197, cq197, cS197, cN197, cH197, cG197⟩ := id fl148_0
      have hin197 := inb_of (j := (((0 : Int32) + ((4 : Int32) * (Int32.ofNat t))) + (3 : Int32))) cS197 (own_inb (N := 64) (own_br (r := 3) (k := 0 + 4 * t) (own_b0 (o := 0) (t := t) (by decide) (by decide) ht148) (by omega) (by decide) (by decide)) (by omega) (by decide))
      have hat197 : cl197.slots[((((0 : Int32) + ((4 : Int32) * (Int32.ofNat t))) + (3 : Int32))).toNatClampNeg]? = some (.int ((own_gA n B) (0 + 4 * t + 3))) := Has.at cH197 hin197 (own_at (own_gA n B) _ (own_br (r := 3) (k := 0 + 4 * t) (own_b0 (o := 0) (t := t) (by decide) (by decide) ht148) (by omega) (by decide) (by decide)) (by omega))
      refine own_go (B := T_148.setTop (mkF m 186 #[.val (.ref a1), .val (.long ((8 : Int64) * (n.toInt64))), .second, .val (.int 1), .val (.ref b115), .val (.ref b142), .val (.ref b147), .val (.int 0), .val (.int (Int32.ofNat t)), .val (.int ((0 : Int32) + ((4 : Int32) * (Int32.ofNat t)))), .unset, .unset, .unset] [(.int (((((((own_gA n B) (0 + 4 * t)) &&& (255 : Int32)) <<< ((24 : Int32) &&& 31)) ||| ((((own_gA n B) (0 + 4 * t + 1)) &&& (255 : Int32)) <<< ((16 : Int32) &&& 31))) ||| ((((own_gA n B) (0 + 4 * t + 2)) &&& (255 : Int32)) <<< ((8 : Int32) &&& 31))) ||| (((own_gA n B) (0 + 4 * t + 3)) &&& (255 : Int32)))), (.int (Int32.ofNat t)), (.ref b147)])) (fun tg kt => ?_) ?_
      · refine X_148.baloadBytes hx (j := (((0 : Int32) + ((4 : Int32) * (Int32.ofNat t))) + (3 : Int32))) (v := (.int ((own_gA n B) (0 + 4 * t + 3)))) (by rw [e_148]; exact Ar197.1) (State.isArrayOf_alike hZ.alike Ar197.2.1) Ar197.2.2 hin197 hat197 (g := (mkF m 180 #[.val (.ref a1), .val (.long ((8 : Int64) * (n.toInt64))), .second, .val (.int 1), .val (.ref b115), .val (.ref b142), .val (.ref b147), .val (.int 0), .val (.int (Int32.ofNat t)), .val (.int ((0 : Int32) + ((4 : Int32) * (Int32.ofNat t)))), .unset, .unset, .unset] [(.int (((0 : Int32) + ((4 : Int32) * (Int32.ofNat t))) + (3 : Int32))), (.ref b115), (.int ((((((own_gA n B) (0 + 4 * t)) &&& (255 : Int32)) <<< ((24 : Int32) &&& 31)) ||| ((((own_gA n B) (0 + 4 * t + 1)) &&& (255 : Int32)) <<< ((16 : Int32) &&& 31))) ||| ((((own_gA n B) (0 + 4 * t + 2)) &&& (255 : Int32)) <<< ((8 : Int32) &&& 31)))), (.int (Int32.ofNat t)), (.ref b147)])) rfl rfl (hb hby d2_180) _ ?_
        refine XS.sipush X_148.here hx rfl (hb hby d2_181) ?_
        refine XS.iand X_148.here hx rfl (hb hby d2_184) rfl ?_
        refine XS.ior X_148.here hx rfl (hb hby d2_185) rfl ?_
        exact kt
      obtain ⟨cl198, Ar198, cq198, cS198, cN198, cH198, cG198⟩ := id fl148_3
      have hin198 := inb_of (j := (Int32.ofNat t)) cS198 (own_lt16' ht148)
      obtain ⟨T198, h198, X198, e198, W198, st198⟩ := stI X_148 hx hZ e_148 Ar198 (j := (Int32.ofNat t)) hin198 (g := (mkF m 186 #[.val (.ref a1), .val (.long ((8 : Int64) * (n.toInt64))), .second, .val (.int 1), .val (.ref b115), .val (.ref b142), .val (.ref b147), .val (.int 0), .val (.int (Int32.ofNat t)), .val (.int ((0 : Int32) + ((4 : Int32) * (Int32.ofNat t)))), .unset, .unset, .unset] [(.int (((((((own_gA n B) (0 + 4 * t)) &&& (255 : Int32)) <<< ((24 : Int32) &&& 31)) ||| ((((own_gA n B) (0 + 4 * t + 1)) &&& (255 : Int32)) <<< ((16 : Int32) &&& 31))) ||| ((((own_gA n B) (0 + 4 * t + 2)) &&& (255 : Int32)) <<< ((8 : Int32) &&& 31))) ||| (((own_gA n B) (0 + 4 * t + 3)) &&& (255 : Int32)))), (.int (Int32.ofNat t)), (.ref b147)])) rfl rfl (hb hby d2_186)
      refine own_go st198 ?_
      have V198 : Arv Z h198 b147 k147 .int (64 : Int32) (own_tab 64 (fun j => if j = t then (own_w0 (own_gA n B) 0 t) else (own_wa (own_gA n B) 0 (fun _ => 0) t) j)) (.int 0) := by have q := Arv.set Ar198 cq198 cS198 cN198 cH198 cG198 rfl W198 t (own_nat (by omega)) (by rw [own_tab_len]; omega); rw [own_tab_set _ _ (by omega)] at q; exact q
      have K198 : Keep h0 h198 [] := Keep.wr K_148 W198 (Or.inr low148_b147)
      have N198 := Fr.snoc X198 N_148 (Nat.le_trans Z0 low148_b147)
      refine own_go (B := T198.setTop (mkF m 109 #[.val (.ref a1), .val (.long ((8 : Int64) * (n.toInt64))), .second, .val (.int 1), .val (.ref b115), .val (.ref b142), .val (.ref b147), .val (.int 0), .val (.int ((Int32.ofNat t) + (1 : Int32))), .val (.int ((0 : Int32) + ((4 : Int32) * (Int32.ofNat t)))), .unset, .unset, .unset] [])) (fun tg kt => ?_) ?_
      · refine XS.iinc X198.here hx rfl (hb hby d2_187) rfl (l' := #[.val (.ref a1), .val (.long ((8 : Int64) * (n.toInt64))), .second, .val (.int 1), .val (.ref b115), .val (.ref b142), .val (.ref b147), .val (.int 0), .val (.int ((Int32.ofNat t) + (1 : Int32))), .val (.int ((0 : Int32) + ((4 : Int32) * (Int32.ofNat t)))), .unset, .unset, .unset]) rfl ?_
        refine XS.goto X198.here hx rfl (pc0 := 190) (pc' := 109) rfl (hb hby d2_190) (by decide) (by decide) ?_
        exact kt
      rw [show ((Int32.ofNat t) + (1 : Int32)) = (Int32.ofNat (t + 1)) from own_isucc _]
      have f199 : Arv Z h198 b115 k115 .byte (64 : Int32) (own_tab 64 (own_gA n B)) (.int 0) := (fl148_0.other W198 ne154)
      have f200 : Arv Z h198 b142 k_INITIAL .int (8 : Int32) [(.int 1779033703), (.int (-1150833019)), (.int 1013904242), (.int (-1521486534)), (.int 1359893119), (.int (-1694144372)), (.int 528734635), (.int 1541459225)] (.int 0) := (fl148_1.other W198 ne155)
      have f201 : Exa Z h198 b142 "[I" := (fl148_2.wr W198)
      exact ih148 (t + 1) T198 h198 _ _ (by omega) X198 e198 N198 K198 (One.val rfl) f199 f200 f201 V198
  exact loop148 16 0 T147 h147 _ _ rfl X147 e147 N138 K147 One.u f156 f157 f158 V147
theorem ef_2B (m : MethodId) (a1 : Addr) : entryFrame m #[(.ref a1)] 13 = mkF m 0 #[.val (.ref a1), .unset, .unset, .unset, .unset, .unset, .unset, .unset, .unset, .unset, .unset, .unset, .unset] [] := by first | (simp [entryFrame, mkF, argsToLocals, Value.category]; done) | rfl
def Q2B (Z : State) (a1 : Addr) (w_ROUND : Addr) (k_ROUND : ClassId) (w_INITIAL : Addr) (k_INITIAL : ClassId) (k1 : ClassId) (vs : List Value) (B : Nat → Int32) (h0 : Heap) (n0 : Nat) (v : Option Value) (h : Heap) (L : List Loc) : Prop := ∃ (bn : Addr) (kn : ClassId) (y : St8), v = some (.ref bn) ∧ Fr n0 L ∧ Keep h0 h [] ∧ h0.size ≤ bn ∧ Arv Z h bn kn .byte (32 : Int32) (own_tab 32 (own_oa (own_ob y) 32)) (.int 0) ∧ y = (own_blk (own_gB B) 64 (own_wf (own_wa (own_gB B) 0 (fun _ => 0) 16) 48) (own_blk (own_gB B) 0 (fun _ => 0) ((1779033703 : Int32), (-1150833019 : Int32), (1013904242 : Int32), (-1521486534 : Int32), (1359893119 : Int32), (-1694144372 : Int32), (528734635 : Int32), (1541459225 : Int32))))
set_option maxRecDepth 65536 in
set_option maxHeartbeats 40000000 in
theorem rm2B (l : Launch) (Z : State) (a0 : Array Value) (hw : ∀ d ∈ tables_1, d.before a0 Z = true) (ws : List Jvm.Cond) (a1 : Addr) (w_ROUND : Addr) (k_ROUND : ClassId) (w_INITIAL : Addr) (k_INITIAL : ClassId) (k1 : ClassId) (vs : List Value) (B : Nat → Int32) (h0 : Heap) (n0 : Nat) (Z0 : n0 ≤ h0.size) (S_ROUND : Sta Z h0 "tributary/Digests" "ROUND" "[I" (.ref w_ROUND)) (V_ROUND : Arv Z h0 w_ROUND k_ROUND .int (64 : Int32) (own_tab 64 own_K) (.int 0)) (S_INITIAL : Sta Z h0 "tributary/Digests" "INITIAL" "[I" (.ref w_INITIAL)) (E_INITIAL : Exa Z h0 w_INITIAL "[I") (V_INITIAL : Arv Z h0 w_INITIAL k_INITIAL .int (8 : Int32) [(.int 1779033703), (.int (-1150833019)), (.int 1013904242), (.int (-1521486534)), (.int 1359893119), (.int (-1694144372)), (.int 528734635), (.int 1541459225)] (.int 0)) (V_1 : Arv Z h0 a1 k1 .byte (56 : Int32) vs (.int 0)) (hB : ∀ i, i < 56 → vs.getD i (.int 0) = .int (B i)) :
    MetFree l (⟨"tributary/Digests", "sha256", "([B)[B"⟩ : MethodName) (head1 (Jvm.Cond.code (⟨"tributary/Digests", "sha256", "([B)[B"⟩ : MethodName) prog_4_method_2_code 13 (some (.array .byte)) :: ws) ({ frames := 2, cells := 4, slots := 232, locals := 41 } : Room)) (fun a U => a = #[(.ref a1)] ∧ Z.Warmed39 U.vm ∧ U.heap = h0) (fun _ _ _ _ _ => True) (fun _ U o U' => ∃ v L, o = .returned v ∧ Q2B Z a1 w_ROUND k_ROUND w_INITIAL k_INITIAL k1 vs B h0 n0 v U'.heap L ∧ FrameEnd U o U' L ({ frames := 2, cells := 4, slots := 232, locals := 41 } : Room).cells ({ frames := 2, cells := 4, slots := 232, locals := 41 } : Room).slots) := by
  refine MetFree.of_bodySF (plainFor_of_name pn_188) hisR ?_
  intro p e s m args below meth c s₁ Bd hml0 hP hK
  obtain ⟨rfl, hZ, hh⟩ := hP
  have hx := Bd.exec
  have hby := Bd.bytes
  have hml : c.maxLocals = 13 := hml0
  have hown : s.vm.findClass "tributary/Digests" = some m.cls := findClass_of_methodNamed Bd.named
  have hnm := (name_of_methodNamed Bd.named Bd.method).1
  have X0 : Stand p l e ({ frames := 2, cells := 4, slots := 232, locals := 41 } : Room) s m #[(.ref a1)] below meth c s₁ [] 0 0 := Stand.of_body Bd
  have e0 : s₁.heap = h0 := by rw [← hh, Bd.state]; rfl
  have N0 := Fr.nil n0
  refine own_go (B := s₁.setTop (mkF m 0 #[.val (.ref a1), .unset, .unset, .unset, .unset, .unset, .unset, .unset, .unset, .unset, .unset, .unset, .unset] [])) (fun t k => castTop (ef_2B m a1) k) ?_
  refine own_go (B := s₁.setTop (mkF m 4 #[.val (.ref a1), .unset, .unset, .unset, .unset, .unset, .unset, .unset, .unset, .unset, .unset, .unset, .unset] [(.ref a1), (.long (8 : Int64))])) (fun tg kt => ?_) ?_
  · refine X0.ldc2Long hx hown (mvT hZ (hw _ (List.mem_of_getElem? (i := 10) rfl))) (g := (mkF m 0 #[.val (.ref a1), .unset, .unset, .unset, .unset, .unset, .unset, .unset, .unset, .unset, .unset, .unset, .unset] [])) rfl (hb hby d2_0) _ ?_
    refine XS.aloadN X0.here hx rfl (hb hby d2_3) rfl rfl ?_
    exact kt
  obtain ⟨cl202, Ar202, cq202, cS202, cN202, cH202, cG202⟩ := id V_1
  refine own_go (B := s₁.setTop (mkF m 9 #[.val (.ref a1), .val (.long (448 : Int64)), .second, .unset, .unset, .unset, .unset, .unset, .unset, .unset, .unset, .unset, .unset] [(.ref a1)])) (fun tg kt => ?_) ?_
  · refine X0.arraylength hx (by rw [e0]; exact Ar202.1) (State.isArrayOf_alike hZ.alike Ar202.2.1) (g := (mkF m 4 #[.val (.ref a1), .unset, .unset, .unset, .unset, .unset, .unset, .unset, .unset, .unset, .unset, .unset, .unset] [(.ref a1), (.long (8 : Int64))])) rfl rfl (hb hby d2_4) _ ?_
    rw [len_of cS202 cN202]
    refine XS.i2l X0.here hx rfl (hb hby d2_5) rfl ?_
    refine XS.lmul X0.here hx rfl (hb hby d2_6) rfl ?_
    refine XS.lstoreN X0.here hx rfl (hb hby d2_7) rfl (l' := #[.val (.ref a1), .val (.long (448 : Int64)), .second, .unset, .unset, .unset, .unset, .unset, .unset, .unset, .unset, .unset, .unset]) rfl ?_
    refine XS.aloadN X0.here hx rfl (hb hby d2_8) rfl rfl ?_
    exact kt
  obtain ⟨cl203, Ar203, cq203, cS203, cN203, cH203, cG203⟩ := id V_1
  refine own_go (B := s₁.setTop (mkF m 23 #[.val (.ref a1), .val (.long (448 : Int64)), .second, .val (.int 2), .unset, .unset, .unset, .unset, .unset, .unset, .unset, .unset, .unset] [(.int 128)])) (fun tg kt => ?_) ?_
  · refine X0.arraylength hx (by rw [e0]; exact Ar203.1) (State.isArrayOf_alike hZ.alike Ar203.2.1) (g := (mkF m 9 #[.val (.ref a1), .val (.long (448 : Int64)), .second, .unset, .unset, .unset, .unset, .unset, .unset, .unset, .unset, .unset, .unset] [(.ref a1)])) rfl rfl (hb hby d2_9) _ ?_
    rw [len_of cS203 cN203]
    refine XS.bipush X0.here hx rfl (hb hby d2_10) ?_
    refine XS.iadd X0.here hx rfl (hb hby d2_12) rfl ?_
    refine XS.bipush X0.here hx rfl (hb hby d2_13) ?_
    refine XS.idiv X0.here hx rfl (hb hby d2_15) rfl (by decide) ?_
    refine XS.iconst X0.here hx rfl (hb hby d2_16) ?_
    refine XS.iadd X0.here hx rfl (hb hby d2_17) rfl ?_
    refine XS.istoreN X0.here hx rfl (hb hby d2_18) rfl (l' := #[.val (.ref a1), .val (.long (448 : Int64)), .second, .val (.int 2), .unset, .unset, .unset, .unset, .unset, .unset, .unset, .unset, .unset]) rfl ?_
    refine XS.iloadN X0.here hx rfl (hb hby d2_19) rfl ?_
    refine XS.bipush X0.here hx rfl (hb hby d2_20) ?_
    refine XS.imul X0.here hx rfl (hb hby d2_22) rfl ?_
    exact kt
  obtain ⟨T204, h204, k204, X204, e204, E204, A204, st204⟩ := newP X0 hx hZ (hw _ (List.mem_of_getElem? (i := 1) rfl)) e0 (g := (mkF m 23 #[.val (.ref a1), .val (.long (448 : Int64)), .second, .val (.int 2), .unset, .unset, .unset, .unset, .unset, .unset, .unset, .unset, .unset] [(.int 128)])) rfl (hb hby d2_23) rfl (by decide) (cap := 128) (by decide) (by decide) (by decide) (by decide)
  obtain ⟨b204, g204⟩ : ∃ z, z = h0.size := ⟨_, rfl⟩
  rw [← g204] at A204 st204
  refine own_go st204 ?_
  have K204 : Keep h0 h204 [] := Keep.ext (Keep.refl h0 []) E204
  have V204 : Arv Z h204 b204 k204 .byte (128 : Int32) (own_tab 128 (fun _ => 0)) (.int 0) := (Arv.new A204 (by decide)).pad (own_tab0 128)
  refine own_go (B := T204.setTop (mkF m 33 #[.val (.ref a1), .val (.long (448 : Int64)), .second, .val (.int 2), .val (.ref b204), .unset, .unset, .unset, .unset, .unset, .unset, .unset, .unset] [(.ref a1), (.int 0), (.ref b204), (.int 0), (.ref a1)])) (fun tg kt => ?_) ?_
  · refine XS.astore X204.here hx rfl (hb hby d2_25) rfl rfl (l' := #[.val (.ref a1), .val (.long (448 : Int64)), .second, .val (.int 2), .val (.ref b204), .unset, .unset, .unset, .unset, .unset, .unset, .unset, .unset]) rfl ?_
    refine XS.aloadN X204.here hx rfl (hb hby d2_27) rfl rfl ?_
    refine XS.iconst X204.here hx rfl (hb hby d2_28) ?_
    refine XS.aload X204.here hx rfl (hb hby d2_29) rfl rfl ?_
    refine XS.iconst X204.here hx rfl (hb hby d2_31) ?_
    refine XS.aloadN X204.here hx rfl (hb hby d2_32) rfl rfl ?_
    exact kt
  have f205 : Arv Z h204 a1 k1 .byte (56 : Int32) vs (.int 0) := (V_1.ext E204)
  obtain ⟨cl206, Ar206, cq206, cS206, cN206, cH206, cG206⟩ := id f205
  refine own_go (B := T204.setTop (mkF m 34 #[.val (.ref a1), .val (.long (448 : Int64)), .second, .val (.int 2), .val (.ref b204), .unset, .unset, .unset, .unset, .unset, .unset, .unset, .unset] [(.int 56), (.int 0), (.ref b204), (.int 0), (.ref a1)])) (fun tg kt => ?_) ?_
  · refine X204.arraylength hx (by rw [e204]; exact Ar206.1) (State.isArrayOf_alike hZ.alike Ar206.2.1) (g := (mkF m 33 #[.val (.ref a1), .val (.long (448 : Int64)), .second, .val (.int 2), .val (.ref b204), .unset, .unset, .unset, .unset, .unset, .unset, .unset, .unset] [(.ref a1), (.int 0), (.ref b204), (.int 0), (.ref a1)])) rfl rfl (hb hby d2_33) _ ?_
    rw [len_of cS206 cN206]
    exact kt
  obtain ⟨T207, h207, L207, X207, e207, N207, K207', V207', st207⟩ := cpA X204 hx hZ hown (hw _ (List.mem_of_getElem? (i := 11) rfl)) (hw _ (List.mem_of_getElem? (i := 14) rfl)) (hw _ (List.mem_of_getElem? (i := 12) rfl)) (hw _ (List.mem_of_getElem? (i := 13) rfl)) e204 f205 V204 (Or.inl ⟨rfl, rfl⟩) (by decide) (by decide) (by decide) (by decide) (by decide) rfl (by rw [own_tab_len]; decide) N0 (Nat.le_trans Z0 (Nat.le_of_eq g204.symm)) (g := (mkF m 34 #[.val (.ref a1), .val (.long (448 : Int64)), .second, .val (.int 2), .val (.ref b204), .unset, .unset, .unset, .unset, .unset, .unset, .unset, .unset] [(.int 56), (.int 0), (.ref b204), (.int 0), (.ref a1)])) rfl (by rw [hml]; rfl) (rest := []) rfl (hb hby d2_34) (by decide) (W := 0) (by show 2 * 0 + _ ≤ _; exact Nat.le_of_eq rfl) (by decide)
  have K207 : Keep h0 h207 [] := Keep.trans K204 K207' (allS (Or.inr (Nat.le_of_eq g204.symm)) all0)
  have V207 : Arv Z h207 b204 k204 .byte (128 : Int32) (own_tab 128 (fun j => if j < 56 then B j else 0)) (.int 0) := by have q := V207'; rw [show (56 : Int32).toNatClampNeg = 56 from by decide] at q; rw [own_copy (N := 128) (n := 56) (B := B) (g := fun _ => 0) hB (by decide)] at q; exact q
  refine own_go st207 ?_
  refine own_go (B := T207.setTop (mkF m 40 #[.val (.ref a1), .val (.long (448 : Int64)), .second, .val (.int 2), .val (.ref b204), .unset, .unset, .unset, .unset, .unset, .unset, .unset, .unset] [(.ref a1), (.ref b204)])) (fun tg kt => ?_) ?_
  · refine XS.aload X207.here hx rfl (hb hby d2_37) rfl rfl ?_
    refine XS.aloadN X207.here hx rfl (hb hby d2_39) rfl rfl ?_
    exact kt
  have ne208 : a1 ≠ b204 := (Nat.ne_of_lt (Nat.lt_of_lt_of_le V_1.lt (Nat.le_of_eq g204.symm)))
  have f209 : Arv Z h207 a1 k1 .byte (56 : Int32) vs (.int 0) := (f205.keep K207' (ninS ne208 nin0))
  obtain ⟨cl210, Ar210, cq210, cS210, cN210, cH210, cG210⟩ := id f209
  refine own_go (B := T207.setTop (mkF m 43 #[.val (.ref a1), .val (.long (448 : Int64)), .second, .val (.int 2), .val (.ref b204), .unset, .unset, .unset, .unset, .unset, .unset, .unset, .unset] [(.int (-128)), (.int 56), (.ref b204)])) (fun tg kt => ?_) ?_
  · refine X207.arraylength hx (by rw [e207]; exact Ar210.1) (State.isArrayOf_alike hZ.alike Ar210.2.1) (g := (mkF m 40 #[.val (.ref a1), .val (.long (448 : Int64)), .second, .val (.int 2), .val (.ref b204), .unset, .unset, .unset, .unset, .unset, .unset, .unset, .unset] [(.ref a1), (.ref b204)])) rfl rfl (hb hby d2_40) _ ?_
    rw [len_of cS210 cN210]
    refine XS.bipush X207.here hx rfl (hb hby d2_41) ?_
    exact kt
  obtain ⟨cl211, Ar211, cq211, cS211, cN211, cH211, cG211⟩ := id V207
  have hin211 := inb_of (j := (56 : Int32)) cS211 ⟨by decide, by decide⟩
  obtain ⟨T211, h211, X211, e211, W211, st211⟩ := stB X207 hx hZ e207 Ar211 (j := (56 : Int32)) hin211 (g := (mkF m 43 #[.val (.ref a1), .val (.long (448 : Int64)), .second, .val (.int 2), .val (.ref b204), .unset, .unset, .unset, .unset, .unset, .unset, .unset, .unset] [(.int (-128)), (.int 56), (.ref b204)])) rfl rfl (hb hby d2_43)
  refine own_go st211 ?_
  have V211 : Arv Z h211 b204 k204 .byte (128 : Int32) (own_tab 128 (fun j => if j = 56 then (-128) else (fun j => if j < 56 then B j else 0) j)) (.int 0) := by have q := Arv.set Ar211 cq211 cS211 cN211 cH211 cG211 (fits_nar_byte _) W211 56 rfl (by rw [own_tab_len]; decide); rw [own_tab_set _ _ (by decide)] at q; exact q
  have K211 : Keep h0 h211 [] := Keep.wr K207 W211 (Or.inr (Nat.le_of_eq g204.symm))
  have N211 := Fr.snoc X211 N207 (Nat.le_trans Z0 (Nat.le_of_eq g204.symm))
  refine own_go (B := T211.setTop (mkF m 58 #[.val (.ref a1), .val (.long (448 : Int64)), .second, .val (.int 2), .val (.ref b204), .val (.int 0), .unset, .unset, .unset, .unset, .unset, .unset, .unset] [(.ref b204), (.ref b204)])) (fun tg kt => ?_) ?_
  · refine XS.iconst X211.here hx rfl (hb hby d2_44) ?_
    refine XS.istore X211.here hx rfl (hb hby d2_45) rfl (l' := #[.val (.ref a1), .val (.long (448 : Int64)), .second, .val (.int 2), .val (.ref b204), .val (.int 0), .unset, .unset, .unset, .unset, .unset, .unset, .unset]) rfl ?_
    refine XS.iload X211.here hx rfl (hb hby d2_47) rfl ?_
    refine XS.bipush X211.here hx rfl (hb hby d2_49) ?_
    refine XS.icmpNo X211.here hx rfl (hb hby d2_51) rfl (tlt (by decide : (0 : Int32) < (8 : Int32))).2.1 ?_
    refine XS.aload X211.here hx rfl (hb hby d2_54) rfl rfl ?_
    refine XS.aload X211.here hx rfl (hb hby d2_56) rfl rfl ?_
    exact kt
  obtain ⟨cl212, Ar212, cq212, cS212, cN212, cH212, cG212⟩ := id V211
  refine own_go (B := T211.setTop (mkF m 73 #[.val (.ref a1), .val (.long (448 : Int64)), .second, .val (.int 2), .val (.ref b204), .val (.int 0), .unset, .unset, .unset, .unset, .unset, .unset, .unset] [(.int (own_bz (448 : Int64) 0)), (.int 127), (.ref b204)])) (fun tg kt => ?_) ?_
  · refine X211.arraylength hx (by rw [e211]; exact Ar212.1) (State.isArrayOf_alike hZ.alike Ar212.2.1) (g := (mkF m 58 #[.val (.ref a1), .val (.long (448 : Int64)), .second, .val (.int 2), .val (.ref b204), .val (.int 0), .unset, .unset, .unset, .unset, .unset, .unset, .unset] [(.ref b204), (.ref b204)])) rfl rfl (hb hby d2_58) _ ?_
    rw [len_of cS212 cN212]
    refine XS.iconst X211.here hx rfl (hb hby d2_59) ?_
    refine XS.isub X211.here hx rfl (hb hby d2_60) rfl ?_
    refine XS.iload X211.here hx rfl (hb hby d2_61) rfl ?_
    refine XS.isub X211.here hx rfl (hb hby d2_63) rfl ?_
    refine XS.lloadN X211.here hx rfl (hb hby d2_64) rfl ?_
    refine XS.bipush X211.here hx rfl (hb hby d2_65) ?_
    refine XS.iload X211.here hx rfl (hb hby d2_67) rfl ?_
    refine XS.imul X211.here hx rfl (hb hby d2_69) rfl ?_
    refine XS.lushr X211.here hx rfl (hb hby d2_70) rfl ?_
    refine XS.l2i X211.here hx rfl (hb hby d2_71) rfl ?_
    refine XS.i2b X211.here hx rfl (hb hby d2_72) rfl ?_
    exact kt
  obtain ⟨cl213, Ar213, cq213, cS213, cN213, cH213, cG213⟩ := id V211
  have hin213 := inb_of (j := (127 : Int32)) cS213 ⟨by decide, by decide⟩
  obtain ⟨T213, h213, X213, e213, W213, st213⟩ := stB X211 hx hZ e211 Ar213 (j := (127 : Int32)) hin213 (g := (mkF m 73 #[.val (.ref a1), .val (.long (448 : Int64)), .second, .val (.int 2), .val (.ref b204), .val (.int 0), .unset, .unset, .unset, .unset, .unset, .unset, .unset] [(.int (own_bz (448 : Int64) 0)), (.int 127), (.ref b204)])) rfl rfl (hb hby d2_73)
  refine own_go st213 ?_
  have V213 : Arv Z h213 b204 k204 .byte (128 : Int32) (own_tab 128 (fun j => if j = 127 then (own_bz (448 : Int64) 0) else (fun j => if j = 56 then (-128) else (fun j => if j < 56 then B j else 0) j) j)) (.int 0) := by have q := Arv.set Ar213 cq213 cS213 cN213 cH213 cG213 (fits_nar_byte _) W213 127 rfl (by rw [own_tab_len]; decide); rw [own_tab_set _ _ (by decide), own_narB] at q; exact q
  have K213 : Keep h0 h213 [] := Keep.wr K211 W213 (Or.inr (Nat.le_of_eq g204.symm))
  have N213 := Fr.snoc X213 N211 (Nat.le_trans Z0 (Nat.le_of_eq g204.symm))
  refine own_go (B := T213.setTop (mkF m 58 #[.val (.ref a1), .val (.long (448 : Int64)), .second, .val (.int 2), .val (.ref b204), .val (.int 1), .unset, .unset, .unset, .unset, .unset, .unset, .unset] [(.ref b204), (.ref b204)])) (fun tg kt => ?_) ?_
  · refine XS.iinc X213.here hx rfl (hb hby d2_74) rfl (l' := #[.val (.ref a1), .val (.long (448 : Int64)), .second, .val (.int 2), .val (.ref b204), .val (.int 1), .unset, .unset, .unset, .unset, .unset, .unset, .unset]) rfl ?_
    refine XS.goto X213.here hx rfl (pc0 := 77) (pc' := 47) rfl (hb hby d2_77) (by decide) (by decide) ?_
    refine XS.iload X213.here hx rfl (hb hby d2_47) rfl ?_
    refine XS.bipush X213.here hx rfl (hb hby d2_49) ?_
    refine XS.icmpNo X213.here hx rfl (hb hby d2_51) rfl (tlt (by decide : (1 : Int32) < (8 : Int32))).2.1 ?_
    refine XS.aload X213.here hx rfl (hb hby d2_54) rfl rfl ?_
    refine XS.aload X213.here hx rfl (hb hby d2_56) rfl rfl ?_
    exact kt
  obtain ⟨cl214, Ar214, cq214, cS214, cN214, cH214, cG214⟩ := id V213
  refine own_go (B := T213.setTop (mkF m 73 #[.val (.ref a1), .val (.long (448 : Int64)), .second, .val (.int 2), .val (.ref b204), .val (.int 1), .unset, .unset, .unset, .unset, .unset, .unset, .unset] [(.int (own_bz (448 : Int64) 8)), (.int 126), (.ref b204)])) (fun tg kt => ?_) ?_
  · refine X213.arraylength hx (by rw [e213]; exact Ar214.1) (State.isArrayOf_alike hZ.alike Ar214.2.1) (g := (mkF m 58 #[.val (.ref a1), .val (.long (448 : Int64)), .second, .val (.int 2), .val (.ref b204), .val (.int 1), .unset, .unset, .unset, .unset, .unset, .unset, .unset] [(.ref b204), (.ref b204)])) rfl rfl (hb hby d2_58) _ ?_
    rw [len_of cS214 cN214]
    refine XS.iconst X213.here hx rfl (hb hby d2_59) ?_
    refine XS.isub X213.here hx rfl (hb hby d2_60) rfl ?_
    refine XS.iload X213.here hx rfl (hb hby d2_61) rfl ?_
    refine XS.isub X213.here hx rfl (hb hby d2_63) rfl ?_
    refine XS.lloadN X213.here hx rfl (hb hby d2_64) rfl ?_
    refine XS.bipush X213.here hx rfl (hb hby d2_65) ?_
    refine XS.iload X213.here hx rfl (hb hby d2_67) rfl ?_
    refine XS.imul X213.here hx rfl (hb hby d2_69) rfl ?_
    refine XS.lushr X213.here hx rfl (hb hby d2_70) rfl ?_
    refine XS.l2i X213.here hx rfl (hb hby d2_71) rfl ?_
    refine XS.i2b X213.here hx rfl (hb hby d2_72) rfl ?_
    exact kt
  obtain ⟨cl215, Ar215, cq215, cS215, cN215, cH215, cG215⟩ := id V213
  have hin215 := inb_of (j := (126 : Int32)) cS215 ⟨by decide, by decide⟩
  obtain ⟨T215, h215, X215, e215, W215, st215⟩ := stB X213 hx hZ e213 Ar215 (j := (126 : Int32)) hin215 (g := (mkF m 73 #[.val (.ref a1), .val (.long (448 : Int64)), .second, .val (.int 2), .val (.ref b204), .val (.int 1), .unset, .unset, .unset, .unset, .unset, .unset, .unset] [(.int (own_bz (448 : Int64) 8)), (.int 126), (.ref b204)])) rfl rfl (hb hby d2_73)
  refine own_go st215 ?_
  have V215 : Arv Z h215 b204 k204 .byte (128 : Int32) (own_tab 128 (fun j => if j = 126 then (own_bz (448 : Int64) 8) else (fun j => if j = 127 then (own_bz (448 : Int64) 0) else (fun j => if j = 56 then (-128) else (fun j => if j < 56 then B j else 0) j) j) j)) (.int 0) := by have q := Arv.set Ar215 cq215 cS215 cN215 cH215 cG215 (fits_nar_byte _) W215 126 rfl (by rw [own_tab_len]; decide); rw [own_tab_set _ _ (by decide), own_narB] at q; exact q
  have K215 : Keep h0 h215 [] := Keep.wr K213 W215 (Or.inr (Nat.le_of_eq g204.symm))
  have N215 := Fr.snoc X215 N213 (Nat.le_trans Z0 (Nat.le_of_eq g204.symm))
  refine own_go (B := T215.setTop (mkF m 58 #[.val (.ref a1), .val (.long (448 : Int64)), .second, .val (.int 2), .val (.ref b204), .val (.int 2), .unset, .unset, .unset, .unset, .unset, .unset, .unset] [(.ref b204), (.ref b204)])) (fun tg kt => ?_) ?_
  · refine XS.iinc X215.here hx rfl (hb hby d2_74) rfl (l' := #[.val (.ref a1), .val (.long (448 : Int64)), .second, .val (.int 2), .val (.ref b204), .val (.int 2), .unset, .unset, .unset, .unset, .unset, .unset, .unset]) rfl ?_
    refine XS.goto X215.here hx rfl (pc0 := 77) (pc' := 47) rfl (hb hby d2_77) (by decide) (by decide) ?_
    refine XS.iload X215.here hx rfl (hb hby d2_47) rfl ?_
    refine XS.bipush X215.here hx rfl (hb hby d2_49) ?_
    refine XS.icmpNo X215.here hx rfl (hb hby d2_51) rfl (tlt (by decide : (2 : Int32) < (8 : Int32))).2.1 ?_
    refine XS.aload X215.here hx rfl (hb hby d2_54) rfl rfl ?_
    refine XS.aload X215.here hx rfl (hb hby d2_56) rfl rfl ?_
    exact kt
  obtain ⟨cl216, Ar216, cq216, cS216, cN216, cH216, cG216⟩ := id V215
  refine own_go (B := T215.setTop (mkF m 73 #[.val (.ref a1), .val (.long (448 : Int64)), .second, .val (.int 2), .val (.ref b204), .val (.int 2), .unset, .unset, .unset, .unset, .unset, .unset, .unset] [(.int (own_bz (448 : Int64) 16)), (.int 125), (.ref b204)])) (fun tg kt => ?_) ?_
  · refine X215.arraylength hx (by rw [e215]; exact Ar216.1) (State.isArrayOf_alike hZ.alike Ar216.2.1) (g := (mkF m 58 #[.val (.ref a1), .val (.long (448 : Int64)), .second, .val (.int 2), .val (.ref b204), .val (.int 2), .unset, .unset, .unset, .unset, .unset, .unset, .unset] [(.ref b204), (.ref b204)])) rfl rfl (hb hby d2_58) _ ?_
    rw [len_of cS216 cN216]
    refine XS.iconst X215.here hx rfl (hb hby d2_59) ?_
    refine XS.isub X215.here hx rfl (hb hby d2_60) rfl ?_
    refine XS.iload X215.here hx rfl (hb hby d2_61) rfl ?_
    refine XS.isub X215.here hx rfl (hb hby d2_63) rfl ?_
    refine XS.lloadN X215.here hx rfl (hb hby d2_64) rfl ?_
    refine XS.bipush X215.here hx rfl (hb hby d2_65) ?_
    refine XS.iload X215.here hx rfl (hb hby d2_67) rfl ?_
    refine XS.imul X215.here hx rfl (hb hby d2_69) rfl ?_
    refine XS.lushr X215.here hx rfl (hb hby d2_70) rfl ?_
    refine XS.l2i X215.here hx rfl (hb hby d2_71) rfl ?_
    refine XS.i2b X215.here hx rfl (hb hby d2_72) rfl ?_
    exact kt
  obtain ⟨cl217, Ar217, cq217, cS217, cN217, cH217, cG217⟩ := id V215
  have hin217 := inb_of (j := (125 : Int32)) cS217 ⟨by decide, by decide⟩
  obtain ⟨T217, h217, X217, e217, W217, st217⟩ := stB X215 hx hZ e215 Ar217 (j := (125 : Int32)) hin217 (g := (mkF m 73 #[.val (.ref a1), .val (.long (448 : Int64)), .second, .val (.int 2), .val (.ref b204), .val (.int 2), .unset, .unset, .unset, .unset, .unset, .unset, .unset] [(.int (own_bz (448 : Int64) 16)), (.int 125), (.ref b204)])) rfl rfl (hb hby d2_73)
  refine own_go st217 ?_
  have V217 : Arv Z h217 b204 k204 .byte (128 : Int32) (own_tab 128 (fun j => if j = 125 then (own_bz (448 : Int64) 16) else (fun j => if j = 126 then (own_bz (448 : Int64) 8) else (fun j => if j = 127 then (own_bz (448 : Int64) 0) else (fun j => if j = 56 then (-128) else (fun j => if j < 56 then B j else 0) j) j) j) j)) (.int 0) := by have q := Arv.set Ar217 cq217 cS217 cN217 cH217 cG217 (fits_nar_byte _) W217 125 rfl (by rw [own_tab_len]; decide); rw [own_tab_set _ _ (by decide), own_narB] at q; exact q
  have K217 : Keep h0 h217 [] := Keep.wr K215 W217 (Or.inr (Nat.le_of_eq g204.symm))
  have N217 := Fr.snoc X217 N215 (Nat.le_trans Z0 (Nat.le_of_eq g204.symm))
  refine own_go (B := T217.setTop (mkF m 58 #[.val (.ref a1), .val (.long (448 : Int64)), .second, .val (.int 2), .val (.ref b204), .val (.int 3), .unset, .unset, .unset, .unset, .unset, .unset, .unset] [(.ref b204), (.ref b204)])) (fun tg kt => ?_) ?_
  · refine XS.iinc X217.here hx rfl (hb hby d2_74) rfl (l' := #[.val (.ref a1), .val (.long (448 : Int64)), .second, .val (.int 2), .val (.ref b204), .val (.int 3), .unset, .unset, .unset, .unset, .unset, .unset, .unset]) rfl ?_
    refine XS.goto X217.here hx rfl (pc0 := 77) (pc' := 47) rfl (hb hby d2_77) (by decide) (by decide) ?_
    refine XS.iload X217.here hx rfl (hb hby d2_47) rfl ?_
    refine XS.bipush X217.here hx rfl (hb hby d2_49) ?_
    refine XS.icmpNo X217.here hx rfl (hb hby d2_51) rfl (tlt (by decide : (3 : Int32) < (8 : Int32))).2.1 ?_
    refine XS.aload X217.here hx rfl (hb hby d2_54) rfl rfl ?_
    refine XS.aload X217.here hx rfl (hb hby d2_56) rfl rfl ?_
    exact kt
  obtain ⟨cl218, Ar218, cq218, cS218, cN218, cH218, cG218⟩ := id V217
  refine own_go (B := T217.setTop (mkF m 73 #[.val (.ref a1), .val (.long (448 : Int64)), .second, .val (.int 2), .val (.ref b204), .val (.int 3), .unset, .unset, .unset, .unset, .unset, .unset, .unset] [(.int (own_bz (448 : Int64) 24)), (.int 124), (.ref b204)])) (fun tg kt => ?_) ?_
  · refine X217.arraylength hx (by rw [e217]; exact Ar218.1) (State.isArrayOf_alike hZ.alike Ar218.2.1) (g := (mkF m 58 #[.val (.ref a1), .val (.long (448 : Int64)), .second, .val (.int 2), .val (.ref b204), .val (.int 3), .unset, .unset, .unset, .unset, .unset, .unset, .unset] [(.ref b204), (.ref b204)])) rfl rfl (hb hby d2_58) _ ?_
    rw [len_of cS218 cN218]
    refine XS.iconst X217.here hx rfl (hb hby d2_59) ?_
    refine XS.isub X217.here hx rfl (hb hby d2_60) rfl ?_
    refine XS.iload X217.here hx rfl (hb hby d2_61) rfl ?_
    refine XS.isub X217.here hx rfl (hb hby d2_63) rfl ?_
    refine XS.lloadN X217.here hx rfl (hb hby d2_64) rfl ?_
    refine XS.bipush X217.here hx rfl (hb hby d2_65) ?_
    refine XS.iload X217.here hx rfl (hb hby d2_67) rfl ?_
    refine XS.imul X217.here hx rfl (hb hby d2_69) rfl ?_
    refine XS.lushr X217.here hx rfl (hb hby d2_70) rfl ?_
    refine XS.l2i X217.here hx rfl (hb hby d2_71) rfl ?_
    refine XS.i2b X217.here hx rfl (hb hby d2_72) rfl ?_
    exact kt
  obtain ⟨cl219, Ar219, cq219, cS219, cN219, cH219, cG219⟩ := id V217
  have hin219 := inb_of (j := (124 : Int32)) cS219 ⟨by decide, by decide⟩
  obtain ⟨T219, h219, X219, e219, W219, st219⟩ := stB X217 hx hZ e217 Ar219 (j := (124 : Int32)) hin219 (g := (mkF m 73 #[.val (.ref a1), .val (.long (448 : Int64)), .second, .val (.int 2), .val (.ref b204), .val (.int 3), .unset, .unset, .unset, .unset, .unset, .unset, .unset] [(.int (own_bz (448 : Int64) 24)), (.int 124), (.ref b204)])) rfl rfl (hb hby d2_73)
  refine own_go st219 ?_
  have V219 : Arv Z h219 b204 k204 .byte (128 : Int32) (own_tab 128 (fun j => if j = 124 then (own_bz (448 : Int64) 24) else (fun j => if j = 125 then (own_bz (448 : Int64) 16) else (fun j => if j = 126 then (own_bz (448 : Int64) 8) else (fun j => if j = 127 then (own_bz (448 : Int64) 0) else (fun j => if j = 56 then (-128) else (fun j => if j < 56 then B j else 0) j) j) j) j) j)) (.int 0) := by have q := Arv.set Ar219 cq219 cS219 cN219 cH219 cG219 (fits_nar_byte _) W219 124 rfl (by rw [own_tab_len]; decide); rw [own_tab_set _ _ (by decide), own_narB] at q; exact q
  have K219 : Keep h0 h219 [] := Keep.wr K217 W219 (Or.inr (Nat.le_of_eq g204.symm))
  have N219 := Fr.snoc X219 N217 (Nat.le_trans Z0 (Nat.le_of_eq g204.symm))
  refine own_go (B := T219.setTop (mkF m 58 #[.val (.ref a1), .val (.long (448 : Int64)), .second, .val (.int 2), .val (.ref b204), .val (.int 4), .unset, .unset, .unset, .unset, .unset, .unset, .unset] [(.ref b204), (.ref b204)])) (fun tg kt => ?_) ?_
  · refine XS.iinc X219.here hx rfl (hb hby d2_74) rfl (l' := #[.val (.ref a1), .val (.long (448 : Int64)), .second, .val (.int 2), .val (.ref b204), .val (.int 4), .unset, .unset, .unset, .unset, .unset, .unset, .unset]) rfl ?_
    refine XS.goto X219.here hx rfl (pc0 := 77) (pc' := 47) rfl (hb hby d2_77) (by decide) (by decide) ?_
    refine XS.iload X219.here hx rfl (hb hby d2_47) rfl ?_
    refine XS.bipush X219.here hx rfl (hb hby d2_49) ?_
    refine XS.icmpNo X219.here hx rfl (hb hby d2_51) rfl (tlt (by decide : (4 : Int32) < (8 : Int32))).2.1 ?_
    refine XS.aload X219.here hx rfl (hb hby d2_54) rfl rfl ?_
    refine XS.aload X219.here hx rfl (hb hby d2_56) rfl rfl ?_
    exact kt
  obtain ⟨cl220, Ar220, cq220, cS220, cN220, cH220, cG220⟩ := id V219
  refine own_go (B := T219.setTop (mkF m 73 #[.val (.ref a1), .val (.long (448 : Int64)), .second, .val (.int 2), .val (.ref b204), .val (.int 4), .unset, .unset, .unset, .unset, .unset, .unset, .unset] [(.int (own_bz (448 : Int64) 32)), (.int 123), (.ref b204)])) (fun tg kt => ?_) ?_
  · refine X219.arraylength hx (by rw [e219]; exact Ar220.1) (State.isArrayOf_alike hZ.alike Ar220.2.1) (g := (mkF m 58 #[.val (.ref a1), .val (.long (448 : Int64)), .second, .val (.int 2), .val (.ref b204), .val (.int 4), .unset, .unset, .unset, .unset, .unset, .unset, .unset] [(.ref b204), (.ref b204)])) rfl rfl (hb hby d2_58) _ ?_
    rw [len_of cS220 cN220]
    refine XS.iconst X219.here hx rfl (hb hby d2_59) ?_
    refine XS.isub X219.here hx rfl (hb hby d2_60) rfl ?_
    refine XS.iload X219.here hx rfl (hb hby d2_61) rfl ?_
    refine XS.isub X219.here hx rfl (hb hby d2_63) rfl ?_
    refine XS.lloadN X219.here hx rfl (hb hby d2_64) rfl ?_
    refine XS.bipush X219.here hx rfl (hb hby d2_65) ?_
    refine XS.iload X219.here hx rfl (hb hby d2_67) rfl ?_
    refine XS.imul X219.here hx rfl (hb hby d2_69) rfl ?_
    refine XS.lushr X219.here hx rfl (hb hby d2_70) rfl ?_
    refine XS.l2i X219.here hx rfl (hb hby d2_71) rfl ?_
    refine XS.i2b X219.here hx rfl (hb hby d2_72) rfl ?_
    exact kt
  obtain ⟨cl221, Ar221, cq221, cS221, cN221, cH221, cG221⟩ := id V219
  have hin221 := inb_of (j := (123 : Int32)) cS221 ⟨by decide, by decide⟩
  obtain ⟨T221, h221, X221, e221, W221, st221⟩ := stB X219 hx hZ e219 Ar221 (j := (123 : Int32)) hin221 (g := (mkF m 73 #[.val (.ref a1), .val (.long (448 : Int64)), .second, .val (.int 2), .val (.ref b204), .val (.int 4), .unset, .unset, .unset, .unset, .unset, .unset, .unset] [(.int (own_bz (448 : Int64) 32)), (.int 123), (.ref b204)])) rfl rfl (hb hby d2_73)
  refine own_go st221 ?_
  have V221 : Arv Z h221 b204 k204 .byte (128 : Int32) (own_tab 128 (fun j => if j = 123 then (own_bz (448 : Int64) 32) else (fun j => if j = 124 then (own_bz (448 : Int64) 24) else (fun j => if j = 125 then (own_bz (448 : Int64) 16) else (fun j => if j = 126 then (own_bz (448 : Int64) 8) else (fun j => if j = 127 then (own_bz (448 : Int64) 0) else (fun j => if j = 56 then (-128) else (fun j => if j < 56 then B j else 0) j) j) j) j) j) j)) (.int 0) := by have q := Arv.set Ar221 cq221 cS221 cN221 cH221 cG221 (fits_nar_byte _) W221 123 rfl (by rw [own_tab_len]; decide); rw [own_tab_set _ _ (by decide), own_narB] at q; exact q
  have K221 : Keep h0 h221 [] := Keep.wr K219 W221 (Or.inr (Nat.le_of_eq g204.symm))
  have N221 := Fr.snoc X221 N219 (Nat.le_trans Z0 (Nat.le_of_eq g204.symm))
  refine own_go (B := T221.setTop (mkF m 58 #[.val (.ref a1), .val (.long (448 : Int64)), .second, .val (.int 2), .val (.ref b204), .val (.int 5), .unset, .unset, .unset, .unset, .unset, .unset, .unset] [(.ref b204), (.ref b204)])) (fun tg kt => ?_) ?_
  · refine XS.iinc X221.here hx rfl (hb hby d2_74) rfl (l' := #[.val (.ref a1), .val (.long (448 : Int64)), .second, .val (.int 2), .val (.ref b204), .val (.int 5), .unset, .unset, .unset, .unset, .unset, .unset, .unset]) rfl ?_
    refine XS.goto X221.here hx rfl (pc0 := 77) (pc' := 47) rfl (hb hby d2_77) (by decide) (by decide) ?_
    refine XS.iload X221.here hx rfl (hb hby d2_47) rfl ?_
    refine XS.bipush X221.here hx rfl (hb hby d2_49) ?_
    refine XS.icmpNo X221.here hx rfl (hb hby d2_51) rfl (tlt (by decide : (5 : Int32) < (8 : Int32))).2.1 ?_
    refine XS.aload X221.here hx rfl (hb hby d2_54) rfl rfl ?_
    refine XS.aload X221.here hx rfl (hb hby d2_56) rfl rfl ?_
    exact kt
  obtain ⟨cl222, Ar222, cq222, cS222, cN222, cH222, cG222⟩ := id V221
  refine own_go (B := T221.setTop (mkF m 73 #[.val (.ref a1), .val (.long (448 : Int64)), .second, .val (.int 2), .val (.ref b204), .val (.int 5), .unset, .unset, .unset, .unset, .unset, .unset, .unset] [(.int (own_bz (448 : Int64) 40)), (.int 122), (.ref b204)])) (fun tg kt => ?_) ?_
  · refine X221.arraylength hx (by rw [e221]; exact Ar222.1) (State.isArrayOf_alike hZ.alike Ar222.2.1) (g := (mkF m 58 #[.val (.ref a1), .val (.long (448 : Int64)), .second, .val (.int 2), .val (.ref b204), .val (.int 5), .unset, .unset, .unset, .unset, .unset, .unset, .unset] [(.ref b204), (.ref b204)])) rfl rfl (hb hby d2_58) _ ?_
    rw [len_of cS222 cN222]
    refine XS.iconst X221.here hx rfl (hb hby d2_59) ?_
    refine XS.isub X221.here hx rfl (hb hby d2_60) rfl ?_
    refine XS.iload X221.here hx rfl (hb hby d2_61) rfl ?_
    refine XS.isub X221.here hx rfl (hb hby d2_63) rfl ?_
    refine XS.lloadN X221.here hx rfl (hb hby d2_64) rfl ?_
    refine XS.bipush X221.here hx rfl (hb hby d2_65) ?_
    refine XS.iload X221.here hx rfl (hb hby d2_67) rfl ?_
    refine XS.imul X221.here hx rfl (hb hby d2_69) rfl ?_
    refine XS.lushr X221.here hx rfl (hb hby d2_70) rfl ?_
    refine XS.l2i X221.here hx rfl (hb hby d2_71) rfl ?_
    refine XS.i2b X221.here hx rfl (hb hby d2_72) rfl ?_
    exact kt
  obtain ⟨cl223, Ar223, cq223, cS223, cN223, cH223, cG223⟩ := id V221
  have hin223 := inb_of (j := (122 : Int32)) cS223 ⟨by decide, by decide⟩
  obtain ⟨T223, h223, X223, e223, W223, st223⟩ := stB X221 hx hZ e221 Ar223 (j := (122 : Int32)) hin223 (g := (mkF m 73 #[.val (.ref a1), .val (.long (448 : Int64)), .second, .val (.int 2), .val (.ref b204), .val (.int 5), .unset, .unset, .unset, .unset, .unset, .unset, .unset] [(.int (own_bz (448 : Int64) 40)), (.int 122), (.ref b204)])) rfl rfl (hb hby d2_73)
  refine own_go st223 ?_
  have V223 : Arv Z h223 b204 k204 .byte (128 : Int32) (own_tab 128 (fun j => if j = 122 then (own_bz (448 : Int64) 40) else (fun j => if j = 123 then (own_bz (448 : Int64) 32) else (fun j => if j = 124 then (own_bz (448 : Int64) 24) else (fun j => if j = 125 then (own_bz (448 : Int64) 16) else (fun j => if j = 126 then (own_bz (448 : Int64) 8) else (fun j => if j = 127 then (own_bz (448 : Int64) 0) else (fun j => if j = 56 then (-128) else (fun j => if j < 56 then B j else 0) j) j) j) j) j) j) j)) (.int 0) := by have q := Arv.set Ar223 cq223 cS223 cN223 cH223 cG223 (fits_nar_byte _) W223 122 rfl (by rw [own_tab_len]; decide); rw [own_tab_set _ _ (by decide), own_narB] at q; exact q
  have K223 : Keep h0 h223 [] := Keep.wr K221 W223 (Or.inr (Nat.le_of_eq g204.symm))
  have N223 := Fr.snoc X223 N221 (Nat.le_trans Z0 (Nat.le_of_eq g204.symm))
  refine own_go (B := T223.setTop (mkF m 58 #[.val (.ref a1), .val (.long (448 : Int64)), .second, .val (.int 2), .val (.ref b204), .val (.int 6), .unset, .unset, .unset, .unset, .unset, .unset, .unset] [(.ref b204), (.ref b204)])) (fun tg kt => ?_) ?_
  · refine XS.iinc X223.here hx rfl (hb hby d2_74) rfl (l' := #[.val (.ref a1), .val (.long (448 : Int64)), .second, .val (.int 2), .val (.ref b204), .val (.int 6), .unset, .unset, .unset, .unset, .unset, .unset, .unset]) rfl ?_
    refine XS.goto X223.here hx rfl (pc0 := 77) (pc' := 47) rfl (hb hby d2_77) (by decide) (by decide) ?_
    refine XS.iload X223.here hx rfl (hb hby d2_47) rfl ?_
    refine XS.bipush X223.here hx rfl (hb hby d2_49) ?_
    refine XS.icmpNo X223.here hx rfl (hb hby d2_51) rfl (tlt (by decide : (6 : Int32) < (8 : Int32))).2.1 ?_
    refine XS.aload X223.here hx rfl (hb hby d2_54) rfl rfl ?_
    refine XS.aload X223.here hx rfl (hb hby d2_56) rfl rfl ?_
    exact kt
  obtain ⟨cl224, Ar224, cq224, cS224, cN224, cH224, cG224⟩ := id V223
  refine own_go (B := T223.setTop (mkF m 73 #[.val (.ref a1), .val (.long (448 : Int64)), .second, .val (.int 2), .val (.ref b204), .val (.int 6), .unset, .unset, .unset, .unset, .unset, .unset, .unset] [(.int (own_bz (448 : Int64) 48)), (.int 121), (.ref b204)])) (fun tg kt => ?_) ?_
  · refine X223.arraylength hx (by rw [e223]; exact Ar224.1) (State.isArrayOf_alike hZ.alike Ar224.2.1) (g := (mkF m 58 #[.val (.ref a1), .val (.long (448 : Int64)), .second, .val (.int 2), .val (.ref b204), .val (.int 6), .unset, .unset, .unset, .unset, .unset, .unset, .unset] [(.ref b204), (.ref b204)])) rfl rfl (hb hby d2_58) _ ?_
    rw [len_of cS224 cN224]
    refine XS.iconst X223.here hx rfl (hb hby d2_59) ?_
    refine XS.isub X223.here hx rfl (hb hby d2_60) rfl ?_
    refine XS.iload X223.here hx rfl (hb hby d2_61) rfl ?_
    refine XS.isub X223.here hx rfl (hb hby d2_63) rfl ?_
    refine XS.lloadN X223.here hx rfl (hb hby d2_64) rfl ?_
    refine XS.bipush X223.here hx rfl (hb hby d2_65) ?_
    refine XS.iload X223.here hx rfl (hb hby d2_67) rfl ?_
    refine XS.imul X223.here hx rfl (hb hby d2_69) rfl ?_
    refine XS.lushr X223.here hx rfl (hb hby d2_70) rfl ?_
    refine XS.l2i X223.here hx rfl (hb hby d2_71) rfl ?_
    refine XS.i2b X223.here hx rfl (hb hby d2_72) rfl ?_
    exact kt
  obtain ⟨cl225, Ar225, cq225, cS225, cN225, cH225, cG225⟩ := id V223
  have hin225 := inb_of (j := (121 : Int32)) cS225 ⟨by decide, by decide⟩
  obtain ⟨T225, h225, X225, e225, W225, st225⟩ := stB X223 hx hZ e223 Ar225 (j := (121 : Int32)) hin225 (g := (mkF m 73 #[.val (.ref a1), .val (.long (448 : Int64)), .second, .val (.int 2), .val (.ref b204), .val (.int 6), .unset, .unset, .unset, .unset, .unset, .unset, .unset] [(.int (own_bz (448 : Int64) 48)), (.int 121), (.ref b204)])) rfl rfl (hb hby d2_73)
  refine own_go st225 ?_
  have V225 : Arv Z h225 b204 k204 .byte (128 : Int32) (own_tab 128 (fun j => if j = 121 then (own_bz (448 : Int64) 48) else (fun j => if j = 122 then (own_bz (448 : Int64) 40) else (fun j => if j = 123 then (own_bz (448 : Int64) 32) else (fun j => if j = 124 then (own_bz (448 : Int64) 24) else (fun j => if j = 125 then (own_bz (448 : Int64) 16) else (fun j => if j = 126 then (own_bz (448 : Int64) 8) else (fun j => if j = 127 then (own_bz (448 : Int64) 0) else (fun j => if j = 56 then (-128) else (fun j => if j < 56 then B j else 0) j) j) j) j) j) j) j) j)) (.int 0) := by have q := Arv.set Ar225 cq225 cS225 cN225 cH225 cG225 (fits_nar_byte _) W225 121 rfl (by rw [own_tab_len]; decide); rw [own_tab_set _ _ (by decide), own_narB] at q; exact q
  have K225 : Keep h0 h225 [] := Keep.wr K223 W225 (Or.inr (Nat.le_of_eq g204.symm))
  have N225 := Fr.snoc X225 N223 (Nat.le_trans Z0 (Nat.le_of_eq g204.symm))
  refine own_go (B := T225.setTop (mkF m 58 #[.val (.ref a1), .val (.long (448 : Int64)), .second, .val (.int 2), .val (.ref b204), .val (.int 7), .unset, .unset, .unset, .unset, .unset, .unset, .unset] [(.ref b204), (.ref b204)])) (fun tg kt => ?_) ?_
  · refine XS.iinc X225.here hx rfl (hb hby d2_74) rfl (l' := #[.val (.ref a1), .val (.long (448 : Int64)), .second, .val (.int 2), .val (.ref b204), .val (.int 7), .unset, .unset, .unset, .unset, .unset, .unset, .unset]) rfl ?_
    refine XS.goto X225.here hx rfl (pc0 := 77) (pc' := 47) rfl (hb hby d2_77) (by decide) (by decide) ?_
    refine XS.iload X225.here hx rfl (hb hby d2_47) rfl ?_
    refine XS.bipush X225.here hx rfl (hb hby d2_49) ?_
    refine XS.icmpNo X225.here hx rfl (hb hby d2_51) rfl (tlt (by decide : (7 : Int32) < (8 : Int32))).2.1 ?_
    refine XS.aload X225.here hx rfl (hb hby d2_54) rfl rfl ?_
    refine XS.aload X225.here hx rfl (hb hby d2_56) rfl rfl ?_
    exact kt
  obtain ⟨cl226, Ar226, cq226, cS226, cN226, cH226, cG226⟩ := id V225
  refine own_go (B := T225.setTop (mkF m 73 #[.val (.ref a1), .val (.long (448 : Int64)), .second, .val (.int 2), .val (.ref b204), .val (.int 7), .unset, .unset, .unset, .unset, .unset, .unset, .unset] [(.int (own_bz (448 : Int64) 56)), (.int 120), (.ref b204)])) (fun tg kt => ?_) ?_
  · refine X225.arraylength hx (by rw [e225]; exact Ar226.1) (State.isArrayOf_alike hZ.alike Ar226.2.1) (g := (mkF m 58 #[.val (.ref a1), .val (.long (448 : Int64)), .second, .val (.int 2), .val (.ref b204), .val (.int 7), .unset, .unset, .unset, .unset, .unset, .unset, .unset] [(.ref b204), (.ref b204)])) rfl rfl (hb hby d2_58) _ ?_
    rw [len_of cS226 cN226]
    refine XS.iconst X225.here hx rfl (hb hby d2_59) ?_
    refine XS.isub X225.here hx rfl (hb hby d2_60) rfl ?_
    refine XS.iload X225.here hx rfl (hb hby d2_61) rfl ?_
    refine XS.isub X225.here hx rfl (hb hby d2_63) rfl ?_
    refine XS.lloadN X225.here hx rfl (hb hby d2_64) rfl ?_
    refine XS.bipush X225.here hx rfl (hb hby d2_65) ?_
    refine XS.iload X225.here hx rfl (hb hby d2_67) rfl ?_
    refine XS.imul X225.here hx rfl (hb hby d2_69) rfl ?_
    refine XS.lushr X225.here hx rfl (hb hby d2_70) rfl ?_
    refine XS.l2i X225.here hx rfl (hb hby d2_71) rfl ?_
    refine XS.i2b X225.here hx rfl (hb hby d2_72) rfl ?_
    exact kt
  obtain ⟨cl227, Ar227, cq227, cS227, cN227, cH227, cG227⟩ := id V225
  have hin227 := inb_of (j := (120 : Int32)) cS227 ⟨by decide, by decide⟩
  obtain ⟨T227, h227, X227, e227, W227, st227⟩ := stB X225 hx hZ e225 Ar227 (j := (120 : Int32)) hin227 (g := (mkF m 73 #[.val (.ref a1), .val (.long (448 : Int64)), .second, .val (.int 2), .val (.ref b204), .val (.int 7), .unset, .unset, .unset, .unset, .unset, .unset, .unset] [(.int (own_bz (448 : Int64) 56)), (.int 120), (.ref b204)])) rfl rfl (hb hby d2_73)
  refine own_go st227 ?_
  have V227 : Arv Z h227 b204 k204 .byte (128 : Int32) (own_tab 128 (fun j => if j = 120 then (own_bz (448 : Int64) 56) else (fun j => if j = 121 then (own_bz (448 : Int64) 48) else (fun j => if j = 122 then (own_bz (448 : Int64) 40) else (fun j => if j = 123 then (own_bz (448 : Int64) 32) else (fun j => if j = 124 then (own_bz (448 : Int64) 24) else (fun j => if j = 125 then (own_bz (448 : Int64) 16) else (fun j => if j = 126 then (own_bz (448 : Int64) 8) else (fun j => if j = 127 then (own_bz (448 : Int64) 0) else (fun j => if j = 56 then (-128) else (fun j => if j < 56 then B j else 0) j) j) j) j) j) j) j) j) j)) (.int 0) := by have q := Arv.set Ar227 cq227 cS227 cN227 cH227 cG227 (fits_nar_byte _) W227 120 rfl (by rw [own_tab_len]; decide); rw [own_tab_set _ _ (by decide), own_narB] at q; exact q
  have K227 : Keep h0 h227 [] := Keep.wr K225 W227 (Or.inr (Nat.le_of_eq g204.symm))
  have N227 := Fr.snoc X227 N225 (Nat.le_trans Z0 (Nat.le_of_eq g204.symm))
  have V228 : Arv Z h227 b204 k204 .byte (128 : Int32) (own_tab 128 (own_gB B)) (.int 0) := V227
  refine own_go (B := T227.setTop (mkF m 80 #[.val (.ref a1), .val (.long (448 : Int64)), .second, .val (.int 2), .val (.ref b204), .val (.int 8), .unset, .unset, .unset, .unset, .unset, .unset, .unset] [])) (fun tg kt => ?_) ?_
  · refine XS.iinc X227.here hx rfl (hb hby d2_74) rfl (l' := #[.val (.ref a1), .val (.long (448 : Int64)), .second, .val (.int 2), .val (.ref b204), .val (.int 8), .unset, .unset, .unset, .unset, .unset, .unset, .unset]) rfl ?_
    refine XS.goto X227.here hx rfl (pc0 := 77) (pc' := 47) rfl (hb hby d2_77) (by decide) (by decide) ?_
    refine XS.iload X227.here hx rfl (hb hby d2_47) rfl ?_
    refine XS.bipush X227.here hx rfl (hb hby d2_49) ?_
    refine XS.icmpYes X227.here hx rfl (pc0 := 51) (pc' := 80) rfl (hb hby d2_51) rfl (flt (by decide : ¬ ((8 : Int32) < (8 : Int32)))).2.1 (by decide) (by decide) ?_
    exact kt
  have f230 : Sta Z h227 "tributary/Digests" "INITIAL" "[I" (.ref w_INITIAL) := ((((((((((own_staKeep (S_INITIAL.ext E204) K207' (own_nsS (own_nsV V204) own_ns0)).wr W211).wr W213).wr W215).wr W217).wr W219).wr W221).wr W223).wr W225).wr W227)
  obtain ⟨T229, X229, e229, st229⟩ := getS2 X227 hx hZ hown (host := "") (Or.inl (hw _ (List.mem_of_getElem? (i := 15) rfl))) Via.refl e227 f230 (g := (mkF m 80 #[.val (.ref a1), .val (.long (448 : Int64)), .second, .val (.int 2), .val (.ref b204), .val (.int 8), .unset, .unset, .unset, .unset, .unset, .unset, .unset] [])) rfl (hb hby d2_80)
  refine own_go st229 ?_
  have ne232 : w_INITIAL ≠ b204 := (Nat.ne_of_lt (Nat.lt_of_lt_of_le E_INITIAL.lt (Nat.le_of_eq g204.symm)))
  have f233 : Arv Z h227 w_INITIAL k_INITIAL .int (8 : Int32) [(.int 1779033703), (.int (-1150833019)), (.int 1013904242), (.int (-1521486534)), (.int 1359893119), (.int (-1694144372)), (.int 528734635), (.int 1541459225)] (.int 0) := (((((((((((V_INITIAL.ext E204).keep K207' (ninS ne232 nin0)).other W211 ne232).other W213 ne232).other W215 ne232).other W217 ne232).other W219 ne232).other W221 ne232).other W223 ne232).other W225 ne232).other W227 ne232)
  have f234 : Exa Z h227 w_INITIAL "[I" := (((((((((((E_INITIAL.ext E204).keep K207').wr W211).wr W213).wr W215).wr W217).wr W219).wr W221).wr W223).wr W225).wr W227)
  obtain ⟨T231, h231, X231, e231, E231, V231', A231, st231⟩ := cloneH X229 hx hZ hown (hw _ (List.mem_of_getElem? (i := 17) rfl)) (hw _ (List.mem_of_getElem? (i := 18) rfl)) (hw _ (List.mem_of_getElem? (i := 22) rfl)) (hw _ (List.mem_of_getElem? (i := 20) rfl)) (hw _ (List.mem_of_getElem? (i := 21) rfl)) (hw _ (List.mem_of_getElem? (i := 23) rfl)) e229 f233.arh f234 (g := (mkF m 83 #[.val (.ref a1), .val (.long (448 : Int64)), .second, .val (.int 2), .val (.ref b204), .val (.int 8), .unset, .unset, .unset, .unset, .unset, .unset, .unset] [(.ref w_INITIAL)])) rfl (by rw [hml]; rfl) (rest := []) rfl (hb hby d2_83) (by decide) (W := 0) (cap := 8) (by show 2 * 0 + _ ≤ _; exact Nat.le_of_eq rfl) (by decide) (by decide) (by decide) (by decide)
  obtain ⟨b231, g231⟩ : ∃ z, z = h227.size := ⟨_, rfl⟩
  rw [← g231] at V231' A231 st231
  refine own_go st231 ?_
  have K231 : Keep h0 h231 [] := Keep.ext K227 E231
  have V231 : Arv Z h231 b231 k_INITIAL .int (8 : Int32) [(.int 1779033703), (.int (-1150833019)), (.int 1013904242), (.int (-1521486534)), (.int 1359893119), (.int (-1694144372)), (.int 528734635), (.int 1541459225)] (.int 0) := V231'
  obtain ⟨T235, X235, e235, st235⟩ := castY X231 hx hZ hown (hw _ (List.mem_of_getElem? (i := 24) rfl)) e231 (Ins.self A231) (g := (mkF m 86 #[.val (.ref a1), .val (.long (448 : Int64)), .second, .val (.int 2), .val (.ref b204), .val (.int 8), .unset, .unset, .unset, .unset, .unset, .unset, .unset] [(.ref b231)])) rfl rfl (hb hby d2_86)
  refine own_go st235 ?_
  refine own_go (B := T235.setTop (mkF m 93 #[.val (.ref a1), .val (.long (448 : Int64)), .second, .val (.int 2), .val (.ref b204), .val (.ref b231), .unset, .unset, .unset, .unset, .unset, .unset, .unset] [(.int 64)])) (fun tg kt => ?_) ?_
  · refine XS.astore X235.here hx rfl (hb hby d2_89) rfl rfl (l' := #[.val (.ref a1), .val (.long (448 : Int64)), .second, .val (.int 2), .val (.ref b204), .val (.ref b231), .unset, .unset, .unset, .unset, .unset, .unset, .unset]) rfl ?_
    refine XS.bipush X235.here hx rfl (hb hby d2_91) ?_
    exact kt
  obtain ⟨T236, h236, k236, X236, e236, E236, A236, st236⟩ := newP X235 hx hZ (hw _ (List.mem_of_getElem? (i := 26) rfl)) e235 (g := (mkF m 93 #[.val (.ref a1), .val (.long (448 : Int64)), .second, .val (.int 2), .val (.ref b204), .val (.ref b231), .unset, .unset, .unset, .unset, .unset, .unset, .unset] [(.int 64)])) rfl (hb hby d2_93) rfl (by decide) (cap := 64) (by decide) (by decide) (by decide) (by decide)
  obtain ⟨b236, g236⟩ : ∃ z, z = h231.size := ⟨_, rfl⟩
  rw [← g236] at A236 st236
  refine own_go st236 ?_
  have K236 : Keep h0 h236 [] := Keep.ext K231 E236
  have V236 : Arv Z h236 b236 k236 .int (64 : Int32) (own_tab 64 (fun _ => 0)) (.int 0) := (Arv.new A236 (by decide)).pad (own_tab0 64)
  refine own_go (B := T236.setTop (mkF m 109 #[.val (.ref a1), .val (.long (448 : Int64)), .second, .val (.int 2), .val (.ref b204), .val (.ref b231), .val (.ref b236), .val (.int 0), .val (.int 0), .unset, .unset, .unset, .unset] [])) (fun tg kt => ?_) ?_
  · refine XS.astore X236.here hx rfl (hb hby d2_95) rfl rfl (l' := #[.val (.ref a1), .val (.long (448 : Int64)), .second, .val (.int 2), .val (.ref b204), .val (.ref b231), .val (.ref b236), .unset, .unset, .unset, .unset, .unset, .unset]) rfl ?_
    refine XS.iconst X236.here hx rfl (hb hby d2_97) ?_
    refine XS.istore X236.here hx rfl (hb hby d2_98) rfl (l' := #[.val (.ref a1), .val (.long (448 : Int64)), .second, .val (.int 2), .val (.ref b204), .val (.ref b231), .val (.ref b236), .val (.int 0), .unset, .unset, .unset, .unset, .unset]) rfl ?_
    refine XS.iload X236.here hx rfl (hb hby d2_100) rfl ?_
    refine XS.iloadN X236.here hx rfl (hb hby d2_102) rfl ?_
    refine XS.icmpNo X236.here hx rfl (hb hby d2_103) rfl (tlt (by decide : (0 : Int32) < (2 : Int32))).2.1 ?_
    refine XS.iconst X236.here hx rfl (hb hby d2_106) ?_
    refine XS.istore X236.here hx rfl (hb hby d2_107) rfl (l' := #[.val (.ref a1), .val (.long (448 : Int64)), .second, .val (.int 2), .val (.ref b204), .val (.ref b231), .val (.ref b236), .val (.int 0), .val (.int 0), .unset, .unset, .unset, .unset]) rfl ?_
    exact kt
  have low237_b204 : h0.size ≤ b204 := (Nat.le_of_eq g204.symm)
  have le238 : h0.size ≤ h227.size := (Nat.le_trans (Nat.le_trans (Nat.le_trans (Nat.le_trans (Nat.le_trans (Nat.le_trans (Nat.le_trans (Nat.le_trans (Nat.le_trans (Nat.le_trans E204.1 K207'.1) (Nat.le_of_eq (Wr.size W211).symm)) (Nat.le_of_eq (Wr.size W213).symm)) (Nat.le_of_eq (Wr.size W215).symm)) (Nat.le_of_eq (Wr.size W217).symm)) (Nat.le_of_eq (Wr.size W219).symm)) (Nat.le_of_eq (Wr.size W221).symm)) (Nat.le_of_eq (Wr.size W223).symm)) (Nat.le_of_eq (Wr.size W225).symm)) (Nat.le_of_eq (Wr.size W227).symm))
  have low237_b231 : h0.size ≤ b231 := (Nat.le_trans le238 (Nat.le_of_eq g231.symm))
  have le239 : h0.size ≤ h231.size := (Nat.le_trans (Nat.le_trans (Nat.le_trans (Nat.le_trans (Nat.le_trans (Nat.le_trans (Nat.le_trans (Nat.le_trans (Nat.le_trans (Nat.le_trans (Nat.le_trans E204.1 K207'.1) (Nat.le_of_eq (Wr.size W211).symm)) (Nat.le_of_eq (Wr.size W213).symm)) (Nat.le_of_eq (Wr.size W215).symm)) (Nat.le_of_eq (Wr.size W217).symm)) (Nat.le_of_eq (Wr.size W219).symm)) (Nat.le_of_eq (Wr.size W221).symm)) (Nat.le_of_eq (Wr.size W223).symm)) (Nat.le_of_eq (Wr.size W225).symm)) (Nat.le_of_eq (Wr.size W227).symm)) E231.1)
  have low237_b236 : h0.size ≤ b236 := (Nat.le_trans le239 (Nat.le_of_eq g236.symm))
  have le240 : h204.size ≤ h227.size := (Nat.le_trans (Nat.le_trans (Nat.le_trans (Nat.le_trans (Nat.le_trans (Nat.le_trans (Nat.le_trans (Nat.le_trans (Nat.le_trans K207'.1 (Nat.le_of_eq (Wr.size W211).symm)) (Nat.le_of_eq (Wr.size W213).symm)) (Nat.le_of_eq (Wr.size W215).symm)) (Nat.le_of_eq (Wr.size W217).symm)) (Nat.le_of_eq (Wr.size W219).symm)) (Nat.le_of_eq (Wr.size W221).symm)) (Nat.le_of_eq (Wr.size W223).symm)) (Nat.le_of_eq (Wr.size W225).symm)) (Nat.le_of_eq (Wr.size W227).symm))
  have ne241 : b204 ≠ b231 := (Nat.ne_of_lt (Nat.lt_of_lt_of_le (Nat.lt_of_lt_of_le V204.lt le240) (Nat.le_of_eq g231.symm)))
  have le242 : h204.size ≤ h231.size := (Nat.le_trans (Nat.le_trans (Nat.le_trans (Nat.le_trans (Nat.le_trans (Nat.le_trans (Nat.le_trans (Nat.le_trans (Nat.le_trans (Nat.le_trans K207'.1 (Nat.le_of_eq (Wr.size W211).symm)) (Nat.le_of_eq (Wr.size W213).symm)) (Nat.le_of_eq (Wr.size W215).symm)) (Nat.le_of_eq (Wr.size W217).symm)) (Nat.le_of_eq (Wr.size W219).symm)) (Nat.le_of_eq (Wr.size W221).symm)) (Nat.le_of_eq (Wr.size W223).symm)) (Nat.le_of_eq (Wr.size W225).symm)) (Nat.le_of_eq (Wr.size W227).symm)) E231.1)
  have ne243 : b204 ≠ b236 := (Nat.ne_of_lt (Nat.lt_of_lt_of_le (Nat.lt_of_lt_of_le V204.lt le242) (Nat.le_of_eq g236.symm)))
  have ne244 : b231 ≠ b236 := (Nat.ne_of_lt (Nat.lt_of_lt_of_le V231.lt (Nat.le_of_eq g236.symm)))
  have f245 : Arv Z h236 b204 k204 .byte (128 : Int32) (own_tab 128 (own_gB B)) (.int 0) := ((V228.ext E231).ext E236)
  have f246 : Arv Z h236 b231 k_INITIAL .int (8 : Int32) [(.int 1779033703), (.int (-1150833019)), (.int 1013904242), (.int (-1521486534)), (.int 1359893119), (.int (-1694144372)), (.int 528734635), (.int 1541459225)] (.int 0) := (V231.ext E236)
  have f247 : Exa Z h236 b231 "[I" := (A231.ext E236)
  have loop237 : ∀ (k t : Nat) (T_237 : State) (h_237 : Heap) (lo_237 : List Loc) (z237_9 : Slot), k + t = 16 → Stand p l e ({ frames := 2, cells := 4, slots := 232, locals := 41 } : Room) s m #[(.ref a1)] below meth c T_237 lo_237 3 200 → T_237.heap = h_237 → Fr n0 lo_237 → Keep h0 h_237 [] → One z237_9 → Arv Z h_237 b204 k204 .byte (128 : Int32) (own_tab 128 (own_gB B)) (.int 0) → Arv Z h_237 b231 k_INITIAL .int (8 : Int32) [(.int 1779033703), (.int (-1150833019)), (.int 1013904242), (.int (-1521486534)), (.int 1359893119), (.int (-1694144372)), (.int 528734635), (.int 1541459225)] (.int 0) → Exa Z h_237 b231 "[I" → Arv Z h_237 b236 k236 .int (64 : Int32) (own_tab 64 (own_wa (own_gB B) 0 (fun _ => 0) t)) (.int 0) → ∃ s₂ o, Steps p.tables e below (T_237.setTop (mkF m 109 #[.val (.ref a1), .val (.long (448 : Int64)), .second, .val (.int 2), .val (.ref b204), .val (.ref b231), .val (.ref b236), .val (.int 0), .val (.int (Int32.ofNat t)), z237_9, .unset, .unset, .unset] [])) s₂ ∧ s₂.status = .running ∧ Ended s₂ below o ∧ ∃ v L, o = .returned v ∧ Q2B Z a1 w_ROUND k_ROUND w_INITIAL k_INITIAL k1 vs B h0 n0 v s₂.heap L ∧ FrameEnd s o s₂ L ({ frames := 2, cells := 4, slots := 232, locals := 41 } : Room).cells ({ frames := 2, cells := 4, slots := 232, locals := 41 } : Room).slots := by
    intro k
    induction k with
    | zero =>
      intro t T_237 h_237 lo_237 z237_9 hkt237 X_237 e_237 N_237 K_237 hz237_9 fl237_0 fl237_1 fl237_2 fl237_3
      obtain rfl : t = 16 := by omega
      refine own_go (B := T_237.setTop (mkF m 197 #[.val (.ref a1), .val (.long (448 : Int64)), .second, .val (.int 2), .val (.ref b204), .val (.ref b231), .val (.ref b236), .val (.int 0), .val (.int 16), z237_9, .unset, .unset, .unset] [])) (fun tg kt => ?_) ?_
      · refine XS.iload X_237.here hx rfl (hb hby d2_109) rfl ?_
        refine XS.bipush X_237.here hx rfl (hb hby d2_111) ?_
        refine XS.icmpYes X_237.here hx rfl (pc0 := 113) (pc' := 193) rfl (hb hby d2_113) rfl (flt (show ¬ ((Int32.ofNat 16) < (16 : Int32)) from (by decide))).2.1 (by decide) (by decide) ?_
        refine XS.bipush X_237.here hx rfl (hb hby d2_193) ?_
        refine XS.istore X_237.here hx rfl (hb hby d2_195) rfl (l' := #[.val (.ref a1), .val (.long (448 : Int64)), .second, .val (.int 2), .val (.ref b204), .val (.ref b231), .val (.ref b236), .val (.int 0), .val (.int 16), z237_9, .unset, .unset, .unset]) rfl ?_
        exact kt
      have low248_b204 : h0.size ≤ b204 := low237_b204
      have low248_b231 : h0.size ≤ b231 := low237_b231
      have low248_b236 : h0.size ≤ b236 := low237_b236
      have loop248 : ∀ (k t : Nat) (T_248 : State) (h_248 : Heap) (lo_248 : List Loc) (z248_9 : Slot) (z248_10 : Slot) (z248_11 : Slot) (z248_12 : Slot), k + t = 48 → Stand p l e ({ frames := 2, cells := 4, slots := 232, locals := 41 } : Room) s m #[(.ref a1)] below meth c T_248 lo_248 3 200 → T_248.heap = h_248 → Fr n0 lo_248 → Keep h0 h_248 [] → One z248_9 → One z248_10 → One z248_11 → One z248_12 → Arv Z h_248 b204 k204 .byte (128 : Int32) (own_tab 128 (own_gB B)) (.int 0) → Arv Z h_248 b231 k_INITIAL .int (8 : Int32) [(.int 1779033703), (.int (-1150833019)), (.int 1013904242), (.int (-1521486534)), (.int 1359893119), (.int (-1694144372)), (.int 528734635), (.int 1541459225)] (.int 0) → Exa Z h_248 b231 "[I" → Arv Z h_248 b236 k236 .int (64 : Int32) (own_tab 64 (own_wf (own_wa (own_gB B) 0 (fun _ => 0) 16) t)) (.int 0) → ∃ s₂ o, Steps p.tables e below (T_248.setTop (mkF m 197 #[.val (.ref a1), .val (.long (448 : Int64)), .second, .val (.int 2), .val (.ref b204), .val (.ref b231), .val (.ref b236), .val (.int 0), .val (.int (Int32.ofNat (16 + t))), z248_9, z248_10, z248_11, z248_12] [])) s₂ ∧ s₂.status = .running ∧ Ended s₂ below o ∧ ∃ v L, o = .returned v ∧ Q2B Z a1 w_ROUND k_ROUND w_INITIAL k_INITIAL k1 vs B h0 n0 v s₂.heap L ∧ FrameEnd s o s₂ L ({ frames := 2, cells := 4, slots := 232, locals := 41 } : Room).cells ({ frames := 2, cells := 4, slots := 232, locals := 41 } : Room).slots := by
        intro k
        induction k with
        | zero =>
          intro t T_248 h_248 lo_248 z248_9 z248_10 z248_11 z248_12 hkt248 X_248 e_248 N_248 K_248 hz248_9 hz248_10 hz248_11 hz248_12 fl248_0 fl248_1 fl248_2 fl248_3
          obtain rfl : t = 48 := by omega
          refine own_go (B := T_248.setTop (mkF m 306 #[.val (.ref a1), .val (.long (448 : Int64)), .second, .val (.int 2), .val (.ref b204), .val (.ref b231), .val (.ref b236), .val (.int 0), .val (.int (Int32.ofNat (16 + 48))), z248_9, z248_10, z248_11, z248_12] [(.ref b236), (.ref b231)])) (fun tg kt => ?_) ?_
          · refine XS.iload X_248.here hx rfl (hb hby d2_197) rfl ?_
            refine XS.bipush X_248.here hx rfl (hb hby d2_199) ?_
            refine XS.icmpYes X_248.here hx rfl (pc0 := 201) (pc' := 302) rfl (hb hby d2_201) rfl (flt (show ¬ ((Int32.ofNat (16 + 48)) < (64 : Int32)) from (by decide))).2.1 (by decide) (by decide) ?_
            refine XS.aload X_248.here hx rfl (hb hby d2_302) rfl rfl ?_
            refine XS.aload X_248.here hx rfl (hb hby d2_304) rfl rfl ?_
            exact kt
          have f250 : Sta Z h_248 "tributary/Digests" "ROUND" "[I" (.ref w_ROUND) := (own_staKeep S_ROUND K_248 (fun x hx_ => nomatch hx_))
          have f251 : Arv Z h_248 w_ROUND k_ROUND .int (64 : Int32) (own_tab 64 own_K) (.int 0) := (V_ROUND.keep K_248 nin0)
          obtain ⟨_, _, ⟨T249, L249, k249, n249⟩, -, X249, ⟨Lc249, hQ249, l249, y249, z249⟩, st249⟩ := Jvm.LawKit.callS X_248 hx (y := (⟨"tributary/Digests", "compress", "([I[I)V"⟩ : MethodName)) hown (mvT hZ (hw _ (List.mem_of_getElem? (i := 31) rfl))) (mvT hZ (hw _ (List.mem_of_getElem? (i := 32) rfl))) (mvT hZ (hw _ (List.mem_of_getElem? (i := 8) rfl))) (mvT hZ (hw _ (List.mem_of_getElem? (i := 33) rfl))) (by decide) (backOf (W := 0) (rm4 l Z a0 hw [] b231 b236 w_ROUND k_ROUND k_INITIAL k236 (1779033703 : Int32) (-1150833019 : Int32) (1013904242 : Int32) (-1521486534 : Int32) (1359893119 : Int32) (-1694144372 : Int32) (528734635 : Int32) (1541459225 : Int32) (own_wf (own_wa (own_gB B) 0 (fun _ => 0) 16) 48) h_248 n0 (Nat.le_trans Z0 K_248.1) f250 f251 fl248_1 fl248_3 (Nat.le_trans Z0 low248_b231)) hZ (hw _ (List.mem_of_getElem? (i := 33) rfl)) (hw _ (List.mem_of_getElem? (i := 8) rfl)) (by decide) (by decide)) (g := (mkF m 306 #[.val (.ref a1), .val (.long (448 : Int64)), .second, .val (.int 2), .val (.ref b204), .val (.ref b231), .val (.ref b236), .val (.int 0), .val (.int (Int32.ofNat (16 + 48))), z248_9, z248_10, z248_11, z248_12] [(.ref b236), (.ref b231)])) rfl (by rw [hml]; rfl) (argsL := [(.ref b231), (.ref b236)]) (rest := []) (lenOf pd_1 rfl) rfl (by show 2 * 0 + _ ≤ _; exact Nat.le_of_eq rfl) (hb hby d2_306) (fun _ _ => ⟨rfl, e_248, (by decide : 3 + 0 ≤ _), (by decide : 200 + 0 ≤ _)⟩)
          dsimp only [Pt.U, Pt.locs, Pt.cells, Pt.slots] at X249 l249 y249 z249 st249 hQ249
          rw [l249, y249, z249] at X249
          obtain ⟨r_249, rfl, M249, q249_0, q249_1, q249_2⟩ := hQ249
          have N249 := Fr.app N_248 M249
          have K249 : Keep h0 T249.heap [] := Keep.trans K_248 q249_0 (allS (Or.inr low248_b231) all0)
          refine own_go st249 ?_
          obtain ⟨x0_0, ex0_0⟩ : ∃ z, z = ((1779033703 : Int32) + r_249.1) := ⟨_, rfl⟩
          obtain ⟨x0_1, ex0_1⟩ : ∃ z, z = ((-1150833019 : Int32) + r_249.2.1) := ⟨_, rfl⟩
          obtain ⟨x0_2, ex0_2⟩ : ∃ z, z = ((1013904242 : Int32) + r_249.2.2.1) := ⟨_, rfl⟩
          obtain ⟨x0_3, ex0_3⟩ : ∃ z, z = ((-1521486534 : Int32) + r_249.2.2.2.1) := ⟨_, rfl⟩
          obtain ⟨x0_4, ex0_4⟩ : ∃ z, z = ((1359893119 : Int32) + r_249.2.2.2.2.1) := ⟨_, rfl⟩
          obtain ⟨x0_5, ex0_5⟩ : ∃ z, z = ((-1694144372 : Int32) + r_249.2.2.2.2.2.1) := ⟨_, rfl⟩
          obtain ⟨x0_6, ex0_6⟩ : ∃ z, z = ((528734635 : Int32) + r_249.2.2.2.2.2.2.1) := ⟨_, rfl⟩
          obtain ⟨x0_7, ex0_7⟩ : ∃ z, z = ((1541459225 : Int32) + r_249.2.2.2.2.2.2.2) := ⟨_, rfl⟩
          have V252 : Arv Z T249.heap b231 k_INITIAL .int (8 : Int32) [(.int x0_0), (.int x0_1), (.int x0_2), (.int x0_3), (.int x0_4), (.int x0_5), (.int x0_6), (.int x0_7)] (.int 0) := by rw [ex0_0, ex0_1, ex0_2, ex0_3, ex0_4, ex0_5, ex0_6, ex0_7]; exact q249_1
          have hb0 : (x0_0, x0_1, x0_2, x0_3, x0_4, x0_5, x0_6, x0_7) = (own_blk (own_gB B) 0 (fun _ => 0) ((1779033703 : Int32), (-1150833019 : Int32), (1013904242 : Int32), (-1521486534 : Int32), (1359893119 : Int32), (-1694144372 : Int32), (528734635 : Int32), (1541459225 : Int32))) := by rw [own_blk_of q249_2, ex0_0, ex0_1, ex0_2, ex0_3, ex0_4, ex0_5, ex0_6, ex0_7]; rfl
          refine own_go (B := T249.setTop (mkF m 109 #[.val (.ref a1), .val (.long (448 : Int64)), .second, .val (.int 2), .val (.ref b204), .val (.ref b231), .val (.ref b236), .val (.int 1), .val (.int 0), z248_9, z248_10, z248_11, z248_12] [])) (fun tg kt => ?_) ?_
          · refine XS.iinc X249.here hx rfl (hb hby d2_309) rfl (l' := #[.val (.ref a1), .val (.long (448 : Int64)), .second, .val (.int 2), .val (.ref b204), .val (.ref b231), .val (.ref b236), .val (.int 1), .val (.int (Int32.ofNat (16 + 48))), z248_9, z248_10, z248_11, z248_12]) rfl ?_
            refine XS.goto X249.here hx rfl (pc0 := 312) (pc' := 100) rfl (hb hby d2_312) (by decide) (by decide) ?_
            refine XS.iload X249.here hx rfl (hb hby d2_100) rfl ?_
            refine XS.iloadN X249.here hx rfl (hb hby d2_102) rfl ?_
            refine XS.icmpNo X249.here hx rfl (hb hby d2_103) rfl (tlt (by decide : (1 : Int32) < (2 : Int32))).2.1 ?_
            refine XS.iconst X249.here hx rfl (hb hby d2_106) ?_
            refine XS.istore X249.here hx rfl (hb hby d2_107) rfl (l' := #[.val (.ref a1), .val (.long (448 : Int64)), .second, .val (.int 2), .val (.ref b204), .val (.ref b231), .val (.ref b236), .val (.int 1), .val (.int 0), z248_9, z248_10, z248_11, z248_12]) rfl ?_
            exact kt
          have low253_b204 : h0.size ≤ b204 := low248_b204
          have low253_b231 : h0.size ≤ b231 := low248_b231
          have low253_b236 : h0.size ≤ b236 := low248_b236
          have f254 : Arv Z T249.heap b204 k204 .byte (128 : Int32) (own_tab 128 (own_gB B)) (.int 0) := (fl248_0.keep q249_0 (ninS ne241 nin0))
          have f255 : Exa Z T249.heap b231 "[I" := (fl248_2.keep q249_0)
          have f256 : Arv Z T249.heap b236 k236 .int (64 : Int32) (own_tab 64 (own_wf (own_wa (own_gB B) 0 (fun _ => 0) 16) 48)) (.int 0) := (fl248_3.keep q249_0 (ninS (Ne.symm ne244) nin0))
          have loop253 : ∀ (k t : Nat) (T_253 : State) (h_253 : Heap) (lo_253 : List Loc) (z253_9 : Slot), k + t = 16 → Stand p l e ({ frames := 2, cells := 4, slots := 232, locals := 41 } : Room) s m #[(.ref a1)] below meth c T_253 lo_253 3 200 → T_253.heap = h_253 → Fr n0 lo_253 → Keep h0 h_253 [] → One z253_9 → Arv Z h_253 b204 k204 .byte (128 : Int32) (own_tab 128 (own_gB B)) (.int 0) → Exa Z h_253 b231 "[I" → Arv Z h_253 b236 k236 .int (64 : Int32) (own_tab 64 (own_wa (own_gB B) 64 (own_wf (own_wa (own_gB B) 0 (fun _ => 0) 16) 48) t)) (.int 0) → Arv Z h_253 b231 k_INITIAL .int (8 : Int32) [(.int x0_0), (.int x0_1), (.int x0_2), (.int x0_3), (.int x0_4), (.int x0_5), (.int x0_6), (.int x0_7)] (.int 0) → ∃ s₂ o, Steps p.tables e below (T_253.setTop (mkF m 109 #[.val (.ref a1), .val (.long (448 : Int64)), .second, .val (.int 2), .val (.ref b204), .val (.ref b231), .val (.ref b236), .val (.int 1), .val (.int (Int32.ofNat t)), z253_9, z248_10, z248_11, z248_12] [])) s₂ ∧ s₂.status = .running ∧ Ended s₂ below o ∧ ∃ v L, o = .returned v ∧ Q2B Z a1 w_ROUND k_ROUND w_INITIAL k_INITIAL k1 vs B h0 n0 v s₂.heap L ∧ FrameEnd s o s₂ L ({ frames := 2, cells := 4, slots := 232, locals := 41 } : Room).cells ({ frames := 2, cells := 4, slots := 232, locals := 41 } : Room).slots := by
            intro k
            induction k with
            | zero =>
              intro t T_253 h_253 lo_253 z253_9 hkt253 X_253 e_253 N_253 K_253 hz253_9 fl253_0 fl253_1 fl253_2 fl253_3
              obtain rfl : t = 16 := by omega
              refine own_go (B := T_253.setTop (mkF m 197 #[.val (.ref a1), .val (.long (448 : Int64)), .second, .val (.int 2), .val (.ref b204), .val (.ref b231), .val (.ref b236), .val (.int 1), .val (.int 16), z253_9, z248_10, z248_11, z248_12] [])) (fun tg kt => ?_) ?_
              · refine XS.iload X_253.here hx rfl (hb hby d2_109) rfl ?_
                refine XS.bipush X_253.here hx rfl (hb hby d2_111) ?_
                refine XS.icmpYes X_253.here hx rfl (pc0 := 113) (pc' := 193) rfl (hb hby d2_113) rfl (flt (show ¬ ((Int32.ofNat 16) < (16 : Int32)) from (by decide))).2.1 (by decide) (by decide) ?_
                refine XS.bipush X_253.here hx rfl (hb hby d2_193) ?_
                refine XS.istore X_253.here hx rfl (hb hby d2_195) rfl (l' := #[.val (.ref a1), .val (.long (448 : Int64)), .second, .val (.int 2), .val (.ref b204), .val (.ref b231), .val (.ref b236), .val (.int 1), .val (.int 16), z253_9, z248_10, z248_11, z248_12]) rfl ?_
                exact kt
              have low257_b204 : h0.size ≤ b204 := low253_b204
              have low257_b231 : h0.size ≤ b231 := low253_b231
              have low257_b236 : h0.size ≤ b236 := low253_b236
              have loop257 : ∀ (k t : Nat) (T_257 : State) (h_257 : Heap) (lo_257 : List Loc) (z257_9 : Slot) (z257_10 : Slot) (z257_11 : Slot) (z257_12 : Slot), k + t = 48 → Stand p l e ({ frames := 2, cells := 4, slots := 232, locals := 41 } : Room) s m #[(.ref a1)] below meth c T_257 lo_257 3 200 → T_257.heap = h_257 → Fr n0 lo_257 → Keep h0 h_257 [] → One z257_9 → One z257_10 → One z257_11 → One z257_12 → Arv Z h_257 b204 k204 .byte (128 : Int32) (own_tab 128 (own_gB B)) (.int 0) → Exa Z h_257 b231 "[I" → Arv Z h_257 b236 k236 .int (64 : Int32) (own_tab 64 (own_wf (own_wa (own_gB B) 64 (own_wf (own_wa (own_gB B) 0 (fun _ => 0) 16) 48) 16) t)) (.int 0) → Arv Z h_257 b231 k_INITIAL .int (8 : Int32) [(.int x0_0), (.int x0_1), (.int x0_2), (.int x0_3), (.int x0_4), (.int x0_5), (.int x0_6), (.int x0_7)] (.int 0) → ∃ s₂ o, Steps p.tables e below (T_257.setTop (mkF m 197 #[.val (.ref a1), .val (.long (448 : Int64)), .second, .val (.int 2), .val (.ref b204), .val (.ref b231), .val (.ref b236), .val (.int 1), .val (.int (Int32.ofNat (16 + t))), z257_9, z257_10, z257_11, z257_12] [])) s₂ ∧ s₂.status = .running ∧ Ended s₂ below o ∧ ∃ v L, o = .returned v ∧ Q2B Z a1 w_ROUND k_ROUND w_INITIAL k_INITIAL k1 vs B h0 n0 v s₂.heap L ∧ FrameEnd s o s₂ L ({ frames := 2, cells := 4, slots := 232, locals := 41 } : Room).cells ({ frames := 2, cells := 4, slots := 232, locals := 41 } : Room).slots := by
                intro k
                induction k with
                | zero =>
                  intro t T_257 h_257 lo_257 z257_9 z257_10 z257_11 z257_12 hkt257 X_257 e_257 N_257 K_257 hz257_9 hz257_10 hz257_11 hz257_12 fl257_0 fl257_1 fl257_2 fl257_3
                  obtain rfl : t = 48 := by omega
                  refine own_go (B := T_257.setTop (mkF m 306 #[.val (.ref a1), .val (.long (448 : Int64)), .second, .val (.int 2), .val (.ref b204), .val (.ref b231), .val (.ref b236), .val (.int 1), .val (.int (Int32.ofNat (16 + 48))), z257_9, z257_10, z257_11, z257_12] [(.ref b236), (.ref b231)])) (fun tg kt => ?_) ?_
                  · refine XS.iload X_257.here hx rfl (hb hby d2_197) rfl ?_
                    refine XS.bipush X_257.here hx rfl (hb hby d2_199) ?_
                    refine XS.icmpYes X_257.here hx rfl (pc0 := 201) (pc' := 302) rfl (hb hby d2_201) rfl (flt (show ¬ ((Int32.ofNat (16 + 48)) < (64 : Int32)) from (by decide))).2.1 (by decide) (by decide) ?_
                    refine XS.aload X_257.here hx rfl (hb hby d2_302) rfl rfl ?_
                    refine XS.aload X_257.here hx rfl (hb hby d2_304) rfl rfl ?_
                    exact kt
                  have f259 : Sta Z h_257 "tributary/Digests" "ROUND" "[I" (.ref w_ROUND) := (own_staKeep S_ROUND K_257 (fun x hx_ => nomatch hx_))
                  have f260 : Arv Z h_257 w_ROUND k_ROUND .int (64 : Int32) (own_tab 64 own_K) (.int 0) := (V_ROUND.keep K_257 nin0)
                  obtain ⟨_, _, ⟨T258, L258, k258, n258⟩, -, X258, ⟨Lc258, hQ258, l258, y258, z258⟩, st258⟩ := Jvm.LawKit.callS X_257 hx (y := (⟨"tributary/Digests", "compress", "([I[I)V"⟩ : MethodName)) hown (mvT hZ (hw _ (List.mem_of_getElem? (i := 31) rfl))) (mvT hZ (hw _ (List.mem_of_getElem? (i := 32) rfl))) (mvT hZ (hw _ (List.mem_of_getElem? (i := 8) rfl))) (mvT hZ (hw _ (List.mem_of_getElem? (i := 33) rfl))) (by decide) (backOf (W := 0) (rm4 l Z a0 hw [] b231 b236 w_ROUND k_ROUND k_INITIAL k236 x0_0 x0_1 x0_2 x0_3 x0_4 x0_5 x0_6 x0_7 (own_wf (own_wa (own_gB B) 64 (own_wf (own_wa (own_gB B) 0 (fun _ => 0) 16) 48) 16) 48) h_257 n0 (Nat.le_trans Z0 K_257.1) f259 f260 fl257_3 fl257_2 (Nat.le_trans Z0 low257_b231)) hZ (hw _ (List.mem_of_getElem? (i := 33) rfl)) (hw _ (List.mem_of_getElem? (i := 8) rfl)) (by decide) (by decide)) (g := (mkF m 306 #[.val (.ref a1), .val (.long (448 : Int64)), .second, .val (.int 2), .val (.ref b204), .val (.ref b231), .val (.ref b236), .val (.int 1), .val (.int (Int32.ofNat (16 + 48))), z257_9, z257_10, z257_11, z257_12] [(.ref b236), (.ref b231)])) rfl (by rw [hml]; rfl) (argsL := [(.ref b231), (.ref b236)]) (rest := []) (lenOf pd_1 rfl) rfl (by show 2 * 0 + _ ≤ _; exact Nat.le_of_eq rfl) (hb hby d2_306) (fun _ _ => ⟨rfl, e_257, (by decide : 3 + 0 ≤ _), (by decide : 200 + 0 ≤ _)⟩)
                  dsimp only [Pt.U, Pt.locs, Pt.cells, Pt.slots] at X258 l258 y258 z258 st258 hQ258
                  rw [l258, y258, z258] at X258
                  obtain ⟨r_258, rfl, M258, q258_0, q258_1, q258_2⟩ := hQ258
                  have N258 := Fr.app N_257 M258
                  have K258 : Keep h0 T258.heap [] := Keep.trans K_257 q258_0 (allS (Or.inr low257_b231) all0)
                  refine own_go st258 ?_
                  obtain ⟨x1_0, ex1_0⟩ : ∃ z, z = (x0_0 + r_258.1) := ⟨_, rfl⟩
                  obtain ⟨x1_1, ex1_1⟩ : ∃ z, z = (x0_1 + r_258.2.1) := ⟨_, rfl⟩
                  obtain ⟨x1_2, ex1_2⟩ : ∃ z, z = (x0_2 + r_258.2.2.1) := ⟨_, rfl⟩
                  obtain ⟨x1_3, ex1_3⟩ : ∃ z, z = (x0_3 + r_258.2.2.2.1) := ⟨_, rfl⟩
                  obtain ⟨x1_4, ex1_4⟩ : ∃ z, z = (x0_4 + r_258.2.2.2.2.1) := ⟨_, rfl⟩
                  obtain ⟨x1_5, ex1_5⟩ : ∃ z, z = (x0_5 + r_258.2.2.2.2.2.1) := ⟨_, rfl⟩
                  obtain ⟨x1_6, ex1_6⟩ : ∃ z, z = (x0_6 + r_258.2.2.2.2.2.2.1) := ⟨_, rfl⟩
                  obtain ⟨x1_7, ex1_7⟩ : ∃ z, z = (x0_7 + r_258.2.2.2.2.2.2.2) := ⟨_, rfl⟩
                  have V261 : Arv Z T258.heap b231 k_INITIAL .int (8 : Int32) [(.int x1_0), (.int x1_1), (.int x1_2), (.int x1_3), (.int x1_4), (.int x1_5), (.int x1_6), (.int x1_7)] (.int 0) := by rw [ex1_0, ex1_1, ex1_2, ex1_3, ex1_4, ex1_5, ex1_6, ex1_7]; exact q258_1
                  have hb1 : (x1_0, x1_1, x1_2, x1_3, x1_4, x1_5, x1_6, x1_7) = (own_blk (own_gB B) 64 (own_wf (own_wa (own_gB B) 0 (fun _ => 0) 16) 48) (own_blk (own_gB B) 0 (fun _ => 0) ((1779033703 : Int32), (-1150833019 : Int32), (1013904242 : Int32), (-1521486534 : Int32), (1359893119 : Int32), (-1694144372 : Int32), (528734635 : Int32), (1541459225 : Int32)))) := by rw [← hb0, own_blk_of q258_2, ex1_0, ex1_1, ex1_2, ex1_3, ex1_4, ex1_5, ex1_6, ex1_7]; rfl
                  refine own_go (B := T258.setTop (mkF m 317 #[.val (.ref a1), .val (.long (448 : Int64)), .second, .val (.int 2), .val (.ref b204), .val (.ref b231), .val (.ref b236), .val (.int 2), .val (.int (Int32.ofNat (16 + 48))), z257_9, z257_10, z257_11, z257_12] [(.int 32)])) (fun tg kt => ?_) ?_
                  · refine XS.iinc X258.here hx rfl (hb hby d2_309) rfl (l' := #[.val (.ref a1), .val (.long (448 : Int64)), .second, .val (.int 2), .val (.ref b204), .val (.ref b231), .val (.ref b236), .val (.int 2), .val (.int (Int32.ofNat (16 + 48))), z257_9, z257_10, z257_11, z257_12]) rfl ?_
                    refine XS.goto X258.here hx rfl (pc0 := 312) (pc' := 100) rfl (hb hby d2_312) (by decide) (by decide) ?_
                    refine XS.iload X258.here hx rfl (hb hby d2_100) rfl ?_
                    refine XS.iloadN X258.here hx rfl (hb hby d2_102) rfl ?_
                    refine XS.icmpYes X258.here hx rfl (pc0 := 103) (pc' := 315) rfl (hb hby d2_103) rfl (flt (by decide : ¬ ((2 : Int32) < (2 : Int32)))).2.1 (by decide) (by decide) ?_
                    refine XS.bipush X258.here hx rfl (hb hby d2_315) ?_
                    exact kt
                  obtain ⟨T262, h262, k262, X262, e262, E262, A262, st262⟩ := newP X258 hx hZ (hw _ (List.mem_of_getElem? (i := 1) rfl)) rfl (g := (mkF m 317 #[.val (.ref a1), .val (.long (448 : Int64)), .second, .val (.int 2), .val (.ref b204), .val (.ref b231), .val (.ref b236), .val (.int 2), .val (.int (Int32.ofNat (16 + 48))), z257_9, z257_10, z257_11, z257_12] [(.int 32)])) rfl (hb hby d2_317) rfl (by decide) (cap := 32) (by decide) (by decide) (by decide) (by decide)
                  obtain ⟨b262, g262⟩ : ∃ z, z = T258.heap.size := ⟨_, rfl⟩
                  rw [← g262] at A262 st262
                  refine own_go st262 ?_
                  have K262 : Keep h0 h262 [] := Keep.ext K258 E262
                  have V262 : Arv Z h262 b262 k262 .byte (32 : Int32) (own_tab 32 (fun _ => 0)) (.int 0) := (Arv.new A262 (by decide)).pad (own_tab0 32)
                  have f263 : Arv Z h262 b231 k_INITIAL .int (8 : Int32) [(.int x1_0), (.int x1_1), (.int x1_2), (.int x1_3), (.int x1_4), (.int x1_5), (.int x1_6), (.int x1_7)] (.int 0) := (V261.ext E262)
                  obtain ⟨sx, hsx⟩ : ∃ z : St8, z = (x1_0, x1_1, x1_2, x1_3, x1_4, x1_5, x1_6, x1_7) := ⟨_, rfl⟩
                  have V264 : Arv Z h262 b231 k_INITIAL .int (8 : Int32) (own_tab 8 (own_x8 sx)) (.int 0) := by rw [hsx]; exact f263
                  refine own_go (B := T262.setTop (mkF m 324 #[.val (.ref a1), .val (.long (448 : Int64)), .second, .val (.int 2), .val (.ref b204), .val (.ref b231), .val (.ref b236), .val (.ref b262), .val (.int 0), z257_9, z257_10, z257_11, z257_12] [])) (fun tg kt => ?_) ?_
                  · refine XS.astore X262.here hx rfl (hb hby d2_319) rfl rfl (l' := #[.val (.ref a1), .val (.long (448 : Int64)), .second, .val (.int 2), .val (.ref b204), .val (.ref b231), .val (.ref b236), .val (.ref b262), .val (.int (Int32.ofNat (16 + 48))), z257_9, z257_10, z257_11, z257_12]) rfl ?_
                    refine XS.iconst X262.here hx rfl (hb hby d2_321) ?_
                    refine XS.istore X262.here hx rfl (hb hby d2_322) rfl (l' := #[.val (.ref a1), .val (.long (448 : Int64)), .second, .val (.int 2), .val (.ref b204), .val (.ref b231), .val (.ref b236), .val (.ref b262), .val (.int 0), z257_9, z257_10, z257_11, z257_12]) rfl ?_
                    exact kt
                  have low265_b204 : h0.size ≤ b204 := low257_b204
                  have low265_b231 : h0.size ≤ b231 := low257_b231
                  have low265_b236 : h0.size ≤ b236 := low257_b236
                  have le266 : h0.size ≤ T258.heap.size := (Nat.le_trans K_257.1 q258_0.1)
                  have low265_b262 : h0.size ≤ b262 := (Nat.le_trans le266 (Nat.le_of_eq g262.symm))
                  have ne267 : b204 ≠ b262 := (Nat.ne_of_lt (Nat.lt_of_lt_of_le (Nat.lt_of_lt_of_le fl257_0.lt q258_0.1) (Nat.le_of_eq g262.symm)))
                  have ne268 : b231 ≠ b262 := (Nat.ne_of_lt (Nat.lt_of_lt_of_le (Nat.lt_of_lt_of_le fl257_1.lt q258_0.1) (Nat.le_of_eq g262.symm)))
                  have ne269 : b236 ≠ b262 := (Nat.ne_of_lt (Nat.lt_of_lt_of_le (Nat.lt_of_lt_of_le fl257_2.lt q258_0.1) (Nat.le_of_eq g262.symm)))
                  have f270 : Arv Z h262 b204 k204 .byte (128 : Int32) (own_tab 128 (own_gB B)) (.int 0) := ((fl257_0.keep q258_0 (ninS ne241 nin0)).ext E262)
                  have f271 : Exa Z h262 b231 "[I" := ((fl257_1.keep q258_0).ext E262)
                  have f272 : Arv Z h262 b236 k236 .int (64 : Int32) (own_tab 64 (own_wf (own_wa (own_gB B) 64 (own_wf (own_wa (own_gB B) 0 (fun _ => 0) 16) 48) 16) 48)) (.int 0) := ((fl257_2.keep q258_0 (ninS (Ne.symm ne244) nin0)).ext E262)
                  have loop265 : ∀ (k t : Nat) (T_265 : State) (h_265 : Heap) (lo_265 : List Loc), k + t = 32 → Stand p l e ({ frames := 2, cells := 4, slots := 232, locals := 41 } : Room) s m #[(.ref a1)] below meth c T_265 lo_265 4 232 → T_265.heap = h_265 → Fr n0 lo_265 → Keep h0 h_265 [] → Arv Z h_265 b204 k204 .byte (128 : Int32) (own_tab 128 (own_gB B)) (.int 0) → Exa Z h_265 b231 "[I" → Arv Z h_265 b236 k236 .int (64 : Int32) (own_tab 64 (own_wf (own_wa (own_gB B) 64 (own_wf (own_wa (own_gB B) 0 (fun _ => 0) 16) 48) 16) 48)) (.int 0) → Arv Z h_265 b231 k_INITIAL .int (8 : Int32) (own_tab 8 (own_x8 sx)) (.int 0) → Arv Z h_265 b262 k262 .byte (32 : Int32) (own_tab 32 (own_oa (own_ob sx) t)) (.int 0) → ∃ s₂ o, Steps p.tables e below (T_265.setTop (mkF m 324 #[.val (.ref a1), .val (.long (448 : Int64)), .second, .val (.int 2), .val (.ref b204), .val (.ref b231), .val (.ref b236), .val (.ref b262), .val (.int (Int32.ofNat t)), z257_9, z257_10, z257_11, z257_12] [])) s₂ ∧ s₂.status = .running ∧ Ended s₂ below o ∧ ∃ v L, o = .returned v ∧ Q2B Z a1 w_ROUND k_ROUND w_INITIAL k_INITIAL k1 vs B h0 n0 v s₂.heap L ∧ FrameEnd s o s₂ L ({ frames := 2, cells := 4, slots := 232, locals := 41 } : Room).cells ({ frames := 2, cells := 4, slots := 232, locals := 41 } : Room).slots := by
                    intro k
                    induction k with
                    | zero =>
                      intro t T_265 h_265 lo_265 hkt265 X_265 e_265 N_265 K_265 fl265_0 fl265_1 fl265_2 fl265_3 fl265_4
                      obtain rfl : t = 32 := by omega
                      refine own_go (B := T_265.setTop (mkF m 363 #[.val (.ref a1), .val (.long (448 : Int64)), .second, .val (.int 2), .val (.ref b204), .val (.ref b231), .val (.ref b236), .val (.ref b262), .val (.int (Int32.ofNat 32)), z257_9, z257_10, z257_11, z257_12] [(.ref b262)])) (fun tg kt => ?_) ?_
                      · refine XS.iload X_265.here hx rfl (hb hby d2_324) rfl ?_
                        refine XS.bipush X_265.here hx rfl (hb hby d2_326) ?_
                        refine XS.icmpYes X_265.here hx rfl (pc0 := 328) (pc' := 361) rfl (hb hby d2_328) rfl (flt (show ¬ ((Int32.ofNat 32) < (32 : Int32)) from (by decide))).2.1 (by decide) (by decide) ?_
                        refine XS.aload X_265.here hx rfl (hb hby d2_361) rfl rfl ?_
                        exact kt
                      obtain ⟨fs, hr, hrun, hended, hW, hsame⟩ := X_265.leave (v := some (.ref b262)) (fun h => by rw [Bd.returns] at h; cases h)
                      refine ⟨_, _, ?_, hrun, hended, _, _, rfl, ?_, ⟨_, rfl⟩, hW, hsame.mono (by decide) (by decide)⟩
                      · exact own_retR X_265 hx Bd.returns rfl rfl (hb hby d2_363) hr
                      · show Q2B Z a1 w_ROUND k_ROUND w_INITIAL k_INITIAL k1 vs B h0 n0 _ T_265.heap _
                        rw [e_265]
                        exact ⟨b262, k262, sx, rfl, N_265, K_265, low265_b262, fl265_4, (hsx.trans hb1)⟩
                    | succ k ih265 =>
                      intro t T_265 h_265 lo_265 hkt265 X_265 e_265 N_265 K_265 fl265_0 fl265_1 fl265_2 fl265_3 fl265_4
                      have ht265 : t < 32 := by omega
                      refine own_go (B := T_265.setTop (mkF m 341 #[.val (.ref a1), .val (.long (448 : Int64)), .second, .val (.int 2), .val (.ref b204), .val (.ref b231), .val (.ref b236), .val (.ref b262), .val (.int (Int32.ofNat t)), z257_9, z257_10, z257_11, z257_12] [(.int ((Int32.ofNat t) / (4 : Int32))), (.ref b231), (.int (Int32.ofNat t)), (.ref b262)])) (fun tg kt => ?_) ?_
                      · refine XS.iload X_265.here hx rfl (hb hby d2_324) rfl ?_
                        refine XS.bipush X_265.here hx rfl (hb hby d2_326) ?_
                        refine XS.icmpNo X_265.here hx rfl (hb hby d2_328) rfl (tlt (show (Int32.ofNat t) < (32 : Int32) from (own_lt32 ht265))).2.1 ?_
                        refine XS.aload X_265.here hx rfl (hb hby d2_331) rfl rfl ?_
                        refine XS.iload X_265.here hx rfl (hb hby d2_333) rfl ?_
                        refine XS.aload X_265.here hx rfl (hb hby d2_335) rfl rfl ?_
                        refine XS.iload X_265.here hx rfl (hb hby d2_337) rfl ?_
                        refine XS.iconst X_265.here hx rfl (hb hby d2_339) ?_
                        refine XS.idiv X_265.here hx rfl (hb hby d2_340) rfl (by decide) ?_
                        exact kt
                      obtain ⟨cl274, Ar274, cq274, cS274, cN274, cH274, cG274⟩ := id fl265_3
                      have hin274 := inb_of (j := ((Int32.ofNat t) / (4 : Int32))) cS274 (own_inb (N := 8) (own_d4 ht265) (by omega) (by decide))
                      have hat274 : cl274.slots[(((Int32.ofNat t) / (4 : Int32))).toNatClampNeg]? = some (.int (own_x8 sx (t / 4))) := Has.at cH274 hin274 (own_at (own_x8 sx) _ (own_d4 ht265) (by omega))
                      refine own_go (B := T_265.setTop (mkF m 354 #[.val (.ref a1), .val (.long (448 : Int64)), .second, .val (.int 2), .val (.ref b204), .val (.ref b231), .val (.ref b236), .val (.ref b262), .val (.int (Int32.ofNat t)), z257_9, z257_10, z257_11, z257_12] [(.int ((((own_x8 sx (t / 4)).toUInt32 >>> (((24 : Int32) - ((8 : Int32) * ((Int32.ofNat t) % (4 : Int32)))) &&& 31).toUInt32).toInt32).toInt8.toInt32)), (.int (Int32.ofNat t)), (.ref b262)])) (fun tg kt => ?_) ?_
                      · refine X_265.iaload hx (j := ((Int32.ofNat t) / (4 : Int32))) (v := (.int (own_x8 sx (t / 4)))) (by rw [e_265]; exact Ar274.1) (State.isArrayOf_alike hZ.alike Ar274.2.1) Ar274.2.2 hin274 hat274 (g := (mkF m 341 #[.val (.ref a1), .val (.long (448 : Int64)), .second, .val (.int 2), .val (.ref b204), .val (.ref b231), .val (.ref b236), .val (.ref b262), .val (.int (Int32.ofNat t)), z257_9, z257_10, z257_11, z257_12] [(.int ((Int32.ofNat t) / (4 : Int32))), (.ref b231), (.int (Int32.ofNat t)), (.ref b262)])) rfl rfl (hb hby d2_341) _ ?_
                        refine XS.bipush X_265.here hx rfl (hb hby d2_342) ?_
                        refine XS.bipush X_265.here hx rfl (hb hby d2_344) ?_
                        refine XS.iload X_265.here hx rfl (hb hby d2_346) rfl ?_
                        refine XS.iconst X_265.here hx rfl (hb hby d2_348) ?_
                        refine iremM X_265 hx rfl (hb hby d2_349) rfl (by decide) ?_
                        refine XS.imul X_265.here hx rfl (hb hby d2_350) rfl ?_
                        refine XS.isub X_265.here hx rfl (hb hby d2_351) rfl ?_
                        refine XS.iushr X_265.here hx rfl (hb hby d2_352) rfl ?_
                        refine XS.i2b X_265.here hx rfl (hb hby d2_353) rfl ?_
                        exact kt
                      obtain ⟨cl275, Ar275, cq275, cS275, cN275, cH275, cG275⟩ := id fl265_4
                      have hin275 := inb_of (j := (Int32.ofNat t)) cS275 (own_ltc ht265 (by decide) _ (by decide))
                      obtain ⟨T275, h275, X275, e275, W275, st275⟩ := stB X_265 hx hZ e_265 Ar275 (j := (Int32.ofNat t)) hin275 (g := (mkF m 354 #[.val (.ref a1), .val (.long (448 : Int64)), .second, .val (.int 2), .val (.ref b204), .val (.ref b231), .val (.ref b236), .val (.ref b262), .val (.int (Int32.ofNat t)), z257_9, z257_10, z257_11, z257_12] [(.int ((((own_x8 sx (t / 4)).toUInt32 >>> (((24 : Int32) - ((8 : Int32) * ((Int32.ofNat t) % (4 : Int32)))) &&& 31).toUInt32).toInt32).toInt8.toInt32)), (.int (Int32.ofNat t)), (.ref b262)])) rfl rfl (hb hby d2_354)
                      refine own_go st275 ?_
                      have V275 : Arv Z h275 b262 k262 .byte (32 : Int32) (own_tab 32 (fun j => if j = t then (own_ob sx t) else (own_oa (own_ob sx) t) j)) (.int 0) := by have q := Arv.set Ar275 cq275 cS275 cN275 cH275 cG275 (fits_nar_byte _) W275 t (own_nat (by omega)) (by rw [own_tab_len]; omega); rw [own_tab_set _ _ (by omega), own_narB] at q; exact q
                      have K275 : Keep h0 h275 [] := Keep.wr K_265 W275 (Or.inr low265_b262)
                      have N275 := Fr.snoc X275 N_265 (Nat.le_trans Z0 low265_b262)
                      refine own_go (B := T275.setTop (mkF m 324 #[.val (.ref a1), .val (.long (448 : Int64)), .second, .val (.int 2), .val (.ref b204), .val (.ref b231), .val (.ref b236), .val (.ref b262), .val (.int ((Int32.ofNat t) + (1 : Int32))), z257_9, z257_10, z257_11, z257_12] [])) (fun tg kt => ?_) ?_
                      · refine XS.iinc X275.here hx rfl (hb hby d2_355) rfl (l' := #[.val (.ref a1), .val (.long (448 : Int64)), .second, .val (.int 2), .val (.ref b204), .val (.ref b231), .val (.ref b236), .val (.ref b262), .val (.int ((Int32.ofNat t) + (1 : Int32))), z257_9, z257_10, z257_11, z257_12]) rfl ?_
                        refine XS.goto X275.here hx rfl (pc0 := 358) (pc' := 324) rfl (hb hby d2_358) (by decide) (by decide) ?_
                        exact kt
                      rw [show ((Int32.ofNat t) + (1 : Int32)) = (Int32.ofNat (t + 1)) from own_isucc _]
                      have f276 : Arv Z h275 b204 k204 .byte (128 : Int32) (own_tab 128 (own_gB B)) (.int 0) := (fl265_0.other W275 ne267)
                      have f277 : Exa Z h275 b231 "[I" := (fl265_1.wr W275)
                      have f278 : Arv Z h275 b236 k236 .int (64 : Int32) (own_tab 64 (own_wf (own_wa (own_gB B) 64 (own_wf (own_wa (own_gB B) 0 (fun _ => 0) 16) 48) 16) 48)) (.int 0) := (fl265_2.other W275 ne269)
                      have f279 : Arv Z h275 b231 k_INITIAL .int (8 : Int32) (own_tab 8 (own_x8 sx)) (.int 0) := (fl265_3.other W275 ne268)
                      exact ih265 (t + 1) T275 h275 _ (by omega) X275 e275 N275 K275 f276 f277 f278 f279 V275
                  exact loop265 32 0 T262 h262 _ rfl X262 e262 N258 K262 f270 f271 f272 V264 V262
                | succ k ih257 =>
                  intro t T_257 h_257 lo_257 z257_9 z257_10 z257_11 z257_12 hkt257 X_257 e_257 N_257 K_257 hz257_9 hz257_10 hz257_11 hz257_12 fl257_0 fl257_1 fl257_2 fl257_3
                  have ht257 : t < 48 := by omega
                  refine own_go (B := T_257.setTop (mkF m 211 #[.val (.ref a1), .val (.long (448 : Int64)), .second, .val (.int 2), .val (.ref b204), .val (.ref b231), .val (.ref b236), .val (.int 1), .val (.int (Int32.ofNat (16 + t))), z257_9, z257_10, z257_11, z257_12] [(.int ((Int32.ofNat (16 + t)) - (15 : Int32))), (.ref b236)])) (fun tg kt => ?_) ?_
                  · refine XS.iload X_257.here hx rfl (hb hby d2_197) rfl ?_
                    refine XS.bipush X_257.here hx rfl (hb hby d2_199) ?_
                    refine XS.icmpNo X_257.here hx rfl (hb hby d2_201) rfl (tlt (show (Int32.ofNat (16 + t)) < (64 : Int32) from (own_lt48 ht257))).2.1 ?_
                    refine XS.aload X_257.here hx rfl (hb hby d2_204) rfl rfl ?_
                    refine XS.iload X_257.here hx rfl (hb hby d2_206) rfl ?_
                    refine XS.bipush X_257.here hx rfl (hb hby d2_208) ?_
                    refine XS.isub X_257.here hx rfl (hb hby d2_210) rfl ?_
                    exact kt
                  obtain ⟨cl280, Ar280, cq280, cS280, cN280, cH280, cG280⟩ := id fl257_2
                  have hin280 := inb_of (j := ((Int32.ofNat (16 + t)) - (15 : Int32))) cS280 (own_inb (N := 64) (own_si (n := t + 1) (d := 15) ht257 (by omega) (by decide)) (by omega) (by decide))
                  have hat280 : cl280.slots[(((Int32.ofNat (16 + t)) - (15 : Int32))).toNatClampNeg]? = some (.int ((own_wf (own_wa (own_gB B) 64 (own_wf (own_wa (own_gB B) 0 (fun _ => 0) 16) 48) 16) t) (t + 1))) := Has.at cH280 hin280 (own_at (own_wf (own_wa (own_gB B) 64 (own_wf (own_wa (own_gB B) 0 (fun _ => 0) 16) 48) 16) t) _ (own_si (n := t + 1) (d := 15) ht257 (by omega) (by decide)) (by omega))
                  refine own_go (B := T_257.setTop (mkF m 220 #[.val (.ref a1), .val (.long (448 : Int64)), .second, .val (.int 2), .val (.ref b204), .val (.ref b231), .val (.ref b236), .val (.int 1), .val (.int (Int32.ofNat (16 + t))), .val (.int ((own_wf (own_wa (own_gB B) 64 (own_wf (own_wa (own_gB B) 0 (fun _ => 0) 16) 48) 16) t) (t + 1))), z257_10, z257_11, z257_12] [(.int ((Int32.ofNat (16 + t)) - (2 : Int32))), (.ref b236)])) (fun tg kt => ?_) ?_
                  · refine X_257.iaload hx (j := ((Int32.ofNat (16 + t)) - (15 : Int32))) (v := (.int ((own_wf (own_wa (own_gB B) 64 (own_wf (own_wa (own_gB B) 0 (fun _ => 0) 16) 48) 16) t) (t + 1)))) (by rw [e_257]; exact Ar280.1) (State.isArrayOf_alike hZ.alike Ar280.2.1) Ar280.2.2 hin280 hat280 (g := (mkF m 211 #[.val (.ref a1), .val (.long (448 : Int64)), .second, .val (.int 2), .val (.ref b204), .val (.ref b231), .val (.ref b236), .val (.int 1), .val (.int (Int32.ofNat (16 + t))), z257_9, z257_10, z257_11, z257_12] [(.int ((Int32.ofNat (16 + t)) - (15 : Int32))), (.ref b236)])) rfl rfl (hb hby d2_211) _ ?_
                    refine XS.istoreS X_257.here hx rfl (hb hby d2_212) rfl rfl hz257_9 ?_
                    refine XS.aload X_257.here hx rfl (hb hby d2_214) rfl rfl ?_
                    refine XS.iload X_257.here hx rfl (hb hby d2_216) rfl ?_
                    refine XS.iconst X_257.here hx rfl (hb hby d2_218) ?_
                    refine XS.isub X_257.here hx rfl (hb hby d2_219) rfl ?_
                    exact kt
                  obtain ⟨cl281, Ar281, cq281, cS281, cN281, cH281, cG281⟩ := id fl257_2
                  have hin281 := inb_of (j := ((Int32.ofNat (16 + t)) - (2 : Int32))) cS281 (own_inb (N := 64) (own_si (n := t + 14) (d := 2) ht257 (by omega) (by decide)) (by omega) (by decide))
                  have hat281 : cl281.slots[(((Int32.ofNat (16 + t)) - (2 : Int32))).toNatClampNeg]? = some (.int ((own_wf (own_wa (own_gB B) 64 (own_wf (own_wa (own_gB B) 0 (fun _ => 0) 16) 48) 16) t) (t + 14))) := Has.at cH281 hin281 (own_at (own_wf (own_wa (own_gB B) 64 (own_wf (own_wa (own_gB B) 0 (fun _ => 0) 16) 48) 16) t) _ (own_si (n := t + 14) (d := 2) ht257 (by omega) (by decide)) (by omega))
                  refine own_go (B := T_257.setTop (mkF m 227 #[.val (.ref a1), .val (.long (448 : Int64)), .second, .val (.int 2), .val (.ref b204), .val (.ref b231), .val (.ref b236), .val (.int 1), .val (.int (Int32.ofNat (16 + t))), .val (.int ((own_wf (own_wa (own_gB B) 64 (own_wf (own_wa (own_gB B) 0 (fun _ => 0) 16) 48) 16) t) (t + 1))), .val (.int ((own_wf (own_wa (own_gB B) 64 (own_wf (own_wa (own_gB B) 0 (fun _ => 0) 16) 48) 16) t) (t + 14))), z257_11, z257_12] [(.int 7), (.int ((own_wf (own_wa (own_gB B) 64 (own_wf (own_wa (own_gB B) 0 (fun _ => 0) 16) 48) 16) t) (t + 1)))])) (fun tg kt => ?_) ?_
                  · refine X_257.iaload hx (j := ((Int32.ofNat (16 + t)) - (2 : Int32))) (v := (.int ((own_wf (own_wa (own_gB B) 64 (own_wf (own_wa (own_gB B) 0 (fun _ => 0) 16) 48) 16) t) (t + 14)))) (by rw [e_257]; exact Ar281.1) (State.isArrayOf_alike hZ.alike Ar281.2.1) Ar281.2.2 hin281 hat281 (g := (mkF m 220 #[.val (.ref a1), .val (.long (448 : Int64)), .second, .val (.int 2), .val (.ref b204), .val (.ref b231), .val (.ref b236), .val (.int 1), .val (.int (Int32.ofNat (16 + t))), .val (.int ((own_wf (own_wa (own_gB B) 64 (own_wf (own_wa (own_gB B) 0 (fun _ => 0) 16) 48) 16) t) (t + 1))), z257_10, z257_11, z257_12] [(.int ((Int32.ofNat (16 + t)) - (2 : Int32))), (.ref b236)])) rfl rfl (hb hby d2_220) _ ?_
                    refine XS.istoreS X_257.here hx rfl (hb hby d2_221) rfl rfl hz257_10 ?_
                    refine XS.iload X_257.here hx rfl (hb hby d2_223) rfl ?_
                    refine XS.bipush X_257.here hx rfl (hb hby d2_225) ?_
                    exact kt
                  obtain ⟨_, _, ⟨T282, L282, k282, n282⟩, -, X282, ⟨Lc282, hQ282, l282, y282, z282⟩, st282⟩ := Jvm.LawKit.callS X_257 hx (y := (⟨"java/lang/Integer", "rotateRight", "(II)I"⟩ : MethodName)) hown (mvT hZ (hw _ (List.mem_of_getElem? (i := 27) rfl))) (mvT hZ (hw _ (List.mem_of_getElem? (i := 28) rfl))) (mvT hZ (hw _ (List.mem_of_getElem? (i := 29) rfl))) (mvT hZ (hw _ (List.mem_of_getElem? (i := 30) rfl))) (by decide) (backOf (W := 0) (rm3 l Z a0 hw [] ((own_wf (own_wa (own_gB B) 64 (own_wf (own_wa (own_gB B) 0 (fun _ => 0) 16) 48) 16) t) (t + 1)) (7 : Int32) h_257 n0 (Nat.le_trans Z0 K_257.1) ) hZ (hw _ (List.mem_of_getElem? (i := 30) rfl)) (hw _ (List.mem_of_getElem? (i := 29) rfl)) (by decide) (by decide)) (g := (mkF m 227 #[.val (.ref a1), .val (.long (448 : Int64)), .second, .val (.int 2), .val (.ref b204), .val (.ref b231), .val (.ref b236), .val (.int 1), .val (.int (Int32.ofNat (16 + t))), .val (.int ((own_wf (own_wa (own_gB B) 64 (own_wf (own_wa (own_gB B) 0 (fun _ => 0) 16) 48) 16) t) (t + 1))), .val (.int ((own_wf (own_wa (own_gB B) 64 (own_wf (own_wa (own_gB B) 0 (fun _ => 0) 16) 48) 16) t) (t + 14))), z257_11, z257_12] [(.int 7), (.int ((own_wf (own_wa (own_gB B) 64 (own_wf (own_wa (own_gB B) 0 (fun _ => 0) 16) 48) 16) t) (t + 1)))])) rfl (by rw [hml]; rfl) (argsL := [(.int ((own_wf (own_wa (own_gB B) 64 (own_wf (own_wa (own_gB B) 0 (fun _ => 0) 16) 48) 16) t) (t + 1))), (.int 7)]) (rest := []) (lenOf pd_0 rfl) rfl (by show 2 * 0 + _ ≤ _; exact Nat.le_of_eq rfl) (hb hby d2_227) (fun _ _ => ⟨rfl, e_257, (by decide : 3 + 0 ≤ _), (by decide : 200 + 0 ≤ _)⟩)
                  dsimp only [Pt.U, Pt.locs, Pt.cells, Pt.slots] at X282 l282 y282 z282 st282 hQ282
                  rw [l282, y282, z282] at X282
                  obtain ⟨rfl, M282, q282_0⟩ := hQ282
                  have N282 := Fr.app N_257 M282
                  refine own_go st282 ?_
                  refine own_go (B := T282.setTop (mkF m 234 #[.val (.ref a1), .val (.long (448 : Int64)), .second, .val (.int 2), .val (.ref b204), .val (.ref b231), .val (.ref b236), .val (.int 1), .val (.int (Int32.ofNat (16 + t))), .val (.int ((own_wf (own_wa (own_gB B) 64 (own_wf (own_wa (own_gB B) 0 (fun _ => 0) 16) 48) 16) t) (t + 1))), .val (.int ((own_wf (own_wa (own_gB B) 64 (own_wf (own_wa (own_gB B) 0 (fun _ => 0) 16) 48) 16) t) (t + 14))), z257_11, z257_12] [(.int 18), (.int ((own_wf (own_wa (own_gB B) 64 (own_wf (own_wa (own_gB B) 0 (fun _ => 0) 16) 48) 16) t) (t + 1))), (.int (own_rr ((own_wf (own_wa (own_gB B) 64 (own_wf (own_wa (own_gB B) 0 (fun _ => 0) 16) 48) 16) t) (t + 1)) (7 : Int32)))])) (fun tg kt => ?_) ?_
                  · refine XS.iload X282.here hx rfl (hb hby d2_230) rfl ?_
                    refine XS.bipush X282.here hx rfl (hb hby d2_232) ?_
                    exact kt
                  obtain ⟨_, _, ⟨T283, L283, k283, n283⟩, -, X283, ⟨Lc283, hQ283, l283, y283, z283⟩, st283⟩ := Jvm.LawKit.callS X282 hx (y := (⟨"java/lang/Integer", "rotateRight", "(II)I"⟩ : MethodName)) hown (mvT hZ (hw _ (List.mem_of_getElem? (i := 27) rfl))) (mvT hZ (hw _ (List.mem_of_getElem? (i := 28) rfl))) (mvT hZ (hw _ (List.mem_of_getElem? (i := 29) rfl))) (mvT hZ (hw _ (List.mem_of_getElem? (i := 30) rfl))) (by decide) (backOf (W := 1) (rm3 l Z a0 hw [] ((own_wf (own_wa (own_gB B) 64 (own_wf (own_wa (own_gB B) 0 (fun _ => 0) 16) 48) 16) t) (t + 1)) (18 : Int32) h_257 n0 (Nat.le_trans Z0 K_257.1) ) hZ (hw _ (List.mem_of_getElem? (i := 30) rfl)) (hw _ (List.mem_of_getElem? (i := 29) rfl)) (by decide) (by decide)) (g := (mkF m 234 #[.val (.ref a1), .val (.long (448 : Int64)), .second, .val (.int 2), .val (.ref b204), .val (.ref b231), .val (.ref b236), .val (.int 1), .val (.int (Int32.ofNat (16 + t))), .val (.int ((own_wf (own_wa (own_gB B) 64 (own_wf (own_wa (own_gB B) 0 (fun _ => 0) 16) 48) 16) t) (t + 1))), .val (.int ((own_wf (own_wa (own_gB B) 64 (own_wf (own_wa (own_gB B) 0 (fun _ => 0) 16) 48) 16) t) (t + 14))), z257_11, z257_12] [(.int 18), (.int ((own_wf (own_wa (own_gB B) 64 (own_wf (own_wa (own_gB B) 0 (fun _ => 0) 16) 48) 16) t) (t + 1))), (.int (own_rr ((own_wf (own_wa (own_gB B) 64 (own_wf (own_wa (own_gB B) 0 (fun _ => 0) 16) 48) 16) t) (t + 1)) (7 : Int32)))])) rfl (by rw [hml]; rfl) (argsL := [(.int ((own_wf (own_wa (own_gB B) 64 (own_wf (own_wa (own_gB B) 0 (fun _ => 0) 16) 48) 16) t) (t + 1))), (.int 18)]) (rest := [(.int (own_rr ((own_wf (own_wa (own_gB B) 64 (own_wf (own_wa (own_gB B) 0 (fun _ => 0) 16) 48) 16) t) (t + 1)) (7 : Int32)))]) (lenOf pd_0 rfl) rfl (by show 2 * 0 + _ ≤ _; exact Nat.le_of_eq rfl) (hb hby d2_234) (fun _ _ => ⟨rfl, q282_0, (by decide : 3 + 0 ≤ _), (by decide : 200 + 0 ≤ _)⟩)
                  dsimp only [Pt.U, Pt.locs, Pt.cells, Pt.slots] at X283 l283 y283 z283 st283 hQ283
                  rw [l283, y283, z283] at X283
                  obtain ⟨rfl, M283, q283_0⟩ := hQ283
                  have N283 := Fr.app N282 M283
                  refine own_go st283 ?_
                  refine own_go (B := T283.setTop (mkF m 249 #[.val (.ref a1), .val (.long (448 : Int64)), .second, .val (.int 2), .val (.ref b204), .val (.ref b231), .val (.ref b236), .val (.int 1), .val (.int (Int32.ofNat (16 + t))), .val (.int ((own_wf (own_wa (own_gB B) 64 (own_wf (own_wa (own_gB B) 0 (fun _ => 0) 16) 48) 16) t) (t + 1))), .val (.int ((own_wf (own_wa (own_gB B) 64 (own_wf (own_wa (own_gB B) 0 (fun _ => 0) 16) 48) 16) t) (t + 14))), .val (.int (((own_rr ((own_wf (own_wa (own_gB B) 64 (own_wf (own_wa (own_gB B) 0 (fun _ => 0) 16) 48) 16) t) (t + 1)) (7 : Int32)) ^^^ (own_rr ((own_wf (own_wa (own_gB B) 64 (own_wf (own_wa (own_gB B) 0 (fun _ => 0) 16) 48) 16) t) (t + 1)) (18 : Int32))) ^^^ ((((own_wf (own_wa (own_gB B) 64 (own_wf (own_wa (own_gB B) 0 (fun _ => 0) 16) 48) 16) t) (t + 1)).toUInt32 >>> ((3 : Int32) &&& 31).toUInt32).toInt32))), z257_12] [(.int 17), (.int ((own_wf (own_wa (own_gB B) 64 (own_wf (own_wa (own_gB B) 0 (fun _ => 0) 16) 48) 16) t) (t + 14)))])) (fun tg kt => ?_) ?_
                  · refine XS.ixor X283.here hx rfl (hb hby d2_237) rfl ?_
                    refine XS.iload X283.here hx rfl (hb hby d2_238) rfl ?_
                    refine XS.iconst X283.here hx rfl (hb hby d2_240) ?_
                    refine XS.iushr X283.here hx rfl (hb hby d2_241) rfl ?_
                    refine XS.ixor X283.here hx rfl (hb hby d2_242) rfl ?_
                    refine XS.istoreS X283.here hx rfl (hb hby d2_243) rfl rfl hz257_11 ?_
                    refine XS.iload X283.here hx rfl (hb hby d2_245) rfl ?_
                    refine XS.bipush X283.here hx rfl (hb hby d2_247) ?_
                    exact kt
                  obtain ⟨_, _, ⟨T284, L284, k284, n284⟩, -, X284, ⟨Lc284, hQ284, l284, y284, z284⟩, st284⟩ := Jvm.LawKit.callS X283 hx (y := (⟨"java/lang/Integer", "rotateRight", "(II)I"⟩ : MethodName)) hown (mvT hZ (hw _ (List.mem_of_getElem? (i := 27) rfl))) (mvT hZ (hw _ (List.mem_of_getElem? (i := 28) rfl))) (mvT hZ (hw _ (List.mem_of_getElem? (i := 29) rfl))) (mvT hZ (hw _ (List.mem_of_getElem? (i := 30) rfl))) (by decide) (backOf (W := 0) (rm3 l Z a0 hw [] ((own_wf (own_wa (own_gB B) 64 (own_wf (own_wa (own_gB B) 0 (fun _ => 0) 16) 48) 16) t) (t + 14)) (17 : Int32) h_257 n0 (Nat.le_trans Z0 K_257.1) ) hZ (hw _ (List.mem_of_getElem? (i := 30) rfl)) (hw _ (List.mem_of_getElem? (i := 29) rfl)) (by decide) (by decide)) (g := (mkF m 249 #[.val (.ref a1), .val (.long (448 : Int64)), .second, .val (.int 2), .val (.ref b204), .val (.ref b231), .val (.ref b236), .val (.int 1), .val (.int (Int32.ofNat (16 + t))), .val (.int ((own_wf (own_wa (own_gB B) 64 (own_wf (own_wa (own_gB B) 0 (fun _ => 0) 16) 48) 16) t) (t + 1))), .val (.int ((own_wf (own_wa (own_gB B) 64 (own_wf (own_wa (own_gB B) 0 (fun _ => 0) 16) 48) 16) t) (t + 14))), .val (.int (((own_rr ((own_wf (own_wa (own_gB B) 64 (own_wf (own_wa (own_gB B) 0 (fun _ => 0) 16) 48) 16) t) (t + 1)) (7 : Int32)) ^^^ (own_rr ((own_wf (own_wa (own_gB B) 64 (own_wf (own_wa (own_gB B) 0 (fun _ => 0) 16) 48) 16) t) (t + 1)) (18 : Int32))) ^^^ ((((own_wf (own_wa (own_gB B) 64 (own_wf (own_wa (own_gB B) 0 (fun _ => 0) 16) 48) 16) t) (t + 1)).toUInt32 >>> ((3 : Int32) &&& 31).toUInt32).toInt32))), z257_12] [(.int 17), (.int ((own_wf (own_wa (own_gB B) 64 (own_wf (own_wa (own_gB B) 0 (fun _ => 0) 16) 48) 16) t) (t + 14)))])) rfl (by rw [hml]; rfl) (argsL := [(.int ((own_wf (own_wa (own_gB B) 64 (own_wf (own_wa (own_gB B) 0 (fun _ => 0) 16) 48) 16) t) (t + 14))), (.int 17)]) (rest := []) (lenOf pd_0 rfl) rfl (by show 2 * 0 + _ ≤ _; exact Nat.le_of_eq rfl) (hb hby d2_249) (fun _ _ => ⟨rfl, q283_0, (by decide : 3 + 0 ≤ _), (by decide : 200 + 0 ≤ _)⟩)
                  dsimp only [Pt.U, Pt.locs, Pt.cells, Pt.slots] at X284 l284 y284 z284 st284 hQ284
                  rw [l284, y284, z284] at X284
                  obtain ⟨rfl, M284, q284_0⟩ := hQ284
                  have N284 := Fr.app N283 M284
                  refine own_go st284 ?_
                  refine own_go (B := T284.setTop (mkF m 256 #[.val (.ref a1), .val (.long (448 : Int64)), .second, .val (.int 2), .val (.ref b204), .val (.ref b231), .val (.ref b236), .val (.int 1), .val (.int (Int32.ofNat (16 + t))), .val (.int ((own_wf (own_wa (own_gB B) 64 (own_wf (own_wa (own_gB B) 0 (fun _ => 0) 16) 48) 16) t) (t + 1))), .val (.int ((own_wf (own_wa (own_gB B) 64 (own_wf (own_wa (own_gB B) 0 (fun _ => 0) 16) 48) 16) t) (t + 14))), .val (.int (((own_rr ((own_wf (own_wa (own_gB B) 64 (own_wf (own_wa (own_gB B) 0 (fun _ => 0) 16) 48) 16) t) (t + 1)) (7 : Int32)) ^^^ (own_rr ((own_wf (own_wa (own_gB B) 64 (own_wf (own_wa (own_gB B) 0 (fun _ => 0) 16) 48) 16) t) (t + 1)) (18 : Int32))) ^^^ ((((own_wf (own_wa (own_gB B) 64 (own_wf (own_wa (own_gB B) 0 (fun _ => 0) 16) 48) 16) t) (t + 1)).toUInt32 >>> ((3 : Int32) &&& 31).toUInt32).toInt32))), z257_12] [(.int 19), (.int ((own_wf (own_wa (own_gB B) 64 (own_wf (own_wa (own_gB B) 0 (fun _ => 0) 16) 48) 16) t) (t + 14))), (.int (own_rr ((own_wf (own_wa (own_gB B) 64 (own_wf (own_wa (own_gB B) 0 (fun _ => 0) 16) 48) 16) t) (t + 14)) (17 : Int32)))])) (fun tg kt => ?_) ?_
                  · refine XS.iload X284.here hx rfl (hb hby d2_252) rfl ?_
                    refine XS.bipush X284.here hx rfl (hb hby d2_254) ?_
                    exact kt
                  obtain ⟨_, _, ⟨T285, L285, k285, n285⟩, -, X285, ⟨Lc285, hQ285, l285, y285, z285⟩, st285⟩ := Jvm.LawKit.callS X284 hx (y := (⟨"java/lang/Integer", "rotateRight", "(II)I"⟩ : MethodName)) hown (mvT hZ (hw _ (List.mem_of_getElem? (i := 27) rfl))) (mvT hZ (hw _ (List.mem_of_getElem? (i := 28) rfl))) (mvT hZ (hw _ (List.mem_of_getElem? (i := 29) rfl))) (mvT hZ (hw _ (List.mem_of_getElem? (i := 30) rfl))) (by decide) (backOf (W := 1) (rm3 l Z a0 hw [] ((own_wf (own_wa (own_gB B) 64 (own_wf (own_wa (own_gB B) 0 (fun _ => 0) 16) 48) 16) t) (t + 14)) (19 : Int32) h_257 n0 (Nat.le_trans Z0 K_257.1) ) hZ (hw _ (List.mem_of_getElem? (i := 30) rfl)) (hw _ (List.mem_of_getElem? (i := 29) rfl)) (by decide) (by decide)) (g := (mkF m 256 #[.val (.ref a1), .val (.long (448 : Int64)), .second, .val (.int 2), .val (.ref b204), .val (.ref b231), .val (.ref b236), .val (.int 1), .val (.int (Int32.ofNat (16 + t))), .val (.int ((own_wf (own_wa (own_gB B) 64 (own_wf (own_wa (own_gB B) 0 (fun _ => 0) 16) 48) 16) t) (t + 1))), .val (.int ((own_wf (own_wa (own_gB B) 64 (own_wf (own_wa (own_gB B) 0 (fun _ => 0) 16) 48) 16) t) (t + 14))), .val (.int (((own_rr ((own_wf (own_wa (own_gB B) 64 (own_wf (own_wa (own_gB B) 0 (fun _ => 0) 16) 48) 16) t) (t + 1)) (7 : Int32)) ^^^ (own_rr ((own_wf (own_wa (own_gB B) 64 (own_wf (own_wa (own_gB B) 0 (fun _ => 0) 16) 48) 16) t) (t + 1)) (18 : Int32))) ^^^ ((((own_wf (own_wa (own_gB B) 64 (own_wf (own_wa (own_gB B) 0 (fun _ => 0) 16) 48) 16) t) (t + 1)).toUInt32 >>> ((3 : Int32) &&& 31).toUInt32).toInt32))), z257_12] [(.int 19), (.int ((own_wf (own_wa (own_gB B) 64 (own_wf (own_wa (own_gB B) 0 (fun _ => 0) 16) 48) 16) t) (t + 14))), (.int (own_rr ((own_wf (own_wa (own_gB B) 64 (own_wf (own_wa (own_gB B) 0 (fun _ => 0) 16) 48) 16) t) (t + 14)) (17 : Int32)))])) rfl (by rw [hml]; rfl) (argsL := [(.int ((own_wf (own_wa (own_gB B) 64 (own_wf (own_wa (own_gB B) 0 (fun _ => 0) 16) 48) 16) t) (t + 14))), (.int 19)]) (rest := [(.int (own_rr ((own_wf (own_wa (own_gB B) 64 (own_wf (own_wa (own_gB B) 0 (fun _ => 0) 16) 48) 16) t) (t + 14)) (17 : Int32)))]) (lenOf pd_0 rfl) rfl (by show 2 * 0 + _ ≤ _; exact Nat.le_of_eq rfl) (hb hby d2_256) (fun _ _ => ⟨rfl, q284_0, (by decide : 3 + 0 ≤ _), (by decide : 200 + 0 ≤ _)⟩)
                  dsimp only [Pt.U, Pt.locs, Pt.cells, Pt.slots] at X285 l285 y285 z285 st285 hQ285
                  rw [l285, y285, z285] at X285
                  obtain ⟨rfl, M285, q285_0⟩ := hQ285
                  have N285 := Fr.app N284 M285
                  refine own_go st285 ?_
                  refine own_go (B := T285.setTop (mkF m 281 #[.val (.ref a1), .val (.long (448 : Int64)), .second, .val (.int 2), .val (.ref b204), .val (.ref b231), .val (.ref b236), .val (.int 1), .val (.int (Int32.ofNat (16 + t))), .val (.int ((own_wf (own_wa (own_gB B) 64 (own_wf (own_wa (own_gB B) 0 (fun _ => 0) 16) 48) 16) t) (t + 1))), .val (.int ((own_wf (own_wa (own_gB B) 64 (own_wf (own_wa (own_gB B) 0 (fun _ => 0) 16) 48) 16) t) (t + 14))), .val (.int (((own_rr ((own_wf (own_wa (own_gB B) 64 (own_wf (own_wa (own_gB B) 0 (fun _ => 0) 16) 48) 16) t) (t + 1)) (7 : Int32)) ^^^ (own_rr ((own_wf (own_wa (own_gB B) 64 (own_wf (own_wa (own_gB B) 0 (fun _ => 0) 16) 48) 16) t) (t + 1)) (18 : Int32))) ^^^ ((((own_wf (own_wa (own_gB B) 64 (own_wf (own_wa (own_gB B) 0 (fun _ => 0) 16) 48) 16) t) (t + 1)).toUInt32 >>> ((3 : Int32) &&& 31).toUInt32).toInt32))), .val (.int (((own_rr ((own_wf (own_wa (own_gB B) 64 (own_wf (own_wa (own_gB B) 0 (fun _ => 0) 16) 48) 16) t) (t + 14)) (17 : Int32)) ^^^ (own_rr ((own_wf (own_wa (own_gB B) 64 (own_wf (own_wa (own_gB B) 0 (fun _ => 0) 16) 48) 16) t) (t + 14)) (19 : Int32))) ^^^ ((((own_wf (own_wa (own_gB B) 64 (own_wf (own_wa (own_gB B) 0 (fun _ => 0) 16) 48) 16) t) (t + 14)).toUInt32 >>> ((10 : Int32) &&& 31).toUInt32).toInt32)))] [(.int ((Int32.ofNat (16 + t)) - (7 : Int32))), (.ref b236), (.int (((own_rr ((own_wf (own_wa (own_gB B) 64 (own_wf (own_wa (own_gB B) 0 (fun _ => 0) 16) 48) 16) t) (t + 14)) (17 : Int32)) ^^^ (own_rr ((own_wf (own_wa (own_gB B) 64 (own_wf (own_wa (own_gB B) 0 (fun _ => 0) 16) 48) 16) t) (t + 14)) (19 : Int32))) ^^^ ((((own_wf (own_wa (own_gB B) 64 (own_wf (own_wa (own_gB B) 0 (fun _ => 0) 16) 48) 16) t) (t + 14)).toUInt32 >>> ((10 : Int32) &&& 31).toUInt32).toInt32))), (.int (Int32.ofNat (16 + t))), (.ref b236)])) (fun tg kt => ?_) ?_
                  · refine XS.ixor X285.here hx rfl (hb hby d2_259) rfl ?_
                    refine XS.iload X285.here hx rfl (hb hby d2_260) rfl ?_
                    refine XS.bipush X285.here hx rfl (hb hby d2_262) ?_
                    refine XS.iushr X285.here hx rfl (hb hby d2_264) rfl ?_
                    refine XS.ixor X285.here hx rfl (hb hby d2_265) rfl ?_
                    refine XS.istoreS X285.here hx rfl (hb hby d2_266) rfl rfl hz257_12 ?_
                    refine XS.aload X285.here hx rfl (hb hby d2_268) rfl rfl ?_
                    refine XS.iload X285.here hx rfl (hb hby d2_270) rfl ?_
                    refine XS.iload X285.here hx rfl (hb hby d2_272) rfl ?_
                    refine XS.aload X285.here hx rfl (hb hby d2_274) rfl rfl ?_
                    refine XS.iload X285.here hx rfl (hb hby d2_276) rfl ?_
                    refine XS.bipush X285.here hx rfl (hb hby d2_278) ?_
                    refine XS.isub X285.here hx rfl (hb hby d2_280) rfl ?_
                    exact kt
                  obtain ⟨cl286, Ar286, cq286, cS286, cN286, cH286, cG286⟩ := id fl257_2
                  have hin286 := inb_of (j := ((Int32.ofNat (16 + t)) - (7 : Int32))) cS286 (own_inb (N := 64) (own_si (n := t + 9) (d := 7) ht257 (by omega) (by decide)) (by omega) (by decide))
                  have hat286 : cl286.slots[(((Int32.ofNat (16 + t)) - (7 : Int32))).toNatClampNeg]? = some (.int ((own_wf (own_wa (own_gB B) 64 (own_wf (own_wa (own_gB B) 0 (fun _ => 0) 16) 48) 16) t) (t + 9))) := Has.at cH286 hin286 (own_at (own_wf (own_wa (own_gB B) 64 (own_wf (own_wa (own_gB B) 0 (fun _ => 0) 16) 48) 16) t) _ (own_si (n := t + 9) (d := 7) ht257 (by omega) (by decide)) (by omega))
                  refine own_go (B := T285.setTop (mkF m 293 #[.val (.ref a1), .val (.long (448 : Int64)), .second, .val (.int 2), .val (.ref b204), .val (.ref b231), .val (.ref b236), .val (.int 1), .val (.int (Int32.ofNat (16 + t))), .val (.int ((own_wf (own_wa (own_gB B) 64 (own_wf (own_wa (own_gB B) 0 (fun _ => 0) 16) 48) 16) t) (t + 1))), .val (.int ((own_wf (own_wa (own_gB B) 64 (own_wf (own_wa (own_gB B) 0 (fun _ => 0) 16) 48) 16) t) (t + 14))), .val (.int (((own_rr ((own_wf (own_wa (own_gB B) 64 (own_wf (own_wa (own_gB B) 0 (fun _ => 0) 16) 48) 16) t) (t + 1)) (7 : Int32)) ^^^ (own_rr ((own_wf (own_wa (own_gB B) 64 (own_wf (own_wa (own_gB B) 0 (fun _ => 0) 16) 48) 16) t) (t + 1)) (18 : Int32))) ^^^ ((((own_wf (own_wa (own_gB B) 64 (own_wf (own_wa (own_gB B) 0 (fun _ => 0) 16) 48) 16) t) (t + 1)).toUInt32 >>> ((3 : Int32) &&& 31).toUInt32).toInt32))), .val (.int (((own_rr ((own_wf (own_wa (own_gB B) 64 (own_wf (own_wa (own_gB B) 0 (fun _ => 0) 16) 48) 16) t) (t + 14)) (17 : Int32)) ^^^ (own_rr ((own_wf (own_wa (own_gB B) 64 (own_wf (own_wa (own_gB B) 0 (fun _ => 0) 16) 48) 16) t) (t + 14)) (19 : Int32))) ^^^ ((((own_wf (own_wa (own_gB B) 64 (own_wf (own_wa (own_gB B) 0 (fun _ => 0) 16) 48) 16) t) (t + 14)).toUInt32 >>> ((10 : Int32) &&& 31).toUInt32).toInt32)))] [(.int ((Int32.ofNat (16 + t)) - (16 : Int32))), (.ref b236), (.int (((((own_rr ((own_wf (own_wa (own_gB B) 64 (own_wf (own_wa (own_gB B) 0 (fun _ => 0) 16) 48) 16) t) (t + 14)) (17 : Int32)) ^^^ (own_rr ((own_wf (own_wa (own_gB B) 64 (own_wf (own_wa (own_gB B) 0 (fun _ => 0) 16) 48) 16) t) (t + 14)) (19 : Int32))) ^^^ ((((own_wf (own_wa (own_gB B) 64 (own_wf (own_wa (own_gB B) 0 (fun _ => 0) 16) 48) 16) t) (t + 14)).toUInt32 >>> ((10 : Int32) &&& 31).toUInt32).toInt32)) + ((own_wf (own_wa (own_gB B) 64 (own_wf (own_wa (own_gB B) 0 (fun _ => 0) 16) 48) 16) t) (t + 9))) + (((own_rr ((own_wf (own_wa (own_gB B) 64 (own_wf (own_wa (own_gB B) 0 (fun _ => 0) 16) 48) 16) t) (t + 1)) (7 : Int32)) ^^^ (own_rr ((own_wf (own_wa (own_gB B) 64 (own_wf (own_wa (own_gB B) 0 (fun _ => 0) 16) 48) 16) t) (t + 1)) (18 : Int32))) ^^^ ((((own_wf (own_wa (own_gB B) 64 (own_wf (own_wa (own_gB B) 0 (fun _ => 0) 16) 48) 16) t) (t + 1)).toUInt32 >>> ((3 : Int32) &&& 31).toUInt32).toInt32)))), (.int (Int32.ofNat (16 + t))), (.ref b236)])) (fun tg kt => ?_) ?_
                  · refine X285.iaload hx (j := ((Int32.ofNat (16 + t)) - (7 : Int32))) (v := (.int ((own_wf (own_wa (own_gB B) 64 (own_wf (own_wa (own_gB B) 0 (fun _ => 0) 16) 48) 16) t) (t + 9)))) (by rw [q285_0]; exact Ar286.1) (State.isArrayOf_alike hZ.alike Ar286.2.1) Ar286.2.2 hin286 hat286 (g := (mkF m 281 #[.val (.ref a1), .val (.long (448 : Int64)), .second, .val (.int 2), .val (.ref b204), .val (.ref b231), .val (.ref b236), .val (.int 1), .val (.int (Int32.ofNat (16 + t))), .val (.int ((own_wf (own_wa (own_gB B) 64 (own_wf (own_wa (own_gB B) 0 (fun _ => 0) 16) 48) 16) t) (t + 1))), .val (.int ((own_wf (own_wa (own_gB B) 64 (own_wf (own_wa (own_gB B) 0 (fun _ => 0) 16) 48) 16) t) (t + 14))), .val (.int (((own_rr ((own_wf (own_wa (own_gB B) 64 (own_wf (own_wa (own_gB B) 0 (fun _ => 0) 16) 48) 16) t) (t + 1)) (7 : Int32)) ^^^ (own_rr ((own_wf (own_wa (own_gB B) 64 (own_wf (own_wa (own_gB B) 0 (fun _ => 0) 16) 48) 16) t) (t + 1)) (18 : Int32))) ^^^ ((((own_wf (own_wa (own_gB B) 64 (own_wf (own_wa (own_gB B) 0 (fun _ => 0) 16) 48) 16) t) (t + 1)).toUInt32 >>> ((3 : Int32) &&& 31).toUInt32).toInt32))), .val (.int (((own_rr ((own_wf (own_wa (own_gB B) 64 (own_wf (own_wa (own_gB B) 0 (fun _ => 0) 16) 48) 16) t) (t + 14)) (17 : Int32)) ^^^ (own_rr ((own_wf (own_wa (own_gB B) 64 (own_wf (own_wa (own_gB B) 0 (fun _ => 0) 16) 48) 16) t) (t + 14)) (19 : Int32))) ^^^ ((((own_wf (own_wa (own_gB B) 64 (own_wf (own_wa (own_gB B) 0 (fun _ => 0) 16) 48) 16) t) (t + 14)).toUInt32 >>> ((10 : Int32) &&& 31).toUInt32).toInt32)))] [(.int ((Int32.ofNat (16 + t)) - (7 : Int32))), (.ref b236), (.int (((own_rr ((own_wf (own_wa (own_gB B) 64 (own_wf (own_wa (own_gB B) 0 (fun _ => 0) 16) 48) 16) t) (t + 14)) (17 : Int32)) ^^^ (own_rr ((own_wf (own_wa (own_gB B) 64 (own_wf (own_wa (own_gB B) 0 (fun _ => 0) 16) 48) 16) t) (t + 14)) (19 : Int32))) ^^^ ((((own_wf (own_wa (own_gB B) 64 (own_wf (own_wa (own_gB B) 0 (fun _ => 0) 16) 48) 16) t) (t + 14)).toUInt32 >>> ((10 : Int32) &&& 31).toUInt32).toInt32))), (.int (Int32.ofNat (16 + t))), (.ref b236)])) rfl rfl (hb hby d2_281) _ ?_
                    refine XS.iadd X285.here hx rfl (hb hby d2_282) rfl ?_
                    refine XS.iload X285.here hx rfl (hb hby d2_283) rfl ?_
                    refine XS.iadd X285.here hx rfl (hb hby d2_285) rfl ?_
                    refine XS.aload X285.here hx rfl (hb hby d2_286) rfl rfl ?_
                    refine XS.iload X285.here hx rfl (hb hby d2_288) rfl ?_
                    refine XS.bipush X285.here hx rfl (hb hby d2_290) ?_
                    refine XS.isub X285.here hx rfl (hb hby d2_292) rfl ?_
                    exact kt
                  obtain ⟨cl287, Ar287, cq287, cS287, cN287, cH287, cG287⟩ := id fl257_2
                  have hin287 := inb_of (j := ((Int32.ofNat (16 + t)) - (16 : Int32))) cS287 (own_inb (N := 64) (own_si (n := t) (d := 16) ht257 (by omega) (by decide)) (by omega) (by decide))
                  have hat287 : cl287.slots[(((Int32.ofNat (16 + t)) - (16 : Int32))).toNatClampNeg]? = some (.int ((own_wf (own_wa (own_gB B) 64 (own_wf (own_wa (own_gB B) 0 (fun _ => 0) 16) 48) 16) t) t)) := Has.at cH287 hin287 (own_at (own_wf (own_wa (own_gB B) 64 (own_wf (own_wa (own_gB B) 0 (fun _ => 0) 16) 48) 16) t) _ (own_si (n := t) (d := 16) ht257 (by omega) (by decide)) (by omega))
                  refine own_go (B := T285.setTop (mkF m 295 #[.val (.ref a1), .val (.long (448 : Int64)), .second, .val (.int 2), .val (.ref b204), .val (.ref b231), .val (.ref b236), .val (.int 1), .val (.int (Int32.ofNat (16 + t))), .val (.int ((own_wf (own_wa (own_gB B) 64 (own_wf (own_wa (own_gB B) 0 (fun _ => 0) 16) 48) 16) t) (t + 1))), .val (.int ((own_wf (own_wa (own_gB B) 64 (own_wf (own_wa (own_gB B) 0 (fun _ => 0) 16) 48) 16) t) (t + 14))), .val (.int (((own_rr ((own_wf (own_wa (own_gB B) 64 (own_wf (own_wa (own_gB B) 0 (fun _ => 0) 16) 48) 16) t) (t + 1)) (7 : Int32)) ^^^ (own_rr ((own_wf (own_wa (own_gB B) 64 (own_wf (own_wa (own_gB B) 0 (fun _ => 0) 16) 48) 16) t) (t + 1)) (18 : Int32))) ^^^ ((((own_wf (own_wa (own_gB B) 64 (own_wf (own_wa (own_gB B) 0 (fun _ => 0) 16) 48) 16) t) (t + 1)).toUInt32 >>> ((3 : Int32) &&& 31).toUInt32).toInt32))), .val (.int (((own_rr ((own_wf (own_wa (own_gB B) 64 (own_wf (own_wa (own_gB B) 0 (fun _ => 0) 16) 48) 16) t) (t + 14)) (17 : Int32)) ^^^ (own_rr ((own_wf (own_wa (own_gB B) 64 (own_wf (own_wa (own_gB B) 0 (fun _ => 0) 16) 48) 16) t) (t + 14)) (19 : Int32))) ^^^ ((((own_wf (own_wa (own_gB B) 64 (own_wf (own_wa (own_gB B) 0 (fun _ => 0) 16) 48) 16) t) (t + 14)).toUInt32 >>> ((10 : Int32) &&& 31).toUInt32).toInt32)))] [(.int ((((((own_rr ((own_wf (own_wa (own_gB B) 64 (own_wf (own_wa (own_gB B) 0 (fun _ => 0) 16) 48) 16) t) (t + 14)) (17 : Int32)) ^^^ (own_rr ((own_wf (own_wa (own_gB B) 64 (own_wf (own_wa (own_gB B) 0 (fun _ => 0) 16) 48) 16) t) (t + 14)) (19 : Int32))) ^^^ ((((own_wf (own_wa (own_gB B) 64 (own_wf (own_wa (own_gB B) 0 (fun _ => 0) 16) 48) 16) t) (t + 14)).toUInt32 >>> ((10 : Int32) &&& 31).toUInt32).toInt32)) + ((own_wf (own_wa (own_gB B) 64 (own_wf (own_wa (own_gB B) 0 (fun _ => 0) 16) 48) 16) t) (t + 9))) + (((own_rr ((own_wf (own_wa (own_gB B) 64 (own_wf (own_wa (own_gB B) 0 (fun _ => 0) 16) 48) 16) t) (t + 1)) (7 : Int32)) ^^^ (own_rr ((own_wf (own_wa (own_gB B) 64 (own_wf (own_wa (own_gB B) 0 (fun _ => 0) 16) 48) 16) t) (t + 1)) (18 : Int32))) ^^^ ((((own_wf (own_wa (own_gB B) 64 (own_wf (own_wa (own_gB B) 0 (fun _ => 0) 16) 48) 16) t) (t + 1)).toUInt32 >>> ((3 : Int32) &&& 31).toUInt32).toInt32))) + ((own_wf (own_wa (own_gB B) 64 (own_wf (own_wa (own_gB B) 0 (fun _ => 0) 16) 48) 16) t) t))), (.int (Int32.ofNat (16 + t))), (.ref b236)])) (fun tg kt => ?_) ?_
                  · refine X285.iaload hx (j := ((Int32.ofNat (16 + t)) - (16 : Int32))) (v := (.int ((own_wf (own_wa (own_gB B) 64 (own_wf (own_wa (own_gB B) 0 (fun _ => 0) 16) 48) 16) t) t))) (by rw [q285_0]; exact Ar287.1) (State.isArrayOf_alike hZ.alike Ar287.2.1) Ar287.2.2 hin287 hat287 (g := (mkF m 293 #[.val (.ref a1), .val (.long (448 : Int64)), .second, .val (.int 2), .val (.ref b204), .val (.ref b231), .val (.ref b236), .val (.int 1), .val (.int (Int32.ofNat (16 + t))), .val (.int ((own_wf (own_wa (own_gB B) 64 (own_wf (own_wa (own_gB B) 0 (fun _ => 0) 16) 48) 16) t) (t + 1))), .val (.int ((own_wf (own_wa (own_gB B) 64 (own_wf (own_wa (own_gB B) 0 (fun _ => 0) 16) 48) 16) t) (t + 14))), .val (.int (((own_rr ((own_wf (own_wa (own_gB B) 64 (own_wf (own_wa (own_gB B) 0 (fun _ => 0) 16) 48) 16) t) (t + 1)) (7 : Int32)) ^^^ (own_rr ((own_wf (own_wa (own_gB B) 64 (own_wf (own_wa (own_gB B) 0 (fun _ => 0) 16) 48) 16) t) (t + 1)) (18 : Int32))) ^^^ ((((own_wf (own_wa (own_gB B) 64 (own_wf (own_wa (own_gB B) 0 (fun _ => 0) 16) 48) 16) t) (t + 1)).toUInt32 >>> ((3 : Int32) &&& 31).toUInt32).toInt32))), .val (.int (((own_rr ((own_wf (own_wa (own_gB B) 64 (own_wf (own_wa (own_gB B) 0 (fun _ => 0) 16) 48) 16) t) (t + 14)) (17 : Int32)) ^^^ (own_rr ((own_wf (own_wa (own_gB B) 64 (own_wf (own_wa (own_gB B) 0 (fun _ => 0) 16) 48) 16) t) (t + 14)) (19 : Int32))) ^^^ ((((own_wf (own_wa (own_gB B) 64 (own_wf (own_wa (own_gB B) 0 (fun _ => 0) 16) 48) 16) t) (t + 14)).toUInt32 >>> ((10 : Int32) &&& 31).toUInt32).toInt32)))] [(.int ((Int32.ofNat (16 + t)) - (16 : Int32))), (.ref b236), (.int (((((own_rr ((own_wf (own_wa (own_gB B) 64 (own_wf (own_wa (own_gB B) 0 (fun _ => 0) 16) 48) 16) t) (t + 14)) (17 : Int32)) ^^^ (own_rr ((own_wf (own_wa (own_gB B) 64 (own_wf (own_wa (own_gB B) 0 (fun _ => 0) 16) 48) 16) t) (t + 14)) (19 : Int32))) ^^^ ((((own_wf (own_wa (own_gB B) 64 (own_wf (own_wa (own_gB B) 0 (fun _ => 0) 16) 48) 16) t) (t + 14)).toUInt32 >>> ((10 : Int32) &&& 31).toUInt32).toInt32)) + ((own_wf (own_wa (own_gB B) 64 (own_wf (own_wa (own_gB B) 0 (fun _ => 0) 16) 48) 16) t) (t + 9))) + (((own_rr ((own_wf (own_wa (own_gB B) 64 (own_wf (own_wa (own_gB B) 0 (fun _ => 0) 16) 48) 16) t) (t + 1)) (7 : Int32)) ^^^ (own_rr ((own_wf (own_wa (own_gB B) 64 (own_wf (own_wa (own_gB B) 0 (fun _ => 0) 16) 48) 16) t) (t + 1)) (18 : Int32))) ^^^ ((((own_wf (own_wa (own_gB B) 64 (own_wf (own_wa (own_gB B) 0 (fun _ => 0) 16) 48) 16) t) (t + 1)).toUInt32 >>> ((3 : Int32) &&& 31).toUInt32).toInt32)))), (.int (Int32.ofNat (16 + t))), (.ref b236)])) rfl rfl (hb hby d2_293) _ ?_
                    refine XS.iadd X285.here hx rfl (hb hby d2_294) rfl ?_
                    exact kt
                  obtain ⟨cl288, Ar288, cq288, cS288, cN288, cH288, cG288⟩ := id fl257_2
                  have hin288 := inb_of (j := (Int32.ofNat (16 + t))) cS288 (own_lt48' ht257)
                  obtain ⟨T288, h288, X288, e288, W288, st288⟩ := stI X285 hx hZ q285_0 Ar288 (j := (Int32.ofNat (16 + t))) hin288 (g := (mkF m 295 #[.val (.ref a1), .val (.long (448 : Int64)), .second, .val (.int 2), .val (.ref b204), .val (.ref b231), .val (.ref b236), .val (.int 1), .val (.int (Int32.ofNat (16 + t))), .val (.int ((own_wf (own_wa (own_gB B) 64 (own_wf (own_wa (own_gB B) 0 (fun _ => 0) 16) 48) 16) t) (t + 1))), .val (.int ((own_wf (own_wa (own_gB B) 64 (own_wf (own_wa (own_gB B) 0 (fun _ => 0) 16) 48) 16) t) (t + 14))), .val (.int (((own_rr ((own_wf (own_wa (own_gB B) 64 (own_wf (own_wa (own_gB B) 0 (fun _ => 0) 16) 48) 16) t) (t + 1)) (7 : Int32)) ^^^ (own_rr ((own_wf (own_wa (own_gB B) 64 (own_wf (own_wa (own_gB B) 0 (fun _ => 0) 16) 48) 16) t) (t + 1)) (18 : Int32))) ^^^ ((((own_wf (own_wa (own_gB B) 64 (own_wf (own_wa (own_gB B) 0 (fun _ => 0) 16) 48) 16) t) (t + 1)).toUInt32 >>> ((3 : Int32) &&& 31).toUInt32).toInt32))), .val (.int (((own_rr ((own_wf (own_wa (own_gB B) 64 (own_wf (own_wa (own_gB B) 0 (fun _ => 0) 16) 48) 16) t) (t + 14)) (17 : Int32)) ^^^ (own_rr ((own_wf (own_wa (own_gB B) 64 (own_wf (own_wa (own_gB B) 0 (fun _ => 0) 16) 48) 16) t) (t + 14)) (19 : Int32))) ^^^ ((((own_wf (own_wa (own_gB B) 64 (own_wf (own_wa (own_gB B) 0 (fun _ => 0) 16) 48) 16) t) (t + 14)).toUInt32 >>> ((10 : Int32) &&& 31).toUInt32).toInt32)))] [(.int ((((((own_rr ((own_wf (own_wa (own_gB B) 64 (own_wf (own_wa (own_gB B) 0 (fun _ => 0) 16) 48) 16) t) (t + 14)) (17 : Int32)) ^^^ (own_rr ((own_wf (own_wa (own_gB B) 64 (own_wf (own_wa (own_gB B) 0 (fun _ => 0) 16) 48) 16) t) (t + 14)) (19 : Int32))) ^^^ ((((own_wf (own_wa (own_gB B) 64 (own_wf (own_wa (own_gB B) 0 (fun _ => 0) 16) 48) 16) t) (t + 14)).toUInt32 >>> ((10 : Int32) &&& 31).toUInt32).toInt32)) + ((own_wf (own_wa (own_gB B) 64 (own_wf (own_wa (own_gB B) 0 (fun _ => 0) 16) 48) 16) t) (t + 9))) + (((own_rr ((own_wf (own_wa (own_gB B) 64 (own_wf (own_wa (own_gB B) 0 (fun _ => 0) 16) 48) 16) t) (t + 1)) (7 : Int32)) ^^^ (own_rr ((own_wf (own_wa (own_gB B) 64 (own_wf (own_wa (own_gB B) 0 (fun _ => 0) 16) 48) 16) t) (t + 1)) (18 : Int32))) ^^^ ((((own_wf (own_wa (own_gB B) 64 (own_wf (own_wa (own_gB B) 0 (fun _ => 0) 16) 48) 16) t) (t + 1)).toUInt32 >>> ((3 : Int32) &&& 31).toUInt32).toInt32))) + ((own_wf (own_wa (own_gB B) 64 (own_wf (own_wa (own_gB B) 0 (fun _ => 0) 16) 48) 16) t) t))), (.int (Int32.ofNat (16 + t))), (.ref b236)])) rfl rfl (hb hby d2_295)
                  refine own_go st288 ?_
                  have V288 : Arv Z h288 b236 k236 .int (64 : Int32) (own_tab 64 (fun j => if j = (16 + t) then (own_ws (own_wf (own_wa (own_gB B) 64 (own_wf (own_wa (own_gB B) 0 (fun _ => 0) 16) 48) 16) t (t + 1)) (own_wf (own_wa (own_gB B) 64 (own_wf (own_wa (own_gB B) 0 (fun _ => 0) 16) 48) 16) t (t + 14)) (own_wf (own_wa (own_gB B) 64 (own_wf (own_wa (own_gB B) 0 (fun _ => 0) 16) 48) 16) t (t + 9)) (own_wf (own_wa (own_gB B) 64 (own_wf (own_wa (own_gB B) 0 (fun _ => 0) 16) 48) 16) t t)) else (own_wf (own_wa (own_gB B) 64 (own_wf (own_wa (own_gB B) 0 (fun _ => 0) 16) 48) 16) t) j)) (.int 0) := by have q := Arv.set Ar288 cq288 cS288 cN288 cH288 cG288 rfl W288 (16 + t) (own_nat (by omega)) (by rw [own_tab_len]; omega); rw [own_tab_set _ _ (by omega)] at q; exact q
                  have K288 : Keep h0 h288 [] := Keep.wr K_257 W288 (Or.inr low257_b236)
                  have N288 := Fr.snoc X288 N285 (Nat.le_trans Z0 low257_b236)
                  refine own_go (B := T288.setTop (mkF m 197 #[.val (.ref a1), .val (.long (448 : Int64)), .second, .val (.int 2), .val (.ref b204), .val (.ref b231), .val (.ref b236), .val (.int 1), .val (.int ((Int32.ofNat (16 + t)) + (1 : Int32))), .val (.int ((own_wf (own_wa (own_gB B) 64 (own_wf (own_wa (own_gB B) 0 (fun _ => 0) 16) 48) 16) t) (t + 1))), .val (.int ((own_wf (own_wa (own_gB B) 64 (own_wf (own_wa (own_gB B) 0 (fun _ => 0) 16) 48) 16) t) (t + 14))), .val (.int (((own_rr ((own_wf (own_wa (own_gB B) 64 (own_wf (own_wa (own_gB B) 0 (fun _ => 0) 16) 48) 16) t) (t + 1)) (7 : Int32)) ^^^ (own_rr ((own_wf (own_wa (own_gB B) 64 (own_wf (own_wa (own_gB B) 0 (fun _ => 0) 16) 48) 16) t) (t + 1)) (18 : Int32))) ^^^ ((((own_wf (own_wa (own_gB B) 64 (own_wf (own_wa (own_gB B) 0 (fun _ => 0) 16) 48) 16) t) (t + 1)).toUInt32 >>> ((3 : Int32) &&& 31).toUInt32).toInt32))), .val (.int (((own_rr ((own_wf (own_wa (own_gB B) 64 (own_wf (own_wa (own_gB B) 0 (fun _ => 0) 16) 48) 16) t) (t + 14)) (17 : Int32)) ^^^ (own_rr ((own_wf (own_wa (own_gB B) 64 (own_wf (own_wa (own_gB B) 0 (fun _ => 0) 16) 48) 16) t) (t + 14)) (19 : Int32))) ^^^ ((((own_wf (own_wa (own_gB B) 64 (own_wf (own_wa (own_gB B) 0 (fun _ => 0) 16) 48) 16) t) (t + 14)).toUInt32 >>> ((10 : Int32) &&& 31).toUInt32).toInt32)))] [])) (fun tg kt => ?_) ?_
                  · refine XS.iinc X288.here hx rfl (hb hby d2_296) rfl (l' := #[.val (.ref a1), .val (.long (448 : Int64)), .second, .val (.int 2), .val (.ref b204), .val (.ref b231), .val (.ref b236), .val (.int 1), .val (.int ((Int32.ofNat (16 + t)) + (1 : Int32))), .val (.int ((own_wf (own_wa (own_gB B) 64 (own_wf (own_wa (own_gB B) 0 (fun _ => 0) 16) 48) 16) t) (t + 1))), .val (.int ((own_wf (own_wa (own_gB B) 64 (own_wf (own_wa (own_gB B) 0 (fun _ => 0) 16) 48) 16) t) (t + 14))), .val (.int (((own_rr ((own_wf (own_wa (own_gB B) 64 (own_wf (own_wa (own_gB B) 0 (fun _ => 0) 16) 48) 16) t) (t + 1)) (7 : Int32)) ^^^ (own_rr ((own_wf (own_wa (own_gB B) 64 (own_wf (own_wa (own_gB B) 0 (fun _ => 0) 16) 48) 16) t) (t + 1)) (18 : Int32))) ^^^ ((((own_wf (own_wa (own_gB B) 64 (own_wf (own_wa (own_gB B) 0 (fun _ => 0) 16) 48) 16) t) (t + 1)).toUInt32 >>> ((3 : Int32) &&& 31).toUInt32).toInt32))), .val (.int (((own_rr ((own_wf (own_wa (own_gB B) 64 (own_wf (own_wa (own_gB B) 0 (fun _ => 0) 16) 48) 16) t) (t + 14)) (17 : Int32)) ^^^ (own_rr ((own_wf (own_wa (own_gB B) 64 (own_wf (own_wa (own_gB B) 0 (fun _ => 0) 16) 48) 16) t) (t + 14)) (19 : Int32))) ^^^ ((((own_wf (own_wa (own_gB B) 64 (own_wf (own_wa (own_gB B) 0 (fun _ => 0) 16) 48) 16) t) (t + 14)).toUInt32 >>> ((10 : Int32) &&& 31).toUInt32).toInt32)))]) rfl ?_
                    refine XS.goto X288.here hx rfl (pc0 := 299) (pc' := 197) rfl (hb hby d2_299) (by decide) (by decide) ?_
                    exact kt
                  rw [show ((Int32.ofNat (16 + t)) + (1 : Int32)) = (Int32.ofNat (16 + (t + 1))) from own_isucc _]
                  have f289 : Arv Z h288 b204 k204 .byte (128 : Int32) (own_tab 128 (own_gB B)) (.int 0) := (fl257_0.other W288 ne243)
                  have f290 : Exa Z h288 b231 "[I" := (fl257_1.wr W288)
                  have f291 : Arv Z h288 b231 k_INITIAL .int (8 : Int32) [(.int x0_0), (.int x0_1), (.int x0_2), (.int x0_3), (.int x0_4), (.int x0_5), (.int x0_6), (.int x0_7)] (.int 0) := (fl257_3.other W288 ne244)
                  exact ih257 (t + 1) T288 h288 _ _ _ _ _ (by omega) X288 e288 N288 K288 (One.val rfl) (One.val rfl) (One.val rfl) (One.val rfl) f289 f290 V288 f291
              exact loop257 48 0 T_253 h_253 _ _ _ _ _ rfl X_253 e_253 N_253 K_253 hz253_9 hz248_10 hz248_11 hz248_12 fl253_0 fl253_1 fl253_2 fl253_3
            | succ k ih253 =>
              intro t T_253 h_253 lo_253 z253_9 hkt253 X_253 e_253 N_253 K_253 hz253_9 fl253_0 fl253_1 fl253_2 fl253_3
              have ht253 : t < 16 := by omega
              refine own_go (B := T_253.setTop (mkF m 136 #[.val (.ref a1), .val (.long (448 : Int64)), .second, .val (.int 2), .val (.ref b204), .val (.ref b231), .val (.ref b236), .val (.int 1), .val (.int (Int32.ofNat t)), .val (.int ((64 : Int32) + ((4 : Int32) * (Int32.ofNat t)))), z248_10, z248_11, z248_12] [(.int ((64 : Int32) + ((4 : Int32) * (Int32.ofNat t)))), (.ref b204), (.int (Int32.ofNat t)), (.ref b236)])) (fun tg kt => ?_) ?_
              · refine XS.iload X_253.here hx rfl (hb hby d2_109) rfl ?_
                refine XS.bipush X_253.here hx rfl (hb hby d2_111) ?_
                refine XS.icmpNo X_253.here hx rfl (hb hby d2_113) rfl (tlt (show (Int32.ofNat t) < (16 : Int32) from (own_lt16 ht253))).2.1 ?_
                refine XS.iload X_253.here hx rfl (hb hby d2_116) rfl ?_
                refine XS.bipush X_253.here hx rfl (hb hby d2_118) ?_
                refine XS.imul X_253.here hx rfl (hb hby d2_120) rfl ?_
                refine XS.iconst X_253.here hx rfl (hb hby d2_121) ?_
                refine XS.iload X_253.here hx rfl (hb hby d2_122) rfl ?_
                refine XS.imul X_253.here hx rfl (hb hby d2_124) rfl ?_
                refine XS.iadd X_253.here hx rfl (hb hby d2_125) rfl ?_
                refine XS.istoreS X_253.here hx rfl (hb hby d2_126) rfl rfl hz253_9 ?_
                refine XS.aload X_253.here hx rfl (hb hby d2_128) rfl rfl ?_
                refine XS.iload X_253.here hx rfl (hb hby d2_130) rfl ?_
                refine XS.aload X_253.here hx rfl (hb hby d2_132) rfl rfl ?_
                refine XS.iload X_253.here hx rfl (hb hby d2_134) rfl ?_
                exact kt
              obtain ⟨cl292, Ar292, cq292, cS292, cN292, cH292, cG292⟩ := id fl253_0
              have hin292 := inb_of (j := ((64 : Int32) + ((4 : Int32) * (Int32.ofNat t)))) cS292 (own_inb (N := 128) (own_b0 (o := 64) (t := t) (by decide) (by decide) ht253) (by omega) (by decide))
              have hat292 : cl292.slots[(((64 : Int32) + ((4 : Int32) * (Int32.ofNat t)))).toNatClampNeg]? = some (.int ((own_gB B) (64 + 4 * t))) := Has.at cH292 hin292 (own_at (own_gB B) _ (own_b0 (o := 64) (t := t) (by decide) (by decide) ht253) (by omega))
              refine own_go (B := T_253.setTop (mkF m 150 #[.val (.ref a1), .val (.long (448 : Int64)), .second, .val (.int 2), .val (.ref b204), .val (.ref b231), .val (.ref b236), .val (.int 1), .val (.int (Int32.ofNat t)), .val (.int ((64 : Int32) + ((4 : Int32) * (Int32.ofNat t)))), z248_10, z248_11, z248_12] [(.int (((64 : Int32) + ((4 : Int32) * (Int32.ofNat t))) + (1 : Int32))), (.ref b204), (.int ((((own_gB B) (64 + 4 * t)) &&& (255 : Int32)) <<< ((24 : Int32) &&& 31))), (.int (Int32.ofNat t)), (.ref b236)])) (fun tg kt => ?_) ?_
              · refine X_253.baloadBytes hx (j := ((64 : Int32) + ((4 : Int32) * (Int32.ofNat t)))) (v := (.int ((own_gB B) (64 + 4 * t)))) (by rw [e_253]; exact Ar292.1) (State.isArrayOf_alike hZ.alike Ar292.2.1) Ar292.2.2 hin292 hat292 (g := (mkF m 136 #[.val (.ref a1), .val (.long (448 : Int64)), .second, .val (.int 2), .val (.ref b204), .val (.ref b231), .val (.ref b236), .val (.int 1), .val (.int (Int32.ofNat t)), .val (.int ((64 : Int32) + ((4 : Int32) * (Int32.ofNat t)))), z248_10, z248_11, z248_12] [(.int ((64 : Int32) + ((4 : Int32) * (Int32.ofNat t)))), (.ref b204), (.int (Int32.ofNat t)), (.ref b236)])) rfl rfl (hb hby d2_136) _ ?_
                refine XS.sipush X_253.here hx rfl (hb hby d2_137) ?_
                refine XS.iand X_253.here hx rfl (hb hby d2_140) rfl ?_
                refine XS.bipush X_253.here hx rfl (hb hby d2_141) ?_
                refine XS.ishl X_253.here hx rfl (hb hby d2_143) rfl ?_
                refine XS.aload X_253.here hx rfl (hb hby d2_144) rfl rfl ?_
                refine XS.iload X_253.here hx rfl (hb hby d2_146) rfl ?_
                refine XS.iconst X_253.here hx rfl (hb hby d2_148) ?_
                refine XS.iadd X_253.here hx rfl (hb hby d2_149) rfl ?_
                exact kt
              obtain ⟨cl293, Ar293, cq293, cS293, cN293, cH293, cG293⟩ := id fl253_0
              have hin293 := inb_of (j := (((64 : Int32) + ((4 : Int32) * (Int32.ofNat t))) + (1 : Int32))) cS293 (own_inb (N := 128) (own_br (r := 1) (k := 64 + 4 * t) (own_b0 (o := 64) (t := t) (by decide) (by decide) ht253) (by omega) (by decide) (by decide)) (by omega) (by decide))
              have hat293 : cl293.slots[((((64 : Int32) + ((4 : Int32) * (Int32.ofNat t))) + (1 : Int32))).toNatClampNeg]? = some (.int ((own_gB B) (64 + 4 * t + 1))) := Has.at cH293 hin293 (own_at (own_gB B) _ (own_br (r := 1) (k := 64 + 4 * t) (own_b0 (o := 64) (t := t) (by decide) (by decide) ht253) (by omega) (by decide) (by decide)) (by omega))
              refine own_go (B := T_253.setTop (mkF m 165 #[.val (.ref a1), .val (.long (448 : Int64)), .second, .val (.int 2), .val (.ref b204), .val (.ref b231), .val (.ref b236), .val (.int 1), .val (.int (Int32.ofNat t)), .val (.int ((64 : Int32) + ((4 : Int32) * (Int32.ofNat t)))), z248_10, z248_11, z248_12] [(.int (((64 : Int32) + ((4 : Int32) * (Int32.ofNat t))) + (2 : Int32))), (.ref b204), (.int (((((own_gB B) (64 + 4 * t)) &&& (255 : Int32)) <<< ((24 : Int32) &&& 31)) ||| ((((own_gB B) (64 + 4 * t + 1)) &&& (255 : Int32)) <<< ((16 : Int32) &&& 31)))), (.int (Int32.ofNat t)), (.ref b236)])) (fun tg kt => ?_) ?_
              · refine X_253.baloadBytes hx (j := (((64 : Int32) + ((4 : Int32) * (Int32.ofNat t))) + (1 : Int32))) (v := (.int ((own_gB B) (64 + 4 * t + 1)))) (by rw [e_253]; exact Ar293.1) (State.isArrayOf_alike hZ.alike Ar293.2.1) Ar293.2.2 hin293 hat293 (g := (mkF m 150 #[.val (.ref a1), .val (.long (448 : Int64)), .second, .val (.int 2), .val (.ref b204), .val (.ref b231), .val (.ref b236), .val (.int 1), .val (.int (Int32.ofNat t)), .val (.int ((64 : Int32) + ((4 : Int32) * (Int32.ofNat t)))), z248_10, z248_11, z248_12] [(.int (((64 : Int32) + ((4 : Int32) * (Int32.ofNat t))) + (1 : Int32))), (.ref b204), (.int ((((own_gB B) (64 + 4 * t)) &&& (255 : Int32)) <<< ((24 : Int32) &&& 31))), (.int (Int32.ofNat t)), (.ref b236)])) rfl rfl (hb hby d2_150) _ ?_
                refine XS.sipush X_253.here hx rfl (hb hby d2_151) ?_
                refine XS.iand X_253.here hx rfl (hb hby d2_154) rfl ?_
                refine XS.bipush X_253.here hx rfl (hb hby d2_155) ?_
                refine XS.ishl X_253.here hx rfl (hb hby d2_157) rfl ?_
                refine XS.ior X_253.here hx rfl (hb hby d2_158) rfl ?_
                refine XS.aload X_253.here hx rfl (hb hby d2_159) rfl rfl ?_
                refine XS.iload X_253.here hx rfl (hb hby d2_161) rfl ?_
                refine XS.iconst X_253.here hx rfl (hb hby d2_163) ?_
                refine XS.iadd X_253.here hx rfl (hb hby d2_164) rfl ?_
                exact kt
              obtain ⟨cl294, Ar294, cq294, cS294, cN294, cH294, cG294⟩ := id fl253_0
              have hin294 := inb_of (j := (((64 : Int32) + ((4 : Int32) * (Int32.ofNat t))) + (2 : Int32))) cS294 (own_inb (N := 128) (own_br (r := 2) (k := 64 + 4 * t) (own_b0 (o := 64) (t := t) (by decide) (by decide) ht253) (by omega) (by decide) (by decide)) (by omega) (by decide))
              have hat294 : cl294.slots[((((64 : Int32) + ((4 : Int32) * (Int32.ofNat t))) + (2 : Int32))).toNatClampNeg]? = some (.int ((own_gB B) (64 + 4 * t + 2))) := Has.at cH294 hin294 (own_at (own_gB B) _ (own_br (r := 2) (k := 64 + 4 * t) (own_b0 (o := 64) (t := t) (by decide) (by decide) ht253) (by omega) (by decide) (by decide)) (by omega))
              refine own_go (B := T_253.setTop (mkF m 180 #[.val (.ref a1), .val (.long (448 : Int64)), .second, .val (.int 2), .val (.ref b204), .val (.ref b231), .val (.ref b236), .val (.int 1), .val (.int (Int32.ofNat t)), .val (.int ((64 : Int32) + ((4 : Int32) * (Int32.ofNat t)))), z248_10, z248_11, z248_12] [(.int (((64 : Int32) + ((4 : Int32) * (Int32.ofNat t))) + (3 : Int32))), (.ref b204), (.int ((((((own_gB B) (64 + 4 * t)) &&& (255 : Int32)) <<< ((24 : Int32) &&& 31)) ||| ((((own_gB B) (64 + 4 * t + 1)) &&& (255 : Int32)) <<< ((16 : Int32) &&& 31))) ||| ((((own_gB B) (64 + 4 * t + 2)) &&& (255 : Int32)) <<< ((8 : Int32) &&& 31)))), (.int (Int32.ofNat t)), (.ref b236)])) (fun tg kt => ?_) ?_
              · refine X_253.baloadBytes hx (j := (((64 : Int32) + ((4 : Int32) * (Int32.ofNat t))) + (2 : Int32))) (v := (.int ((own_gB B) (64 + 4 * t + 2)))) (by rw [e_253]; exact Ar294.1) (State.isArrayOf_alike hZ.alike Ar294.2.1) Ar294.2.2 hin294 hat294 (g := (mkF m 165 #[.val (.ref a1), .val (.long (448 : Int64)), .second, .val (.int 2), .val (.ref b204), .val (.ref b231), .val (.ref b236), .val (.int 1), .val (.int (Int32.ofNat t)), .val (.int ((64 : Int32) + ((4 : Int32) * (Int32.ofNat t)))), z248_10, z248_11, z248_12] [(.int (((64 : Int32) + ((4 : Int32) * (Int32.ofNat t))) + (2 : Int32))), (.ref b204), (.int (((((own_gB B) (64 + 4 * t)) &&& (255 : Int32)) <<< ((24 : Int32) &&& 31)) ||| ((((own_gB B) (64 + 4 * t + 1)) &&& (255 : Int32)) <<< ((16 : Int32) &&& 31)))), (.int (Int32.ofNat t)), (.ref b236)])) rfl rfl (hb hby d2_165) _ ?_
                refine XS.sipush X_253.here hx rfl (hb hby d2_166) ?_
                refine XS.iand X_253.here hx rfl (hb hby d2_169) rfl ?_
                refine XS.bipush X_253.here hx rfl (hb hby d2_170) ?_
                refine XS.ishl X_253.here hx rfl (hb hby d2_172) rfl ?_
                refine XS.ior X_253.here hx rfl (hb hby d2_173) rfl ?_
                refine XS.aload X_253.here hx rfl (hb hby d2_174) rfl rfl ?_
                refine XS.iload X_253.here hx rfl (hb hby d2_176) rfl ?_
                refine XS.iconst X_253.here hx rfl (hb hby d2_178) ?_
                refine XS.iadd X_253.here hx rfl (hb hby d2_179) rfl ?_
                exact kt
              obtain ⟨cl295, Ar295, cq295, cS295, cN295, cH295, cG295⟩ := id fl253_0
              have hin295 := inb_of (j := (((64 : Int32) + ((4 : Int32) * (Int32.ofNat t))) + (3 : Int32))) cS295 (own_inb (N := 128) (own_br (r := 3) (k := 64 + 4 * t) (own_b0 (o := 64) (t := t) (by decide) (by decide) ht253) (by omega) (by decide) (by decide)) (by omega) (by decide))
              have hat295 : cl295.slots[((((64 : Int32) + ((4 : Int32) * (Int32.ofNat t))) + (3 : Int32))).toNatClampNeg]? = some (.int ((own_gB B) (64 + 4 * t + 3))) := Has.at cH295 hin295 (own_at (own_gB B) _ (own_br (r := 3) (k := 64 + 4 * t) (own_b0 (o := 64) (t := t) (by decide) (by decide) ht253) (by omega) (by decide) (by decide)) (by omega))
              refine own_go (B := T_253.setTop (mkF m 186 #[.val (.ref a1), .val (.long (448 : Int64)), .second, .val (.int 2), .val (.ref b204), .val (.ref b231), .val (.ref b236), .val (.int 1), .val (.int (Int32.ofNat t)), .val (.int ((64 : Int32) + ((4 : Int32) * (Int32.ofNat t)))), z248_10, z248_11, z248_12] [(.int (((((((own_gB B) (64 + 4 * t)) &&& (255 : Int32)) <<< ((24 : Int32) &&& 31)) ||| ((((own_gB B) (64 + 4 * t + 1)) &&& (255 : Int32)) <<< ((16 : Int32) &&& 31))) ||| ((((own_gB B) (64 + 4 * t + 2)) &&& (255 : Int32)) <<< ((8 : Int32) &&& 31))) ||| (((own_gB B) (64 + 4 * t + 3)) &&& (255 : Int32)))), (.int (Int32.ofNat t)), (.ref b236)])) (fun tg kt => ?_) ?_
              · refine X_253.baloadBytes hx (j := (((64 : Int32) + ((4 : Int32) * (Int32.ofNat t))) + (3 : Int32))) (v := (.int ((own_gB B) (64 + 4 * t + 3)))) (by rw [e_253]; exact Ar295.1) (State.isArrayOf_alike hZ.alike Ar295.2.1) Ar295.2.2 hin295 hat295 (g := (mkF m 180 #[.val (.ref a1), .val (.long (448 : Int64)), .second, .val (.int 2), .val (.ref b204), .val (.ref b231), .val (.ref b236), .val (.int 1), .val (.int (Int32.ofNat t)), .val (.int ((64 : Int32) + ((4 : Int32) * (Int32.ofNat t)))), z248_10, z248_11, z248_12] [(.int (((64 : Int32) + ((4 : Int32) * (Int32.ofNat t))) + (3 : Int32))), (.ref b204), (.int ((((((own_gB B) (64 + 4 * t)) &&& (255 : Int32)) <<< ((24 : Int32) &&& 31)) ||| ((((own_gB B) (64 + 4 * t + 1)) &&& (255 : Int32)) <<< ((16 : Int32) &&& 31))) ||| ((((own_gB B) (64 + 4 * t + 2)) &&& (255 : Int32)) <<< ((8 : Int32) &&& 31)))), (.int (Int32.ofNat t)), (.ref b236)])) rfl rfl (hb hby d2_180) _ ?_
                refine XS.sipush X_253.here hx rfl (hb hby d2_181) ?_
                refine XS.iand X_253.here hx rfl (hb hby d2_184) rfl ?_
                refine XS.ior X_253.here hx rfl (hb hby d2_185) rfl ?_
                exact kt
              obtain ⟨cl296, Ar296, cq296, cS296, cN296, cH296, cG296⟩ := id fl253_2
              have hin296 := inb_of (j := (Int32.ofNat t)) cS296 (own_lt16' ht253)
              obtain ⟨T296, h296, X296, e296, W296, st296⟩ := stI X_253 hx hZ e_253 Ar296 (j := (Int32.ofNat t)) hin296 (g := (mkF m 186 #[.val (.ref a1), .val (.long (448 : Int64)), .second, .val (.int 2), .val (.ref b204), .val (.ref b231), .val (.ref b236), .val (.int 1), .val (.int (Int32.ofNat t)), .val (.int ((64 : Int32) + ((4 : Int32) * (Int32.ofNat t)))), z248_10, z248_11, z248_12] [(.int (((((((own_gB B) (64 + 4 * t)) &&& (255 : Int32)) <<< ((24 : Int32) &&& 31)) ||| ((((own_gB B) (64 + 4 * t + 1)) &&& (255 : Int32)) <<< ((16 : Int32) &&& 31))) ||| ((((own_gB B) (64 + 4 * t + 2)) &&& (255 : Int32)) <<< ((8 : Int32) &&& 31))) ||| (((own_gB B) (64 + 4 * t + 3)) &&& (255 : Int32)))), (.int (Int32.ofNat t)), (.ref b236)])) rfl rfl (hb hby d2_186)
              refine own_go st296 ?_
              have V296 : Arv Z h296 b236 k236 .int (64 : Int32) (own_tab 64 (fun j => if j = t then (own_w0 (own_gB B) 64 t) else (own_wa (own_gB B) 64 (own_wf (own_wa (own_gB B) 0 (fun _ => 0) 16) 48) t) j)) (.int 0) := by have q := Arv.set Ar296 cq296 cS296 cN296 cH296 cG296 rfl W296 t (own_nat (by omega)) (by rw [own_tab_len]; omega); rw [own_tab_set _ _ (by omega)] at q; exact q
              have K296 : Keep h0 h296 [] := Keep.wr K_253 W296 (Or.inr low253_b236)
              have N296 := Fr.snoc X296 N_253 (Nat.le_trans Z0 low253_b236)
              refine own_go (B := T296.setTop (mkF m 109 #[.val (.ref a1), .val (.long (448 : Int64)), .second, .val (.int 2), .val (.ref b204), .val (.ref b231), .val (.ref b236), .val (.int 1), .val (.int ((Int32.ofNat t) + (1 : Int32))), .val (.int ((64 : Int32) + ((4 : Int32) * (Int32.ofNat t)))), z248_10, z248_11, z248_12] [])) (fun tg kt => ?_) ?_
              · refine XS.iinc X296.here hx rfl (hb hby d2_187) rfl (l' := #[.val (.ref a1), .val (.long (448 : Int64)), .second, .val (.int 2), .val (.ref b204), .val (.ref b231), .val (.ref b236), .val (.int 1), .val (.int ((Int32.ofNat t) + (1 : Int32))), .val (.int ((64 : Int32) + ((4 : Int32) * (Int32.ofNat t)))), z248_10, z248_11, z248_12]) rfl ?_
                refine XS.goto X296.here hx rfl (pc0 := 190) (pc' := 109) rfl (hb hby d2_190) (by decide) (by decide) ?_
                exact kt
              rw [show ((Int32.ofNat t) + (1 : Int32)) = (Int32.ofNat (t + 1)) from own_isucc _]
              have f297 : Arv Z h296 b204 k204 .byte (128 : Int32) (own_tab 128 (own_gB B)) (.int 0) := (fl253_0.other W296 ne243)
              have f298 : Exa Z h296 b231 "[I" := (fl253_1.wr W296)
              have f299 : Arv Z h296 b231 k_INITIAL .int (8 : Int32) [(.int x0_0), (.int x0_1), (.int x0_2), (.int x0_3), (.int x0_4), (.int x0_5), (.int x0_6), (.int x0_7)] (.int 0) := (fl253_3.other W296 ne244)
              exact ih253 (t + 1) T296 h296 _ _ (by omega) X296 e296 N296 K296 (One.val rfl) f297 f298 V296 f299
          exact loop253 16 0 T249 T249.heap _ _ rfl X249 rfl N249 K249 hz248_9 f254 f255 f256 V252
        | succ k ih248 =>
          intro t T_248 h_248 lo_248 z248_9 z248_10 z248_11 z248_12 hkt248 X_248 e_248 N_248 K_248 hz248_9 hz248_10 hz248_11 hz248_12 fl248_0 fl248_1 fl248_2 fl248_3
          have ht248 : t < 48 := by omega
          refine own_go (B := T_248.setTop (mkF m 211 #[.val (.ref a1), .val (.long (448 : Int64)), .second, .val (.int 2), .val (.ref b204), .val (.ref b231), .val (.ref b236), .val (.int 0), .val (.int (Int32.ofNat (16 + t))), z248_9, z248_10, z248_11, z248_12] [(.int ((Int32.ofNat (16 + t)) - (15 : Int32))), (.ref b236)])) (fun tg kt => ?_) ?_
          · refine XS.iload X_248.here hx rfl (hb hby d2_197) rfl ?_
            refine XS.bipush X_248.here hx rfl (hb hby d2_199) ?_
            refine XS.icmpNo X_248.here hx rfl (hb hby d2_201) rfl (tlt (show (Int32.ofNat (16 + t)) < (64 : Int32) from (own_lt48 ht248))).2.1 ?_
            refine XS.aload X_248.here hx rfl (hb hby d2_204) rfl rfl ?_
            refine XS.iload X_248.here hx rfl (hb hby d2_206) rfl ?_
            refine XS.bipush X_248.here hx rfl (hb hby d2_208) ?_
            refine XS.isub X_248.here hx rfl (hb hby d2_210) rfl ?_
            exact kt
          obtain ⟨cl300, Ar300, cq300, cS300, cN300, cH300, cG300⟩ := id fl248_3
          have hin300 := inb_of (j := ((Int32.ofNat (16 + t)) - (15 : Int32))) cS300 (own_inb (N := 64) (own_si (n := t + 1) (d := 15) ht248 (by omega) (by decide)) (by omega) (by decide))
          have hat300 : cl300.slots[(((Int32.ofNat (16 + t)) - (15 : Int32))).toNatClampNeg]? = some (.int ((own_wf (own_wa (own_gB B) 0 (fun _ => 0) 16) t) (t + 1))) := Has.at cH300 hin300 (own_at (own_wf (own_wa (own_gB B) 0 (fun _ => 0) 16) t) _ (own_si (n := t + 1) (d := 15) ht248 (by omega) (by decide)) (by omega))
          refine own_go (B := T_248.setTop (mkF m 220 #[.val (.ref a1), .val (.long (448 : Int64)), .second, .val (.int 2), .val (.ref b204), .val (.ref b231), .val (.ref b236), .val (.int 0), .val (.int (Int32.ofNat (16 + t))), .val (.int ((own_wf (own_wa (own_gB B) 0 (fun _ => 0) 16) t) (t + 1))), z248_10, z248_11, z248_12] [(.int ((Int32.ofNat (16 + t)) - (2 : Int32))), (.ref b236)])) (fun tg kt => ?_) ?_
          · refine X_248.iaload hx (j := ((Int32.ofNat (16 + t)) - (15 : Int32))) (v := (.int ((own_wf (own_wa (own_gB B) 0 (fun _ => 0) 16) t) (t + 1)))) (by rw [e_248]; exact Ar300.1) (State.isArrayOf_alike hZ.alike Ar300.2.1) Ar300.2.2 hin300 hat300 (g := (mkF m 211 #[.val (.ref a1), .val (.long (448 : Int64)), .second, .val (.int 2), .val (.ref b204), .val (.ref b231), .val (.ref b236), .val (.int 0), .val (.int (Int32.ofNat (16 + t))), z248_9, z248_10, z248_11, z248_12] [(.int ((Int32.ofNat (16 + t)) - (15 : Int32))), (.ref b236)])) rfl rfl (hb hby d2_211) _ ?_
            refine XS.istoreS X_248.here hx rfl (hb hby d2_212) rfl rfl hz248_9 ?_
            refine XS.aload X_248.here hx rfl (hb hby d2_214) rfl rfl ?_
            refine XS.iload X_248.here hx rfl (hb hby d2_216) rfl ?_
            refine XS.iconst X_248.here hx rfl (hb hby d2_218) ?_
            refine XS.isub X_248.here hx rfl (hb hby d2_219) rfl ?_
            exact kt
          obtain ⟨cl301, Ar301, cq301, cS301, cN301, cH301, cG301⟩ := id fl248_3
          have hin301 := inb_of (j := ((Int32.ofNat (16 + t)) - (2 : Int32))) cS301 (own_inb (N := 64) (own_si (n := t + 14) (d := 2) ht248 (by omega) (by decide)) (by omega) (by decide))
          have hat301 : cl301.slots[(((Int32.ofNat (16 + t)) - (2 : Int32))).toNatClampNeg]? = some (.int ((own_wf (own_wa (own_gB B) 0 (fun _ => 0) 16) t) (t + 14))) := Has.at cH301 hin301 (own_at (own_wf (own_wa (own_gB B) 0 (fun _ => 0) 16) t) _ (own_si (n := t + 14) (d := 2) ht248 (by omega) (by decide)) (by omega))
          refine own_go (B := T_248.setTop (mkF m 227 #[.val (.ref a1), .val (.long (448 : Int64)), .second, .val (.int 2), .val (.ref b204), .val (.ref b231), .val (.ref b236), .val (.int 0), .val (.int (Int32.ofNat (16 + t))), .val (.int ((own_wf (own_wa (own_gB B) 0 (fun _ => 0) 16) t) (t + 1))), .val (.int ((own_wf (own_wa (own_gB B) 0 (fun _ => 0) 16) t) (t + 14))), z248_11, z248_12] [(.int 7), (.int ((own_wf (own_wa (own_gB B) 0 (fun _ => 0) 16) t) (t + 1)))])) (fun tg kt => ?_) ?_
          · refine X_248.iaload hx (j := ((Int32.ofNat (16 + t)) - (2 : Int32))) (v := (.int ((own_wf (own_wa (own_gB B) 0 (fun _ => 0) 16) t) (t + 14)))) (by rw [e_248]; exact Ar301.1) (State.isArrayOf_alike hZ.alike Ar301.2.1) Ar301.2.2 hin301 hat301 (g := (mkF m 220 #[.val (.ref a1), .val (.long (448 : Int64)), .second, .val (.int 2), .val (.ref b204), .val (.ref b231), .val (.ref b236), .val (.int 0), .val (.int (Int32.ofNat (16 + t))), .val (.int ((own_wf (own_wa (own_gB B) 0 (fun _ => 0) 16) t) (t + 1))), z248_10, z248_11, z248_12] [(.int ((Int32.ofNat (16 + t)) - (2 : Int32))), (.ref b236)])) rfl rfl (hb hby d2_220) _ ?_
            refine XS.istoreS X_248.here hx rfl (hb hby d2_221) rfl rfl hz248_10 ?_
            refine XS.iload X_248.here hx rfl (hb hby d2_223) rfl ?_
            refine XS.bipush X_248.here hx rfl (hb hby d2_225) ?_
            exact kt
          obtain ⟨_, _, ⟨T302, L302, k302, n302⟩, -, X302, ⟨Lc302, hQ302, l302, y302, z302⟩, st302⟩ := Jvm.LawKit.callS X_248 hx (y := (⟨"java/lang/Integer", "rotateRight", "(II)I"⟩ : MethodName)) hown (mvT hZ (hw _ (List.mem_of_getElem? (i := 27) rfl))) (mvT hZ (hw _ (List.mem_of_getElem? (i := 28) rfl))) (mvT hZ (hw _ (List.mem_of_getElem? (i := 29) rfl))) (mvT hZ (hw _ (List.mem_of_getElem? (i := 30) rfl))) (by decide) (backOf (W := 0) (rm3 l Z a0 hw [] ((own_wf (own_wa (own_gB B) 0 (fun _ => 0) 16) t) (t + 1)) (7 : Int32) h_248 n0 (Nat.le_trans Z0 K_248.1) ) hZ (hw _ (List.mem_of_getElem? (i := 30) rfl)) (hw _ (List.mem_of_getElem? (i := 29) rfl)) (by decide) (by decide)) (g := (mkF m 227 #[.val (.ref a1), .val (.long (448 : Int64)), .second, .val (.int 2), .val (.ref b204), .val (.ref b231), .val (.ref b236), .val (.int 0), .val (.int (Int32.ofNat (16 + t))), .val (.int ((own_wf (own_wa (own_gB B) 0 (fun _ => 0) 16) t) (t + 1))), .val (.int ((own_wf (own_wa (own_gB B) 0 (fun _ => 0) 16) t) (t + 14))), z248_11, z248_12] [(.int 7), (.int ((own_wf (own_wa (own_gB B) 0 (fun _ => 0) 16) t) (t + 1)))])) rfl (by rw [hml]; rfl) (argsL := [(.int ((own_wf (own_wa (own_gB B) 0 (fun _ => 0) 16) t) (t + 1))), (.int 7)]) (rest := []) (lenOf pd_0 rfl) rfl (by show 2 * 0 + _ ≤ _; exact Nat.le_of_eq rfl) (hb hby d2_227) (fun _ _ => ⟨rfl, e_248, (by decide : 3 + 0 ≤ _), (by decide : 200 + 0 ≤ _)⟩)
          dsimp only [Pt.U, Pt.locs, Pt.cells, Pt.slots] at X302 l302 y302 z302 st302 hQ302
          rw [l302, y302, z302] at X302
          obtain ⟨rfl, M302, q302_0⟩ := hQ302
          have N302 := Fr.app N_248 M302
          refine own_go st302 ?_
          refine own_go (B := T302.setTop (mkF m 234 #[.val (.ref a1), .val (.long (448 : Int64)), .second, .val (.int 2), .val (.ref b204), .val (.ref b231), .val (.ref b236), .val (.int 0), .val (.int (Int32.ofNat (16 + t))), .val (.int ((own_wf (own_wa (own_gB B) 0 (fun _ => 0) 16) t) (t + 1))), .val (.int ((own_wf (own_wa (own_gB B) 0 (fun _ => 0) 16) t) (t + 14))), z248_11, z248_12] [(.int 18), (.int ((own_wf (own_wa (own_gB B) 0 (fun _ => 0) 16) t) (t + 1))), (.int (own_rr ((own_wf (own_wa (own_gB B) 0 (fun _ => 0) 16) t) (t + 1)) (7 : Int32)))])) (fun tg kt => ?_) ?_
          · refine XS.iload X302.here hx rfl (hb hby d2_230) rfl ?_
            refine XS.bipush X302.here hx rfl (hb hby d2_232) ?_
            exact kt
          obtain ⟨_, _, ⟨T303, L303, k303, n303⟩, -, X303, ⟨Lc303, hQ303, l303, y303, z303⟩, st303⟩ := Jvm.LawKit.callS X302 hx (y := (⟨"java/lang/Integer", "rotateRight", "(II)I"⟩ : MethodName)) hown (mvT hZ (hw _ (List.mem_of_getElem? (i := 27) rfl))) (mvT hZ (hw _ (List.mem_of_getElem? (i := 28) rfl))) (mvT hZ (hw _ (List.mem_of_getElem? (i := 29) rfl))) (mvT hZ (hw _ (List.mem_of_getElem? (i := 30) rfl))) (by decide) (backOf (W := 1) (rm3 l Z a0 hw [] ((own_wf (own_wa (own_gB B) 0 (fun _ => 0) 16) t) (t + 1)) (18 : Int32) h_248 n0 (Nat.le_trans Z0 K_248.1) ) hZ (hw _ (List.mem_of_getElem? (i := 30) rfl)) (hw _ (List.mem_of_getElem? (i := 29) rfl)) (by decide) (by decide)) (g := (mkF m 234 #[.val (.ref a1), .val (.long (448 : Int64)), .second, .val (.int 2), .val (.ref b204), .val (.ref b231), .val (.ref b236), .val (.int 0), .val (.int (Int32.ofNat (16 + t))), .val (.int ((own_wf (own_wa (own_gB B) 0 (fun _ => 0) 16) t) (t + 1))), .val (.int ((own_wf (own_wa (own_gB B) 0 (fun _ => 0) 16) t) (t + 14))), z248_11, z248_12] [(.int 18), (.int ((own_wf (own_wa (own_gB B) 0 (fun _ => 0) 16) t) (t + 1))), (.int (own_rr ((own_wf (own_wa (own_gB B) 0 (fun _ => 0) 16) t) (t + 1)) (7 : Int32)))])) rfl (by rw [hml]; rfl) (argsL := [(.int ((own_wf (own_wa (own_gB B) 0 (fun _ => 0) 16) t) (t + 1))), (.int 18)]) (rest := [(.int (own_rr ((own_wf (own_wa (own_gB B) 0 (fun _ => 0) 16) t) (t + 1)) (7 : Int32)))]) (lenOf pd_0 rfl) rfl (by show 2 * 0 + _ ≤ _; exact Nat.le_of_eq rfl) (hb hby d2_234) (fun _ _ => ⟨rfl, q302_0, (by decide : 3 + 0 ≤ _), (by decide : 200 + 0 ≤ _)⟩)
          dsimp only [Pt.U, Pt.locs, Pt.cells, Pt.slots] at X303 l303 y303 z303 st303 hQ303
          rw [l303, y303, z303] at X303
          obtain ⟨rfl, M303, q303_0⟩ := hQ303
          have N303 := Fr.app N302 M303
          refine own_go st303 ?_
          refine own_go (B := T303.setTop (mkF m 249 #[.val (.ref a1), .val (.long (448 : Int64)), .second, .val (.int 2), .val (.ref b204), .val (.ref b231), .val (.ref b236), .val (.int 0), .val (.int (Int32.ofNat (16 + t))), .val (.int ((own_wf (own_wa (own_gB B) 0 (fun _ => 0) 16) t) (t + 1))), .val (.int ((own_wf (own_wa (own_gB B) 0 (fun _ => 0) 16) t) (t + 14))), .val (.int (((own_rr ((own_wf (own_wa (own_gB B) 0 (fun _ => 0) 16) t) (t + 1)) (7 : Int32)) ^^^ (own_rr ((own_wf (own_wa (own_gB B) 0 (fun _ => 0) 16) t) (t + 1)) (18 : Int32))) ^^^ ((((own_wf (own_wa (own_gB B) 0 (fun _ => 0) 16) t) (t + 1)).toUInt32 >>> ((3 : Int32) &&& 31).toUInt32).toInt32))), z248_12] [(.int 17), (.int ((own_wf (own_wa (own_gB B) 0 (fun _ => 0) 16) t) (t + 14)))])) (fun tg kt => ?_) ?_
          · refine XS.ixor X303.here hx rfl (hb hby d2_237) rfl ?_
            refine XS.iload X303.here hx rfl (hb hby d2_238) rfl ?_
            refine XS.iconst X303.here hx rfl (hb hby d2_240) ?_
            refine XS.iushr X303.here hx rfl (hb hby d2_241) rfl ?_
            refine XS.ixor X303.here hx rfl (hb hby d2_242) rfl ?_
            refine XS.istoreS X303.here hx rfl (hb hby d2_243) rfl rfl hz248_11 ?_
            refine XS.iload X303.here hx rfl (hb hby d2_245) rfl ?_
            refine XS.bipush X303.here hx rfl (hb hby d2_247) ?_
            exact kt
          obtain ⟨_, _, ⟨T304, L304, k304, n304⟩, -, X304, ⟨Lc304, hQ304, l304, y304, z304⟩, st304⟩ := Jvm.LawKit.callS X303 hx (y := (⟨"java/lang/Integer", "rotateRight", "(II)I"⟩ : MethodName)) hown (mvT hZ (hw _ (List.mem_of_getElem? (i := 27) rfl))) (mvT hZ (hw _ (List.mem_of_getElem? (i := 28) rfl))) (mvT hZ (hw _ (List.mem_of_getElem? (i := 29) rfl))) (mvT hZ (hw _ (List.mem_of_getElem? (i := 30) rfl))) (by decide) (backOf (W := 0) (rm3 l Z a0 hw [] ((own_wf (own_wa (own_gB B) 0 (fun _ => 0) 16) t) (t + 14)) (17 : Int32) h_248 n0 (Nat.le_trans Z0 K_248.1) ) hZ (hw _ (List.mem_of_getElem? (i := 30) rfl)) (hw _ (List.mem_of_getElem? (i := 29) rfl)) (by decide) (by decide)) (g := (mkF m 249 #[.val (.ref a1), .val (.long (448 : Int64)), .second, .val (.int 2), .val (.ref b204), .val (.ref b231), .val (.ref b236), .val (.int 0), .val (.int (Int32.ofNat (16 + t))), .val (.int ((own_wf (own_wa (own_gB B) 0 (fun _ => 0) 16) t) (t + 1))), .val (.int ((own_wf (own_wa (own_gB B) 0 (fun _ => 0) 16) t) (t + 14))), .val (.int (((own_rr ((own_wf (own_wa (own_gB B) 0 (fun _ => 0) 16) t) (t + 1)) (7 : Int32)) ^^^ (own_rr ((own_wf (own_wa (own_gB B) 0 (fun _ => 0) 16) t) (t + 1)) (18 : Int32))) ^^^ ((((own_wf (own_wa (own_gB B) 0 (fun _ => 0) 16) t) (t + 1)).toUInt32 >>> ((3 : Int32) &&& 31).toUInt32).toInt32))), z248_12] [(.int 17), (.int ((own_wf (own_wa (own_gB B) 0 (fun _ => 0) 16) t) (t + 14)))])) rfl (by rw [hml]; rfl) (argsL := [(.int ((own_wf (own_wa (own_gB B) 0 (fun _ => 0) 16) t) (t + 14))), (.int 17)]) (rest := []) (lenOf pd_0 rfl) rfl (by show 2 * 0 + _ ≤ _; exact Nat.le_of_eq rfl) (hb hby d2_249) (fun _ _ => ⟨rfl, q303_0, (by decide : 3 + 0 ≤ _), (by decide : 200 + 0 ≤ _)⟩)
          dsimp only [Pt.U, Pt.locs, Pt.cells, Pt.slots] at X304 l304 y304 z304 st304 hQ304
          rw [l304, y304, z304] at X304
          obtain ⟨rfl, M304, q304_0⟩ := hQ304
          have N304 := Fr.app N303 M304
          refine own_go st304 ?_
          refine own_go (B := T304.setTop (mkF m 256 #[.val (.ref a1), .val (.long (448 : Int64)), .second, .val (.int 2), .val (.ref b204), .val (.ref b231), .val (.ref b236), .val (.int 0), .val (.int (Int32.ofNat (16 + t))), .val (.int ((own_wf (own_wa (own_gB B) 0 (fun _ => 0) 16) t) (t + 1))), .val (.int ((own_wf (own_wa (own_gB B) 0 (fun _ => 0) 16) t) (t + 14))), .val (.int (((own_rr ((own_wf (own_wa (own_gB B) 0 (fun _ => 0) 16) t) (t + 1)) (7 : Int32)) ^^^ (own_rr ((own_wf (own_wa (own_gB B) 0 (fun _ => 0) 16) t) (t + 1)) (18 : Int32))) ^^^ ((((own_wf (own_wa (own_gB B) 0 (fun _ => 0) 16) t) (t + 1)).toUInt32 >>> ((3 : Int32) &&& 31).toUInt32).toInt32))), z248_12] [(.int 19), (.int ((own_wf (own_wa (own_gB B) 0 (fun _ => 0) 16) t) (t + 14))), (.int (own_rr ((own_wf (own_wa (own_gB B) 0 (fun _ => 0) 16) t) (t + 14)) (17 : Int32)))])) (fun tg kt => ?_) ?_
          · refine XS.iload X304.here hx rfl (hb hby d2_252) rfl ?_
            refine XS.bipush X304.here hx rfl (hb hby d2_254) ?_
            exact kt
          obtain ⟨_, _, ⟨T305, L305, k305, n305⟩, -, X305, ⟨Lc305, hQ305, l305, y305, z305⟩, st305⟩ := Jvm.LawKit.callS X304 hx (y := (⟨"java/lang/Integer", "rotateRight", "(II)I"⟩ : MethodName)) hown (mvT hZ (hw _ (List.mem_of_getElem? (i := 27) rfl))) (mvT hZ (hw _ (List.mem_of_getElem? (i := 28) rfl))) (mvT hZ (hw _ (List.mem_of_getElem? (i := 29) rfl))) (mvT hZ (hw _ (List.mem_of_getElem? (i := 30) rfl))) (by decide) (backOf (W := 1) (rm3 l Z a0 hw [] ((own_wf (own_wa (own_gB B) 0 (fun _ => 0) 16) t) (t + 14)) (19 : Int32) h_248 n0 (Nat.le_trans Z0 K_248.1) ) hZ (hw _ (List.mem_of_getElem? (i := 30) rfl)) (hw _ (List.mem_of_getElem? (i := 29) rfl)) (by decide) (by decide)) (g := (mkF m 256 #[.val (.ref a1), .val (.long (448 : Int64)), .second, .val (.int 2), .val (.ref b204), .val (.ref b231), .val (.ref b236), .val (.int 0), .val (.int (Int32.ofNat (16 + t))), .val (.int ((own_wf (own_wa (own_gB B) 0 (fun _ => 0) 16) t) (t + 1))), .val (.int ((own_wf (own_wa (own_gB B) 0 (fun _ => 0) 16) t) (t + 14))), .val (.int (((own_rr ((own_wf (own_wa (own_gB B) 0 (fun _ => 0) 16) t) (t + 1)) (7 : Int32)) ^^^ (own_rr ((own_wf (own_wa (own_gB B) 0 (fun _ => 0) 16) t) (t + 1)) (18 : Int32))) ^^^ ((((own_wf (own_wa (own_gB B) 0 (fun _ => 0) 16) t) (t + 1)).toUInt32 >>> ((3 : Int32) &&& 31).toUInt32).toInt32))), z248_12] [(.int 19), (.int ((own_wf (own_wa (own_gB B) 0 (fun _ => 0) 16) t) (t + 14))), (.int (own_rr ((own_wf (own_wa (own_gB B) 0 (fun _ => 0) 16) t) (t + 14)) (17 : Int32)))])) rfl (by rw [hml]; rfl) (argsL := [(.int ((own_wf (own_wa (own_gB B) 0 (fun _ => 0) 16) t) (t + 14))), (.int 19)]) (rest := [(.int (own_rr ((own_wf (own_wa (own_gB B) 0 (fun _ => 0) 16) t) (t + 14)) (17 : Int32)))]) (lenOf pd_0 rfl) rfl (by show 2 * 0 + _ ≤ _; exact Nat.le_of_eq rfl) (hb hby d2_256) (fun _ _ => ⟨rfl, q304_0, (by decide : 3 + 0 ≤ _), (by decide : 200 + 0 ≤ _)⟩)
          dsimp only [Pt.U, Pt.locs, Pt.cells, Pt.slots] at X305 l305 y305 z305 st305 hQ305
          rw [l305, y305, z305] at X305
          obtain ⟨rfl, M305, q305_0⟩ := hQ305
          have N305 := Fr.app N304 M305
          refine own_go st305 ?_
          refine own_go (B := T305.setTop (mkF m 281 #[.val (.ref a1), .val (.long (448 : Int64)), .second, .val (.int 2), .val (.ref b204), .val (.ref b231), .val (.ref b236), .val (.int 0), .val (.int (Int32.ofNat (16 + t))), .val (.int ((own_wf (own_wa (own_gB B) 0 (fun _ => 0) 16) t) (t + 1))), .val (.int ((own_wf (own_wa (own_gB B) 0 (fun _ => 0) 16) t) (t + 14))), .val (.int (((own_rr ((own_wf (own_wa (own_gB B) 0 (fun _ => 0) 16) t) (t + 1)) (7 : Int32)) ^^^ (own_rr ((own_wf (own_wa (own_gB B) 0 (fun _ => 0) 16) t) (t + 1)) (18 : Int32))) ^^^ ((((own_wf (own_wa (own_gB B) 0 (fun _ => 0) 16) t) (t + 1)).toUInt32 >>> ((3 : Int32) &&& 31).toUInt32).toInt32))), .val (.int (((own_rr ((own_wf (own_wa (own_gB B) 0 (fun _ => 0) 16) t) (t + 14)) (17 : Int32)) ^^^ (own_rr ((own_wf (own_wa (own_gB B) 0 (fun _ => 0) 16) t) (t + 14)) (19 : Int32))) ^^^ ((((own_wf (own_wa (own_gB B) 0 (fun _ => 0) 16) t) (t + 14)).toUInt32 >>> ((10 : Int32) &&& 31).toUInt32).toInt32)))] [(.int ((Int32.ofNat (16 + t)) - (7 : Int32))), (.ref b236), (.int (((own_rr ((own_wf (own_wa (own_gB B) 0 (fun _ => 0) 16) t) (t + 14)) (17 : Int32)) ^^^ (own_rr ((own_wf (own_wa (own_gB B) 0 (fun _ => 0) 16) t) (t + 14)) (19 : Int32))) ^^^ ((((own_wf (own_wa (own_gB B) 0 (fun _ => 0) 16) t) (t + 14)).toUInt32 >>> ((10 : Int32) &&& 31).toUInt32).toInt32))), (.int (Int32.ofNat (16 + t))), (.ref b236)])) (fun tg kt => ?_) ?_
          · refine XS.ixor X305.here hx rfl (hb hby d2_259) rfl ?_
            refine XS.iload X305.here hx rfl (hb hby d2_260) rfl ?_
            refine XS.bipush X305.here hx rfl (hb hby d2_262) ?_
            refine XS.iushr X305.here hx rfl (hb hby d2_264) rfl ?_
            refine XS.ixor X305.here hx rfl (hb hby d2_265) rfl ?_
            refine XS.istoreS X305.here hx rfl (hb hby d2_266) rfl rfl hz248_12 ?_
            refine XS.aload X305.here hx rfl (hb hby d2_268) rfl rfl ?_
            refine XS.iload X305.here hx rfl (hb hby d2_270) rfl ?_
            refine XS.iload X305.here hx rfl (hb hby d2_272) rfl ?_
            refine XS.aload X305.here hx rfl (hb hby d2_274) rfl rfl ?_
            refine XS.iload X305.here hx rfl (hb hby d2_276) rfl ?_
            refine XS.bipush X305.here hx rfl (hb hby d2_278) ?_
            refine XS.isub X305.here hx rfl (hb hby d2_280) rfl ?_
            exact kt
          obtain ⟨cl306, Ar306, cq306, cS306, cN306, cH306, cG306⟩ := id fl248_3
          have hin306 := inb_of (j := ((Int32.ofNat (16 + t)) - (7 : Int32))) cS306 (own_inb (N := 64) (own_si (n := t + 9) (d := 7) ht248 (by omega) (by decide)) (by omega) (by decide))
          have hat306 : cl306.slots[(((Int32.ofNat (16 + t)) - (7 : Int32))).toNatClampNeg]? = some (.int ((own_wf (own_wa (own_gB B) 0 (fun _ => 0) 16) t) (t + 9))) := Has.at cH306 hin306 (own_at (own_wf (own_wa (own_gB B) 0 (fun _ => 0) 16) t) _ (own_si (n := t + 9) (d := 7) ht248 (by omega) (by decide)) (by omega))
          refine own_go (B := T305.setTop (mkF m 293 #[.val (.ref a1), .val (.long (448 : Int64)), .second, .val (.int 2), .val (.ref b204), .val (.ref b231), .val (.ref b236), .val (.int 0), .val (.int (Int32.ofNat (16 + t))), .val (.int ((own_wf (own_wa (own_gB B) 0 (fun _ => 0) 16) t) (t + 1))), .val (.int ((own_wf (own_wa (own_gB B) 0 (fun _ => 0) 16) t) (t + 14))), .val (.int (((own_rr ((own_wf (own_wa (own_gB B) 0 (fun _ => 0) 16) t) (t + 1)) (7 : Int32)) ^^^ (own_rr ((own_wf (own_wa (own_gB B) 0 (fun _ => 0) 16) t) (t + 1)) (18 : Int32))) ^^^ ((((own_wf (own_wa (own_gB B) 0 (fun _ => 0) 16) t) (t + 1)).toUInt32 >>> ((3 : Int32) &&& 31).toUInt32).toInt32))), .val (.int (((own_rr ((own_wf (own_wa (own_gB B) 0 (fun _ => 0) 16) t) (t + 14)) (17 : Int32)) ^^^ (own_rr ((own_wf (own_wa (own_gB B) 0 (fun _ => 0) 16) t) (t + 14)) (19 : Int32))) ^^^ ((((own_wf (own_wa (own_gB B) 0 (fun _ => 0) 16) t) (t + 14)).toUInt32 >>> ((10 : Int32) &&& 31).toUInt32).toInt32)))] [(.int ((Int32.ofNat (16 + t)) - (16 : Int32))), (.ref b236), (.int (((((own_rr ((own_wf (own_wa (own_gB B) 0 (fun _ => 0) 16) t) (t + 14)) (17 : Int32)) ^^^ (own_rr ((own_wf (own_wa (own_gB B) 0 (fun _ => 0) 16) t) (t + 14)) (19 : Int32))) ^^^ ((((own_wf (own_wa (own_gB B) 0 (fun _ => 0) 16) t) (t + 14)).toUInt32 >>> ((10 : Int32) &&& 31).toUInt32).toInt32)) + ((own_wf (own_wa (own_gB B) 0 (fun _ => 0) 16) t) (t + 9))) + (((own_rr ((own_wf (own_wa (own_gB B) 0 (fun _ => 0) 16) t) (t + 1)) (7 : Int32)) ^^^ (own_rr ((own_wf (own_wa (own_gB B) 0 (fun _ => 0) 16) t) (t + 1)) (18 : Int32))) ^^^ ((((own_wf (own_wa (own_gB B) 0 (fun _ => 0) 16) t) (t + 1)).toUInt32 >>> ((3 : Int32) &&& 31).toUInt32).toInt32)))), (.int (Int32.ofNat (16 + t))), (.ref b236)])) (fun tg kt => ?_) ?_
          · refine X305.iaload hx (j := ((Int32.ofNat (16 + t)) - (7 : Int32))) (v := (.int ((own_wf (own_wa (own_gB B) 0 (fun _ => 0) 16) t) (t + 9)))) (by rw [q305_0]; exact Ar306.1) (State.isArrayOf_alike hZ.alike Ar306.2.1) Ar306.2.2 hin306 hat306 (g := (mkF m 281 #[.val (.ref a1), .val (.long (448 : Int64)), .second, .val (.int 2), .val (.ref b204), .val (.ref b231), .val (.ref b236), .val (.int 0), .val (.int (Int32.ofNat (16 + t))), .val (.int ((own_wf (own_wa (own_gB B) 0 (fun _ => 0) 16) t) (t + 1))), .val (.int ((own_wf (own_wa (own_gB B) 0 (fun _ => 0) 16) t) (t + 14))), .val (.int (((own_rr ((own_wf (own_wa (own_gB B) 0 (fun _ => 0) 16) t) (t + 1)) (7 : Int32)) ^^^ (own_rr ((own_wf (own_wa (own_gB B) 0 (fun _ => 0) 16) t) (t + 1)) (18 : Int32))) ^^^ ((((own_wf (own_wa (own_gB B) 0 (fun _ => 0) 16) t) (t + 1)).toUInt32 >>> ((3 : Int32) &&& 31).toUInt32).toInt32))), .val (.int (((own_rr ((own_wf (own_wa (own_gB B) 0 (fun _ => 0) 16) t) (t + 14)) (17 : Int32)) ^^^ (own_rr ((own_wf (own_wa (own_gB B) 0 (fun _ => 0) 16) t) (t + 14)) (19 : Int32))) ^^^ ((((own_wf (own_wa (own_gB B) 0 (fun _ => 0) 16) t) (t + 14)).toUInt32 >>> ((10 : Int32) &&& 31).toUInt32).toInt32)))] [(.int ((Int32.ofNat (16 + t)) - (7 : Int32))), (.ref b236), (.int (((own_rr ((own_wf (own_wa (own_gB B) 0 (fun _ => 0) 16) t) (t + 14)) (17 : Int32)) ^^^ (own_rr ((own_wf (own_wa (own_gB B) 0 (fun _ => 0) 16) t) (t + 14)) (19 : Int32))) ^^^ ((((own_wf (own_wa (own_gB B) 0 (fun _ => 0) 16) t) (t + 14)).toUInt32 >>> ((10 : Int32) &&& 31).toUInt32).toInt32))), (.int (Int32.ofNat (16 + t))), (.ref b236)])) rfl rfl (hb hby d2_281) _ ?_
            refine XS.iadd X305.here hx rfl (hb hby d2_282) rfl ?_
            refine XS.iload X305.here hx rfl (hb hby d2_283) rfl ?_
            refine XS.iadd X305.here hx rfl (hb hby d2_285) rfl ?_
            refine XS.aload X305.here hx rfl (hb hby d2_286) rfl rfl ?_
            refine XS.iload X305.here hx rfl (hb hby d2_288) rfl ?_
            refine XS.bipush X305.here hx rfl (hb hby d2_290) ?_
            refine XS.isub X305.here hx rfl (hb hby d2_292) rfl ?_
            exact kt
          obtain ⟨cl307, Ar307, cq307, cS307, cN307, cH307, cG307⟩ := id fl248_3
          have hin307 := inb_of (j := ((Int32.ofNat (16 + t)) - (16 : Int32))) cS307 (own_inb (N := 64) (own_si (n := t) (d := 16) ht248 (by omega) (by decide)) (by omega) (by decide))
          have hat307 : cl307.slots[(((Int32.ofNat (16 + t)) - (16 : Int32))).toNatClampNeg]? = some (.int ((own_wf (own_wa (own_gB B) 0 (fun _ => 0) 16) t) t)) := Has.at cH307 hin307 (own_at (own_wf (own_wa (own_gB B) 0 (fun _ => 0) 16) t) _ (own_si (n := t) (d := 16) ht248 (by omega) (by decide)) (by omega))
          refine own_go (B := T305.setTop (mkF m 295 #[.val (.ref a1), .val (.long (448 : Int64)), .second, .val (.int 2), .val (.ref b204), .val (.ref b231), .val (.ref b236), .val (.int 0), .val (.int (Int32.ofNat (16 + t))), .val (.int ((own_wf (own_wa (own_gB B) 0 (fun _ => 0) 16) t) (t + 1))), .val (.int ((own_wf (own_wa (own_gB B) 0 (fun _ => 0) 16) t) (t + 14))), .val (.int (((own_rr ((own_wf (own_wa (own_gB B) 0 (fun _ => 0) 16) t) (t + 1)) (7 : Int32)) ^^^ (own_rr ((own_wf (own_wa (own_gB B) 0 (fun _ => 0) 16) t) (t + 1)) (18 : Int32))) ^^^ ((((own_wf (own_wa (own_gB B) 0 (fun _ => 0) 16) t) (t + 1)).toUInt32 >>> ((3 : Int32) &&& 31).toUInt32).toInt32))), .val (.int (((own_rr ((own_wf (own_wa (own_gB B) 0 (fun _ => 0) 16) t) (t + 14)) (17 : Int32)) ^^^ (own_rr ((own_wf (own_wa (own_gB B) 0 (fun _ => 0) 16) t) (t + 14)) (19 : Int32))) ^^^ ((((own_wf (own_wa (own_gB B) 0 (fun _ => 0) 16) t) (t + 14)).toUInt32 >>> ((10 : Int32) &&& 31).toUInt32).toInt32)))] [(.int ((((((own_rr ((own_wf (own_wa (own_gB B) 0 (fun _ => 0) 16) t) (t + 14)) (17 : Int32)) ^^^ (own_rr ((own_wf (own_wa (own_gB B) 0 (fun _ => 0) 16) t) (t + 14)) (19 : Int32))) ^^^ ((((own_wf (own_wa (own_gB B) 0 (fun _ => 0) 16) t) (t + 14)).toUInt32 >>> ((10 : Int32) &&& 31).toUInt32).toInt32)) + ((own_wf (own_wa (own_gB B) 0 (fun _ => 0) 16) t) (t + 9))) + (((own_rr ((own_wf (own_wa (own_gB B) 0 (fun _ => 0) 16) t) (t + 1)) (7 : Int32)) ^^^ (own_rr ((own_wf (own_wa (own_gB B) 0 (fun _ => 0) 16) t) (t + 1)) (18 : Int32))) ^^^ ((((own_wf (own_wa (own_gB B) 0 (fun _ => 0) 16) t) (t + 1)).toUInt32 >>> ((3 : Int32) &&& 31).toUInt32).toInt32))) + ((own_wf (own_wa (own_gB B) 0 (fun _ => 0) 16) t) t))), (.int (Int32.ofNat (16 + t))), (.ref b236)])) (fun tg kt => ?_) ?_
          · refine X305.iaload hx (j := ((Int32.ofNat (16 + t)) - (16 : Int32))) (v := (.int ((own_wf (own_wa (own_gB B) 0 (fun _ => 0) 16) t) t))) (by rw [q305_0]; exact Ar307.1) (State.isArrayOf_alike hZ.alike Ar307.2.1) Ar307.2.2 hin307 hat307 (g := (mkF m 293 #[.val (.ref a1), .val (.long (448 : Int64)), .second, .val (.int 2), .val (.ref b204), .val (.ref b231), .val (.ref b236), .val (.int 0), .val (.int (Int32.ofNat (16 + t))), .val (.int ((own_wf (own_wa (own_gB B) 0 (fun _ => 0) 16) t) (t + 1))), .val (.int ((own_wf (own_wa (own_gB B) 0 (fun _ => 0) 16) t) (t + 14))), .val (.int (((own_rr ((own_wf (own_wa (own_gB B) 0 (fun _ => 0) 16) t) (t + 1)) (7 : Int32)) ^^^ (own_rr ((own_wf (own_wa (own_gB B) 0 (fun _ => 0) 16) t) (t + 1)) (18 : Int32))) ^^^ ((((own_wf (own_wa (own_gB B) 0 (fun _ => 0) 16) t) (t + 1)).toUInt32 >>> ((3 : Int32) &&& 31).toUInt32).toInt32))), .val (.int (((own_rr ((own_wf (own_wa (own_gB B) 0 (fun _ => 0) 16) t) (t + 14)) (17 : Int32)) ^^^ (own_rr ((own_wf (own_wa (own_gB B) 0 (fun _ => 0) 16) t) (t + 14)) (19 : Int32))) ^^^ ((((own_wf (own_wa (own_gB B) 0 (fun _ => 0) 16) t) (t + 14)).toUInt32 >>> ((10 : Int32) &&& 31).toUInt32).toInt32)))] [(.int ((Int32.ofNat (16 + t)) - (16 : Int32))), (.ref b236), (.int (((((own_rr ((own_wf (own_wa (own_gB B) 0 (fun _ => 0) 16) t) (t + 14)) (17 : Int32)) ^^^ (own_rr ((own_wf (own_wa (own_gB B) 0 (fun _ => 0) 16) t) (t + 14)) (19 : Int32))) ^^^ ((((own_wf (own_wa (own_gB B) 0 (fun _ => 0) 16) t) (t + 14)).toUInt32 >>> ((10 : Int32) &&& 31).toUInt32).toInt32)) + ((own_wf (own_wa (own_gB B) 0 (fun _ => 0) 16) t) (t + 9))) + (((own_rr ((own_wf (own_wa (own_gB B) 0 (fun _ => 0) 16) t) (t + 1)) (7 : Int32)) ^^^ (own_rr ((own_wf (own_wa (own_gB B) 0 (fun _ => 0) 16) t) (t + 1)) (18 : Int32))) ^^^ ((((own_wf (own_wa (own_gB B) 0 (fun _ => 0) 16) t) (t + 1)).toUInt32 >>> ((3 : Int32) &&& 31).toUInt32).toInt32)))), (.int (Int32.ofNat (16 + t))), (.ref b236)])) rfl rfl (hb hby d2_293) _ ?_
            refine XS.iadd X305.here hx rfl (hb hby d2_294) rfl ?_
            exact kt
          obtain ⟨cl308, Ar308, cq308, cS308, cN308, cH308, cG308⟩ := id fl248_3
          have hin308 := inb_of (j := (Int32.ofNat (16 + t))) cS308 (own_lt48' ht248)
          obtain ⟨T308, h308, X308, e308, W308, st308⟩ := stI X305 hx hZ q305_0 Ar308 (j := (Int32.ofNat (16 + t))) hin308 (g := (mkF m 295 #[.val (.ref a1), .val (.long (448 : Int64)), .second, .val (.int 2), .val (.ref b204), .val (.ref b231), .val (.ref b236), .val (.int 0), .val (.int (Int32.ofNat (16 + t))), .val (.int ((own_wf (own_wa (own_gB B) 0 (fun _ => 0) 16) t) (t + 1))), .val (.int ((own_wf (own_wa (own_gB B) 0 (fun _ => 0) 16) t) (t + 14))), .val (.int (((own_rr ((own_wf (own_wa (own_gB B) 0 (fun _ => 0) 16) t) (t + 1)) (7 : Int32)) ^^^ (own_rr ((own_wf (own_wa (own_gB B) 0 (fun _ => 0) 16) t) (t + 1)) (18 : Int32))) ^^^ ((((own_wf (own_wa (own_gB B) 0 (fun _ => 0) 16) t) (t + 1)).toUInt32 >>> ((3 : Int32) &&& 31).toUInt32).toInt32))), .val (.int (((own_rr ((own_wf (own_wa (own_gB B) 0 (fun _ => 0) 16) t) (t + 14)) (17 : Int32)) ^^^ (own_rr ((own_wf (own_wa (own_gB B) 0 (fun _ => 0) 16) t) (t + 14)) (19 : Int32))) ^^^ ((((own_wf (own_wa (own_gB B) 0 (fun _ => 0) 16) t) (t + 14)).toUInt32 >>> ((10 : Int32) &&& 31).toUInt32).toInt32)))] [(.int ((((((own_rr ((own_wf (own_wa (own_gB B) 0 (fun _ => 0) 16) t) (t + 14)) (17 : Int32)) ^^^ (own_rr ((own_wf (own_wa (own_gB B) 0 (fun _ => 0) 16) t) (t + 14)) (19 : Int32))) ^^^ ((((own_wf (own_wa (own_gB B) 0 (fun _ => 0) 16) t) (t + 14)).toUInt32 >>> ((10 : Int32) &&& 31).toUInt32).toInt32)) + ((own_wf (own_wa (own_gB B) 0 (fun _ => 0) 16) t) (t + 9))) + (((own_rr ((own_wf (own_wa (own_gB B) 0 (fun _ => 0) 16) t) (t + 1)) (7 : Int32)) ^^^ (own_rr ((own_wf (own_wa (own_gB B) 0 (fun _ => 0) 16) t) (t + 1)) (18 : Int32))) ^^^ ((((own_wf (own_wa (own_gB B) 0 (fun _ => 0) 16) t) (t + 1)).toUInt32 >>> ((3 : Int32) &&& 31).toUInt32).toInt32))) + ((own_wf (own_wa (own_gB B) 0 (fun _ => 0) 16) t) t))), (.int (Int32.ofNat (16 + t))), (.ref b236)])) rfl rfl (hb hby d2_295)
          refine own_go st308 ?_
          have V308 : Arv Z h308 b236 k236 .int (64 : Int32) (own_tab 64 (fun j => if j = (16 + t) then (own_ws (own_wf (own_wa (own_gB B) 0 (fun _ => 0) 16) t (t + 1)) (own_wf (own_wa (own_gB B) 0 (fun _ => 0) 16) t (t + 14)) (own_wf (own_wa (own_gB B) 0 (fun _ => 0) 16) t (t + 9)) (own_wf (own_wa (own_gB B) 0 (fun _ => 0) 16) t t)) else (own_wf (own_wa (own_gB B) 0 (fun _ => 0) 16) t) j)) (.int 0) := by have q := Arv.set Ar308 cq308 cS308 cN308 cH308 cG308 rfl W308 (16 + t) (own_nat (by omega)) (by rw [own_tab_len]; omega); rw [own_tab_set _ _ (by omega)] at q; exact q
          have K308 : Keep h0 h308 [] := Keep.wr K_248 W308 (Or.inr low248_b236)
          have N308 := Fr.snoc X308 N305 (Nat.le_trans Z0 low248_b236)
          refine own_go (B := T308.setTop (mkF m 197 #[.val (.ref a1), .val (.long (448 : Int64)), .second, .val (.int 2), .val (.ref b204), .val (.ref b231), .val (.ref b236), .val (.int 0), .val (.int ((Int32.ofNat (16 + t)) + (1 : Int32))), .val (.int ((own_wf (own_wa (own_gB B) 0 (fun _ => 0) 16) t) (t + 1))), .val (.int ((own_wf (own_wa (own_gB B) 0 (fun _ => 0) 16) t) (t + 14))), .val (.int (((own_rr ((own_wf (own_wa (own_gB B) 0 (fun _ => 0) 16) t) (t + 1)) (7 : Int32)) ^^^ (own_rr ((own_wf (own_wa (own_gB B) 0 (fun _ => 0) 16) t) (t + 1)) (18 : Int32))) ^^^ ((((own_wf (own_wa (own_gB B) 0 (fun _ => 0) 16) t) (t + 1)).toUInt32 >>> ((3 : Int32) &&& 31).toUInt32).toInt32))), .val (.int (((own_rr ((own_wf (own_wa (own_gB B) 0 (fun _ => 0) 16) t) (t + 14)) (17 : Int32)) ^^^ (own_rr ((own_wf (own_wa (own_gB B) 0 (fun _ => 0) 16) t) (t + 14)) (19 : Int32))) ^^^ ((((own_wf (own_wa (own_gB B) 0 (fun _ => 0) 16) t) (t + 14)).toUInt32 >>> ((10 : Int32) &&& 31).toUInt32).toInt32)))] [])) (fun tg kt => ?_) ?_
          · refine XS.iinc X308.here hx rfl (hb hby d2_296) rfl (l' := #[.val (.ref a1), .val (.long (448 : Int64)), .second, .val (.int 2), .val (.ref b204), .val (.ref b231), .val (.ref b236), .val (.int 0), .val (.int ((Int32.ofNat (16 + t)) + (1 : Int32))), .val (.int ((own_wf (own_wa (own_gB B) 0 (fun _ => 0) 16) t) (t + 1))), .val (.int ((own_wf (own_wa (own_gB B) 0 (fun _ => 0) 16) t) (t + 14))), .val (.int (((own_rr ((own_wf (own_wa (own_gB B) 0 (fun _ => 0) 16) t) (t + 1)) (7 : Int32)) ^^^ (own_rr ((own_wf (own_wa (own_gB B) 0 (fun _ => 0) 16) t) (t + 1)) (18 : Int32))) ^^^ ((((own_wf (own_wa (own_gB B) 0 (fun _ => 0) 16) t) (t + 1)).toUInt32 >>> ((3 : Int32) &&& 31).toUInt32).toInt32))), .val (.int (((own_rr ((own_wf (own_wa (own_gB B) 0 (fun _ => 0) 16) t) (t + 14)) (17 : Int32)) ^^^ (own_rr ((own_wf (own_wa (own_gB B) 0 (fun _ => 0) 16) t) (t + 14)) (19 : Int32))) ^^^ ((((own_wf (own_wa (own_gB B) 0 (fun _ => 0) 16) t) (t + 14)).toUInt32 >>> ((10 : Int32) &&& 31).toUInt32).toInt32)))]) rfl ?_
            refine XS.goto X308.here hx rfl (pc0 := 299) (pc' := 197) rfl (hb hby d2_299) (by decide) (by decide) ?_
            exact kt
          rw [show ((Int32.ofNat (16 + t)) + (1 : Int32)) = (Int32.ofNat (16 + (t + 1))) from own_isucc _]
          have f309 : Arv Z h308 b204 k204 .byte (128 : Int32) (own_tab 128 (own_gB B)) (.int 0) := (fl248_0.other W308 ne243)
          have f310 : Arv Z h308 b231 k_INITIAL .int (8 : Int32) [(.int 1779033703), (.int (-1150833019)), (.int 1013904242), (.int (-1521486534)), (.int 1359893119), (.int (-1694144372)), (.int 528734635), (.int 1541459225)] (.int 0) := (fl248_1.other W308 ne244)
          have f311 : Exa Z h308 b231 "[I" := (fl248_2.wr W308)
          exact ih248 (t + 1) T308 h308 _ _ _ _ _ (by omega) X308 e308 N308 K308 (One.val rfl) (One.val rfl) (One.val rfl) (One.val rfl) f309 f310 f311 V308
      exact loop248 48 0 T_237 h_237 _ _ _ _ _ rfl X_237 e_237 N_237 K_237 hz237_9 One.u One.u One.u fl237_0 fl237_1 fl237_2 fl237_3
    | succ k ih237 =>
      intro t T_237 h_237 lo_237 z237_9 hkt237 X_237 e_237 N_237 K_237 hz237_9 fl237_0 fl237_1 fl237_2 fl237_3
      have ht237 : t < 16 := by omega
      refine own_go (B := T_237.setTop (mkF m 136 #[.val (.ref a1), .val (.long (448 : Int64)), .second, .val (.int 2), .val (.ref b204), .val (.ref b231), .val (.ref b236), .val (.int 0), .val (.int (Int32.ofNat t)), .val (.int ((0 : Int32) + ((4 : Int32) * (Int32.ofNat t)))), .unset, .unset, .unset] [(.int ((0 : Int32) + ((4 : Int32) * (Int32.ofNat t)))), (.ref b204), (.int (Int32.ofNat t)), (.ref b236)])) (fun tg kt => ?_) ?_
      · refine XS.iload X_237.here hx rfl (hb hby d2_109) rfl ?_
        refine XS.bipush X_237.here hx rfl (hb hby d2_111) ?_
        refine XS.icmpNo X_237.here hx rfl (hb hby d2_113) rfl (tlt (show (Int32.ofNat t) < (16 : Int32) from (own_lt16 ht237))).2.1 ?_
        refine XS.iload X_237.here hx rfl (hb hby d2_116) rfl ?_
        refine XS.bipush X_237.here hx rfl (hb hby d2_118) ?_
        refine XS.imul X_237.here hx rfl (hb hby d2_120) rfl ?_
        refine XS.iconst X_237.here hx rfl (hb hby d2_121) ?_
        refine XS.iload X_237.here hx rfl (hb hby d2_122) rfl ?_
        refine XS.imul X_237.here hx rfl (hb hby d2_124) rfl ?_
        refine XS.iadd X_237.here hx rfl (hb hby d2_125) rfl ?_
        refine XS.istoreS X_237.here hx rfl (hb hby d2_126) rfl rfl hz237_9 ?_
        refine XS.aload X_237.here hx rfl (hb hby d2_128) rfl rfl ?_
        refine XS.iload X_237.here hx rfl (hb hby d2_130) rfl ?_
        refine XS.aload X_237.here hx rfl (hb hby d2_132) rfl rfl ?_
        refine XS.iload X_237.here hx rfl (hb hby d2_134) rfl ?_
        exact kt
      obtain ⟨cl312, Ar312, cq312, cS312, cN312, cH312, cG312⟩ := id fl237_0
      have hin312 := inb_of (j := ((0 : Int32) + ((4 : Int32) * (Int32.ofNat t)))) cS312 (own_inb (N := 128) (own_b0 (o := 0) (t := t) (by decide) (by decide) ht237) (by omega) (by decide))
      have hat312 : cl312.slots[(((0 : Int32) + ((4 : Int32) * (Int32.ofNat t)))).toNatClampNeg]? = some (.int ((own_gB B) (0 + 4 * t))) := Has.at cH312 hin312 (own_at (own_gB B) _ (own_b0 (o := 0) (t := t) (by decide) (by decide) ht237) (by omega))
      refine own_go (B := T_237.setTop (mkF m 150 #[.val (.ref a1), .val (.long (448 : Int64)), .second, .val (.int 2), .val (.ref b204), .val (.ref b231), .val (.ref b236), .val (.int 0), .val (.int (Int32.ofNat t)), .val (.int ((0 : Int32) + ((4 : Int32) * (Int32.ofNat t)))), .unset, .unset, .unset] [(.int (((0 : Int32) + ((4 : Int32) * (Int32.ofNat t))) + (1 : Int32))), (.ref b204), (.int ((((own_gB B) (0 + 4 * t)) &&& (255 : Int32)) <<< ((24 : Int32) &&& 31))), (.int (Int32.ofNat t)), (.ref b236)])) (fun tg kt => ?_) ?_
      · refine X_237.baloadBytes hx (j := ((0 : Int32) + ((4 : Int32) * (Int32.ofNat t)))) (v := (.int ((own_gB B) (0 + 4 * t)))) (by rw [e_237]; exact Ar312.1) (State.isArrayOf_alike hZ.alike Ar312.2.1) Ar312.2.2 hin312 hat312 (g := (mkF m 136 #[.val (.ref a1), .val (.long (448 : Int64)), .second, .val (.int 2), .val (.ref b204), .val (.ref b231), .val (.ref b236), .val (.int 0), .val (.int (Int32.ofNat t)), .val (.int ((0 : Int32) + ((4 : Int32) * (Int32.ofNat t)))), .unset, .unset, .unset] [(.int ((0 : Int32) + ((4 : Int32) * (Int32.ofNat t)))), (.ref b204), (.int (Int32.ofNat t)), (.ref b236)])) rfl rfl (hb hby d2_136) _ ?_
        refine XS.sipush X_237.here hx rfl (hb hby d2_137) ?_
        refine XS.iand X_237.here hx rfl (hb hby d2_140) rfl ?_
        refine XS.bipush X_237.here hx rfl (hb hby d2_141) ?_
        refine XS.ishl X_237.here hx rfl (hb hby d2_143) rfl ?_
        refine XS.aload X_237.here hx rfl (hb hby d2_144) rfl rfl ?_
        refine XS.iload X_237.here hx rfl (hb hby d2_146) rfl ?_
        refine XS.iconst X_237.here hx rfl (hb hby d2_148) ?_
        refine XS.iadd X_237.here hx rfl (hb hby d2_149) rfl ?_
        exact kt
      obtain ⟨cl313, Ar313, cq313, cS313, cN313, cH313, cG313⟩ := id fl237_0
      have hin313 := inb_of (j := (((0 : Int32) + ((4 : Int32) * (Int32.ofNat t))) + (1 : Int32))) cS313 (own_inb (N := 128) (own_br (r := 1) (k := 0 + 4 * t) (own_b0 (o := 0) (t := t) (by decide) (by decide) ht237) (by omega) (by decide) (by decide)) (by omega) (by decide))
      have hat313 : cl313.slots[((((0 : Int32) + ((4 : Int32) * (Int32.ofNat t))) + (1 : Int32))).toNatClampNeg]? = some (.int ((own_gB B) (0 + 4 * t + 1))) := Has.at cH313 hin313 (own_at (own_gB B) _ (own_br (r := 1) (k := 0 + 4 * t) (own_b0 (o := 0) (t := t) (by decide) (by decide) ht237) (by omega) (by decide) (by decide)) (by omega))
      refine own_go (B := T_237.setTop (mkF m 165 #[.val (.ref a1), .val (.long (448 : Int64)), .second, .val (.int 2), .val (.ref b204), .val (.ref b231), .val (.ref b236), .val (.int 0), .val (.int (Int32.ofNat t)), .val (.int ((0 : Int32) + ((4 : Int32) * (Int32.ofNat t)))), .unset, .unset, .unset] [(.int (((0 : Int32) + ((4 : Int32) * (Int32.ofNat t))) + (2 : Int32))), (.ref b204), (.int (((((own_gB B) (0 + 4 * t)) &&& (255 : Int32)) <<< ((24 : Int32) &&& 31)) ||| ((((own_gB B) (0 + 4 * t + 1)) &&& (255 : Int32)) <<< ((16 : Int32) &&& 31)))), (.int (Int32.ofNat t)), (.ref b236)])) (fun tg kt => ?_) ?_
      · refine X_237.baloadBytes hx (j := (((0 : Int32) + ((4 : Int32) * (Int32.ofNat t))) + (1 : Int32))) (v := (.int ((own_gB B) (0 + 4 * t + 1)))) (by rw [e_237]; exact Ar313.1) (State.isArrayOf_alike hZ.alike Ar313.2.1) Ar313.2.2 hin313 hat313 (g := (mkF m 150 #[.val (.ref a1), .val (.long (448 : Int64)), .second, .val (.int 2), .val (.ref b204), .val (.ref b231), .val (.ref b236), .val (.int 0), .val (.int (Int32.ofNat t)), .val (.int ((0 : Int32) + ((4 : Int32) * (Int32.ofNat t)))), .unset, .unset, .unset] [(.int (((0 : Int32) + ((4 : Int32) * (Int32.ofNat t))) + (1 : Int32))), (.ref b204), (.int ((((own_gB B) (0 + 4 * t)) &&& (255 : Int32)) <<< ((24 : Int32) &&& 31))), (.int (Int32.ofNat t)), (.ref b236)])) rfl rfl (hb hby d2_150) _ ?_
        refine XS.sipush X_237.here hx rfl (hb hby d2_151) ?_
        refine XS.iand X_237.here hx rfl (hb hby d2_154) rfl ?_
        refine XS.bipush X_237.here hx rfl (hb hby d2_155) ?_
        refine XS.ishl X_237.here hx rfl (hb hby d2_157) rfl ?_
        refine XS.ior X_237.here hx rfl (hb hby d2_158) rfl ?_
        refine XS.aload X_237.here hx rfl (hb hby d2_159) rfl rfl ?_
        refine XS.iload X_237.here hx rfl (hb hby d2_161) rfl ?_
        refine XS.iconst X_237.here hx rfl (hb hby d2_163) ?_
        refine XS.iadd X_237.here hx rfl (hb hby d2_164) rfl ?_
        exact kt
      obtain ⟨cl314, Ar314, cq314, cS314, cN314, cH314, cG314⟩ := id fl237_0
      have hin314 := inb_of (j := (((0 : Int32) + ((4 : Int32) * (Int32.ofNat t))) + (2 : Int32))) cS314 (own_inb (N := 128) (own_br (r := 2) (k := 0 + 4 * t) (own_b0 (o := 0) (t := t) (by decide) (by decide) ht237) (by omega) (by decide) (by decide)) (by omega) (by decide))
      have hat314 : cl314.slots[((((0 : Int32) + ((4 : Int32) * (Int32.ofNat t))) + (2 : Int32))).toNatClampNeg]? = some (.int ((own_gB B) (0 + 4 * t + 2))) := Has.at cH314 hin314 (own_at (own_gB B) _ (own_br (r := 2) (k := 0 + 4 * t) (own_b0 (o := 0) (t := t) (by decide) (by decide) ht237) (by omega) (by decide) (by decide)) (by omega))
      refine own_go (B := T_237.setTop (mkF m 180 #[.val (.ref a1), .val (.long (448 : Int64)), .second, .val (.int 2), .val (.ref b204), .val (.ref b231), .val (.ref b236), .val (.int 0), .val (.int (Int32.ofNat t)), .val (.int ((0 : Int32) + ((4 : Int32) * (Int32.ofNat t)))), .unset, .unset, .unset] [(.int (((0 : Int32) + ((4 : Int32) * (Int32.ofNat t))) + (3 : Int32))), (.ref b204), (.int ((((((own_gB B) (0 + 4 * t)) &&& (255 : Int32)) <<< ((24 : Int32) &&& 31)) ||| ((((own_gB B) (0 + 4 * t + 1)) &&& (255 : Int32)) <<< ((16 : Int32) &&& 31))) ||| ((((own_gB B) (0 + 4 * t + 2)) &&& (255 : Int32)) <<< ((8 : Int32) &&& 31)))), (.int (Int32.ofNat t)), (.ref b236)])) (fun tg kt => ?_) ?_
      · refine X_237.baloadBytes hx (j := (((0 : Int32) + ((4 : Int32) * (Int32.ofNat t))) + (2 : Int32))) (v := (.int ((own_gB B) (0 + 4 * t + 2)))) (by rw [e_237]; exact Ar314.1) (State.isArrayOf_alike hZ.alike Ar314.2.1) Ar314.2.2 hin314 hat314 (g := (mkF m 165 #[.val (.ref a1), .val (.long (448 : Int64)), .second, .val (.int 2), .val (.ref b204), .val (.ref b231), .val (.ref b236), .val (.int 0), .val (.int (Int32.ofNat t)), .val (.int ((0 : Int32) + ((4 : Int32) * (Int32.ofNat t)))), .unset, .unset, .unset] [(.int (((0 : Int32) + ((4 : Int32) * (Int32.ofNat t))) + (2 : Int32))), (.ref b204), (.int (((((own_gB B) (0 + 4 * t)) &&& (255 : Int32)) <<< ((24 : Int32) &&& 31)) ||| ((((own_gB B) (0 + 4 * t + 1)) &&& (255 : Int32)) <<< ((16 : Int32) &&& 31)))), (.int (Int32.ofNat t)), (.ref b236)])) rfl rfl (hb hby d2_165) _ ?_
        refine XS.sipush X_237.here hx rfl (hb hby d2_166) ?_
        refine XS.iand X_237.here hx rfl (hb hby d2_169) rfl ?_
        refine XS.bipush X_237.here hx rfl (hb hby d2_170) ?_
        refine XS.ishl X_237.here hx rfl (hb hby d2_172) rfl ?_
        refine XS.ior X_237.here hx rfl (hb hby d2_173) rfl ?_
        refine XS.aload X_237.here hx rfl (hb hby d2_174) rfl rfl ?_
        refine XS.iload X_237.here hx rfl (hb hby d2_176) rfl ?_
        refine XS.iconst X_237.here hx rfl (hb hby d2_178) ?_
        refine XS.iadd X_237.here hx rfl (hb hby d2_179) rfl ?_
        exact kt
      obtain ⟨cl315, Ar315, cq315, cS315, cN315, cH315, cG315⟩ := id fl237_0
      have hin315 := inb_of (j := (((0 : Int32) + ((4 : Int32) * (Int32.ofNat t))) + (3 : Int32))) cS315 (own_inb (N := 128) (own_br (r := 3) (k := 0 + 4 * t) (own_b0 (o := 0) (t := t) (by decide) (by decide) ht237) (by omega) (by decide) (by decide)) (by omega) (by decide))
      have hat315 : cl315.slots[((((0 : Int32) + ((4 : Int32) * (Int32.ofNat t))) + (3 : Int32))).toNatClampNeg]? = some (.int ((own_gB B) (0 + 4 * t + 3))) := Has.at cH315 hin315 (own_at (own_gB B) _ (own_br (r := 3) (k := 0 + 4 * t) (own_b0 (o := 0) (t := t) (by decide) (by decide) ht237) (by omega) (by decide) (by decide)) (by omega))
      refine own_go (B := T_237.setTop (mkF m 186 #[.val (.ref a1), .val (.long (448 : Int64)), .second, .val (.int 2), .val (.ref b204), .val (.ref b231), .val (.ref b236), .val (.int 0), .val (.int (Int32.ofNat t)), .val (.int ((0 : Int32) + ((4 : Int32) * (Int32.ofNat t)))), .unset, .unset, .unset] [(.int (((((((own_gB B) (0 + 4 * t)) &&& (255 : Int32)) <<< ((24 : Int32) &&& 31)) ||| ((((own_gB B) (0 + 4 * t + 1)) &&& (255 : Int32)) <<< ((16 : Int32) &&& 31))) ||| ((((own_gB B) (0 + 4 * t + 2)) &&& (255 : Int32)) <<< ((8 : Int32) &&& 31))) ||| (((own_gB B) (0 + 4 * t + 3)) &&& (255 : Int32)))), (.int (Int32.ofNat t)), (.ref b236)])) (fun tg kt => ?_) ?_
      · refine X_237.baloadBytes hx (j := (((0 : Int32) + ((4 : Int32) * (Int32.ofNat t))) + (3 : Int32))) (v := (.int ((own_gB B) (0 + 4 * t + 3)))) (by rw [e_237]; exact Ar315.1) (State.isArrayOf_alike hZ.alike Ar315.2.1) Ar315.2.2 hin315 hat315 (g := (mkF m 180 #[.val (.ref a1), .val (.long (448 : Int64)), .second, .val (.int 2), .val (.ref b204), .val (.ref b231), .val (.ref b236), .val (.int 0), .val (.int (Int32.ofNat t)), .val (.int ((0 : Int32) + ((4 : Int32) * (Int32.ofNat t)))), .unset, .unset, .unset] [(.int (((0 : Int32) + ((4 : Int32) * (Int32.ofNat t))) + (3 : Int32))), (.ref b204), (.int ((((((own_gB B) (0 + 4 * t)) &&& (255 : Int32)) <<< ((24 : Int32) &&& 31)) ||| ((((own_gB B) (0 + 4 * t + 1)) &&& (255 : Int32)) <<< ((16 : Int32) &&& 31))) ||| ((((own_gB B) (0 + 4 * t + 2)) &&& (255 : Int32)) <<< ((8 : Int32) &&& 31)))), (.int (Int32.ofNat t)), (.ref b236)])) rfl rfl (hb hby d2_180) _ ?_
        refine XS.sipush X_237.here hx rfl (hb hby d2_181) ?_
        refine XS.iand X_237.here hx rfl (hb hby d2_184) rfl ?_
        refine XS.ior X_237.here hx rfl (hb hby d2_185) rfl ?_
        exact kt
      obtain ⟨cl316, Ar316, cq316, cS316, cN316, cH316, cG316⟩ := id fl237_3
      have hin316 := inb_of (j := (Int32.ofNat t)) cS316 (own_lt16' ht237)
      obtain ⟨T316, h316, X316, e316, W316, st316⟩ := stI X_237 hx hZ e_237 Ar316 (j := (Int32.ofNat t)) hin316 (g := (mkF m 186 #[.val (.ref a1), .val (.long (448 : Int64)), .second, .val (.int 2), .val (.ref b204), .val (.ref b231), .val (.ref b236), .val (.int 0), .val (.int (Int32.ofNat t)), .val (.int ((0 : Int32) + ((4 : Int32) * (Int32.ofNat t)))), .unset, .unset, .unset] [(.int (((((((own_gB B) (0 + 4 * t)) &&& (255 : Int32)) <<< ((24 : Int32) &&& 31)) ||| ((((own_gB B) (0 + 4 * t + 1)) &&& (255 : Int32)) <<< ((16 : Int32) &&& 31))) ||| ((((own_gB B) (0 + 4 * t + 2)) &&& (255 : Int32)) <<< ((8 : Int32) &&& 31))) ||| (((own_gB B) (0 + 4 * t + 3)) &&& (255 : Int32)))), (.int (Int32.ofNat t)), (.ref b236)])) rfl rfl (hb hby d2_186)
      refine own_go st316 ?_
      have V316 : Arv Z h316 b236 k236 .int (64 : Int32) (own_tab 64 (fun j => if j = t then (own_w0 (own_gB B) 0 t) else (own_wa (own_gB B) 0 (fun _ => 0) t) j)) (.int 0) := by have q := Arv.set Ar316 cq316 cS316 cN316 cH316 cG316 rfl W316 t (own_nat (by omega)) (by rw [own_tab_len]; omega); rw [own_tab_set _ _ (by omega)] at q; exact q
      have K316 : Keep h0 h316 [] := Keep.wr K_237 W316 (Or.inr low237_b236)
      have N316 := Fr.snoc X316 N_237 (Nat.le_trans Z0 low237_b236)
      refine own_go (B := T316.setTop (mkF m 109 #[.val (.ref a1), .val (.long (448 : Int64)), .second, .val (.int 2), .val (.ref b204), .val (.ref b231), .val (.ref b236), .val (.int 0), .val (.int ((Int32.ofNat t) + (1 : Int32))), .val (.int ((0 : Int32) + ((4 : Int32) * (Int32.ofNat t)))), .unset, .unset, .unset] [])) (fun tg kt => ?_) ?_
      · refine XS.iinc X316.here hx rfl (hb hby d2_187) rfl (l' := #[.val (.ref a1), .val (.long (448 : Int64)), .second, .val (.int 2), .val (.ref b204), .val (.ref b231), .val (.ref b236), .val (.int 0), .val (.int ((Int32.ofNat t) + (1 : Int32))), .val (.int ((0 : Int32) + ((4 : Int32) * (Int32.ofNat t)))), .unset, .unset, .unset]) rfl ?_
        refine XS.goto X316.here hx rfl (pc0 := 190) (pc' := 109) rfl (hb hby d2_190) (by decide) (by decide) ?_
        exact kt
      rw [show ((Int32.ofNat t) + (1 : Int32)) = (Int32.ofNat (t + 1)) from own_isucc _]
      have f317 : Arv Z h316 b204 k204 .byte (128 : Int32) (own_tab 128 (own_gB B)) (.int 0) := (fl237_0.other W316 ne243)
      have f318 : Arv Z h316 b231 k_INITIAL .int (8 : Int32) [(.int 1779033703), (.int (-1150833019)), (.int 1013904242), (.int (-1521486534)), (.int 1359893119), (.int (-1694144372)), (.int 528734635), (.int 1541459225)] (.int 0) := (fl237_1.other W316 ne244)
      have f319 : Exa Z h316 b231 "[I" := (fl237_2.wr W316)
      exact ih237 (t + 1) T316 h316 _ _ (by omega) X316 e316 N316 K316 (One.val rfl) f317 f318 f319 V316
  exact loop237 16 0 T236 h236 _ _ rfl X236 e236 N227 K236 One.u f245 f246 f247 V236
theorem pn_497 : plainName "tributary/DigestsSha256PinLaw" = true := by first | (simp [plainName, overriddenIn]; done) | decide +kernel
theorem d1_0 : decode method_3_code 0 = .ok (.aload_n 0, 1) := by decide +kernel
theorem d1_1 : decode method_3_code 1 = .ok (.arraylength, 1) := by decide +kernel
theorem d1_2 : decode method_3_code 2 = .ok (.ifCond .le 9, 3) := by decide +kernel
theorem d1_5 : decode method_3_code 5 = .ok (.aload_n 0, 1) := by decide +kernel
theorem d1_6 : decode method_3_code 6 = .ok (.iconst 0, 1) := by decide +kernel
theorem d1_7 : decode method_3_code 7 = .ok (.lload_n 1, 1) := by decide +kernel
theorem d1_8 : decode method_3_code 8 = .ok (.l2i, 1) := by decide +kernel
theorem d1_9 : decode method_3_code 9 = .ok (.i2b, 1) := by decide +kernel
theorem d1_10 : decode method_3_code 10 = .ok (.bastore, 1) := by decide +kernel
theorem d1_11 : decode method_3_code 11 = .ok (.aload_n 0, 1) := by decide +kernel
theorem d1_12 : decode method_3_code 12 = .ok (.arraylength, 1) := by decide +kernel
theorem d1_13 : decode method_3_code 13 = .ok (.iconst 1, 1) := by decide +kernel
theorem d1_14 : decode method_3_code 14 = .ok (.if_icmp .le 12, 3) := by decide +kernel
theorem d1_17 : decode method_3_code 17 = .ok (.aload_n 0, 1) := by decide +kernel
theorem d1_18 : decode method_3_code 18 = .ok (.iconst 1, 1) := by decide +kernel
theorem d1_19 : decode method_3_code 19 = .ok (.lload_n 1, 1) := by decide +kernel
theorem d1_20 : decode method_3_code 20 = .ok (.bipush 8, 2) := by decide +kernel
theorem d1_22 : decode method_3_code 22 = .ok (.lushr, 1) := by decide +kernel
theorem d1_23 : decode method_3_code 23 = .ok (.l2i, 1) := by decide +kernel
theorem d1_24 : decode method_3_code 24 = .ok (.i2b, 1) := by decide +kernel
theorem d1_25 : decode method_3_code 25 = .ok (.bastore, 1) := by decide +kernel
theorem d1_26 : decode method_3_code 26 = .ok (.aload_n 0, 1) := by decide +kernel
theorem d1_27 : decode method_3_code 27 = .ok (.arraylength, 1) := by decide +kernel
theorem d1_28 : decode method_3_code 28 = .ok (.iconst 2, 1) := by decide +kernel
theorem d1_29 : decode method_3_code 29 = .ok (.if_icmp .le 12, 3) := by decide +kernel
theorem d1_32 : decode method_3_code 32 = .ok (.aload_n 0, 1) := by decide +kernel
theorem d1_33 : decode method_3_code 33 = .ok (.iconst 2, 1) := by decide +kernel
theorem d1_34 : decode method_3_code 34 = .ok (.lload_n 1, 1) := by decide +kernel
theorem d1_35 : decode method_3_code 35 = .ok (.bipush 16, 2) := by decide +kernel
theorem d1_37 : decode method_3_code 37 = .ok (.lushr, 1) := by decide +kernel
theorem d1_38 : decode method_3_code 38 = .ok (.l2i, 1) := by decide +kernel
theorem d1_39 : decode method_3_code 39 = .ok (.i2b, 1) := by decide +kernel
theorem d1_40 : decode method_3_code 40 = .ok (.bastore, 1) := by decide +kernel
theorem d1_41 : decode method_3_code 41 = .ok (.aload_n 0, 1) := by decide +kernel
theorem d1_42 : decode method_3_code 42 = .ok (.arraylength, 1) := by decide +kernel
theorem d1_43 : decode method_3_code 43 = .ok (.iconst 3, 1) := by decide +kernel
theorem d1_44 : decode method_3_code 44 = .ok (.if_icmp .le 12, 3) := by decide +kernel
theorem d1_47 : decode method_3_code 47 = .ok (.aload_n 0, 1) := by decide +kernel
theorem d1_48 : decode method_3_code 48 = .ok (.iconst 3, 1) := by decide +kernel
theorem d1_49 : decode method_3_code 49 = .ok (.lload_n 1, 1) := by decide +kernel
theorem d1_50 : decode method_3_code 50 = .ok (.bipush 24, 2) := by decide +kernel
theorem d1_52 : decode method_3_code 52 = .ok (.lushr, 1) := by decide +kernel
theorem d1_53 : decode method_3_code 53 = .ok (.l2i, 1) := by decide +kernel
theorem d1_54 : decode method_3_code 54 = .ok (.i2b, 1) := by decide +kernel
theorem d1_55 : decode method_3_code 55 = .ok (.bastore, 1) := by decide +kernel
theorem d1_56 : decode method_3_code 56 = .ok (.aload_n 0, 1) := by decide +kernel
theorem d1_57 : decode method_3_code 57 = .ok (.arraylength, 1) := by decide +kernel
theorem d1_58 : decode method_3_code 58 = .ok (.iconst 4, 1) := by decide +kernel
theorem d1_59 : decode method_3_code 59 = .ok (.if_icmp .le 12, 3) := by decide +kernel
theorem d1_62 : decode method_3_code 62 = .ok (.aload_n 0, 1) := by decide +kernel
theorem d1_63 : decode method_3_code 63 = .ok (.iconst 4, 1) := by decide +kernel
theorem d1_64 : decode method_3_code 64 = .ok (.lload_n 1, 1) := by decide +kernel
theorem d1_65 : decode method_3_code 65 = .ok (.bipush 32, 2) := by decide +kernel
theorem d1_67 : decode method_3_code 67 = .ok (.lushr, 1) := by decide +kernel
theorem d1_68 : decode method_3_code 68 = .ok (.l2i, 1) := by decide +kernel
theorem d1_69 : decode method_3_code 69 = .ok (.i2b, 1) := by decide +kernel
theorem d1_70 : decode method_3_code 70 = .ok (.bastore, 1) := by decide +kernel
theorem d1_71 : decode method_3_code 71 = .ok (.aload_n 0, 1) := by decide +kernel
theorem d1_72 : decode method_3_code 72 = .ok (.arraylength, 1) := by decide +kernel
theorem d1_73 : decode method_3_code 73 = .ok (.iconst 5, 1) := by decide +kernel
theorem d1_74 : decode method_3_code 74 = .ok (.if_icmp .le 12, 3) := by decide +kernel
theorem d1_77 : decode method_3_code 77 = .ok (.aload_n 0, 1) := by decide +kernel
theorem d1_78 : decode method_3_code 78 = .ok (.iconst 5, 1) := by decide +kernel
theorem d1_79 : decode method_3_code 79 = .ok (.lload_n 1, 1) := by decide +kernel
theorem d1_80 : decode method_3_code 80 = .ok (.bipush 40, 2) := by decide +kernel
theorem d1_82 : decode method_3_code 82 = .ok (.lushr, 1) := by decide +kernel
theorem d1_83 : decode method_3_code 83 = .ok (.l2i, 1) := by decide +kernel
theorem d1_84 : decode method_3_code 84 = .ok (.i2b, 1) := by decide +kernel
theorem d1_85 : decode method_3_code 85 = .ok (.bastore, 1) := by decide +kernel
theorem d1_86 : decode method_3_code 86 = .ok (.aload_n 0, 1) := by decide +kernel
theorem d1_87 : decode method_3_code 87 = .ok (.arraylength, 1) := by decide +kernel
theorem d1_88 : decode method_3_code 88 = .ok (.bipush 6, 2) := by decide +kernel
theorem d1_90 : decode method_3_code 90 = .ok (.if_icmp .le 13, 3) := by decide +kernel
theorem d1_93 : decode method_3_code 93 = .ok (.aload_n 0, 1) := by decide +kernel
theorem d1_94 : decode method_3_code 94 = .ok (.bipush 6, 2) := by decide +kernel
theorem d1_96 : decode method_3_code 96 = .ok (.lload_n 1, 1) := by decide +kernel
theorem d1_97 : decode method_3_code 97 = .ok (.bipush 48, 2) := by decide +kernel
theorem d1_99 : decode method_3_code 99 = .ok (.lushr, 1) := by decide +kernel
theorem d1_100 : decode method_3_code 100 = .ok (.l2i, 1) := by decide +kernel
theorem d1_101 : decode method_3_code 101 = .ok (.i2b, 1) := by decide +kernel
theorem d1_102 : decode method_3_code 102 = .ok (.bastore, 1) := by decide +kernel
theorem d1_103 : decode method_3_code 103 = .ok (.aload_n 0, 1) := by decide +kernel
theorem d1_104 : decode method_3_code 104 = .ok (.arraylength, 1) := by decide +kernel
theorem d1_105 : decode method_3_code 105 = .ok (.bipush 7, 2) := by decide +kernel
theorem d1_107 : decode method_3_code 107 = .ok (.if_icmp .le 13, 3) := by decide +kernel
theorem d1_110 : decode method_3_code 110 = .ok (.aload_n 0, 1) := by decide +kernel
theorem d1_111 : decode method_3_code 111 = .ok (.bipush 7, 2) := by decide +kernel
theorem d1_113 : decode method_3_code 113 = .ok (.lload_n 1, 1) := by decide +kernel
theorem d1_114 : decode method_3_code 114 = .ok (.bipush 56, 2) := by decide +kernel
theorem d1_116 : decode method_3_code 116 = .ok (.lushr, 1) := by decide +kernel
theorem d1_117 : decode method_3_code 117 = .ok (.l2i, 1) := by decide +kernel
theorem d1_118 : decode method_3_code 118 = .ok (.i2b, 1) := by decide +kernel
theorem d1_119 : decode method_3_code 119 = .ok (.bastore, 1) := by decide +kernel
theorem d1_120 : decode method_3_code 120 = .ok (.return_, 1) := by decide +kernel
theorem ef_1 (m : MethodId) (a1 : Addr) (q1 : Int64) : entryFrame m #[(.ref a1), (.long q1)] 3 = mkF m 0 #[.val (.ref a1), .val (.long q1), .second] [] := by first | (simp [entryFrame, mkF, argsToLocals, Value.category]; done) | rfl
def Q1 (Z : State) (a1 : Addr) (q1 : Int64) (k1 : ClassId) (n : Int32) (h0 : Heap) (n0 : Nat) (v : Option Value) (h : Heap) (L : List Loc) : Prop := v = none ∧ Fr n0 L ∧ Keep h0 h [a1] ∧ Arv Z h a1 k1 .byte n [(.int ((q1.toInt32).toInt8.toInt32)), (.int (own_bz q1 8)), (.int (own_bz q1 16)), (.int (own_bz q1 24)), (.int (own_bz q1 32)), (.int (own_bz q1 40)), (.int (own_bz q1 48)), (.int (own_bz q1 56))] (.int 0)
set_option maxRecDepth 65536 in
set_option maxHeartbeats 40000000 in
theorem rm1 (l : Launch) (Z : State) (a0 : Array Value) (hw : ∀ d ∈ tables_1, d.before a0 Z = true) (ws : List Jvm.Cond) (a1 : Addr) (q1 : Int64) (k1 : ClassId) (n : Int32) (h0 : Heap) (n0 : Nat) (Z0 : n0 ≤ h0.size) (V_1 : Arv Z h0 a1 k1 .byte n [(.int 0), (.int 0), (.int 0), (.int 0), (.int 0), (.int 0), (.int 0), (.int 0)] (.int 0)) (g_a1 : n0 ≤ a1) (hn0 : ¬ n < 0) (hn8 : ¬ (8 : Int32) < n) :
    MetFree l (⟨"tributary/DigestsSha256PinLaw", "fill", "([BJ)V"⟩ : MethodName) (head1 (Jvm.Cond.code (⟨"tributary/DigestsSha256PinLaw", "fill", "([BJ)V"⟩ : MethodName) method_3_code 3 none :: ws) ({ frames := 0, cells := 0, slots := 0, locals := 0 } : Room)) (fun a U => a = #[(.ref a1), (.long q1)] ∧ Z.Warmed39 U.vm ∧ U.heap = h0) (fun _ _ _ _ _ => True) (fun _ U o U' => ∃ v L, o = .returned v ∧ Q1 Z a1 q1 k1 n h0 n0 v U'.heap L ∧ FrameEnd U o U' L ({ frames := 0, cells := 0, slots := 0, locals := 0 } : Room).cells ({ frames := 0, cells := 0, slots := 0, locals := 0 } : Room).slots) := by
  refine MetFree.of_bodySF (plainFor_of_name pn_497) hisR ?_
  intro p e s m args below meth c s₁ Bd hml0 hP hK
  obtain ⟨rfl, hZ, hh⟩ := hP
  have hx := Bd.exec
  have hby := Bd.bytes
  have hml : c.maxLocals = 3 := hml0
  have hown : s.vm.findClass "tributary/DigestsSha256PinLaw" = some m.cls := findClass_of_methodNamed Bd.named
  have hnm := (name_of_methodNamed Bd.named Bd.method).1
  have X0 : Stand p l e ({ frames := 0, cells := 0, slots := 0, locals := 0 } : Room) s m #[(.ref a1), (.long q1)] below meth c s₁ [] 0 0 := Stand.of_body Bd
  have e0 : s₁.heap = h0 := by rw [← hh, Bd.state]; rfl
  have N0 := Fr.nil n0
  refine own_go (B := s₁.setTop (mkF m 0 #[.val (.ref a1), .val (.long q1), .second] [])) (fun t k => castTop (ef_1 m a1 q1) k) ?_
  refine own_go (B := s₁.setTop (mkF m 1 #[.val (.ref a1), .val (.long q1), .second] [(.ref a1)])) (fun tg kt => ?_) ?_
  · refine XS.aloadN X0.here hx rfl (hb hby d1_0) rfl rfl ?_
    exact kt
  obtain ⟨cl320, Ar320, cq320, cS320, cN320, cH320, cG320⟩ := id V_1
  refine own_go (B := s₁.setTop (mkF m 2 #[.val (.ref a1), .val (.long q1), .second] [(.int n)])) (fun tg kt => ?_) ?_
  · refine X0.arraylength hx (by rw [e0]; exact Ar320.1) (State.isArrayOf_alike hZ.alike Ar320.2.1) (g := (mkF m 1 #[.val (.ref a1), .val (.long q1), .second] [(.ref a1)])) rfl rfl (hb hby d1_1) _ ?_
    rw [len_of cS320 cN320]
    exact kt
  by_cases hc321 : (0 : Int32) < n
  · refine own_go (B := s₁.setTop (mkF m 10 #[.val (.ref a1), .val (.long q1), .second] [(.int ((q1.toInt32).toInt8.toInt32)), (.int 0), (.ref a1)])) (fun tg kt => ?_) ?_
    · refine XS.ifNo X0.here hx rfl (hb hby d1_2) rfl ((if0 _ _).trans (tlt hc321).2.2.2) ?_
      refine XS.aloadN X0.here hx rfl (hb hby d1_5) rfl rfl ?_
      refine XS.iconst X0.here hx rfl (hb hby d1_6) ?_
      refine XS.lloadN X0.here hx rfl (hb hby d1_7) rfl ?_
      refine XS.l2i X0.here hx rfl (hb hby d1_8) rfl ?_
      refine XS.i2b X0.here hx rfl (hb hby d1_9) rfl ?_
      exact kt
    obtain ⟨cl322, Ar322, cq322, cS322, cN322, cH322, cG322⟩ := id V_1
    have hin322 := inb_of (j := (0 : Int32)) cS322 ⟨by decide, hc321⟩
    obtain ⟨T322, h322, X322, e322, W322, st322⟩ := stB X0 hx hZ e0 Ar322 (j := (0 : Int32)) hin322 (g := (mkF m 10 #[.val (.ref a1), .val (.long q1), .second] [(.int ((q1.toInt32).toInt8.toInt32)), (.int 0), (.ref a1)])) rfl rfl (hb hby d1_10)
    refine own_go st322 ?_
    have V322 : Arv Z h322 a1 k1 .byte n [(.int ((q1.toInt32).toInt8.toInt32)), (.int 0), (.int 0), (.int 0), (.int 0), (.int 0), (.int 0), (.int 0)] (.int 0) := by have q := Arv.set Ar322 cq322 cS322 cN322 cH322 cG322 (fits_nar_byte _) W322 0 rfl (Nat.le_of_ble_eq_true rfl); rw [own_narB] at q; exact q
    have K322 : Keep h0 h322 [a1] := Keep.wr (Keep.refl h0 [a1]) W322 (Or.inl (List.mem_of_getElem? (i := 0) rfl))
    have N322 := Fr.snoc X322 N0 g_a1
    refine own_go (B := T322.setTop (mkF m 12 #[.val (.ref a1), .val (.long q1), .second] [(.ref a1)])) (fun tg kt => ?_) ?_
    · refine XS.aloadN X322.here hx rfl (hb hby d1_11) rfl rfl ?_
      exact kt
    obtain ⟨cl323, Ar323, cq323, cS323, cN323, cH323, cG323⟩ := id V322
    refine own_go (B := T322.setTop (mkF m 14 #[.val (.ref a1), .val (.long q1), .second] [(.int 1), (.int n)])) (fun tg kt => ?_) ?_
    · refine X322.arraylength hx (by rw [e322]; exact Ar323.1) (State.isArrayOf_alike hZ.alike Ar323.2.1) (g := (mkF m 12 #[.val (.ref a1), .val (.long q1), .second] [(.ref a1)])) rfl rfl (hb hby d1_12) _ ?_
      rw [len_of cS323 cN323]
      refine XS.iconst X322.here hx rfl (hb hby d1_13) ?_
      exact kt
    by_cases hc324 : (1 : Int32) < n
    · refine own_go (B := T322.setTop (mkF m 25 #[.val (.ref a1), .val (.long q1), .second] [(.int (own_bz q1 8)), (.int 1), (.ref a1)])) (fun tg kt => ?_) ?_
      · refine XS.icmpNo X322.here hx rfl (hb hby d1_14) rfl (tlt hc324).2.2.2 ?_
        refine XS.aloadN X322.here hx rfl (hb hby d1_17) rfl rfl ?_
        refine XS.iconst X322.here hx rfl (hb hby d1_18) ?_
        refine XS.lloadN X322.here hx rfl (hb hby d1_19) rfl ?_
        refine XS.bipush X322.here hx rfl (hb hby d1_20) ?_
        refine XS.lushr X322.here hx rfl (hb hby d1_22) rfl ?_
        refine XS.l2i X322.here hx rfl (hb hby d1_23) rfl ?_
        refine XS.i2b X322.here hx rfl (hb hby d1_24) rfl ?_
        exact kt
      obtain ⟨cl325, Ar325, cq325, cS325, cN325, cH325, cG325⟩ := id V322
      have hin325 := inb_of (j := (1 : Int32)) cS325 ⟨by decide, hc324⟩
      obtain ⟨T325, h325, X325, e325, W325, st325⟩ := stB X322 hx hZ e322 Ar325 (j := (1 : Int32)) hin325 (g := (mkF m 25 #[.val (.ref a1), .val (.long q1), .second] [(.int (own_bz q1 8)), (.int 1), (.ref a1)])) rfl rfl (hb hby d1_25)
      refine own_go st325 ?_
      have V325 : Arv Z h325 a1 k1 .byte n [(.int ((q1.toInt32).toInt8.toInt32)), (.int (own_bz q1 8)), (.int 0), (.int 0), (.int 0), (.int 0), (.int 0), (.int 0)] (.int 0) := by have q := Arv.set Ar325 cq325 cS325 cN325 cH325 cG325 (fits_nar_byte _) W325 1 rfl (Nat.le_of_ble_eq_true rfl); rw [own_narB] at q; exact q
      have K325 : Keep h0 h325 [a1] := Keep.wr K322 W325 (Or.inl (List.mem_of_getElem? (i := 0) rfl))
      have N325 := Fr.snoc X325 N322 g_a1
      refine own_go (B := T325.setTop (mkF m 27 #[.val (.ref a1), .val (.long q1), .second] [(.ref a1)])) (fun tg kt => ?_) ?_
      · refine XS.aloadN X325.here hx rfl (hb hby d1_26) rfl rfl ?_
        exact kt
      obtain ⟨cl326, Ar326, cq326, cS326, cN326, cH326, cG326⟩ := id V325
      refine own_go (B := T325.setTop (mkF m 29 #[.val (.ref a1), .val (.long q1), .second] [(.int 2), (.int n)])) (fun tg kt => ?_) ?_
      · refine X325.arraylength hx (by rw [e325]; exact Ar326.1) (State.isArrayOf_alike hZ.alike Ar326.2.1) (g := (mkF m 27 #[.val (.ref a1), .val (.long q1), .second] [(.ref a1)])) rfl rfl (hb hby d1_27) _ ?_
        rw [len_of cS326 cN326]
        refine XS.iconst X325.here hx rfl (hb hby d1_28) ?_
        exact kt
      by_cases hc327 : (2 : Int32) < n
      · refine own_go (B := T325.setTop (mkF m 40 #[.val (.ref a1), .val (.long q1), .second] [(.int (own_bz q1 16)), (.int 2), (.ref a1)])) (fun tg kt => ?_) ?_
        · refine XS.icmpNo X325.here hx rfl (hb hby d1_29) rfl (tlt hc327).2.2.2 ?_
          refine XS.aloadN X325.here hx rfl (hb hby d1_32) rfl rfl ?_
          refine XS.iconst X325.here hx rfl (hb hby d1_33) ?_
          refine XS.lloadN X325.here hx rfl (hb hby d1_34) rfl ?_
          refine XS.bipush X325.here hx rfl (hb hby d1_35) ?_
          refine XS.lushr X325.here hx rfl (hb hby d1_37) rfl ?_
          refine XS.l2i X325.here hx rfl (hb hby d1_38) rfl ?_
          refine XS.i2b X325.here hx rfl (hb hby d1_39) rfl ?_
          exact kt
        obtain ⟨cl328, Ar328, cq328, cS328, cN328, cH328, cG328⟩ := id V325
        have hin328 := inb_of (j := (2 : Int32)) cS328 ⟨by decide, hc327⟩
        obtain ⟨T328, h328, X328, e328, W328, st328⟩ := stB X325 hx hZ e325 Ar328 (j := (2 : Int32)) hin328 (g := (mkF m 40 #[.val (.ref a1), .val (.long q1), .second] [(.int (own_bz q1 16)), (.int 2), (.ref a1)])) rfl rfl (hb hby d1_40)
        refine own_go st328 ?_
        have V328 : Arv Z h328 a1 k1 .byte n [(.int ((q1.toInt32).toInt8.toInt32)), (.int (own_bz q1 8)), (.int (own_bz q1 16)), (.int 0), (.int 0), (.int 0), (.int 0), (.int 0)] (.int 0) := by have q := Arv.set Ar328 cq328 cS328 cN328 cH328 cG328 (fits_nar_byte _) W328 2 rfl (Nat.le_of_ble_eq_true rfl); rw [own_narB] at q; exact q
        have K328 : Keep h0 h328 [a1] := Keep.wr K325 W328 (Or.inl (List.mem_of_getElem? (i := 0) rfl))
        have N328 := Fr.snoc X328 N325 g_a1
        refine own_go (B := T328.setTop (mkF m 42 #[.val (.ref a1), .val (.long q1), .second] [(.ref a1)])) (fun tg kt => ?_) ?_
        · refine XS.aloadN X328.here hx rfl (hb hby d1_41) rfl rfl ?_
          exact kt
        obtain ⟨cl329, Ar329, cq329, cS329, cN329, cH329, cG329⟩ := id V328
        refine own_go (B := T328.setTop (mkF m 44 #[.val (.ref a1), .val (.long q1), .second] [(.int 3), (.int n)])) (fun tg kt => ?_) ?_
        · refine X328.arraylength hx (by rw [e328]; exact Ar329.1) (State.isArrayOf_alike hZ.alike Ar329.2.1) (g := (mkF m 42 #[.val (.ref a1), .val (.long q1), .second] [(.ref a1)])) rfl rfl (hb hby d1_42) _ ?_
          rw [len_of cS329 cN329]
          refine XS.iconst X328.here hx rfl (hb hby d1_43) ?_
          exact kt
        by_cases hc330 : (3 : Int32) < n
        · refine own_go (B := T328.setTop (mkF m 55 #[.val (.ref a1), .val (.long q1), .second] [(.int (own_bz q1 24)), (.int 3), (.ref a1)])) (fun tg kt => ?_) ?_
          · refine XS.icmpNo X328.here hx rfl (hb hby d1_44) rfl (tlt hc330).2.2.2 ?_
            refine XS.aloadN X328.here hx rfl (hb hby d1_47) rfl rfl ?_
            refine XS.iconst X328.here hx rfl (hb hby d1_48) ?_
            refine XS.lloadN X328.here hx rfl (hb hby d1_49) rfl ?_
            refine XS.bipush X328.here hx rfl (hb hby d1_50) ?_
            refine XS.lushr X328.here hx rfl (hb hby d1_52) rfl ?_
            refine XS.l2i X328.here hx rfl (hb hby d1_53) rfl ?_
            refine XS.i2b X328.here hx rfl (hb hby d1_54) rfl ?_
            exact kt
          obtain ⟨cl331, Ar331, cq331, cS331, cN331, cH331, cG331⟩ := id V328
          have hin331 := inb_of (j := (3 : Int32)) cS331 ⟨by decide, hc330⟩
          obtain ⟨T331, h331, X331, e331, W331, st331⟩ := stB X328 hx hZ e328 Ar331 (j := (3 : Int32)) hin331 (g := (mkF m 55 #[.val (.ref a1), .val (.long q1), .second] [(.int (own_bz q1 24)), (.int 3), (.ref a1)])) rfl rfl (hb hby d1_55)
          refine own_go st331 ?_
          have V331 : Arv Z h331 a1 k1 .byte n [(.int ((q1.toInt32).toInt8.toInt32)), (.int (own_bz q1 8)), (.int (own_bz q1 16)), (.int (own_bz q1 24)), (.int 0), (.int 0), (.int 0), (.int 0)] (.int 0) := by have q := Arv.set Ar331 cq331 cS331 cN331 cH331 cG331 (fits_nar_byte _) W331 3 rfl (Nat.le_of_ble_eq_true rfl); rw [own_narB] at q; exact q
          have K331 : Keep h0 h331 [a1] := Keep.wr K328 W331 (Or.inl (List.mem_of_getElem? (i := 0) rfl))
          have N331 := Fr.snoc X331 N328 g_a1
          refine own_go (B := T331.setTop (mkF m 57 #[.val (.ref a1), .val (.long q1), .second] [(.ref a1)])) (fun tg kt => ?_) ?_
          · refine XS.aloadN X331.here hx rfl (hb hby d1_56) rfl rfl ?_
            exact kt
          obtain ⟨cl332, Ar332, cq332, cS332, cN332, cH332, cG332⟩ := id V331
          refine own_go (B := T331.setTop (mkF m 59 #[.val (.ref a1), .val (.long q1), .second] [(.int 4), (.int n)])) (fun tg kt => ?_) ?_
          · refine X331.arraylength hx (by rw [e331]; exact Ar332.1) (State.isArrayOf_alike hZ.alike Ar332.2.1) (g := (mkF m 57 #[.val (.ref a1), .val (.long q1), .second] [(.ref a1)])) rfl rfl (hb hby d1_57) _ ?_
            rw [len_of cS332 cN332]
            refine XS.iconst X331.here hx rfl (hb hby d1_58) ?_
            exact kt
          by_cases hc333 : (4 : Int32) < n
          · refine own_go (B := T331.setTop (mkF m 70 #[.val (.ref a1), .val (.long q1), .second] [(.int (own_bz q1 32)), (.int 4), (.ref a1)])) (fun tg kt => ?_) ?_
            · refine XS.icmpNo X331.here hx rfl (hb hby d1_59) rfl (tlt hc333).2.2.2 ?_
              refine XS.aloadN X331.here hx rfl (hb hby d1_62) rfl rfl ?_
              refine XS.iconst X331.here hx rfl (hb hby d1_63) ?_
              refine XS.lloadN X331.here hx rfl (hb hby d1_64) rfl ?_
              refine XS.bipush X331.here hx rfl (hb hby d1_65) ?_
              refine XS.lushr X331.here hx rfl (hb hby d1_67) rfl ?_
              refine XS.l2i X331.here hx rfl (hb hby d1_68) rfl ?_
              refine XS.i2b X331.here hx rfl (hb hby d1_69) rfl ?_
              exact kt
            obtain ⟨cl334, Ar334, cq334, cS334, cN334, cH334, cG334⟩ := id V331
            have hin334 := inb_of (j := (4 : Int32)) cS334 ⟨by decide, hc333⟩
            obtain ⟨T334, h334, X334, e334, W334, st334⟩ := stB X331 hx hZ e331 Ar334 (j := (4 : Int32)) hin334 (g := (mkF m 70 #[.val (.ref a1), .val (.long q1), .second] [(.int (own_bz q1 32)), (.int 4), (.ref a1)])) rfl rfl (hb hby d1_70)
            refine own_go st334 ?_
            have V334 : Arv Z h334 a1 k1 .byte n [(.int ((q1.toInt32).toInt8.toInt32)), (.int (own_bz q1 8)), (.int (own_bz q1 16)), (.int (own_bz q1 24)), (.int (own_bz q1 32)), (.int 0), (.int 0), (.int 0)] (.int 0) := by have q := Arv.set Ar334 cq334 cS334 cN334 cH334 cG334 (fits_nar_byte _) W334 4 rfl (Nat.le_of_ble_eq_true rfl); rw [own_narB] at q; exact q
            have K334 : Keep h0 h334 [a1] := Keep.wr K331 W334 (Or.inl (List.mem_of_getElem? (i := 0) rfl))
            have N334 := Fr.snoc X334 N331 g_a1
            refine own_go (B := T334.setTop (mkF m 72 #[.val (.ref a1), .val (.long q1), .second] [(.ref a1)])) (fun tg kt => ?_) ?_
            · refine XS.aloadN X334.here hx rfl (hb hby d1_71) rfl rfl ?_
              exact kt
            obtain ⟨cl335, Ar335, cq335, cS335, cN335, cH335, cG335⟩ := id V334
            refine own_go (B := T334.setTop (mkF m 74 #[.val (.ref a1), .val (.long q1), .second] [(.int 5), (.int n)])) (fun tg kt => ?_) ?_
            · refine X334.arraylength hx (by rw [e334]; exact Ar335.1) (State.isArrayOf_alike hZ.alike Ar335.2.1) (g := (mkF m 72 #[.val (.ref a1), .val (.long q1), .second] [(.ref a1)])) rfl rfl (hb hby d1_72) _ ?_
              rw [len_of cS335 cN335]
              refine XS.iconst X334.here hx rfl (hb hby d1_73) ?_
              exact kt
            by_cases hc336 : (5 : Int32) < n
            · refine own_go (B := T334.setTop (mkF m 85 #[.val (.ref a1), .val (.long q1), .second] [(.int (own_bz q1 40)), (.int 5), (.ref a1)])) (fun tg kt => ?_) ?_
              · refine XS.icmpNo X334.here hx rfl (hb hby d1_74) rfl (tlt hc336).2.2.2 ?_
                refine XS.aloadN X334.here hx rfl (hb hby d1_77) rfl rfl ?_
                refine XS.iconst X334.here hx rfl (hb hby d1_78) ?_
                refine XS.lloadN X334.here hx rfl (hb hby d1_79) rfl ?_
                refine XS.bipush X334.here hx rfl (hb hby d1_80) ?_
                refine XS.lushr X334.here hx rfl (hb hby d1_82) rfl ?_
                refine XS.l2i X334.here hx rfl (hb hby d1_83) rfl ?_
                refine XS.i2b X334.here hx rfl (hb hby d1_84) rfl ?_
                exact kt
              obtain ⟨cl337, Ar337, cq337, cS337, cN337, cH337, cG337⟩ := id V334
              have hin337 := inb_of (j := (5 : Int32)) cS337 ⟨by decide, hc336⟩
              obtain ⟨T337, h337, X337, e337, W337, st337⟩ := stB X334 hx hZ e334 Ar337 (j := (5 : Int32)) hin337 (g := (mkF m 85 #[.val (.ref a1), .val (.long q1), .second] [(.int (own_bz q1 40)), (.int 5), (.ref a1)])) rfl rfl (hb hby d1_85)
              refine own_go st337 ?_
              have V337 : Arv Z h337 a1 k1 .byte n [(.int ((q1.toInt32).toInt8.toInt32)), (.int (own_bz q1 8)), (.int (own_bz q1 16)), (.int (own_bz q1 24)), (.int (own_bz q1 32)), (.int (own_bz q1 40)), (.int 0), (.int 0)] (.int 0) := by have q := Arv.set Ar337 cq337 cS337 cN337 cH337 cG337 (fits_nar_byte _) W337 5 rfl (Nat.le_of_ble_eq_true rfl); rw [own_narB] at q; exact q
              have K337 : Keep h0 h337 [a1] := Keep.wr K334 W337 (Or.inl (List.mem_of_getElem? (i := 0) rfl))
              have N337 := Fr.snoc X337 N334 g_a1
              refine own_go (B := T337.setTop (mkF m 87 #[.val (.ref a1), .val (.long q1), .second] [(.ref a1)])) (fun tg kt => ?_) ?_
              · refine XS.aloadN X337.here hx rfl (hb hby d1_86) rfl rfl ?_
                exact kt
              obtain ⟨cl338, Ar338, cq338, cS338, cN338, cH338, cG338⟩ := id V337
              refine own_go (B := T337.setTop (mkF m 90 #[.val (.ref a1), .val (.long q1), .second] [(.int 6), (.int n)])) (fun tg kt => ?_) ?_
              · refine X337.arraylength hx (by rw [e337]; exact Ar338.1) (State.isArrayOf_alike hZ.alike Ar338.2.1) (g := (mkF m 87 #[.val (.ref a1), .val (.long q1), .second] [(.ref a1)])) rfl rfl (hb hby d1_87) _ ?_
                rw [len_of cS338 cN338]
                refine XS.bipush X337.here hx rfl (hb hby d1_88) ?_
                exact kt
              by_cases hc339 : (6 : Int32) < n
              · refine own_go (B := T337.setTop (mkF m 102 #[.val (.ref a1), .val (.long q1), .second] [(.int (own_bz q1 48)), (.int 6), (.ref a1)])) (fun tg kt => ?_) ?_
                · refine XS.icmpNo X337.here hx rfl (hb hby d1_90) rfl (tlt hc339).2.2.2 ?_
                  refine XS.aloadN X337.here hx rfl (hb hby d1_93) rfl rfl ?_
                  refine XS.bipush X337.here hx rfl (hb hby d1_94) ?_
                  refine XS.lloadN X337.here hx rfl (hb hby d1_96) rfl ?_
                  refine XS.bipush X337.here hx rfl (hb hby d1_97) ?_
                  refine XS.lushr X337.here hx rfl (hb hby d1_99) rfl ?_
                  refine XS.l2i X337.here hx rfl (hb hby d1_100) rfl ?_
                  refine XS.i2b X337.here hx rfl (hb hby d1_101) rfl ?_
                  exact kt
                obtain ⟨cl340, Ar340, cq340, cS340, cN340, cH340, cG340⟩ := id V337
                have hin340 := inb_of (j := (6 : Int32)) cS340 ⟨by decide, hc339⟩
                obtain ⟨T340, h340, X340, e340, W340, st340⟩ := stB X337 hx hZ e337 Ar340 (j := (6 : Int32)) hin340 (g := (mkF m 102 #[.val (.ref a1), .val (.long q1), .second] [(.int (own_bz q1 48)), (.int 6), (.ref a1)])) rfl rfl (hb hby d1_102)
                refine own_go st340 ?_
                have V340 : Arv Z h340 a1 k1 .byte n [(.int ((q1.toInt32).toInt8.toInt32)), (.int (own_bz q1 8)), (.int (own_bz q1 16)), (.int (own_bz q1 24)), (.int (own_bz q1 32)), (.int (own_bz q1 40)), (.int (own_bz q1 48)), (.int 0)] (.int 0) := by have q := Arv.set Ar340 cq340 cS340 cN340 cH340 cG340 (fits_nar_byte _) W340 6 rfl (Nat.le_of_ble_eq_true rfl); rw [own_narB] at q; exact q
                have K340 : Keep h0 h340 [a1] := Keep.wr K337 W340 (Or.inl (List.mem_of_getElem? (i := 0) rfl))
                have N340 := Fr.snoc X340 N337 g_a1
                refine own_go (B := T340.setTop (mkF m 104 #[.val (.ref a1), .val (.long q1), .second] [(.ref a1)])) (fun tg kt => ?_) ?_
                · refine XS.aloadN X340.here hx rfl (hb hby d1_103) rfl rfl ?_
                  exact kt
                obtain ⟨cl341, Ar341, cq341, cS341, cN341, cH341, cG341⟩ := id V340
                refine own_go (B := T340.setTop (mkF m 107 #[.val (.ref a1), .val (.long q1), .second] [(.int 7), (.int n)])) (fun tg kt => ?_) ?_
                · refine X340.arraylength hx (by rw [e340]; exact Ar341.1) (State.isArrayOf_alike hZ.alike Ar341.2.1) (g := (mkF m 104 #[.val (.ref a1), .val (.long q1), .second] [(.ref a1)])) rfl rfl (hb hby d1_104) _ ?_
                  rw [len_of cS341 cN341]
                  refine XS.bipush X340.here hx rfl (hb hby d1_105) ?_
                  exact kt
                by_cases hc342 : (7 : Int32) < n
                · refine own_go (B := T340.setTop (mkF m 119 #[.val (.ref a1), .val (.long q1), .second] [(.int (own_bz q1 56)), (.int 7), (.ref a1)])) (fun tg kt => ?_) ?_
                  · refine XS.icmpNo X340.here hx rfl (hb hby d1_107) rfl (tlt hc342).2.2.2 ?_
                    refine XS.aloadN X340.here hx rfl (hb hby d1_110) rfl rfl ?_
                    refine XS.bipush X340.here hx rfl (hb hby d1_111) ?_
                    refine XS.lloadN X340.here hx rfl (hb hby d1_113) rfl ?_
                    refine XS.bipush X340.here hx rfl (hb hby d1_114) ?_
                    refine XS.lushr X340.here hx rfl (hb hby d1_116) rfl ?_
                    refine XS.l2i X340.here hx rfl (hb hby d1_117) rfl ?_
                    refine XS.i2b X340.here hx rfl (hb hby d1_118) rfl ?_
                    exact kt
                  obtain ⟨cl343, Ar343, cq343, cS343, cN343, cH343, cG343⟩ := id V340
                  have hin343 := inb_of (j := (7 : Int32)) cS343 ⟨by decide, hc342⟩
                  obtain ⟨T343, h343, X343, e343, W343, st343⟩ := stB X340 hx hZ e340 Ar343 (j := (7 : Int32)) hin343 (g := (mkF m 119 #[.val (.ref a1), .val (.long q1), .second] [(.int (own_bz q1 56)), (.int 7), (.ref a1)])) rfl rfl (hb hby d1_119)
                  refine own_go st343 ?_
                  have V343 : Arv Z h343 a1 k1 .byte n [(.int ((q1.toInt32).toInt8.toInt32)), (.int (own_bz q1 8)), (.int (own_bz q1 16)), (.int (own_bz q1 24)), (.int (own_bz q1 32)), (.int (own_bz q1 40)), (.int (own_bz q1 48)), (.int (own_bz q1 56))] (.int 0) := by have q := Arv.set Ar343 cq343 cS343 cN343 cH343 cG343 (fits_nar_byte _) W343 7 rfl (Nat.le_of_ble_eq_true rfl); rw [own_narB] at q; exact q
                  have K343 : Keep h0 h343 [a1] := Keep.wr K340 W343 (Or.inl (List.mem_of_getElem? (i := 0) rfl))
                  have N343 := Fr.snoc X343 N340 g_a1
                  obtain ⟨fs, hr, hrun, hended, hW, hsame⟩ := X343.leave (v := none) (fun _ => rfl)
                  refine ⟨_, _, ?_, hrun, hended, _, _, rfl, ?_, ⟨_, rfl⟩, hW, hsame.mono (by decide) (by decide)⟩
                  · exact X343.returnOut hx Bd.returns (hb hby d1_120) hr
                  · show Q1 Z a1 q1 k1 n h0 n0 _ T343.heap _
                    rw [e343]
                    exact ⟨rfl, N343, K343, V343⟩
                · refine own_go (B := T340.setTop (mkF m 120 #[.val (.ref a1), .val (.long q1), .second] [])) (fun tg kt => ?_) ?_
                  · refine XS.icmpYes X340.here hx rfl (pc0 := 107) (pc' := 120) rfl (hb hby d1_107) rfl (flt hc342).2.2.2 (by decide) (by decide) ?_
                    exact kt
                  obtain ⟨fs, hr, hrun, hended, hW, hsame⟩ := X340.leave (v := none) (fun _ => rfl)
                  refine ⟨_, _, ?_, hrun, hended, _, _, rfl, ?_, ⟨_, rfl⟩, hW, hsame.mono (by decide) (by decide)⟩
                  · exact X340.returnOut hx Bd.returns (hb hby d1_120) hr
                  · show Q1 Z a1 q1 k1 n h0 n0 _ T340.heap _
                    rw [e340]
                    exact ⟨rfl, N340, K340, (own_free V340 7 (.int (own_bz q1 56)) (own_mono (j := (7 : Int32)) hc342 (by decide)) hn0)⟩
              · refine own_go (B := T337.setTop (mkF m 104 #[.val (.ref a1), .val (.long q1), .second] [(.ref a1)])) (fun tg kt => ?_) ?_
                · refine XS.icmpYes X337.here hx rfl (pc0 := 90) (pc' := 103) rfl (hb hby d1_90) rfl (flt hc339).2.2.2 (by decide) (by decide) ?_
                  refine XS.aloadN X337.here hx rfl (hb hby d1_103) rfl rfl ?_
                  exact kt
                obtain ⟨cl346, Ar346, cq346, cS346, cN346, cH346, cG346⟩ := id V337
                refine own_go (B := T337.setTop (mkF m 120 #[.val (.ref a1), .val (.long q1), .second] [])) (fun tg kt => ?_) ?_
                · refine X337.arraylength hx (by rw [e337]; exact Ar346.1) (State.isArrayOf_alike hZ.alike Ar346.2.1) (g := (mkF m 104 #[.val (.ref a1), .val (.long q1), .second] [(.ref a1)])) rfl rfl (hb hby d1_104) _ ?_
                  rw [len_of cS346 cN346]
                  refine XS.bipush X337.here hx rfl (hb hby d1_105) ?_
                  refine XS.icmpYes X337.here hx rfl (pc0 := 107) (pc' := 120) rfl (hb hby d1_107) rfl (flt (show ¬ ((7 : Int32) < n) from (own_mono hc339 (by decide)))).2.2.2 (by decide) (by decide) ?_
                  exact kt
                obtain ⟨fs, hr, hrun, hended, hW, hsame⟩ := X337.leave (v := none) (fun _ => rfl)
                refine ⟨_, _, ?_, hrun, hended, _, _, rfl, ?_, ⟨_, rfl⟩, hW, hsame.mono (by decide) (by decide)⟩
                · exact X337.returnOut hx Bd.returns (hb hby d1_120) hr
                · show Q1 Z a1 q1 k1 n h0 n0 _ T337.heap _
                  rw [e337]
                  exact ⟨rfl, N337, K337, (own_free (own_free V337 6 (.int (own_bz q1 48)) (own_mono (j := (6 : Int32)) hc339 (by decide)) hn0) 7 (.int (own_bz q1 56)) (own_mono (j := (7 : Int32)) hc339 (by decide)) hn0)⟩
            · refine own_go (B := T334.setTop (mkF m 87 #[.val (.ref a1), .val (.long q1), .second] [(.ref a1)])) (fun tg kt => ?_) ?_
              · refine XS.icmpYes X334.here hx rfl (pc0 := 74) (pc' := 86) rfl (hb hby d1_74) rfl (flt hc336).2.2.2 (by decide) (by decide) ?_
                refine XS.aloadN X334.here hx rfl (hb hby d1_86) rfl rfl ?_
                exact kt
              obtain ⟨cl348, Ar348, cq348, cS348, cN348, cH348, cG348⟩ := id V334
              refine own_go (B := T334.setTop (mkF m 104 #[.val (.ref a1), .val (.long q1), .second] [(.ref a1)])) (fun tg kt => ?_) ?_
              · refine X334.arraylength hx (by rw [e334]; exact Ar348.1) (State.isArrayOf_alike hZ.alike Ar348.2.1) (g := (mkF m 87 #[.val (.ref a1), .val (.long q1), .second] [(.ref a1)])) rfl rfl (hb hby d1_87) _ ?_
                rw [len_of cS348 cN348]
                refine XS.bipush X334.here hx rfl (hb hby d1_88) ?_
                refine XS.icmpYes X334.here hx rfl (pc0 := 90) (pc' := 103) rfl (hb hby d1_90) rfl (flt (show ¬ ((6 : Int32) < n) from (own_mono hc336 (by decide)))).2.2.2 (by decide) (by decide) ?_
                refine XS.aloadN X334.here hx rfl (hb hby d1_103) rfl rfl ?_
                exact kt
              obtain ⟨cl349, Ar349, cq349, cS349, cN349, cH349, cG349⟩ := id V334
              refine own_go (B := T334.setTop (mkF m 120 #[.val (.ref a1), .val (.long q1), .second] [])) (fun tg kt => ?_) ?_
              · refine X334.arraylength hx (by rw [e334]; exact Ar349.1) (State.isArrayOf_alike hZ.alike Ar349.2.1) (g := (mkF m 104 #[.val (.ref a1), .val (.long q1), .second] [(.ref a1)])) rfl rfl (hb hby d1_104) _ ?_
                rw [len_of cS349 cN349]
                refine XS.bipush X334.here hx rfl (hb hby d1_105) ?_
                refine XS.icmpYes X334.here hx rfl (pc0 := 107) (pc' := 120) rfl (hb hby d1_107) rfl (flt (show ¬ ((7 : Int32) < n) from (own_mono hc336 (by decide)))).2.2.2 (by decide) (by decide) ?_
                exact kt
              obtain ⟨fs, hr, hrun, hended, hW, hsame⟩ := X334.leave (v := none) (fun _ => rfl)
              refine ⟨_, _, ?_, hrun, hended, _, _, rfl, ?_, ⟨_, rfl⟩, hW, hsame.mono (by decide) (by decide)⟩
              · exact X334.returnOut hx Bd.returns (hb hby d1_120) hr
              · show Q1 Z a1 q1 k1 n h0 n0 _ T334.heap _
                rw [e334]
                exact ⟨rfl, N334, K334, (own_free (own_free (own_free V334 5 (.int (own_bz q1 40)) (own_mono (j := (5 : Int32)) hc336 (by decide)) hn0) 6 (.int (own_bz q1 48)) (own_mono (j := (6 : Int32)) hc336 (by decide)) hn0) 7 (.int (own_bz q1 56)) (own_mono (j := (7 : Int32)) hc336 (by decide)) hn0)⟩
          · refine own_go (B := T331.setTop (mkF m 72 #[.val (.ref a1), .val (.long q1), .second] [(.ref a1)])) (fun tg kt => ?_) ?_
            · refine XS.icmpYes X331.here hx rfl (pc0 := 59) (pc' := 71) rfl (hb hby d1_59) rfl (flt hc333).2.2.2 (by decide) (by decide) ?_
              refine XS.aloadN X331.here hx rfl (hb hby d1_71) rfl rfl ?_
              exact kt
            obtain ⟨cl351, Ar351, cq351, cS351, cN351, cH351, cG351⟩ := id V331
            refine own_go (B := T331.setTop (mkF m 87 #[.val (.ref a1), .val (.long q1), .second] [(.ref a1)])) (fun tg kt => ?_) ?_
            · refine X331.arraylength hx (by rw [e331]; exact Ar351.1) (State.isArrayOf_alike hZ.alike Ar351.2.1) (g := (mkF m 72 #[.val (.ref a1), .val (.long q1), .second] [(.ref a1)])) rfl rfl (hb hby d1_72) _ ?_
              rw [len_of cS351 cN351]
              refine XS.iconst X331.here hx rfl (hb hby d1_73) ?_
              refine XS.icmpYes X331.here hx rfl (pc0 := 74) (pc' := 86) rfl (hb hby d1_74) rfl (flt (show ¬ ((5 : Int32) < n) from (own_mono hc333 (by decide)))).2.2.2 (by decide) (by decide) ?_
              refine XS.aloadN X331.here hx rfl (hb hby d1_86) rfl rfl ?_
              exact kt
            obtain ⟨cl352, Ar352, cq352, cS352, cN352, cH352, cG352⟩ := id V331
            refine own_go (B := T331.setTop (mkF m 104 #[.val (.ref a1), .val (.long q1), .second] [(.ref a1)])) (fun tg kt => ?_) ?_
            · refine X331.arraylength hx (by rw [e331]; exact Ar352.1) (State.isArrayOf_alike hZ.alike Ar352.2.1) (g := (mkF m 87 #[.val (.ref a1), .val (.long q1), .second] [(.ref a1)])) rfl rfl (hb hby d1_87) _ ?_
              rw [len_of cS352 cN352]
              refine XS.bipush X331.here hx rfl (hb hby d1_88) ?_
              refine XS.icmpYes X331.here hx rfl (pc0 := 90) (pc' := 103) rfl (hb hby d1_90) rfl (flt (show ¬ ((6 : Int32) < n) from (own_mono hc333 (by decide)))).2.2.2 (by decide) (by decide) ?_
              refine XS.aloadN X331.here hx rfl (hb hby d1_103) rfl rfl ?_
              exact kt
            obtain ⟨cl353, Ar353, cq353, cS353, cN353, cH353, cG353⟩ := id V331
            refine own_go (B := T331.setTop (mkF m 120 #[.val (.ref a1), .val (.long q1), .second] [])) (fun tg kt => ?_) ?_
            · refine X331.arraylength hx (by rw [e331]; exact Ar353.1) (State.isArrayOf_alike hZ.alike Ar353.2.1) (g := (mkF m 104 #[.val (.ref a1), .val (.long q1), .second] [(.ref a1)])) rfl rfl (hb hby d1_104) _ ?_
              rw [len_of cS353 cN353]
              refine XS.bipush X331.here hx rfl (hb hby d1_105) ?_
              refine XS.icmpYes X331.here hx rfl (pc0 := 107) (pc' := 120) rfl (hb hby d1_107) rfl (flt (show ¬ ((7 : Int32) < n) from (own_mono hc333 (by decide)))).2.2.2 (by decide) (by decide) ?_
              exact kt
            obtain ⟨fs, hr, hrun, hended, hW, hsame⟩ := X331.leave (v := none) (fun _ => rfl)
            refine ⟨_, _, ?_, hrun, hended, _, _, rfl, ?_, ⟨_, rfl⟩, hW, hsame.mono (by decide) (by decide)⟩
            · exact X331.returnOut hx Bd.returns (hb hby d1_120) hr
            · show Q1 Z a1 q1 k1 n h0 n0 _ T331.heap _
              rw [e331]
              exact ⟨rfl, N331, K331, (own_free (own_free (own_free (own_free V331 4 (.int (own_bz q1 32)) (own_mono (j := (4 : Int32)) hc333 (by decide)) hn0) 5 (.int (own_bz q1 40)) (own_mono (j := (5 : Int32)) hc333 (by decide)) hn0) 6 (.int (own_bz q1 48)) (own_mono (j := (6 : Int32)) hc333 (by decide)) hn0) 7 (.int (own_bz q1 56)) (own_mono (j := (7 : Int32)) hc333 (by decide)) hn0)⟩
        · refine own_go (B := T328.setTop (mkF m 57 #[.val (.ref a1), .val (.long q1), .second] [(.ref a1)])) (fun tg kt => ?_) ?_
          · refine XS.icmpYes X328.here hx rfl (pc0 := 44) (pc' := 56) rfl (hb hby d1_44) rfl (flt hc330).2.2.2 (by decide) (by decide) ?_
            refine XS.aloadN X328.here hx rfl (hb hby d1_56) rfl rfl ?_
            exact kt
          obtain ⟨cl355, Ar355, cq355, cS355, cN355, cH355, cG355⟩ := id V328
          refine own_go (B := T328.setTop (mkF m 72 #[.val (.ref a1), .val (.long q1), .second] [(.ref a1)])) (fun tg kt => ?_) ?_
          · refine X328.arraylength hx (by rw [e328]; exact Ar355.1) (State.isArrayOf_alike hZ.alike Ar355.2.1) (g := (mkF m 57 #[.val (.ref a1), .val (.long q1), .second] [(.ref a1)])) rfl rfl (hb hby d1_57) _ ?_
            rw [len_of cS355 cN355]
            refine XS.iconst X328.here hx rfl (hb hby d1_58) ?_
            refine XS.icmpYes X328.here hx rfl (pc0 := 59) (pc' := 71) rfl (hb hby d1_59) rfl (flt (show ¬ ((4 : Int32) < n) from (own_mono hc330 (by decide)))).2.2.2 (by decide) (by decide) ?_
            refine XS.aloadN X328.here hx rfl (hb hby d1_71) rfl rfl ?_
            exact kt
          obtain ⟨cl356, Ar356, cq356, cS356, cN356, cH356, cG356⟩ := id V328
          refine own_go (B := T328.setTop (mkF m 87 #[.val (.ref a1), .val (.long q1), .second] [(.ref a1)])) (fun tg kt => ?_) ?_
          · refine X328.arraylength hx (by rw [e328]; exact Ar356.1) (State.isArrayOf_alike hZ.alike Ar356.2.1) (g := (mkF m 72 #[.val (.ref a1), .val (.long q1), .second] [(.ref a1)])) rfl rfl (hb hby d1_72) _ ?_
            rw [len_of cS356 cN356]
            refine XS.iconst X328.here hx rfl (hb hby d1_73) ?_
            refine XS.icmpYes X328.here hx rfl (pc0 := 74) (pc' := 86) rfl (hb hby d1_74) rfl (flt (show ¬ ((5 : Int32) < n) from (own_mono hc330 (by decide)))).2.2.2 (by decide) (by decide) ?_
            refine XS.aloadN X328.here hx rfl (hb hby d1_86) rfl rfl ?_
            exact kt
          obtain ⟨cl357, Ar357, cq357, cS357, cN357, cH357, cG357⟩ := id V328
          refine own_go (B := T328.setTop (mkF m 104 #[.val (.ref a1), .val (.long q1), .second] [(.ref a1)])) (fun tg kt => ?_) ?_
          · refine X328.arraylength hx (by rw [e328]; exact Ar357.1) (State.isArrayOf_alike hZ.alike Ar357.2.1) (g := (mkF m 87 #[.val (.ref a1), .val (.long q1), .second] [(.ref a1)])) rfl rfl (hb hby d1_87) _ ?_
            rw [len_of cS357 cN357]
            refine XS.bipush X328.here hx rfl (hb hby d1_88) ?_
            refine XS.icmpYes X328.here hx rfl (pc0 := 90) (pc' := 103) rfl (hb hby d1_90) rfl (flt (show ¬ ((6 : Int32) < n) from (own_mono hc330 (by decide)))).2.2.2 (by decide) (by decide) ?_
            refine XS.aloadN X328.here hx rfl (hb hby d1_103) rfl rfl ?_
            exact kt
          obtain ⟨cl358, Ar358, cq358, cS358, cN358, cH358, cG358⟩ := id V328
          refine own_go (B := T328.setTop (mkF m 120 #[.val (.ref a1), .val (.long q1), .second] [])) (fun tg kt => ?_) ?_
          · refine X328.arraylength hx (by rw [e328]; exact Ar358.1) (State.isArrayOf_alike hZ.alike Ar358.2.1) (g := (mkF m 104 #[.val (.ref a1), .val (.long q1), .second] [(.ref a1)])) rfl rfl (hb hby d1_104) _ ?_
            rw [len_of cS358 cN358]
            refine XS.bipush X328.here hx rfl (hb hby d1_105) ?_
            refine XS.icmpYes X328.here hx rfl (pc0 := 107) (pc' := 120) rfl (hb hby d1_107) rfl (flt (show ¬ ((7 : Int32) < n) from (own_mono hc330 (by decide)))).2.2.2 (by decide) (by decide) ?_
            exact kt
          obtain ⟨fs, hr, hrun, hended, hW, hsame⟩ := X328.leave (v := none) (fun _ => rfl)
          refine ⟨_, _, ?_, hrun, hended, _, _, rfl, ?_, ⟨_, rfl⟩, hW, hsame.mono (by decide) (by decide)⟩
          · exact X328.returnOut hx Bd.returns (hb hby d1_120) hr
          · show Q1 Z a1 q1 k1 n h0 n0 _ T328.heap _
            rw [e328]
            exact ⟨rfl, N328, K328, (own_free (own_free (own_free (own_free (own_free V328 3 (.int (own_bz q1 24)) (own_mono (j := (3 : Int32)) hc330 (by decide)) hn0) 4 (.int (own_bz q1 32)) (own_mono (j := (4 : Int32)) hc330 (by decide)) hn0) 5 (.int (own_bz q1 40)) (own_mono (j := (5 : Int32)) hc330 (by decide)) hn0) 6 (.int (own_bz q1 48)) (own_mono (j := (6 : Int32)) hc330 (by decide)) hn0) 7 (.int (own_bz q1 56)) (own_mono (j := (7 : Int32)) hc330 (by decide)) hn0)⟩
      · refine own_go (B := T325.setTop (mkF m 42 #[.val (.ref a1), .val (.long q1), .second] [(.ref a1)])) (fun tg kt => ?_) ?_
        · refine XS.icmpYes X325.here hx rfl (pc0 := 29) (pc' := 41) rfl (hb hby d1_29) rfl (flt hc327).2.2.2 (by decide) (by decide) ?_
          refine XS.aloadN X325.here hx rfl (hb hby d1_41) rfl rfl ?_
          exact kt
        obtain ⟨cl360, Ar360, cq360, cS360, cN360, cH360, cG360⟩ := id V325
        refine own_go (B := T325.setTop (mkF m 57 #[.val (.ref a1), .val (.long q1), .second] [(.ref a1)])) (fun tg kt => ?_) ?_
        · refine X325.arraylength hx (by rw [e325]; exact Ar360.1) (State.isArrayOf_alike hZ.alike Ar360.2.1) (g := (mkF m 42 #[.val (.ref a1), .val (.long q1), .second] [(.ref a1)])) rfl rfl (hb hby d1_42) _ ?_
          rw [len_of cS360 cN360]
          refine XS.iconst X325.here hx rfl (hb hby d1_43) ?_
          refine XS.icmpYes X325.here hx rfl (pc0 := 44) (pc' := 56) rfl (hb hby d1_44) rfl (flt (show ¬ ((3 : Int32) < n) from (own_mono hc327 (by decide)))).2.2.2 (by decide) (by decide) ?_
          refine XS.aloadN X325.here hx rfl (hb hby d1_56) rfl rfl ?_
          exact kt
        obtain ⟨cl361, Ar361, cq361, cS361, cN361, cH361, cG361⟩ := id V325
        refine own_go (B := T325.setTop (mkF m 72 #[.val (.ref a1), .val (.long q1), .second] [(.ref a1)])) (fun tg kt => ?_) ?_
        · refine X325.arraylength hx (by rw [e325]; exact Ar361.1) (State.isArrayOf_alike hZ.alike Ar361.2.1) (g := (mkF m 57 #[.val (.ref a1), .val (.long q1), .second] [(.ref a1)])) rfl rfl (hb hby d1_57) _ ?_
          rw [len_of cS361 cN361]
          refine XS.iconst X325.here hx rfl (hb hby d1_58) ?_
          refine XS.icmpYes X325.here hx rfl (pc0 := 59) (pc' := 71) rfl (hb hby d1_59) rfl (flt (show ¬ ((4 : Int32) < n) from (own_mono hc327 (by decide)))).2.2.2 (by decide) (by decide) ?_
          refine XS.aloadN X325.here hx rfl (hb hby d1_71) rfl rfl ?_
          exact kt
        obtain ⟨cl362, Ar362, cq362, cS362, cN362, cH362, cG362⟩ := id V325
        refine own_go (B := T325.setTop (mkF m 87 #[.val (.ref a1), .val (.long q1), .second] [(.ref a1)])) (fun tg kt => ?_) ?_
        · refine X325.arraylength hx (by rw [e325]; exact Ar362.1) (State.isArrayOf_alike hZ.alike Ar362.2.1) (g := (mkF m 72 #[.val (.ref a1), .val (.long q1), .second] [(.ref a1)])) rfl rfl (hb hby d1_72) _ ?_
          rw [len_of cS362 cN362]
          refine XS.iconst X325.here hx rfl (hb hby d1_73) ?_
          refine XS.icmpYes X325.here hx rfl (pc0 := 74) (pc' := 86) rfl (hb hby d1_74) rfl (flt (show ¬ ((5 : Int32) < n) from (own_mono hc327 (by decide)))).2.2.2 (by decide) (by decide) ?_
          refine XS.aloadN X325.here hx rfl (hb hby d1_86) rfl rfl ?_
          exact kt
        obtain ⟨cl363, Ar363, cq363, cS363, cN363, cH363, cG363⟩ := id V325
        refine own_go (B := T325.setTop (mkF m 104 #[.val (.ref a1), .val (.long q1), .second] [(.ref a1)])) (fun tg kt => ?_) ?_
        · refine X325.arraylength hx (by rw [e325]; exact Ar363.1) (State.isArrayOf_alike hZ.alike Ar363.2.1) (g := (mkF m 87 #[.val (.ref a1), .val (.long q1), .second] [(.ref a1)])) rfl rfl (hb hby d1_87) _ ?_
          rw [len_of cS363 cN363]
          refine XS.bipush X325.here hx rfl (hb hby d1_88) ?_
          refine XS.icmpYes X325.here hx rfl (pc0 := 90) (pc' := 103) rfl (hb hby d1_90) rfl (flt (show ¬ ((6 : Int32) < n) from (own_mono hc327 (by decide)))).2.2.2 (by decide) (by decide) ?_
          refine XS.aloadN X325.here hx rfl (hb hby d1_103) rfl rfl ?_
          exact kt
        obtain ⟨cl364, Ar364, cq364, cS364, cN364, cH364, cG364⟩ := id V325
        refine own_go (B := T325.setTop (mkF m 120 #[.val (.ref a1), .val (.long q1), .second] [])) (fun tg kt => ?_) ?_
        · refine X325.arraylength hx (by rw [e325]; exact Ar364.1) (State.isArrayOf_alike hZ.alike Ar364.2.1) (g := (mkF m 104 #[.val (.ref a1), .val (.long q1), .second] [(.ref a1)])) rfl rfl (hb hby d1_104) _ ?_
          rw [len_of cS364 cN364]
          refine XS.bipush X325.here hx rfl (hb hby d1_105) ?_
          refine XS.icmpYes X325.here hx rfl (pc0 := 107) (pc' := 120) rfl (hb hby d1_107) rfl (flt (show ¬ ((7 : Int32) < n) from (own_mono hc327 (by decide)))).2.2.2 (by decide) (by decide) ?_
          exact kt
        obtain ⟨fs, hr, hrun, hended, hW, hsame⟩ := X325.leave (v := none) (fun _ => rfl)
        refine ⟨_, _, ?_, hrun, hended, _, _, rfl, ?_, ⟨_, rfl⟩, hW, hsame.mono (by decide) (by decide)⟩
        · exact X325.returnOut hx Bd.returns (hb hby d1_120) hr
        · show Q1 Z a1 q1 k1 n h0 n0 _ T325.heap _
          rw [e325]
          exact ⟨rfl, N325, K325, (own_free (own_free (own_free (own_free (own_free (own_free V325 2 (.int (own_bz q1 16)) (own_mono (j := (2 : Int32)) hc327 (by decide)) hn0) 3 (.int (own_bz q1 24)) (own_mono (j := (3 : Int32)) hc327 (by decide)) hn0) 4 (.int (own_bz q1 32)) (own_mono (j := (4 : Int32)) hc327 (by decide)) hn0) 5 (.int (own_bz q1 40)) (own_mono (j := (5 : Int32)) hc327 (by decide)) hn0) 6 (.int (own_bz q1 48)) (own_mono (j := (6 : Int32)) hc327 (by decide)) hn0) 7 (.int (own_bz q1 56)) (own_mono (j := (7 : Int32)) hc327 (by decide)) hn0)⟩
    · refine own_go (B := T322.setTop (mkF m 27 #[.val (.ref a1), .val (.long q1), .second] [(.ref a1)])) (fun tg kt => ?_) ?_
      · refine XS.icmpYes X322.here hx rfl (pc0 := 14) (pc' := 26) rfl (hb hby d1_14) rfl (flt hc324).2.2.2 (by decide) (by decide) ?_
        refine XS.aloadN X322.here hx rfl (hb hby d1_26) rfl rfl ?_
        exact kt
      obtain ⟨cl366, Ar366, cq366, cS366, cN366, cH366, cG366⟩ := id V322
      refine own_go (B := T322.setTop (mkF m 42 #[.val (.ref a1), .val (.long q1), .second] [(.ref a1)])) (fun tg kt => ?_) ?_
      · refine X322.arraylength hx (by rw [e322]; exact Ar366.1) (State.isArrayOf_alike hZ.alike Ar366.2.1) (g := (mkF m 27 #[.val (.ref a1), .val (.long q1), .second] [(.ref a1)])) rfl rfl (hb hby d1_27) _ ?_
        rw [len_of cS366 cN366]
        refine XS.iconst X322.here hx rfl (hb hby d1_28) ?_
        refine XS.icmpYes X322.here hx rfl (pc0 := 29) (pc' := 41) rfl (hb hby d1_29) rfl (flt (show ¬ ((2 : Int32) < n) from (own_mono hc324 (by decide)))).2.2.2 (by decide) (by decide) ?_
        refine XS.aloadN X322.here hx rfl (hb hby d1_41) rfl rfl ?_
        exact kt
      obtain ⟨cl367, Ar367, cq367, cS367, cN367, cH367, cG367⟩ := id V322
      refine own_go (B := T322.setTop (mkF m 57 #[.val (.ref a1), .val (.long q1), .second] [(.ref a1)])) (fun tg kt => ?_) ?_
      · refine X322.arraylength hx (by rw [e322]; exact Ar367.1) (State.isArrayOf_alike hZ.alike Ar367.2.1) (g := (mkF m 42 #[.val (.ref a1), .val (.long q1), .second] [(.ref a1)])) rfl rfl (hb hby d1_42) _ ?_
        rw [len_of cS367 cN367]
        refine XS.iconst X322.here hx rfl (hb hby d1_43) ?_
        refine XS.icmpYes X322.here hx rfl (pc0 := 44) (pc' := 56) rfl (hb hby d1_44) rfl (flt (show ¬ ((3 : Int32) < n) from (own_mono hc324 (by decide)))).2.2.2 (by decide) (by decide) ?_
        refine XS.aloadN X322.here hx rfl (hb hby d1_56) rfl rfl ?_
        exact kt
      obtain ⟨cl368, Ar368, cq368, cS368, cN368, cH368, cG368⟩ := id V322
      refine own_go (B := T322.setTop (mkF m 72 #[.val (.ref a1), .val (.long q1), .second] [(.ref a1)])) (fun tg kt => ?_) ?_
      · refine X322.arraylength hx (by rw [e322]; exact Ar368.1) (State.isArrayOf_alike hZ.alike Ar368.2.1) (g := (mkF m 57 #[.val (.ref a1), .val (.long q1), .second] [(.ref a1)])) rfl rfl (hb hby d1_57) _ ?_
        rw [len_of cS368 cN368]
        refine XS.iconst X322.here hx rfl (hb hby d1_58) ?_
        refine XS.icmpYes X322.here hx rfl (pc0 := 59) (pc' := 71) rfl (hb hby d1_59) rfl (flt (show ¬ ((4 : Int32) < n) from (own_mono hc324 (by decide)))).2.2.2 (by decide) (by decide) ?_
        refine XS.aloadN X322.here hx rfl (hb hby d1_71) rfl rfl ?_
        exact kt
      obtain ⟨cl369, Ar369, cq369, cS369, cN369, cH369, cG369⟩ := id V322
      refine own_go (B := T322.setTop (mkF m 87 #[.val (.ref a1), .val (.long q1), .second] [(.ref a1)])) (fun tg kt => ?_) ?_
      · refine X322.arraylength hx (by rw [e322]; exact Ar369.1) (State.isArrayOf_alike hZ.alike Ar369.2.1) (g := (mkF m 72 #[.val (.ref a1), .val (.long q1), .second] [(.ref a1)])) rfl rfl (hb hby d1_72) _ ?_
        rw [len_of cS369 cN369]
        refine XS.iconst X322.here hx rfl (hb hby d1_73) ?_
        refine XS.icmpYes X322.here hx rfl (pc0 := 74) (pc' := 86) rfl (hb hby d1_74) rfl (flt (show ¬ ((5 : Int32) < n) from (own_mono hc324 (by decide)))).2.2.2 (by decide) (by decide) ?_
        refine XS.aloadN X322.here hx rfl (hb hby d1_86) rfl rfl ?_
        exact kt
      obtain ⟨cl370, Ar370, cq370, cS370, cN370, cH370, cG370⟩ := id V322
      refine own_go (B := T322.setTop (mkF m 104 #[.val (.ref a1), .val (.long q1), .second] [(.ref a1)])) (fun tg kt => ?_) ?_
      · refine X322.arraylength hx (by rw [e322]; exact Ar370.1) (State.isArrayOf_alike hZ.alike Ar370.2.1) (g := (mkF m 87 #[.val (.ref a1), .val (.long q1), .second] [(.ref a1)])) rfl rfl (hb hby d1_87) _ ?_
        rw [len_of cS370 cN370]
        refine XS.bipush X322.here hx rfl (hb hby d1_88) ?_
        refine XS.icmpYes X322.here hx rfl (pc0 := 90) (pc' := 103) rfl (hb hby d1_90) rfl (flt (show ¬ ((6 : Int32) < n) from (own_mono hc324 (by decide)))).2.2.2 (by decide) (by decide) ?_
        refine XS.aloadN X322.here hx rfl (hb hby d1_103) rfl rfl ?_
        exact kt
      obtain ⟨cl371, Ar371, cq371, cS371, cN371, cH371, cG371⟩ := id V322
      refine own_go (B := T322.setTop (mkF m 120 #[.val (.ref a1), .val (.long q1), .second] [])) (fun tg kt => ?_) ?_
      · refine X322.arraylength hx (by rw [e322]; exact Ar371.1) (State.isArrayOf_alike hZ.alike Ar371.2.1) (g := (mkF m 104 #[.val (.ref a1), .val (.long q1), .second] [(.ref a1)])) rfl rfl (hb hby d1_104) _ ?_
        rw [len_of cS371 cN371]
        refine XS.bipush X322.here hx rfl (hb hby d1_105) ?_
        refine XS.icmpYes X322.here hx rfl (pc0 := 107) (pc' := 120) rfl (hb hby d1_107) rfl (flt (show ¬ ((7 : Int32) < n) from (own_mono hc324 (by decide)))).2.2.2 (by decide) (by decide) ?_
        exact kt
      obtain ⟨fs, hr, hrun, hended, hW, hsame⟩ := X322.leave (v := none) (fun _ => rfl)
      refine ⟨_, _, ?_, hrun, hended, _, _, rfl, ?_, ⟨_, rfl⟩, hW, hsame.mono (by decide) (by decide)⟩
      · exact X322.returnOut hx Bd.returns (hb hby d1_120) hr
      · show Q1 Z a1 q1 k1 n h0 n0 _ T322.heap _
        rw [e322]
        exact ⟨rfl, N322, K322, (own_free (own_free (own_free (own_free (own_free (own_free (own_free V322 1 (.int (own_bz q1 8)) (own_mono (j := (1 : Int32)) hc324 (by decide)) hn0) 2 (.int (own_bz q1 16)) (own_mono (j := (2 : Int32)) hc324 (by decide)) hn0) 3 (.int (own_bz q1 24)) (own_mono (j := (3 : Int32)) hc324 (by decide)) hn0) 4 (.int (own_bz q1 32)) (own_mono (j := (4 : Int32)) hc324 (by decide)) hn0) 5 (.int (own_bz q1 40)) (own_mono (j := (5 : Int32)) hc324 (by decide)) hn0) 6 (.int (own_bz q1 48)) (own_mono (j := (6 : Int32)) hc324 (by decide)) hn0) 7 (.int (own_bz q1 56)) (own_mono (j := (7 : Int32)) hc324 (by decide)) hn0)⟩
  · refine own_go (B := s₁.setTop (mkF m 12 #[.val (.ref a1), .val (.long q1), .second] [(.ref a1)])) (fun tg kt => ?_) ?_
    · refine XS.ifYes X0.here hx rfl (pc0 := 2) (pc' := 11) rfl (hb hby d1_2) rfl ((if0 _ _).trans (flt hc321).2.2.2) (by decide) (by decide) ?_
      refine XS.aloadN X0.here hx rfl (hb hby d1_11) rfl rfl ?_
      exact kt
    obtain ⟨cl373, Ar373, cq373, cS373, cN373, cH373, cG373⟩ := id V_1
    refine own_go (B := s₁.setTop (mkF m 27 #[.val (.ref a1), .val (.long q1), .second] [(.ref a1)])) (fun tg kt => ?_) ?_
    · refine X0.arraylength hx (by rw [e0]; exact Ar373.1) (State.isArrayOf_alike hZ.alike Ar373.2.1) (g := (mkF m 12 #[.val (.ref a1), .val (.long q1), .second] [(.ref a1)])) rfl rfl (hb hby d1_12) _ ?_
      rw [len_of cS373 cN373]
      refine XS.iconst X0.here hx rfl (hb hby d1_13) ?_
      refine XS.icmpYes X0.here hx rfl (pc0 := 14) (pc' := 26) rfl (hb hby d1_14) rfl (flt (show ¬ ((1 : Int32) < n) from (own_mono hc321 (by decide)))).2.2.2 (by decide) (by decide) ?_
      refine XS.aloadN X0.here hx rfl (hb hby d1_26) rfl rfl ?_
      exact kt
    obtain ⟨cl374, Ar374, cq374, cS374, cN374, cH374, cG374⟩ := id V_1
    refine own_go (B := s₁.setTop (mkF m 42 #[.val (.ref a1), .val (.long q1), .second] [(.ref a1)])) (fun tg kt => ?_) ?_
    · refine X0.arraylength hx (by rw [e0]; exact Ar374.1) (State.isArrayOf_alike hZ.alike Ar374.2.1) (g := (mkF m 27 #[.val (.ref a1), .val (.long q1), .second] [(.ref a1)])) rfl rfl (hb hby d1_27) _ ?_
      rw [len_of cS374 cN374]
      refine XS.iconst X0.here hx rfl (hb hby d1_28) ?_
      refine XS.icmpYes X0.here hx rfl (pc0 := 29) (pc' := 41) rfl (hb hby d1_29) rfl (flt (show ¬ ((2 : Int32) < n) from (own_mono hc321 (by decide)))).2.2.2 (by decide) (by decide) ?_
      refine XS.aloadN X0.here hx rfl (hb hby d1_41) rfl rfl ?_
      exact kt
    obtain ⟨cl375, Ar375, cq375, cS375, cN375, cH375, cG375⟩ := id V_1
    refine own_go (B := s₁.setTop (mkF m 57 #[.val (.ref a1), .val (.long q1), .second] [(.ref a1)])) (fun tg kt => ?_) ?_
    · refine X0.arraylength hx (by rw [e0]; exact Ar375.1) (State.isArrayOf_alike hZ.alike Ar375.2.1) (g := (mkF m 42 #[.val (.ref a1), .val (.long q1), .second] [(.ref a1)])) rfl rfl (hb hby d1_42) _ ?_
      rw [len_of cS375 cN375]
      refine XS.iconst X0.here hx rfl (hb hby d1_43) ?_
      refine XS.icmpYes X0.here hx rfl (pc0 := 44) (pc' := 56) rfl (hb hby d1_44) rfl (flt (show ¬ ((3 : Int32) < n) from (own_mono hc321 (by decide)))).2.2.2 (by decide) (by decide) ?_
      refine XS.aloadN X0.here hx rfl (hb hby d1_56) rfl rfl ?_
      exact kt
    obtain ⟨cl376, Ar376, cq376, cS376, cN376, cH376, cG376⟩ := id V_1
    refine own_go (B := s₁.setTop (mkF m 72 #[.val (.ref a1), .val (.long q1), .second] [(.ref a1)])) (fun tg kt => ?_) ?_
    · refine X0.arraylength hx (by rw [e0]; exact Ar376.1) (State.isArrayOf_alike hZ.alike Ar376.2.1) (g := (mkF m 57 #[.val (.ref a1), .val (.long q1), .second] [(.ref a1)])) rfl rfl (hb hby d1_57) _ ?_
      rw [len_of cS376 cN376]
      refine XS.iconst X0.here hx rfl (hb hby d1_58) ?_
      refine XS.icmpYes X0.here hx rfl (pc0 := 59) (pc' := 71) rfl (hb hby d1_59) rfl (flt (show ¬ ((4 : Int32) < n) from (own_mono hc321 (by decide)))).2.2.2 (by decide) (by decide) ?_
      refine XS.aloadN X0.here hx rfl (hb hby d1_71) rfl rfl ?_
      exact kt
    obtain ⟨cl377, Ar377, cq377, cS377, cN377, cH377, cG377⟩ := id V_1
    refine own_go (B := s₁.setTop (mkF m 87 #[.val (.ref a1), .val (.long q1), .second] [(.ref a1)])) (fun tg kt => ?_) ?_
    · refine X0.arraylength hx (by rw [e0]; exact Ar377.1) (State.isArrayOf_alike hZ.alike Ar377.2.1) (g := (mkF m 72 #[.val (.ref a1), .val (.long q1), .second] [(.ref a1)])) rfl rfl (hb hby d1_72) _ ?_
      rw [len_of cS377 cN377]
      refine XS.iconst X0.here hx rfl (hb hby d1_73) ?_
      refine XS.icmpYes X0.here hx rfl (pc0 := 74) (pc' := 86) rfl (hb hby d1_74) rfl (flt (show ¬ ((5 : Int32) < n) from (own_mono hc321 (by decide)))).2.2.2 (by decide) (by decide) ?_
      refine XS.aloadN X0.here hx rfl (hb hby d1_86) rfl rfl ?_
      exact kt
    obtain ⟨cl378, Ar378, cq378, cS378, cN378, cH378, cG378⟩ := id V_1
    refine own_go (B := s₁.setTop (mkF m 104 #[.val (.ref a1), .val (.long q1), .second] [(.ref a1)])) (fun tg kt => ?_) ?_
    · refine X0.arraylength hx (by rw [e0]; exact Ar378.1) (State.isArrayOf_alike hZ.alike Ar378.2.1) (g := (mkF m 87 #[.val (.ref a1), .val (.long q1), .second] [(.ref a1)])) rfl rfl (hb hby d1_87) _ ?_
      rw [len_of cS378 cN378]
      refine XS.bipush X0.here hx rfl (hb hby d1_88) ?_
      refine XS.icmpYes X0.here hx rfl (pc0 := 90) (pc' := 103) rfl (hb hby d1_90) rfl (flt (show ¬ ((6 : Int32) < n) from (own_mono hc321 (by decide)))).2.2.2 (by decide) (by decide) ?_
      refine XS.aloadN X0.here hx rfl (hb hby d1_103) rfl rfl ?_
      exact kt
    obtain ⟨cl379, Ar379, cq379, cS379, cN379, cH379, cG379⟩ := id V_1
    refine own_go (B := s₁.setTop (mkF m 120 #[.val (.ref a1), .val (.long q1), .second] [])) (fun tg kt => ?_) ?_
    · refine X0.arraylength hx (by rw [e0]; exact Ar379.1) (State.isArrayOf_alike hZ.alike Ar379.2.1) (g := (mkF m 104 #[.val (.ref a1), .val (.long q1), .second] [(.ref a1)])) rfl rfl (hb hby d1_104) _ ?_
      rw [len_of cS379 cN379]
      refine XS.bipush X0.here hx rfl (hb hby d1_105) ?_
      refine XS.icmpYes X0.here hx rfl (pc0 := 107) (pc' := 120) rfl (hb hby d1_107) rfl (flt (show ¬ ((7 : Int32) < n) from (own_mono hc321 (by decide)))).2.2.2 (by decide) (by decide) ?_
      exact kt
    obtain ⟨fs, hr, hrun, hended, hW, hsame⟩ := X0.leave (v := none) (fun _ => rfl)
    refine ⟨_, _, ?_, hrun, hended, _, _, rfl, ?_, ⟨_, rfl⟩, hW, hsame.mono (by decide) (by decide)⟩
    · exact X0.returnOut hx Bd.returns (hb hby d1_120) hr
    · show Q1 Z a1 q1 k1 n h0 n0 _ s₁.heap _
      rw [e0]
      exact ⟨rfl, N0, (Keep.refl h0 [a1]), (own_free (own_free (own_free (own_free (own_free (own_free (own_free (own_free V_1 0 (.int ((q1.toInt32).toInt8.toInt32)) (own_mono (j := (0 : Int32)) hc321 (by decide)) hn0) 1 (.int (own_bz q1 8)) (own_mono (j := (1 : Int32)) hc321 (by decide)) hn0) 2 (.int (own_bz q1 16)) (own_mono (j := (2 : Int32)) hc321 (by decide)) hn0) 3 (.int (own_bz q1 24)) (own_mono (j := (3 : Int32)) hc321 (by decide)) hn0) 4 (.int (own_bz q1 32)) (own_mono (j := (4 : Int32)) hc321 (by decide)) hn0) 5 (.int (own_bz q1 40)) (own_mono (j := (5 : Int32)) hc321 (by decide)) hn0) 6 (.int (own_bz q1 48)) (own_mono (j := (6 : Int32)) hc321 (by decide)) hn0) 7 (.int (own_bz q1 56)) (own_mono (j := (7 : Int32)) hc321 (by decide)) hn0)⟩
theorem d5_0 : decode method_4_code 0 = .ok (.aload_n 0, 1) := by decide +kernel
theorem d5_1 : decode method_4_code 1 = .ok (.arraylength, 1) := by decide +kernel
theorem d5_2 : decode method_4_code 2 = .ok (.ifCond .le 14, 3) := by decide +kernel
theorem d5_5 : decode method_4_code 5 = .ok (.aload_n 0, 1) := by decide +kernel
theorem d5_6 : decode method_4_code 6 = .ok (.iconst 0, 1) := by decide +kernel
theorem d5_7 : decode method_4_code 7 = .ok (.baload, 1) := by decide +kernel
theorem d5_8 : decode method_4_code 8 = .ok (.lload_n 1, 1) := by decide +kernel
theorem d5_9 : decode method_4_code 9 = .ok (.l2i, 1) := by decide +kernel
theorem d5_10 : decode method_4_code 10 = .ok (.i2b, 1) := by decide +kernel
theorem d5_11 : decode method_4_code 11 = .ok (.if_icmp .eq 5, 3) := by decide +kernel
theorem d5_16 : decode method_4_code 16 = .ok (.aload_n 0, 1) := by decide +kernel
theorem d5_17 : decode method_4_code 17 = .ok (.arraylength, 1) := by decide +kernel
theorem d5_18 : decode method_4_code 18 = .ok (.iconst 1, 1) := by decide +kernel
theorem d5_19 : decode method_4_code 19 = .ok (.if_icmp .le 17, 3) := by decide +kernel
theorem d5_22 : decode method_4_code 22 = .ok (.aload_n 0, 1) := by decide +kernel
theorem d5_23 : decode method_4_code 23 = .ok (.iconst 1, 1) := by decide +kernel
theorem d5_24 : decode method_4_code 24 = .ok (.baload, 1) := by decide +kernel
theorem d5_25 : decode method_4_code 25 = .ok (.lload_n 1, 1) := by decide +kernel
theorem d5_26 : decode method_4_code 26 = .ok (.bipush 8, 2) := by decide +kernel
theorem d5_28 : decode method_4_code 28 = .ok (.lushr, 1) := by decide +kernel
theorem d5_29 : decode method_4_code 29 = .ok (.l2i, 1) := by decide +kernel
theorem d5_30 : decode method_4_code 30 = .ok (.i2b, 1) := by decide +kernel
theorem d5_31 : decode method_4_code 31 = .ok (.if_icmp .eq 5, 3) := by decide +kernel
theorem d5_36 : decode method_4_code 36 = .ok (.aload_n 0, 1) := by decide +kernel
theorem d5_37 : decode method_4_code 37 = .ok (.arraylength, 1) := by decide +kernel
theorem d5_38 : decode method_4_code 38 = .ok (.iconst 2, 1) := by decide +kernel
theorem d5_39 : decode method_4_code 39 = .ok (.if_icmp .le 17, 3) := by decide +kernel
theorem d5_42 : decode method_4_code 42 = .ok (.aload_n 0, 1) := by decide +kernel
theorem d5_43 : decode method_4_code 43 = .ok (.iconst 2, 1) := by decide +kernel
theorem d5_44 : decode method_4_code 44 = .ok (.baload, 1) := by decide +kernel
theorem d5_45 : decode method_4_code 45 = .ok (.lload_n 1, 1) := by decide +kernel
theorem d5_46 : decode method_4_code 46 = .ok (.bipush 16, 2) := by decide +kernel
theorem d5_48 : decode method_4_code 48 = .ok (.lushr, 1) := by decide +kernel
theorem d5_49 : decode method_4_code 49 = .ok (.l2i, 1) := by decide +kernel
theorem d5_50 : decode method_4_code 50 = .ok (.i2b, 1) := by decide +kernel
theorem d5_51 : decode method_4_code 51 = .ok (.if_icmp .eq 5, 3) := by decide +kernel
theorem d5_56 : decode method_4_code 56 = .ok (.aload_n 0, 1) := by decide +kernel
theorem d5_57 : decode method_4_code 57 = .ok (.arraylength, 1) := by decide +kernel
theorem d5_58 : decode method_4_code 58 = .ok (.iconst 3, 1) := by decide +kernel
theorem d5_59 : decode method_4_code 59 = .ok (.if_icmp .le 17, 3) := by decide +kernel
theorem d5_62 : decode method_4_code 62 = .ok (.aload_n 0, 1) := by decide +kernel
theorem d5_63 : decode method_4_code 63 = .ok (.iconst 3, 1) := by decide +kernel
theorem d5_64 : decode method_4_code 64 = .ok (.baload, 1) := by decide +kernel
theorem d5_65 : decode method_4_code 65 = .ok (.lload_n 1, 1) := by decide +kernel
theorem d5_66 : decode method_4_code 66 = .ok (.bipush 24, 2) := by decide +kernel
theorem d5_68 : decode method_4_code 68 = .ok (.lushr, 1) := by decide +kernel
theorem d5_69 : decode method_4_code 69 = .ok (.l2i, 1) := by decide +kernel
theorem d5_70 : decode method_4_code 70 = .ok (.i2b, 1) := by decide +kernel
theorem d5_71 : decode method_4_code 71 = .ok (.if_icmp .eq 5, 3) := by decide +kernel
theorem d5_76 : decode method_4_code 76 = .ok (.aload_n 0, 1) := by decide +kernel
theorem d5_77 : decode method_4_code 77 = .ok (.arraylength, 1) := by decide +kernel
theorem d5_78 : decode method_4_code 78 = .ok (.iconst 4, 1) := by decide +kernel
theorem d5_79 : decode method_4_code 79 = .ok (.if_icmp .le 17, 3) := by decide +kernel
theorem d5_82 : decode method_4_code 82 = .ok (.aload_n 0, 1) := by decide +kernel
theorem d5_83 : decode method_4_code 83 = .ok (.iconst 4, 1) := by decide +kernel
theorem d5_84 : decode method_4_code 84 = .ok (.baload, 1) := by decide +kernel
theorem d5_85 : decode method_4_code 85 = .ok (.lload_n 1, 1) := by decide +kernel
theorem d5_86 : decode method_4_code 86 = .ok (.bipush 32, 2) := by decide +kernel
theorem d5_88 : decode method_4_code 88 = .ok (.lushr, 1) := by decide +kernel
theorem d5_89 : decode method_4_code 89 = .ok (.l2i, 1) := by decide +kernel
theorem d5_90 : decode method_4_code 90 = .ok (.i2b, 1) := by decide +kernel
theorem d5_91 : decode method_4_code 91 = .ok (.if_icmp .eq 5, 3) := by decide +kernel
theorem d5_96 : decode method_4_code 96 = .ok (.aload_n 0, 1) := by decide +kernel
theorem d5_97 : decode method_4_code 97 = .ok (.arraylength, 1) := by decide +kernel
theorem d5_98 : decode method_4_code 98 = .ok (.iconst 5, 1) := by decide +kernel
theorem d5_99 : decode method_4_code 99 = .ok (.if_icmp .le 17, 3) := by decide +kernel
theorem d5_102 : decode method_4_code 102 = .ok (.aload_n 0, 1) := by decide +kernel
theorem d5_103 : decode method_4_code 103 = .ok (.iconst 5, 1) := by decide +kernel
theorem d5_104 : decode method_4_code 104 = .ok (.baload, 1) := by decide +kernel
theorem d5_105 : decode method_4_code 105 = .ok (.lload_n 1, 1) := by decide +kernel
theorem d5_106 : decode method_4_code 106 = .ok (.bipush 40, 2) := by decide +kernel
theorem d5_108 : decode method_4_code 108 = .ok (.lushr, 1) := by decide +kernel
theorem d5_109 : decode method_4_code 109 = .ok (.l2i, 1) := by decide +kernel
theorem d5_110 : decode method_4_code 110 = .ok (.i2b, 1) := by decide +kernel
theorem d5_111 : decode method_4_code 111 = .ok (.if_icmp .eq 5, 3) := by decide +kernel
theorem d5_116 : decode method_4_code 116 = .ok (.aload_n 0, 1) := by decide +kernel
theorem d5_117 : decode method_4_code 117 = .ok (.arraylength, 1) := by decide +kernel
theorem d5_118 : decode method_4_code 118 = .ok (.bipush 6, 2) := by decide +kernel
theorem d5_120 : decode method_4_code 120 = .ok (.if_icmp .le 18, 3) := by decide +kernel
theorem d5_123 : decode method_4_code 123 = .ok (.aload_n 0, 1) := by decide +kernel
theorem d5_124 : decode method_4_code 124 = .ok (.bipush 6, 2) := by decide +kernel
theorem d5_126 : decode method_4_code 126 = .ok (.baload, 1) := by decide +kernel
theorem d5_127 : decode method_4_code 127 = .ok (.lload_n 1, 1) := by decide +kernel
theorem d5_128 : decode method_4_code 128 = .ok (.bipush 48, 2) := by decide +kernel
theorem d5_130 : decode method_4_code 130 = .ok (.lushr, 1) := by decide +kernel
theorem d5_131 : decode method_4_code 131 = .ok (.l2i, 1) := by decide +kernel
theorem d5_132 : decode method_4_code 132 = .ok (.i2b, 1) := by decide +kernel
theorem d5_133 : decode method_4_code 133 = .ok (.if_icmp .eq 5, 3) := by decide +kernel
theorem d5_138 : decode method_4_code 138 = .ok (.aload_n 0, 1) := by decide +kernel
theorem d5_139 : decode method_4_code 139 = .ok (.arraylength, 1) := by decide +kernel
theorem d5_140 : decode method_4_code 140 = .ok (.bipush 7, 2) := by decide +kernel
theorem d5_142 : decode method_4_code 142 = .ok (.if_icmp .le 18, 3) := by decide +kernel
theorem d5_145 : decode method_4_code 145 = .ok (.aload_n 0, 1) := by decide +kernel
theorem d5_146 : decode method_4_code 146 = .ok (.bipush 7, 2) := by decide +kernel
theorem d5_148 : decode method_4_code 148 = .ok (.baload, 1) := by decide +kernel
theorem d5_149 : decode method_4_code 149 = .ok (.lload_n 1, 1) := by decide +kernel
theorem d5_150 : decode method_4_code 150 = .ok (.bipush 56, 2) := by decide +kernel
theorem d5_152 : decode method_4_code 152 = .ok (.lushr, 1) := by decide +kernel
theorem d5_153 : decode method_4_code 153 = .ok (.l2i, 1) := by decide +kernel
theorem d5_154 : decode method_4_code 154 = .ok (.i2b, 1) := by decide +kernel
theorem d5_155 : decode method_4_code 155 = .ok (.if_icmp .eq 5, 3) := by decide +kernel
theorem d5_160 : decode method_4_code 160 = .ok (.iconst 1, 1) := by decide +kernel
theorem d5_161 : decode method_4_code 161 = .ok (.ireturn, 1) := by decide +kernel
theorem ef_5 (m : MethodId) (a1 : Addr) (q1 : Int64) : entryFrame m #[(.ref a1), (.long q1)] 3 = mkF m 0 #[.val (.ref a1), .val (.long q1), .second] [] := by first | (simp [entryFrame, mkF, argsToLocals, Value.category]; done) | rfl
def Q5 (Z : State) (a1 : Addr) (q1 : Int64) (k1 : ClassId) (n : Int32) (h0 : Heap) (n0 : Nat) (v : Option Value) (h : Heap) (L : List Loc) : Prop := v = some (.int 1) ∧ Fr n0 L ∧ h = h0
set_option maxRecDepth 65536 in
set_option maxHeartbeats 40000000 in
theorem rm5 (l : Launch) (Z : State) (a0 : Array Value) (hw : ∀ d ∈ tables_1, d.before a0 Z = true) (ws : List Jvm.Cond) (a1 : Addr) (q1 : Int64) (k1 : ClassId) (n : Int32) (h0 : Heap) (n0 : Nat) (Z0 : n0 ≤ h0.size) (V_1 : Arv Z h0 a1 k1 .byte n [(.int ((q1.toInt32).toInt8.toInt32)), (.int (own_bz q1 8)), (.int (own_bz q1 16)), (.int (own_bz q1 24)), (.int (own_bz q1 32)), (.int (own_bz q1 40)), (.int (own_bz q1 48)), (.int (own_bz q1 56))] (.int 0)) (hn0 : ¬ n < 0) (hn8 : ¬ (8 : Int32) < n) :
    MetFree l (⟨"tributary/DigestsSha256PinLaw", "unchanged", "([BJ)Z"⟩ : MethodName) (head1 (Jvm.Cond.code (⟨"tributary/DigestsSha256PinLaw", "unchanged", "([BJ)Z"⟩ : MethodName) method_4_code 3 (some .boolean) :: ws) ({ frames := 0, cells := 0, slots := 0, locals := 0 } : Room)) (fun a U => a = #[(.ref a1), (.long q1)] ∧ Z.Warmed39 U.vm ∧ U.heap = h0) (fun _ _ _ _ _ => True) (fun _ U o U' => ∃ v L, o = .returned v ∧ Q5 Z a1 q1 k1 n h0 n0 v U'.heap L ∧ FrameEnd U o U' L ({ frames := 0, cells := 0, slots := 0, locals := 0 } : Room).cells ({ frames := 0, cells := 0, slots := 0, locals := 0 } : Room).slots) := by
  refine MetFree.of_bodySF (plainFor_of_name pn_497) hisR ?_
  intro p e s m args below meth c s₁ Bd hml0 hP hK
  obtain ⟨rfl, hZ, hh⟩ := hP
  have hx := Bd.exec
  have hby := Bd.bytes
  have hml : c.maxLocals = 3 := hml0
  have hown : s.vm.findClass "tributary/DigestsSha256PinLaw" = some m.cls := findClass_of_methodNamed Bd.named
  have hnm := (name_of_methodNamed Bd.named Bd.method).1
  have X0 : Stand p l e ({ frames := 0, cells := 0, slots := 0, locals := 0 } : Room) s m #[(.ref a1), (.long q1)] below meth c s₁ [] 0 0 := Stand.of_body Bd
  have e0 : s₁.heap = h0 := by rw [← hh, Bd.state]; rfl
  have N0 := Fr.nil n0
  refine own_go (B := s₁.setTop (mkF m 0 #[.val (.ref a1), .val (.long q1), .second] [])) (fun t k => castTop (ef_5 m a1 q1) k) ?_
  refine own_go (B := s₁.setTop (mkF m 1 #[.val (.ref a1), .val (.long q1), .second] [(.ref a1)])) (fun tg kt => ?_) ?_
  · refine XS.aloadN X0.here hx rfl (hb hby d5_0) rfl rfl ?_
    exact kt
  obtain ⟨cl381, Ar381, cq381, cS381, cN381, cH381, cG381⟩ := id V_1
  refine own_go (B := s₁.setTop (mkF m 2 #[.val (.ref a1), .val (.long q1), .second] [(.int n)])) (fun tg kt => ?_) ?_
  · refine X0.arraylength hx (by rw [e0]; exact Ar381.1) (State.isArrayOf_alike hZ.alike Ar381.2.1) (g := (mkF m 1 #[.val (.ref a1), .val (.long q1), .second] [(.ref a1)])) rfl rfl (hb hby d5_1) _ ?_
    rw [len_of cS381 cN381]
    exact kt
  by_cases hc382 : (0 : Int32) < n
  · refine own_go (B := s₁.setTop (mkF m 7 #[.val (.ref a1), .val (.long q1), .second] [(.int 0), (.ref a1)])) (fun tg kt => ?_) ?_
    · refine XS.ifNo X0.here hx rfl (hb hby d5_2) rfl ((if0 _ _).trans (tlt hc382).2.2.2) ?_
      refine XS.aloadN X0.here hx rfl (hb hby d5_5) rfl rfl ?_
      refine XS.iconst X0.here hx rfl (hb hby d5_6) ?_
      exact kt
    obtain ⟨cl383, Ar383, cq383, cS383, cN383, cH383, cG383⟩ := id V_1
    have hin383 := inb_of (j := (0 : Int32)) cS383 ⟨by decide, hc382⟩
    have hat383 : cl383.slots[((0 : Int32)).toNatClampNeg]? = some (.int ((q1.toInt32).toInt8.toInt32)) := Has.at cH383 hin383 rfl
    refine own_go (B := s₁.setTop (mkF m 17 #[.val (.ref a1), .val (.long q1), .second] [(.ref a1)])) (fun tg kt => ?_) ?_
    · refine X0.baloadBytes hx (j := (0 : Int32)) (v := (.int ((q1.toInt32).toInt8.toInt32))) (by rw [e0]; exact Ar383.1) (State.isArrayOf_alike hZ.alike Ar383.2.1) Ar383.2.2 hin383 hat383 (g := (mkF m 7 #[.val (.ref a1), .val (.long q1), .second] [(.int 0), (.ref a1)])) rfl rfl (hb hby d5_7) _ ?_
      refine XS.lloadN X0.here hx rfl (hb hby d5_8) rfl ?_
      refine XS.l2i X0.here hx rfl (hb hby d5_9) rfl ?_
      refine XS.i2b X0.here hx rfl (hb hby d5_10) rfl ?_
      refine XS.icmpYes X0.here hx rfl (pc0 := 11) (pc' := 16) rfl (hb hby d5_11) rfl (teq (rfl : ((q1.toInt32).toInt8.toInt32) = ((q1.toInt32).toInt8.toInt32))).1 (by decide) (by decide) ?_
      refine XS.aloadN X0.here hx rfl (hb hby d5_16) rfl rfl ?_
      exact kt
    obtain ⟨cl384, Ar384, cq384, cS384, cN384, cH384, cG384⟩ := id V_1
    refine own_go (B := s₁.setTop (mkF m 19 #[.val (.ref a1), .val (.long q1), .second] [(.int 1), (.int n)])) (fun tg kt => ?_) ?_
    · refine X0.arraylength hx (by rw [e0]; exact Ar384.1) (State.isArrayOf_alike hZ.alike Ar384.2.1) (g := (mkF m 17 #[.val (.ref a1), .val (.long q1), .second] [(.ref a1)])) rfl rfl (hb hby d5_17) _ ?_
      rw [len_of cS384 cN384]
      refine XS.iconst X0.here hx rfl (hb hby d5_18) ?_
      exact kt
    by_cases hc385 : (1 : Int32) < n
    · refine own_go (B := s₁.setTop (mkF m 24 #[.val (.ref a1), .val (.long q1), .second] [(.int 1), (.ref a1)])) (fun tg kt => ?_) ?_
      · refine XS.icmpNo X0.here hx rfl (hb hby d5_19) rfl (tlt hc385).2.2.2 ?_
        refine XS.aloadN X0.here hx rfl (hb hby d5_22) rfl rfl ?_
        refine XS.iconst X0.here hx rfl (hb hby d5_23) ?_
        exact kt
      obtain ⟨cl386, Ar386, cq386, cS386, cN386, cH386, cG386⟩ := id V_1
      have hin386 := inb_of (j := (1 : Int32)) cS386 ⟨by decide, hc385⟩
      have hat386 : cl386.slots[((1 : Int32)).toNatClampNeg]? = some (.int (own_bz q1 8)) := Has.at cH386 hin386 rfl
      refine own_go (B := s₁.setTop (mkF m 37 #[.val (.ref a1), .val (.long q1), .second] [(.ref a1)])) (fun tg kt => ?_) ?_
      · refine X0.baloadBytes hx (j := (1 : Int32)) (v := (.int (own_bz q1 8))) (by rw [e0]; exact Ar386.1) (State.isArrayOf_alike hZ.alike Ar386.2.1) Ar386.2.2 hin386 hat386 (g := (mkF m 24 #[.val (.ref a1), .val (.long q1), .second] [(.int 1), (.ref a1)])) rfl rfl (hb hby d5_24) _ ?_
        refine XS.lloadN X0.here hx rfl (hb hby d5_25) rfl ?_
        refine XS.bipush X0.here hx rfl (hb hby d5_26) ?_
        refine XS.lushr X0.here hx rfl (hb hby d5_28) rfl ?_
        refine XS.l2i X0.here hx rfl (hb hby d5_29) rfl ?_
        refine XS.i2b X0.here hx rfl (hb hby d5_30) rfl ?_
        refine XS.icmpYes X0.here hx rfl (pc0 := 31) (pc' := 36) rfl (hb hby d5_31) rfl (teq (rfl : (own_bz q1 8) = (own_bz q1 8))).1 (by decide) (by decide) ?_
        refine XS.aloadN X0.here hx rfl (hb hby d5_36) rfl rfl ?_
        exact kt
      obtain ⟨cl387, Ar387, cq387, cS387, cN387, cH387, cG387⟩ := id V_1
      refine own_go (B := s₁.setTop (mkF m 39 #[.val (.ref a1), .val (.long q1), .second] [(.int 2), (.int n)])) (fun tg kt => ?_) ?_
      · refine X0.arraylength hx (by rw [e0]; exact Ar387.1) (State.isArrayOf_alike hZ.alike Ar387.2.1) (g := (mkF m 37 #[.val (.ref a1), .val (.long q1), .second] [(.ref a1)])) rfl rfl (hb hby d5_37) _ ?_
        rw [len_of cS387 cN387]
        refine XS.iconst X0.here hx rfl (hb hby d5_38) ?_
        exact kt
      by_cases hc388 : (2 : Int32) < n
      · refine own_go (B := s₁.setTop (mkF m 44 #[.val (.ref a1), .val (.long q1), .second] [(.int 2), (.ref a1)])) (fun tg kt => ?_) ?_
        · refine XS.icmpNo X0.here hx rfl (hb hby d5_39) rfl (tlt hc388).2.2.2 ?_
          refine XS.aloadN X0.here hx rfl (hb hby d5_42) rfl rfl ?_
          refine XS.iconst X0.here hx rfl (hb hby d5_43) ?_
          exact kt
        obtain ⟨cl389, Ar389, cq389, cS389, cN389, cH389, cG389⟩ := id V_1
        have hin389 := inb_of (j := (2 : Int32)) cS389 ⟨by decide, hc388⟩
        have hat389 : cl389.slots[((2 : Int32)).toNatClampNeg]? = some (.int (own_bz q1 16)) := Has.at cH389 hin389 rfl
        refine own_go (B := s₁.setTop (mkF m 57 #[.val (.ref a1), .val (.long q1), .second] [(.ref a1)])) (fun tg kt => ?_) ?_
        · refine X0.baloadBytes hx (j := (2 : Int32)) (v := (.int (own_bz q1 16))) (by rw [e0]; exact Ar389.1) (State.isArrayOf_alike hZ.alike Ar389.2.1) Ar389.2.2 hin389 hat389 (g := (mkF m 44 #[.val (.ref a1), .val (.long q1), .second] [(.int 2), (.ref a1)])) rfl rfl (hb hby d5_44) _ ?_
          refine XS.lloadN X0.here hx rfl (hb hby d5_45) rfl ?_
          refine XS.bipush X0.here hx rfl (hb hby d5_46) ?_
          refine XS.lushr X0.here hx rfl (hb hby d5_48) rfl ?_
          refine XS.l2i X0.here hx rfl (hb hby d5_49) rfl ?_
          refine XS.i2b X0.here hx rfl (hb hby d5_50) rfl ?_
          refine XS.icmpYes X0.here hx rfl (pc0 := 51) (pc' := 56) rfl (hb hby d5_51) rfl (teq (rfl : (own_bz q1 16) = (own_bz q1 16))).1 (by decide) (by decide) ?_
          refine XS.aloadN X0.here hx rfl (hb hby d5_56) rfl rfl ?_
          exact kt
        obtain ⟨cl390, Ar390, cq390, cS390, cN390, cH390, cG390⟩ := id V_1
        refine own_go (B := s₁.setTop (mkF m 59 #[.val (.ref a1), .val (.long q1), .second] [(.int 3), (.int n)])) (fun tg kt => ?_) ?_
        · refine X0.arraylength hx (by rw [e0]; exact Ar390.1) (State.isArrayOf_alike hZ.alike Ar390.2.1) (g := (mkF m 57 #[.val (.ref a1), .val (.long q1), .second] [(.ref a1)])) rfl rfl (hb hby d5_57) _ ?_
          rw [len_of cS390 cN390]
          refine XS.iconst X0.here hx rfl (hb hby d5_58) ?_
          exact kt
        by_cases hc391 : (3 : Int32) < n
        · refine own_go (B := s₁.setTop (mkF m 64 #[.val (.ref a1), .val (.long q1), .second] [(.int 3), (.ref a1)])) (fun tg kt => ?_) ?_
          · refine XS.icmpNo X0.here hx rfl (hb hby d5_59) rfl (tlt hc391).2.2.2 ?_
            refine XS.aloadN X0.here hx rfl (hb hby d5_62) rfl rfl ?_
            refine XS.iconst X0.here hx rfl (hb hby d5_63) ?_
            exact kt
          obtain ⟨cl392, Ar392, cq392, cS392, cN392, cH392, cG392⟩ := id V_1
          have hin392 := inb_of (j := (3 : Int32)) cS392 ⟨by decide, hc391⟩
          have hat392 : cl392.slots[((3 : Int32)).toNatClampNeg]? = some (.int (own_bz q1 24)) := Has.at cH392 hin392 rfl
          refine own_go (B := s₁.setTop (mkF m 77 #[.val (.ref a1), .val (.long q1), .second] [(.ref a1)])) (fun tg kt => ?_) ?_
          · refine X0.baloadBytes hx (j := (3 : Int32)) (v := (.int (own_bz q1 24))) (by rw [e0]; exact Ar392.1) (State.isArrayOf_alike hZ.alike Ar392.2.1) Ar392.2.2 hin392 hat392 (g := (mkF m 64 #[.val (.ref a1), .val (.long q1), .second] [(.int 3), (.ref a1)])) rfl rfl (hb hby d5_64) _ ?_
            refine XS.lloadN X0.here hx rfl (hb hby d5_65) rfl ?_
            refine XS.bipush X0.here hx rfl (hb hby d5_66) ?_
            refine XS.lushr X0.here hx rfl (hb hby d5_68) rfl ?_
            refine XS.l2i X0.here hx rfl (hb hby d5_69) rfl ?_
            refine XS.i2b X0.here hx rfl (hb hby d5_70) rfl ?_
            refine XS.icmpYes X0.here hx rfl (pc0 := 71) (pc' := 76) rfl (hb hby d5_71) rfl (teq (rfl : (own_bz q1 24) = (own_bz q1 24))).1 (by decide) (by decide) ?_
            refine XS.aloadN X0.here hx rfl (hb hby d5_76) rfl rfl ?_
            exact kt
          obtain ⟨cl393, Ar393, cq393, cS393, cN393, cH393, cG393⟩ := id V_1
          refine own_go (B := s₁.setTop (mkF m 79 #[.val (.ref a1), .val (.long q1), .second] [(.int 4), (.int n)])) (fun tg kt => ?_) ?_
          · refine X0.arraylength hx (by rw [e0]; exact Ar393.1) (State.isArrayOf_alike hZ.alike Ar393.2.1) (g := (mkF m 77 #[.val (.ref a1), .val (.long q1), .second] [(.ref a1)])) rfl rfl (hb hby d5_77) _ ?_
            rw [len_of cS393 cN393]
            refine XS.iconst X0.here hx rfl (hb hby d5_78) ?_
            exact kt
          by_cases hc394 : (4 : Int32) < n
          · refine own_go (B := s₁.setTop (mkF m 84 #[.val (.ref a1), .val (.long q1), .second] [(.int 4), (.ref a1)])) (fun tg kt => ?_) ?_
            · refine XS.icmpNo X0.here hx rfl (hb hby d5_79) rfl (tlt hc394).2.2.2 ?_
              refine XS.aloadN X0.here hx rfl (hb hby d5_82) rfl rfl ?_
              refine XS.iconst X0.here hx rfl (hb hby d5_83) ?_
              exact kt
            obtain ⟨cl395, Ar395, cq395, cS395, cN395, cH395, cG395⟩ := id V_1
            have hin395 := inb_of (j := (4 : Int32)) cS395 ⟨by decide, hc394⟩
            have hat395 : cl395.slots[((4 : Int32)).toNatClampNeg]? = some (.int (own_bz q1 32)) := Has.at cH395 hin395 rfl
            refine own_go (B := s₁.setTop (mkF m 97 #[.val (.ref a1), .val (.long q1), .second] [(.ref a1)])) (fun tg kt => ?_) ?_
            · refine X0.baloadBytes hx (j := (4 : Int32)) (v := (.int (own_bz q1 32))) (by rw [e0]; exact Ar395.1) (State.isArrayOf_alike hZ.alike Ar395.2.1) Ar395.2.2 hin395 hat395 (g := (mkF m 84 #[.val (.ref a1), .val (.long q1), .second] [(.int 4), (.ref a1)])) rfl rfl (hb hby d5_84) _ ?_
              refine XS.lloadN X0.here hx rfl (hb hby d5_85) rfl ?_
              refine XS.bipush X0.here hx rfl (hb hby d5_86) ?_
              refine XS.lushr X0.here hx rfl (hb hby d5_88) rfl ?_
              refine XS.l2i X0.here hx rfl (hb hby d5_89) rfl ?_
              refine XS.i2b X0.here hx rfl (hb hby d5_90) rfl ?_
              refine XS.icmpYes X0.here hx rfl (pc0 := 91) (pc' := 96) rfl (hb hby d5_91) rfl (teq (rfl : (own_bz q1 32) = (own_bz q1 32))).1 (by decide) (by decide) ?_
              refine XS.aloadN X0.here hx rfl (hb hby d5_96) rfl rfl ?_
              exact kt
            obtain ⟨cl396, Ar396, cq396, cS396, cN396, cH396, cG396⟩ := id V_1
            refine own_go (B := s₁.setTop (mkF m 99 #[.val (.ref a1), .val (.long q1), .second] [(.int 5), (.int n)])) (fun tg kt => ?_) ?_
            · refine X0.arraylength hx (by rw [e0]; exact Ar396.1) (State.isArrayOf_alike hZ.alike Ar396.2.1) (g := (mkF m 97 #[.val (.ref a1), .val (.long q1), .second] [(.ref a1)])) rfl rfl (hb hby d5_97) _ ?_
              rw [len_of cS396 cN396]
              refine XS.iconst X0.here hx rfl (hb hby d5_98) ?_
              exact kt
            by_cases hc397 : (5 : Int32) < n
            · refine own_go (B := s₁.setTop (mkF m 104 #[.val (.ref a1), .val (.long q1), .second] [(.int 5), (.ref a1)])) (fun tg kt => ?_) ?_
              · refine XS.icmpNo X0.here hx rfl (hb hby d5_99) rfl (tlt hc397).2.2.2 ?_
                refine XS.aloadN X0.here hx rfl (hb hby d5_102) rfl rfl ?_
                refine XS.iconst X0.here hx rfl (hb hby d5_103) ?_
                exact kt
              obtain ⟨cl398, Ar398, cq398, cS398, cN398, cH398, cG398⟩ := id V_1
              have hin398 := inb_of (j := (5 : Int32)) cS398 ⟨by decide, hc397⟩
              have hat398 : cl398.slots[((5 : Int32)).toNatClampNeg]? = some (.int (own_bz q1 40)) := Has.at cH398 hin398 rfl
              refine own_go (B := s₁.setTop (mkF m 117 #[.val (.ref a1), .val (.long q1), .second] [(.ref a1)])) (fun tg kt => ?_) ?_
              · refine X0.baloadBytes hx (j := (5 : Int32)) (v := (.int (own_bz q1 40))) (by rw [e0]; exact Ar398.1) (State.isArrayOf_alike hZ.alike Ar398.2.1) Ar398.2.2 hin398 hat398 (g := (mkF m 104 #[.val (.ref a1), .val (.long q1), .second] [(.int 5), (.ref a1)])) rfl rfl (hb hby d5_104) _ ?_
                refine XS.lloadN X0.here hx rfl (hb hby d5_105) rfl ?_
                refine XS.bipush X0.here hx rfl (hb hby d5_106) ?_
                refine XS.lushr X0.here hx rfl (hb hby d5_108) rfl ?_
                refine XS.l2i X0.here hx rfl (hb hby d5_109) rfl ?_
                refine XS.i2b X0.here hx rfl (hb hby d5_110) rfl ?_
                refine XS.icmpYes X0.here hx rfl (pc0 := 111) (pc' := 116) rfl (hb hby d5_111) rfl (teq (rfl : (own_bz q1 40) = (own_bz q1 40))).1 (by decide) (by decide) ?_
                refine XS.aloadN X0.here hx rfl (hb hby d5_116) rfl rfl ?_
                exact kt
              obtain ⟨cl399, Ar399, cq399, cS399, cN399, cH399, cG399⟩ := id V_1
              refine own_go (B := s₁.setTop (mkF m 120 #[.val (.ref a1), .val (.long q1), .second] [(.int 6), (.int n)])) (fun tg kt => ?_) ?_
              · refine X0.arraylength hx (by rw [e0]; exact Ar399.1) (State.isArrayOf_alike hZ.alike Ar399.2.1) (g := (mkF m 117 #[.val (.ref a1), .val (.long q1), .second] [(.ref a1)])) rfl rfl (hb hby d5_117) _ ?_
                rw [len_of cS399 cN399]
                refine XS.bipush X0.here hx rfl (hb hby d5_118) ?_
                exact kt
              by_cases hc400 : (6 : Int32) < n
              · refine own_go (B := s₁.setTop (mkF m 126 #[.val (.ref a1), .val (.long q1), .second] [(.int 6), (.ref a1)])) (fun tg kt => ?_) ?_
                · refine XS.icmpNo X0.here hx rfl (hb hby d5_120) rfl (tlt hc400).2.2.2 ?_
                  refine XS.aloadN X0.here hx rfl (hb hby d5_123) rfl rfl ?_
                  refine XS.bipush X0.here hx rfl (hb hby d5_124) ?_
                  exact kt
                obtain ⟨cl401, Ar401, cq401, cS401, cN401, cH401, cG401⟩ := id V_1
                have hin401 := inb_of (j := (6 : Int32)) cS401 ⟨by decide, hc400⟩
                have hat401 : cl401.slots[((6 : Int32)).toNatClampNeg]? = some (.int (own_bz q1 48)) := Has.at cH401 hin401 rfl
                refine own_go (B := s₁.setTop (mkF m 139 #[.val (.ref a1), .val (.long q1), .second] [(.ref a1)])) (fun tg kt => ?_) ?_
                · refine X0.baloadBytes hx (j := (6 : Int32)) (v := (.int (own_bz q1 48))) (by rw [e0]; exact Ar401.1) (State.isArrayOf_alike hZ.alike Ar401.2.1) Ar401.2.2 hin401 hat401 (g := (mkF m 126 #[.val (.ref a1), .val (.long q1), .second] [(.int 6), (.ref a1)])) rfl rfl (hb hby d5_126) _ ?_
                  refine XS.lloadN X0.here hx rfl (hb hby d5_127) rfl ?_
                  refine XS.bipush X0.here hx rfl (hb hby d5_128) ?_
                  refine XS.lushr X0.here hx rfl (hb hby d5_130) rfl ?_
                  refine XS.l2i X0.here hx rfl (hb hby d5_131) rfl ?_
                  refine XS.i2b X0.here hx rfl (hb hby d5_132) rfl ?_
                  refine XS.icmpYes X0.here hx rfl (pc0 := 133) (pc' := 138) rfl (hb hby d5_133) rfl (teq (rfl : (own_bz q1 48) = (own_bz q1 48))).1 (by decide) (by decide) ?_
                  refine XS.aloadN X0.here hx rfl (hb hby d5_138) rfl rfl ?_
                  exact kt
                obtain ⟨cl402, Ar402, cq402, cS402, cN402, cH402, cG402⟩ := id V_1
                refine own_go (B := s₁.setTop (mkF m 142 #[.val (.ref a1), .val (.long q1), .second] [(.int 7), (.int n)])) (fun tg kt => ?_) ?_
                · refine X0.arraylength hx (by rw [e0]; exact Ar402.1) (State.isArrayOf_alike hZ.alike Ar402.2.1) (g := (mkF m 139 #[.val (.ref a1), .val (.long q1), .second] [(.ref a1)])) rfl rfl (hb hby d5_139) _ ?_
                  rw [len_of cS402 cN402]
                  refine XS.bipush X0.here hx rfl (hb hby d5_140) ?_
                  exact kt
                by_cases hc403 : (7 : Int32) < n
                · refine own_go (B := s₁.setTop (mkF m 148 #[.val (.ref a1), .val (.long q1), .second] [(.int 7), (.ref a1)])) (fun tg kt => ?_) ?_
                  · refine XS.icmpNo X0.here hx rfl (hb hby d5_142) rfl (tlt hc403).2.2.2 ?_
                    refine XS.aloadN X0.here hx rfl (hb hby d5_145) rfl rfl ?_
                    refine XS.bipush X0.here hx rfl (hb hby d5_146) ?_
                    exact kt
                  obtain ⟨cl404, Ar404, cq404, cS404, cN404, cH404, cG404⟩ := id V_1
                  have hin404 := inb_of (j := (7 : Int32)) cS404 ⟨by decide, hc403⟩
                  have hat404 : cl404.slots[((7 : Int32)).toNatClampNeg]? = some (.int (own_bz q1 56)) := Has.at cH404 hin404 rfl
                  refine own_go (B := s₁.setTop (mkF m 161 #[.val (.ref a1), .val (.long q1), .second] [(.int 1)])) (fun tg kt => ?_) ?_
                  · refine X0.baloadBytes hx (j := (7 : Int32)) (v := (.int (own_bz q1 56))) (by rw [e0]; exact Ar404.1) (State.isArrayOf_alike hZ.alike Ar404.2.1) Ar404.2.2 hin404 hat404 (g := (mkF m 148 #[.val (.ref a1), .val (.long q1), .second] [(.int 7), (.ref a1)])) rfl rfl (hb hby d5_148) _ ?_
                    refine XS.lloadN X0.here hx rfl (hb hby d5_149) rfl ?_
                    refine XS.bipush X0.here hx rfl (hb hby d5_150) ?_
                    refine XS.lushr X0.here hx rfl (hb hby d5_152) rfl ?_
                    refine XS.l2i X0.here hx rfl (hb hby d5_153) rfl ?_
                    refine XS.i2b X0.here hx rfl (hb hby d5_154) rfl ?_
                    refine XS.icmpYes X0.here hx rfl (pc0 := 155) (pc' := 160) rfl (hb hby d5_155) rfl (teq (rfl : (own_bz q1 56) = (own_bz q1 56))).1 (by decide) (by decide) ?_
                    refine XS.iconst X0.here hx rfl (hb hby d5_160) ?_
                    exact kt
                  obtain ⟨fs, hr, hrun, hended, hW, hsame⟩ := X0.leave (v := some (.int 1)) (fun h => by rw [Bd.returns] at h; cases h)
                  refine ⟨_, _, ?_, hrun, hended, _, _, rfl, ?_, ⟨_, rfl⟩, hW, hsame.mono (by decide) (by decide)⟩
                  · exact retN X0 hx (t := .boolean) Bd.returns (by simp) (hb hby d5_161) hr
                  · show Q5 Z a1 q1 k1 n h0 n0 _ s₁.heap _
                    rw [e0]
                    exact ⟨rfl, N0, rfl⟩
                · refine own_go (B := s₁.setTop (mkF m 161 #[.val (.ref a1), .val (.long q1), .second] [(.int 1)])) (fun tg kt => ?_) ?_
                  · refine XS.icmpYes X0.here hx rfl (pc0 := 142) (pc' := 160) rfl (hb hby d5_142) rfl (flt hc403).2.2.2 (by decide) (by decide) ?_
                    refine XS.iconst X0.here hx rfl (hb hby d5_160) ?_
                    exact kt
                  obtain ⟨fs, hr, hrun, hended, hW, hsame⟩ := X0.leave (v := some (.int 1)) (fun h => by rw [Bd.returns] at h; cases h)
                  refine ⟨_, _, ?_, hrun, hended, _, _, rfl, ?_, ⟨_, rfl⟩, hW, hsame.mono (by decide) (by decide)⟩
                  · exact retN X0 hx (t := .boolean) Bd.returns (by simp) (hb hby d5_161) hr
                  · show Q5 Z a1 q1 k1 n h0 n0 _ s₁.heap _
                    rw [e0]
                    exact ⟨rfl, N0, rfl⟩
              · refine own_go (B := s₁.setTop (mkF m 139 #[.val (.ref a1), .val (.long q1), .second] [(.ref a1)])) (fun tg kt => ?_) ?_
                · refine XS.icmpYes X0.here hx rfl (pc0 := 120) (pc' := 138) rfl (hb hby d5_120) rfl (flt hc400).2.2.2 (by decide) (by decide) ?_
                  refine XS.aloadN X0.here hx rfl (hb hby d5_138) rfl rfl ?_
                  exact kt
                obtain ⟨cl407, Ar407, cq407, cS407, cN407, cH407, cG407⟩ := id V_1
                refine own_go (B := s₁.setTop (mkF m 161 #[.val (.ref a1), .val (.long q1), .second] [(.int 1)])) (fun tg kt => ?_) ?_
                · refine X0.arraylength hx (by rw [e0]; exact Ar407.1) (State.isArrayOf_alike hZ.alike Ar407.2.1) (g := (mkF m 139 #[.val (.ref a1), .val (.long q1), .second] [(.ref a1)])) rfl rfl (hb hby d5_139) _ ?_
                  rw [len_of cS407 cN407]
                  refine XS.bipush X0.here hx rfl (hb hby d5_140) ?_
                  refine XS.icmpYes X0.here hx rfl (pc0 := 142) (pc' := 160) rfl (hb hby d5_142) rfl (flt (show ¬ ((7 : Int32) < n) from (own_mono hc400 (by decide)))).2.2.2 (by decide) (by decide) ?_
                  refine XS.iconst X0.here hx rfl (hb hby d5_160) ?_
                  exact kt
                obtain ⟨fs, hr, hrun, hended, hW, hsame⟩ := X0.leave (v := some (.int 1)) (fun h => by rw [Bd.returns] at h; cases h)
                refine ⟨_, _, ?_, hrun, hended, _, _, rfl, ?_, ⟨_, rfl⟩, hW, hsame.mono (by decide) (by decide)⟩
                · exact retN X0 hx (t := .boolean) Bd.returns (by simp) (hb hby d5_161) hr
                · show Q5 Z a1 q1 k1 n h0 n0 _ s₁.heap _
                  rw [e0]
                  exact ⟨rfl, N0, rfl⟩
            · refine own_go (B := s₁.setTop (mkF m 117 #[.val (.ref a1), .val (.long q1), .second] [(.ref a1)])) (fun tg kt => ?_) ?_
              · refine XS.icmpYes X0.here hx rfl (pc0 := 99) (pc' := 116) rfl (hb hby d5_99) rfl (flt hc397).2.2.2 (by decide) (by decide) ?_
                refine XS.aloadN X0.here hx rfl (hb hby d5_116) rfl rfl ?_
                exact kt
              obtain ⟨cl409, Ar409, cq409, cS409, cN409, cH409, cG409⟩ := id V_1
              refine own_go (B := s₁.setTop (mkF m 139 #[.val (.ref a1), .val (.long q1), .second] [(.ref a1)])) (fun tg kt => ?_) ?_
              · refine X0.arraylength hx (by rw [e0]; exact Ar409.1) (State.isArrayOf_alike hZ.alike Ar409.2.1) (g := (mkF m 117 #[.val (.ref a1), .val (.long q1), .second] [(.ref a1)])) rfl rfl (hb hby d5_117) _ ?_
                rw [len_of cS409 cN409]
                refine XS.bipush X0.here hx rfl (hb hby d5_118) ?_
                refine XS.icmpYes X0.here hx rfl (pc0 := 120) (pc' := 138) rfl (hb hby d5_120) rfl (flt (show ¬ ((6 : Int32) < n) from (own_mono hc397 (by decide)))).2.2.2 (by decide) (by decide) ?_
                refine XS.aloadN X0.here hx rfl (hb hby d5_138) rfl rfl ?_
                exact kt
              obtain ⟨cl410, Ar410, cq410, cS410, cN410, cH410, cG410⟩ := id V_1
              refine own_go (B := s₁.setTop (mkF m 161 #[.val (.ref a1), .val (.long q1), .second] [(.int 1)])) (fun tg kt => ?_) ?_
              · refine X0.arraylength hx (by rw [e0]; exact Ar410.1) (State.isArrayOf_alike hZ.alike Ar410.2.1) (g := (mkF m 139 #[.val (.ref a1), .val (.long q1), .second] [(.ref a1)])) rfl rfl (hb hby d5_139) _ ?_
                rw [len_of cS410 cN410]
                refine XS.bipush X0.here hx rfl (hb hby d5_140) ?_
                refine XS.icmpYes X0.here hx rfl (pc0 := 142) (pc' := 160) rfl (hb hby d5_142) rfl (flt (show ¬ ((7 : Int32) < n) from (own_mono hc397 (by decide)))).2.2.2 (by decide) (by decide) ?_
                refine XS.iconst X0.here hx rfl (hb hby d5_160) ?_
                exact kt
              obtain ⟨fs, hr, hrun, hended, hW, hsame⟩ := X0.leave (v := some (.int 1)) (fun h => by rw [Bd.returns] at h; cases h)
              refine ⟨_, _, ?_, hrun, hended, _, _, rfl, ?_, ⟨_, rfl⟩, hW, hsame.mono (by decide) (by decide)⟩
              · exact retN X0 hx (t := .boolean) Bd.returns (by simp) (hb hby d5_161) hr
              · show Q5 Z a1 q1 k1 n h0 n0 _ s₁.heap _
                rw [e0]
                exact ⟨rfl, N0, rfl⟩
          · refine own_go (B := s₁.setTop (mkF m 97 #[.val (.ref a1), .val (.long q1), .second] [(.ref a1)])) (fun tg kt => ?_) ?_
            · refine XS.icmpYes X0.here hx rfl (pc0 := 79) (pc' := 96) rfl (hb hby d5_79) rfl (flt hc394).2.2.2 (by decide) (by decide) ?_
              refine XS.aloadN X0.here hx rfl (hb hby d5_96) rfl rfl ?_
              exact kt
            obtain ⟨cl412, Ar412, cq412, cS412, cN412, cH412, cG412⟩ := id V_1
            refine own_go (B := s₁.setTop (mkF m 117 #[.val (.ref a1), .val (.long q1), .second] [(.ref a1)])) (fun tg kt => ?_) ?_
            · refine X0.arraylength hx (by rw [e0]; exact Ar412.1) (State.isArrayOf_alike hZ.alike Ar412.2.1) (g := (mkF m 97 #[.val (.ref a1), .val (.long q1), .second] [(.ref a1)])) rfl rfl (hb hby d5_97) _ ?_
              rw [len_of cS412 cN412]
              refine XS.iconst X0.here hx rfl (hb hby d5_98) ?_
              refine XS.icmpYes X0.here hx rfl (pc0 := 99) (pc' := 116) rfl (hb hby d5_99) rfl (flt (show ¬ ((5 : Int32) < n) from (own_mono hc394 (by decide)))).2.2.2 (by decide) (by decide) ?_
              refine XS.aloadN X0.here hx rfl (hb hby d5_116) rfl rfl ?_
              exact kt
            obtain ⟨cl413, Ar413, cq413, cS413, cN413, cH413, cG413⟩ := id V_1
            refine own_go (B := s₁.setTop (mkF m 139 #[.val (.ref a1), .val (.long q1), .second] [(.ref a1)])) (fun tg kt => ?_) ?_
            · refine X0.arraylength hx (by rw [e0]; exact Ar413.1) (State.isArrayOf_alike hZ.alike Ar413.2.1) (g := (mkF m 117 #[.val (.ref a1), .val (.long q1), .second] [(.ref a1)])) rfl rfl (hb hby d5_117) _ ?_
              rw [len_of cS413 cN413]
              refine XS.bipush X0.here hx rfl (hb hby d5_118) ?_
              refine XS.icmpYes X0.here hx rfl (pc0 := 120) (pc' := 138) rfl (hb hby d5_120) rfl (flt (show ¬ ((6 : Int32) < n) from (own_mono hc394 (by decide)))).2.2.2 (by decide) (by decide) ?_
              refine XS.aloadN X0.here hx rfl (hb hby d5_138) rfl rfl ?_
              exact kt
            obtain ⟨cl414, Ar414, cq414, cS414, cN414, cH414, cG414⟩ := id V_1
            refine own_go (B := s₁.setTop (mkF m 161 #[.val (.ref a1), .val (.long q1), .second] [(.int 1)])) (fun tg kt => ?_) ?_
            · refine X0.arraylength hx (by rw [e0]; exact Ar414.1) (State.isArrayOf_alike hZ.alike Ar414.2.1) (g := (mkF m 139 #[.val (.ref a1), .val (.long q1), .second] [(.ref a1)])) rfl rfl (hb hby d5_139) _ ?_
              rw [len_of cS414 cN414]
              refine XS.bipush X0.here hx rfl (hb hby d5_140) ?_
              refine XS.icmpYes X0.here hx rfl (pc0 := 142) (pc' := 160) rfl (hb hby d5_142) rfl (flt (show ¬ ((7 : Int32) < n) from (own_mono hc394 (by decide)))).2.2.2 (by decide) (by decide) ?_
              refine XS.iconst X0.here hx rfl (hb hby d5_160) ?_
              exact kt
            obtain ⟨fs, hr, hrun, hended, hW, hsame⟩ := X0.leave (v := some (.int 1)) (fun h => by rw [Bd.returns] at h; cases h)
            refine ⟨_, _, ?_, hrun, hended, _, _, rfl, ?_, ⟨_, rfl⟩, hW, hsame.mono (by decide) (by decide)⟩
            · exact retN X0 hx (t := .boolean) Bd.returns (by simp) (hb hby d5_161) hr
            · show Q5 Z a1 q1 k1 n h0 n0 _ s₁.heap _
              rw [e0]
              exact ⟨rfl, N0, rfl⟩
        · refine own_go (B := s₁.setTop (mkF m 77 #[.val (.ref a1), .val (.long q1), .second] [(.ref a1)])) (fun tg kt => ?_) ?_
          · refine XS.icmpYes X0.here hx rfl (pc0 := 59) (pc' := 76) rfl (hb hby d5_59) rfl (flt hc391).2.2.2 (by decide) (by decide) ?_
            refine XS.aloadN X0.here hx rfl (hb hby d5_76) rfl rfl ?_
            exact kt
          obtain ⟨cl416, Ar416, cq416, cS416, cN416, cH416, cG416⟩ := id V_1
          refine own_go (B := s₁.setTop (mkF m 97 #[.val (.ref a1), .val (.long q1), .second] [(.ref a1)])) (fun tg kt => ?_) ?_
          · refine X0.arraylength hx (by rw [e0]; exact Ar416.1) (State.isArrayOf_alike hZ.alike Ar416.2.1) (g := (mkF m 77 #[.val (.ref a1), .val (.long q1), .second] [(.ref a1)])) rfl rfl (hb hby d5_77) _ ?_
            rw [len_of cS416 cN416]
            refine XS.iconst X0.here hx rfl (hb hby d5_78) ?_
            refine XS.icmpYes X0.here hx rfl (pc0 := 79) (pc' := 96) rfl (hb hby d5_79) rfl (flt (show ¬ ((4 : Int32) < n) from (own_mono hc391 (by decide)))).2.2.2 (by decide) (by decide) ?_
            refine XS.aloadN X0.here hx rfl (hb hby d5_96) rfl rfl ?_
            exact kt
          obtain ⟨cl417, Ar417, cq417, cS417, cN417, cH417, cG417⟩ := id V_1
          refine own_go (B := s₁.setTop (mkF m 117 #[.val (.ref a1), .val (.long q1), .second] [(.ref a1)])) (fun tg kt => ?_) ?_
          · refine X0.arraylength hx (by rw [e0]; exact Ar417.1) (State.isArrayOf_alike hZ.alike Ar417.2.1) (g := (mkF m 97 #[.val (.ref a1), .val (.long q1), .second] [(.ref a1)])) rfl rfl (hb hby d5_97) _ ?_
            rw [len_of cS417 cN417]
            refine XS.iconst X0.here hx rfl (hb hby d5_98) ?_
            refine XS.icmpYes X0.here hx rfl (pc0 := 99) (pc' := 116) rfl (hb hby d5_99) rfl (flt (show ¬ ((5 : Int32) < n) from (own_mono hc391 (by decide)))).2.2.2 (by decide) (by decide) ?_
            refine XS.aloadN X0.here hx rfl (hb hby d5_116) rfl rfl ?_
            exact kt
          obtain ⟨cl418, Ar418, cq418, cS418, cN418, cH418, cG418⟩ := id V_1
          refine own_go (B := s₁.setTop (mkF m 139 #[.val (.ref a1), .val (.long q1), .second] [(.ref a1)])) (fun tg kt => ?_) ?_
          · refine X0.arraylength hx (by rw [e0]; exact Ar418.1) (State.isArrayOf_alike hZ.alike Ar418.2.1) (g := (mkF m 117 #[.val (.ref a1), .val (.long q1), .second] [(.ref a1)])) rfl rfl (hb hby d5_117) _ ?_
            rw [len_of cS418 cN418]
            refine XS.bipush X0.here hx rfl (hb hby d5_118) ?_
            refine XS.icmpYes X0.here hx rfl (pc0 := 120) (pc' := 138) rfl (hb hby d5_120) rfl (flt (show ¬ ((6 : Int32) < n) from (own_mono hc391 (by decide)))).2.2.2 (by decide) (by decide) ?_
            refine XS.aloadN X0.here hx rfl (hb hby d5_138) rfl rfl ?_
            exact kt
          obtain ⟨cl419, Ar419, cq419, cS419, cN419, cH419, cG419⟩ := id V_1
          refine own_go (B := s₁.setTop (mkF m 161 #[.val (.ref a1), .val (.long q1), .second] [(.int 1)])) (fun tg kt => ?_) ?_
          · refine X0.arraylength hx (by rw [e0]; exact Ar419.1) (State.isArrayOf_alike hZ.alike Ar419.2.1) (g := (mkF m 139 #[.val (.ref a1), .val (.long q1), .second] [(.ref a1)])) rfl rfl (hb hby d5_139) _ ?_
            rw [len_of cS419 cN419]
            refine XS.bipush X0.here hx rfl (hb hby d5_140) ?_
            refine XS.icmpYes X0.here hx rfl (pc0 := 142) (pc' := 160) rfl (hb hby d5_142) rfl (flt (show ¬ ((7 : Int32) < n) from (own_mono hc391 (by decide)))).2.2.2 (by decide) (by decide) ?_
            refine XS.iconst X0.here hx rfl (hb hby d5_160) ?_
            exact kt
          obtain ⟨fs, hr, hrun, hended, hW, hsame⟩ := X0.leave (v := some (.int 1)) (fun h => by rw [Bd.returns] at h; cases h)
          refine ⟨_, _, ?_, hrun, hended, _, _, rfl, ?_, ⟨_, rfl⟩, hW, hsame.mono (by decide) (by decide)⟩
          · exact retN X0 hx (t := .boolean) Bd.returns (by simp) (hb hby d5_161) hr
          · show Q5 Z a1 q1 k1 n h0 n0 _ s₁.heap _
            rw [e0]
            exact ⟨rfl, N0, rfl⟩
      · refine own_go (B := s₁.setTop (mkF m 57 #[.val (.ref a1), .val (.long q1), .second] [(.ref a1)])) (fun tg kt => ?_) ?_
        · refine XS.icmpYes X0.here hx rfl (pc0 := 39) (pc' := 56) rfl (hb hby d5_39) rfl (flt hc388).2.2.2 (by decide) (by decide) ?_
          refine XS.aloadN X0.here hx rfl (hb hby d5_56) rfl rfl ?_
          exact kt
        obtain ⟨cl421, Ar421, cq421, cS421, cN421, cH421, cG421⟩ := id V_1
        refine own_go (B := s₁.setTop (mkF m 77 #[.val (.ref a1), .val (.long q1), .second] [(.ref a1)])) (fun tg kt => ?_) ?_
        · refine X0.arraylength hx (by rw [e0]; exact Ar421.1) (State.isArrayOf_alike hZ.alike Ar421.2.1) (g := (mkF m 57 #[.val (.ref a1), .val (.long q1), .second] [(.ref a1)])) rfl rfl (hb hby d5_57) _ ?_
          rw [len_of cS421 cN421]
          refine XS.iconst X0.here hx rfl (hb hby d5_58) ?_
          refine XS.icmpYes X0.here hx rfl (pc0 := 59) (pc' := 76) rfl (hb hby d5_59) rfl (flt (show ¬ ((3 : Int32) < n) from (own_mono hc388 (by decide)))).2.2.2 (by decide) (by decide) ?_
          refine XS.aloadN X0.here hx rfl (hb hby d5_76) rfl rfl ?_
          exact kt
        obtain ⟨cl422, Ar422, cq422, cS422, cN422, cH422, cG422⟩ := id V_1
        refine own_go (B := s₁.setTop (mkF m 97 #[.val (.ref a1), .val (.long q1), .second] [(.ref a1)])) (fun tg kt => ?_) ?_
        · refine X0.arraylength hx (by rw [e0]; exact Ar422.1) (State.isArrayOf_alike hZ.alike Ar422.2.1) (g := (mkF m 77 #[.val (.ref a1), .val (.long q1), .second] [(.ref a1)])) rfl rfl (hb hby d5_77) _ ?_
          rw [len_of cS422 cN422]
          refine XS.iconst X0.here hx rfl (hb hby d5_78) ?_
          refine XS.icmpYes X0.here hx rfl (pc0 := 79) (pc' := 96) rfl (hb hby d5_79) rfl (flt (show ¬ ((4 : Int32) < n) from (own_mono hc388 (by decide)))).2.2.2 (by decide) (by decide) ?_
          refine XS.aloadN X0.here hx rfl (hb hby d5_96) rfl rfl ?_
          exact kt
        obtain ⟨cl423, Ar423, cq423, cS423, cN423, cH423, cG423⟩ := id V_1
        refine own_go (B := s₁.setTop (mkF m 117 #[.val (.ref a1), .val (.long q1), .second] [(.ref a1)])) (fun tg kt => ?_) ?_
        · refine X0.arraylength hx (by rw [e0]; exact Ar423.1) (State.isArrayOf_alike hZ.alike Ar423.2.1) (g := (mkF m 97 #[.val (.ref a1), .val (.long q1), .second] [(.ref a1)])) rfl rfl (hb hby d5_97) _ ?_
          rw [len_of cS423 cN423]
          refine XS.iconst X0.here hx rfl (hb hby d5_98) ?_
          refine XS.icmpYes X0.here hx rfl (pc0 := 99) (pc' := 116) rfl (hb hby d5_99) rfl (flt (show ¬ ((5 : Int32) < n) from (own_mono hc388 (by decide)))).2.2.2 (by decide) (by decide) ?_
          refine XS.aloadN X0.here hx rfl (hb hby d5_116) rfl rfl ?_
          exact kt
        obtain ⟨cl424, Ar424, cq424, cS424, cN424, cH424, cG424⟩ := id V_1
        refine own_go (B := s₁.setTop (mkF m 139 #[.val (.ref a1), .val (.long q1), .second] [(.ref a1)])) (fun tg kt => ?_) ?_
        · refine X0.arraylength hx (by rw [e0]; exact Ar424.1) (State.isArrayOf_alike hZ.alike Ar424.2.1) (g := (mkF m 117 #[.val (.ref a1), .val (.long q1), .second] [(.ref a1)])) rfl rfl (hb hby d5_117) _ ?_
          rw [len_of cS424 cN424]
          refine XS.bipush X0.here hx rfl (hb hby d5_118) ?_
          refine XS.icmpYes X0.here hx rfl (pc0 := 120) (pc' := 138) rfl (hb hby d5_120) rfl (flt (show ¬ ((6 : Int32) < n) from (own_mono hc388 (by decide)))).2.2.2 (by decide) (by decide) ?_
          refine XS.aloadN X0.here hx rfl (hb hby d5_138) rfl rfl ?_
          exact kt
        obtain ⟨cl425, Ar425, cq425, cS425, cN425, cH425, cG425⟩ := id V_1
        refine own_go (B := s₁.setTop (mkF m 161 #[.val (.ref a1), .val (.long q1), .second] [(.int 1)])) (fun tg kt => ?_) ?_
        · refine X0.arraylength hx (by rw [e0]; exact Ar425.1) (State.isArrayOf_alike hZ.alike Ar425.2.1) (g := (mkF m 139 #[.val (.ref a1), .val (.long q1), .second] [(.ref a1)])) rfl rfl (hb hby d5_139) _ ?_
          rw [len_of cS425 cN425]
          refine XS.bipush X0.here hx rfl (hb hby d5_140) ?_
          refine XS.icmpYes X0.here hx rfl (pc0 := 142) (pc' := 160) rfl (hb hby d5_142) rfl (flt (show ¬ ((7 : Int32) < n) from (own_mono hc388 (by decide)))).2.2.2 (by decide) (by decide) ?_
          refine XS.iconst X0.here hx rfl (hb hby d5_160) ?_
          exact kt
        obtain ⟨fs, hr, hrun, hended, hW, hsame⟩ := X0.leave (v := some (.int 1)) (fun h => by rw [Bd.returns] at h; cases h)
        refine ⟨_, _, ?_, hrun, hended, _, _, rfl, ?_, ⟨_, rfl⟩, hW, hsame.mono (by decide) (by decide)⟩
        · exact retN X0 hx (t := .boolean) Bd.returns (by simp) (hb hby d5_161) hr
        · show Q5 Z a1 q1 k1 n h0 n0 _ s₁.heap _
          rw [e0]
          exact ⟨rfl, N0, rfl⟩
    · refine own_go (B := s₁.setTop (mkF m 37 #[.val (.ref a1), .val (.long q1), .second] [(.ref a1)])) (fun tg kt => ?_) ?_
      · refine XS.icmpYes X0.here hx rfl (pc0 := 19) (pc' := 36) rfl (hb hby d5_19) rfl (flt hc385).2.2.2 (by decide) (by decide) ?_
        refine XS.aloadN X0.here hx rfl (hb hby d5_36) rfl rfl ?_
        exact kt
      obtain ⟨cl427, Ar427, cq427, cS427, cN427, cH427, cG427⟩ := id V_1
      refine own_go (B := s₁.setTop (mkF m 57 #[.val (.ref a1), .val (.long q1), .second] [(.ref a1)])) (fun tg kt => ?_) ?_
      · refine X0.arraylength hx (by rw [e0]; exact Ar427.1) (State.isArrayOf_alike hZ.alike Ar427.2.1) (g := (mkF m 37 #[.val (.ref a1), .val (.long q1), .second] [(.ref a1)])) rfl rfl (hb hby d5_37) _ ?_
        rw [len_of cS427 cN427]
        refine XS.iconst X0.here hx rfl (hb hby d5_38) ?_
        refine XS.icmpYes X0.here hx rfl (pc0 := 39) (pc' := 56) rfl (hb hby d5_39) rfl (flt (show ¬ ((2 : Int32) < n) from (own_mono hc385 (by decide)))).2.2.2 (by decide) (by decide) ?_
        refine XS.aloadN X0.here hx rfl (hb hby d5_56) rfl rfl ?_
        exact kt
      obtain ⟨cl428, Ar428, cq428, cS428, cN428, cH428, cG428⟩ := id V_1
      refine own_go (B := s₁.setTop (mkF m 77 #[.val (.ref a1), .val (.long q1), .second] [(.ref a1)])) (fun tg kt => ?_) ?_
      · refine X0.arraylength hx (by rw [e0]; exact Ar428.1) (State.isArrayOf_alike hZ.alike Ar428.2.1) (g := (mkF m 57 #[.val (.ref a1), .val (.long q1), .second] [(.ref a1)])) rfl rfl (hb hby d5_57) _ ?_
        rw [len_of cS428 cN428]
        refine XS.iconst X0.here hx rfl (hb hby d5_58) ?_
        refine XS.icmpYes X0.here hx rfl (pc0 := 59) (pc' := 76) rfl (hb hby d5_59) rfl (flt (show ¬ ((3 : Int32) < n) from (own_mono hc385 (by decide)))).2.2.2 (by decide) (by decide) ?_
        refine XS.aloadN X0.here hx rfl (hb hby d5_76) rfl rfl ?_
        exact kt
      obtain ⟨cl429, Ar429, cq429, cS429, cN429, cH429, cG429⟩ := id V_1
      refine own_go (B := s₁.setTop (mkF m 97 #[.val (.ref a1), .val (.long q1), .second] [(.ref a1)])) (fun tg kt => ?_) ?_
      · refine X0.arraylength hx (by rw [e0]; exact Ar429.1) (State.isArrayOf_alike hZ.alike Ar429.2.1) (g := (mkF m 77 #[.val (.ref a1), .val (.long q1), .second] [(.ref a1)])) rfl rfl (hb hby d5_77) _ ?_
        rw [len_of cS429 cN429]
        refine XS.iconst X0.here hx rfl (hb hby d5_78) ?_
        refine XS.icmpYes X0.here hx rfl (pc0 := 79) (pc' := 96) rfl (hb hby d5_79) rfl (flt (show ¬ ((4 : Int32) < n) from (own_mono hc385 (by decide)))).2.2.2 (by decide) (by decide) ?_
        refine XS.aloadN X0.here hx rfl (hb hby d5_96) rfl rfl ?_
        exact kt
      obtain ⟨cl430, Ar430, cq430, cS430, cN430, cH430, cG430⟩ := id V_1
      refine own_go (B := s₁.setTop (mkF m 117 #[.val (.ref a1), .val (.long q1), .second] [(.ref a1)])) (fun tg kt => ?_) ?_
      · refine X0.arraylength hx (by rw [e0]; exact Ar430.1) (State.isArrayOf_alike hZ.alike Ar430.2.1) (g := (mkF m 97 #[.val (.ref a1), .val (.long q1), .second] [(.ref a1)])) rfl rfl (hb hby d5_97) _ ?_
        rw [len_of cS430 cN430]
        refine XS.iconst X0.here hx rfl (hb hby d5_98) ?_
        refine XS.icmpYes X0.here hx rfl (pc0 := 99) (pc' := 116) rfl (hb hby d5_99) rfl (flt (show ¬ ((5 : Int32) < n) from (own_mono hc385 (by decide)))).2.2.2 (by decide) (by decide) ?_
        refine XS.aloadN X0.here hx rfl (hb hby d5_116) rfl rfl ?_
        exact kt
      obtain ⟨cl431, Ar431, cq431, cS431, cN431, cH431, cG431⟩ := id V_1
      refine own_go (B := s₁.setTop (mkF m 139 #[.val (.ref a1), .val (.long q1), .second] [(.ref a1)])) (fun tg kt => ?_) ?_
      · refine X0.arraylength hx (by rw [e0]; exact Ar431.1) (State.isArrayOf_alike hZ.alike Ar431.2.1) (g := (mkF m 117 #[.val (.ref a1), .val (.long q1), .second] [(.ref a1)])) rfl rfl (hb hby d5_117) _ ?_
        rw [len_of cS431 cN431]
        refine XS.bipush X0.here hx rfl (hb hby d5_118) ?_
        refine XS.icmpYes X0.here hx rfl (pc0 := 120) (pc' := 138) rfl (hb hby d5_120) rfl (flt (show ¬ ((6 : Int32) < n) from (own_mono hc385 (by decide)))).2.2.2 (by decide) (by decide) ?_
        refine XS.aloadN X0.here hx rfl (hb hby d5_138) rfl rfl ?_
        exact kt
      obtain ⟨cl432, Ar432, cq432, cS432, cN432, cH432, cG432⟩ := id V_1
      refine own_go (B := s₁.setTop (mkF m 161 #[.val (.ref a1), .val (.long q1), .second] [(.int 1)])) (fun tg kt => ?_) ?_
      · refine X0.arraylength hx (by rw [e0]; exact Ar432.1) (State.isArrayOf_alike hZ.alike Ar432.2.1) (g := (mkF m 139 #[.val (.ref a1), .val (.long q1), .second] [(.ref a1)])) rfl rfl (hb hby d5_139) _ ?_
        rw [len_of cS432 cN432]
        refine XS.bipush X0.here hx rfl (hb hby d5_140) ?_
        refine XS.icmpYes X0.here hx rfl (pc0 := 142) (pc' := 160) rfl (hb hby d5_142) rfl (flt (show ¬ ((7 : Int32) < n) from (own_mono hc385 (by decide)))).2.2.2 (by decide) (by decide) ?_
        refine XS.iconst X0.here hx rfl (hb hby d5_160) ?_
        exact kt
      obtain ⟨fs, hr, hrun, hended, hW, hsame⟩ := X0.leave (v := some (.int 1)) (fun h => by rw [Bd.returns] at h; cases h)
      refine ⟨_, _, ?_, hrun, hended, _, _, rfl, ?_, ⟨_, rfl⟩, hW, hsame.mono (by decide) (by decide)⟩
      · exact retN X0 hx (t := .boolean) Bd.returns (by simp) (hb hby d5_161) hr
      · show Q5 Z a1 q1 k1 n h0 n0 _ s₁.heap _
        rw [e0]
        exact ⟨rfl, N0, rfl⟩
  · refine own_go (B := s₁.setTop (mkF m 17 #[.val (.ref a1), .val (.long q1), .second] [(.ref a1)])) (fun tg kt => ?_) ?_
    · refine XS.ifYes X0.here hx rfl (pc0 := 2) (pc' := 16) rfl (hb hby d5_2) rfl ((if0 _ _).trans (flt hc382).2.2.2) (by decide) (by decide) ?_
      refine XS.aloadN X0.here hx rfl (hb hby d5_16) rfl rfl ?_
      exact kt
    obtain ⟨cl434, Ar434, cq434, cS434, cN434, cH434, cG434⟩ := id V_1
    refine own_go (B := s₁.setTop (mkF m 37 #[.val (.ref a1), .val (.long q1), .second] [(.ref a1)])) (fun tg kt => ?_) ?_
    · refine X0.arraylength hx (by rw [e0]; exact Ar434.1) (State.isArrayOf_alike hZ.alike Ar434.2.1) (g := (mkF m 17 #[.val (.ref a1), .val (.long q1), .second] [(.ref a1)])) rfl rfl (hb hby d5_17) _ ?_
      rw [len_of cS434 cN434]
      refine XS.iconst X0.here hx rfl (hb hby d5_18) ?_
      refine XS.icmpYes X0.here hx rfl (pc0 := 19) (pc' := 36) rfl (hb hby d5_19) rfl (flt (show ¬ ((1 : Int32) < n) from (own_mono hc382 (by decide)))).2.2.2 (by decide) (by decide) ?_
      refine XS.aloadN X0.here hx rfl (hb hby d5_36) rfl rfl ?_
      exact kt
    obtain ⟨cl435, Ar435, cq435, cS435, cN435, cH435, cG435⟩ := id V_1
    refine own_go (B := s₁.setTop (mkF m 57 #[.val (.ref a1), .val (.long q1), .second] [(.ref a1)])) (fun tg kt => ?_) ?_
    · refine X0.arraylength hx (by rw [e0]; exact Ar435.1) (State.isArrayOf_alike hZ.alike Ar435.2.1) (g := (mkF m 37 #[.val (.ref a1), .val (.long q1), .second] [(.ref a1)])) rfl rfl (hb hby d5_37) _ ?_
      rw [len_of cS435 cN435]
      refine XS.iconst X0.here hx rfl (hb hby d5_38) ?_
      refine XS.icmpYes X0.here hx rfl (pc0 := 39) (pc' := 56) rfl (hb hby d5_39) rfl (flt (show ¬ ((2 : Int32) < n) from (own_mono hc382 (by decide)))).2.2.2 (by decide) (by decide) ?_
      refine XS.aloadN X0.here hx rfl (hb hby d5_56) rfl rfl ?_
      exact kt
    obtain ⟨cl436, Ar436, cq436, cS436, cN436, cH436, cG436⟩ := id V_1
    refine own_go (B := s₁.setTop (mkF m 77 #[.val (.ref a1), .val (.long q1), .second] [(.ref a1)])) (fun tg kt => ?_) ?_
    · refine X0.arraylength hx (by rw [e0]; exact Ar436.1) (State.isArrayOf_alike hZ.alike Ar436.2.1) (g := (mkF m 57 #[.val (.ref a1), .val (.long q1), .second] [(.ref a1)])) rfl rfl (hb hby d5_57) _ ?_
      rw [len_of cS436 cN436]
      refine XS.iconst X0.here hx rfl (hb hby d5_58) ?_
      refine XS.icmpYes X0.here hx rfl (pc0 := 59) (pc' := 76) rfl (hb hby d5_59) rfl (flt (show ¬ ((3 : Int32) < n) from (own_mono hc382 (by decide)))).2.2.2 (by decide) (by decide) ?_
      refine XS.aloadN X0.here hx rfl (hb hby d5_76) rfl rfl ?_
      exact kt
    obtain ⟨cl437, Ar437, cq437, cS437, cN437, cH437, cG437⟩ := id V_1
    refine own_go (B := s₁.setTop (mkF m 97 #[.val (.ref a1), .val (.long q1), .second] [(.ref a1)])) (fun tg kt => ?_) ?_
    · refine X0.arraylength hx (by rw [e0]; exact Ar437.1) (State.isArrayOf_alike hZ.alike Ar437.2.1) (g := (mkF m 77 #[.val (.ref a1), .val (.long q1), .second] [(.ref a1)])) rfl rfl (hb hby d5_77) _ ?_
      rw [len_of cS437 cN437]
      refine XS.iconst X0.here hx rfl (hb hby d5_78) ?_
      refine XS.icmpYes X0.here hx rfl (pc0 := 79) (pc' := 96) rfl (hb hby d5_79) rfl (flt (show ¬ ((4 : Int32) < n) from (own_mono hc382 (by decide)))).2.2.2 (by decide) (by decide) ?_
      refine XS.aloadN X0.here hx rfl (hb hby d5_96) rfl rfl ?_
      exact kt
    obtain ⟨cl438, Ar438, cq438, cS438, cN438, cH438, cG438⟩ := id V_1
    refine own_go (B := s₁.setTop (mkF m 117 #[.val (.ref a1), .val (.long q1), .second] [(.ref a1)])) (fun tg kt => ?_) ?_
    · refine X0.arraylength hx (by rw [e0]; exact Ar438.1) (State.isArrayOf_alike hZ.alike Ar438.2.1) (g := (mkF m 97 #[.val (.ref a1), .val (.long q1), .second] [(.ref a1)])) rfl rfl (hb hby d5_97) _ ?_
      rw [len_of cS438 cN438]
      refine XS.iconst X0.here hx rfl (hb hby d5_98) ?_
      refine XS.icmpYes X0.here hx rfl (pc0 := 99) (pc' := 116) rfl (hb hby d5_99) rfl (flt (show ¬ ((5 : Int32) < n) from (own_mono hc382 (by decide)))).2.2.2 (by decide) (by decide) ?_
      refine XS.aloadN X0.here hx rfl (hb hby d5_116) rfl rfl ?_
      exact kt
    obtain ⟨cl439, Ar439, cq439, cS439, cN439, cH439, cG439⟩ := id V_1
    refine own_go (B := s₁.setTop (mkF m 139 #[.val (.ref a1), .val (.long q1), .second] [(.ref a1)])) (fun tg kt => ?_) ?_
    · refine X0.arraylength hx (by rw [e0]; exact Ar439.1) (State.isArrayOf_alike hZ.alike Ar439.2.1) (g := (mkF m 117 #[.val (.ref a1), .val (.long q1), .second] [(.ref a1)])) rfl rfl (hb hby d5_117) _ ?_
      rw [len_of cS439 cN439]
      refine XS.bipush X0.here hx rfl (hb hby d5_118) ?_
      refine XS.icmpYes X0.here hx rfl (pc0 := 120) (pc' := 138) rfl (hb hby d5_120) rfl (flt (show ¬ ((6 : Int32) < n) from (own_mono hc382 (by decide)))).2.2.2 (by decide) (by decide) ?_
      refine XS.aloadN X0.here hx rfl (hb hby d5_138) rfl rfl ?_
      exact kt
    obtain ⟨cl440, Ar440, cq440, cS440, cN440, cH440, cG440⟩ := id V_1
    refine own_go (B := s₁.setTop (mkF m 161 #[.val (.ref a1), .val (.long q1), .second] [(.int 1)])) (fun tg kt => ?_) ?_
    · refine X0.arraylength hx (by rw [e0]; exact Ar440.1) (State.isArrayOf_alike hZ.alike Ar440.2.1) (g := (mkF m 139 #[.val (.ref a1), .val (.long q1), .second] [(.ref a1)])) rfl rfl (hb hby d5_139) _ ?_
      rw [len_of cS440 cN440]
      refine XS.bipush X0.here hx rfl (hb hby d5_140) ?_
      refine XS.icmpYes X0.here hx rfl (pc0 := 142) (pc' := 160) rfl (hb hby d5_142) rfl (flt (show ¬ ((7 : Int32) < n) from (own_mono hc382 (by decide)))).2.2.2 (by decide) (by decide) ?_
      refine XS.iconst X0.here hx rfl (hb hby d5_160) ?_
      exact kt
    obtain ⟨fs, hr, hrun, hended, hW, hsame⟩ := X0.leave (v := some (.int 1)) (fun h => by rw [Bd.returns] at h; cases h)
    refine ⟨_, _, ?_, hrun, hended, _, _, rfl, ?_, ⟨_, rfl⟩, hW, hsame.mono (by decide) (by decide)⟩
    · exact retN X0 hx (t := .boolean) Bd.returns (by simp) (hb hby d5_161) hr
    · show Q5 Z a1 q1 k1 n h0 n0 _ s₁.heap _
      rw [e0]
      exact ⟨rfl, N0, rfl⟩
theorem d7_0 : decode method_5_code 0 = .ok (.aload_n 0, 1) := by decide +kernel
theorem d7_1 : decode method_5_code 1 = .ok (.iconst 4, 1) := by decide +kernel
theorem d7_2 : decode method_5_code 2 = .ok (.iload_n 1, 1) := by decide +kernel
theorem d7_3 : decode method_5_code 3 = .ok (.imul, 1) := by decide +kernel
theorem d7_4 : decode method_5_code 4 = .ok (.baload, 1) := by decide +kernel
theorem d7_5 : decode method_5_code 5 = .ok (.sipush 255, 3) := by decide +kernel
theorem d7_8 : decode method_5_code 8 = .ok (.iand, 1) := by decide +kernel
theorem d7_9 : decode method_5_code 9 = .ok (.bipush 24, 2) := by decide +kernel
theorem d7_11 : decode method_5_code 11 = .ok (.ishl, 1) := by decide +kernel
theorem d7_12 : decode method_5_code 12 = .ok (.aload_n 0, 1) := by decide +kernel
theorem d7_13 : decode method_5_code 13 = .ok (.iconst 4, 1) := by decide +kernel
theorem d7_14 : decode method_5_code 14 = .ok (.iload_n 1, 1) := by decide +kernel
theorem d7_15 : decode method_5_code 15 = .ok (.imul, 1) := by decide +kernel
theorem d7_16 : decode method_5_code 16 = .ok (.iconst 1, 1) := by decide +kernel
theorem d7_17 : decode method_5_code 17 = .ok (.iadd, 1) := by decide +kernel
theorem d7_18 : decode method_5_code 18 = .ok (.baload, 1) := by decide +kernel
theorem d7_19 : decode method_5_code 19 = .ok (.sipush 255, 3) := by decide +kernel
theorem d7_22 : decode method_5_code 22 = .ok (.iand, 1) := by decide +kernel
theorem d7_23 : decode method_5_code 23 = .ok (.bipush 16, 2) := by decide +kernel
theorem d7_25 : decode method_5_code 25 = .ok (.ishl, 1) := by decide +kernel
theorem d7_26 : decode method_5_code 26 = .ok (.ior, 1) := by decide +kernel
theorem d7_27 : decode method_5_code 27 = .ok (.aload_n 0, 1) := by decide +kernel
theorem d7_28 : decode method_5_code 28 = .ok (.iconst 4, 1) := by decide +kernel
theorem d7_29 : decode method_5_code 29 = .ok (.iload_n 1, 1) := by decide +kernel
theorem d7_30 : decode method_5_code 30 = .ok (.imul, 1) := by decide +kernel
theorem d7_31 : decode method_5_code 31 = .ok (.iconst 2, 1) := by decide +kernel
theorem d7_32 : decode method_5_code 32 = .ok (.iadd, 1) := by decide +kernel
theorem d7_33 : decode method_5_code 33 = .ok (.baload, 1) := by decide +kernel
theorem d7_34 : decode method_5_code 34 = .ok (.sipush 255, 3) := by decide +kernel
theorem d7_37 : decode method_5_code 37 = .ok (.iand, 1) := by decide +kernel
theorem d7_38 : decode method_5_code 38 = .ok (.bipush 8, 2) := by decide +kernel
theorem d7_40 : decode method_5_code 40 = .ok (.ishl, 1) := by decide +kernel
theorem d7_41 : decode method_5_code 41 = .ok (.ior, 1) := by decide +kernel
theorem d7_42 : decode method_5_code 42 = .ok (.aload_n 0, 1) := by decide +kernel
theorem d7_43 : decode method_5_code 43 = .ok (.iconst 4, 1) := by decide +kernel
theorem d7_44 : decode method_5_code 44 = .ok (.iload_n 1, 1) := by decide +kernel
theorem d7_45 : decode method_5_code 45 = .ok (.imul, 1) := by decide +kernel
theorem d7_46 : decode method_5_code 46 = .ok (.iconst 3, 1) := by decide +kernel
theorem d7_47 : decode method_5_code 47 = .ok (.iadd, 1) := by decide +kernel
theorem d7_48 : decode method_5_code 48 = .ok (.baload, 1) := by decide +kernel
theorem d7_49 : decode method_5_code 49 = .ok (.sipush 255, 3) := by decide +kernel
theorem d7_52 : decode method_5_code 52 = .ok (.iand, 1) := by decide +kernel
theorem d7_53 : decode method_5_code 53 = .ok (.ior, 1) := by decide +kernel
theorem d7_54 : decode method_5_code 54 = .ok (.ireturn, 1) := by decide +kernel
theorem ef_7_0 (m : MethodId) (a1 : Addr) : entryFrame m #[(.ref a1), (.int 0)] 2 = mkF m 0 #[.val (.ref a1), .val (.int 0)] [] := by first | (simp [entryFrame, mkF, argsToLocals, Value.category]; done) | rfl
def Q7_0 (Z : State) (a1 : Addr) (k1 : ClassId) (vs : List Value) (h0 : Heap) (n0 : Nat) (v : Option Value) (h : Heap) (L : List Loc) : Prop := v = some (.int (own_wd vs 0)) ∧ Fr n0 L ∧ h = h0
set_option maxRecDepth 65536 in
set_option maxHeartbeats 40000000 in
theorem rm7_0 (l : Launch) (Z : State) (a0 : Array Value) (hw : ∀ d ∈ tables_1, d.before a0 Z = true) (ws : List Jvm.Cond) (a1 : Addr) (k1 : ClassId) (vs : List Value) (h0 : Heap) (n0 : Nat) (Z0 : n0 ≤ h0.size) (V_1 : Arv Z h0 a1 k1 .byte (32 : Int32) vs (.int 0)) (hI : ∀ j, j < 32 → vs.getD j (.int 0) = .int (own_iv (vs.getD j (.int 0)))) :
    MetFree l (⟨"tributary/DigestsSha256PinLaw", "word", "([BI)I"⟩ : MethodName) (head1 (Jvm.Cond.code (⟨"tributary/DigestsSha256PinLaw", "word", "([BI)I"⟩ : MethodName) method_5_code 2 (some .int) :: ws) ({ frames := 0, cells := 0, slots := 0, locals := 0 } : Room)) (fun a U => a = #[(.ref a1), (.int 0)] ∧ Z.Warmed39 U.vm ∧ U.heap = h0) (fun _ _ _ _ _ => True) (fun _ U o U' => ∃ v L, o = .returned v ∧ Q7_0 Z a1 k1 vs h0 n0 v U'.heap L ∧ FrameEnd U o U' L ({ frames := 0, cells := 0, slots := 0, locals := 0 } : Room).cells ({ frames := 0, cells := 0, slots := 0, locals := 0 } : Room).slots) := by
  refine MetFree.of_bodySF (plainFor_of_name pn_497) hisR ?_
  intro p e s m args below meth c s₁ Bd hml0 hP hK
  obtain ⟨rfl, hZ, hh⟩ := hP
  have hx := Bd.exec
  have hby := Bd.bytes
  have hml : c.maxLocals = 2 := hml0
  have hown : s.vm.findClass "tributary/DigestsSha256PinLaw" = some m.cls := findClass_of_methodNamed Bd.named
  have hnm := (name_of_methodNamed Bd.named Bd.method).1
  have X0 : Stand p l e ({ frames := 0, cells := 0, slots := 0, locals := 0 } : Room) s m #[(.ref a1), (.int 0)] below meth c s₁ [] 0 0 := Stand.of_body Bd
  have e0 : s₁.heap = h0 := by rw [← hh, Bd.state]; rfl
  have N0 := Fr.nil n0
  refine own_go (B := s₁.setTop (mkF m 0 #[.val (.ref a1), .val (.int 0)] [])) (fun t k => castTop (ef_7_0 m a1) k) ?_
  refine own_go (B := s₁.setTop (mkF m 4 #[.val (.ref a1), .val (.int 0)] [(.int 0), (.ref a1)])) (fun tg kt => ?_) ?_
  · refine XS.aloadN X0.here hx rfl (hb hby d7_0) rfl rfl ?_
    refine XS.iconst X0.here hx rfl (hb hby d7_1) ?_
    refine XS.iloadN X0.here hx rfl (hb hby d7_2) rfl ?_
    refine XS.imul X0.here hx rfl (hb hby d7_3) rfl ?_
    exact kt
  obtain ⟨cl442, Ar442, cq442, cS442, cN442, cH442, cG442⟩ := id V_1
  have hin442 := inb_of (j := (0 : Int32)) cS442 ⟨by decide, by decide⟩
  have hat442 : cl442.slots[((0 : Int32)).toNatClampNeg]? = some (.int (own_iv (vs.getD 0 (.int 0)))) := Has.at cH442 hin442 (hI 0 (by decide))
  refine own_go (B := s₁.setTop (mkF m 18 #[.val (.ref a1), .val (.int 0)] [(.int 1), (.ref a1), (.int (((own_iv (vs.getD 0 (.int 0))) &&& (255 : Int32)) <<< ((24 : Int32) &&& 31)))])) (fun tg kt => ?_) ?_
  · refine X0.baloadBytes hx (j := (0 : Int32)) (v := (.int (own_iv (vs.getD 0 (.int 0))))) (by rw [e0]; exact Ar442.1) (State.isArrayOf_alike hZ.alike Ar442.2.1) Ar442.2.2 hin442 hat442 (g := (mkF m 4 #[.val (.ref a1), .val (.int 0)] [(.int 0), (.ref a1)])) rfl rfl (hb hby d7_4) _ ?_
    refine XS.sipush X0.here hx rfl (hb hby d7_5) ?_
    refine XS.iand X0.here hx rfl (hb hby d7_8) rfl ?_
    refine XS.bipush X0.here hx rfl (hb hby d7_9) ?_
    refine XS.ishl X0.here hx rfl (hb hby d7_11) rfl ?_
    refine XS.aloadN X0.here hx rfl (hb hby d7_12) rfl rfl ?_
    refine XS.iconst X0.here hx rfl (hb hby d7_13) ?_
    refine XS.iloadN X0.here hx rfl (hb hby d7_14) rfl ?_
    refine XS.imul X0.here hx rfl (hb hby d7_15) rfl ?_
    refine XS.iconst X0.here hx rfl (hb hby d7_16) ?_
    refine XS.iadd X0.here hx rfl (hb hby d7_17) rfl ?_
    exact kt
  obtain ⟨cl443, Ar443, cq443, cS443, cN443, cH443, cG443⟩ := id V_1
  have hin443 := inb_of (j := (1 : Int32)) cS443 ⟨by decide, by decide⟩
  have hat443 : cl443.slots[((1 : Int32)).toNatClampNeg]? = some (.int (own_iv (vs.getD 1 (.int 0)))) := Has.at cH443 hin443 (hI 1 (by decide))
  refine own_go (B := s₁.setTop (mkF m 33 #[.val (.ref a1), .val (.int 0)] [(.int 2), (.ref a1), (.int ((((own_iv (vs.getD 0 (.int 0))) &&& (255 : Int32)) <<< ((24 : Int32) &&& 31)) ||| (((own_iv (vs.getD 1 (.int 0))) &&& (255 : Int32)) <<< ((16 : Int32) &&& 31))))])) (fun tg kt => ?_) ?_
  · refine X0.baloadBytes hx (j := (1 : Int32)) (v := (.int (own_iv (vs.getD 1 (.int 0))))) (by rw [e0]; exact Ar443.1) (State.isArrayOf_alike hZ.alike Ar443.2.1) Ar443.2.2 hin443 hat443 (g := (mkF m 18 #[.val (.ref a1), .val (.int 0)] [(.int 1), (.ref a1), (.int (((own_iv (vs.getD 0 (.int 0))) &&& (255 : Int32)) <<< ((24 : Int32) &&& 31)))])) rfl rfl (hb hby d7_18) _ ?_
    refine XS.sipush X0.here hx rfl (hb hby d7_19) ?_
    refine XS.iand X0.here hx rfl (hb hby d7_22) rfl ?_
    refine XS.bipush X0.here hx rfl (hb hby d7_23) ?_
    refine XS.ishl X0.here hx rfl (hb hby d7_25) rfl ?_
    refine XS.ior X0.here hx rfl (hb hby d7_26) rfl ?_
    refine XS.aloadN X0.here hx rfl (hb hby d7_27) rfl rfl ?_
    refine XS.iconst X0.here hx rfl (hb hby d7_28) ?_
    refine XS.iloadN X0.here hx rfl (hb hby d7_29) rfl ?_
    refine XS.imul X0.here hx rfl (hb hby d7_30) rfl ?_
    refine XS.iconst X0.here hx rfl (hb hby d7_31) ?_
    refine XS.iadd X0.here hx rfl (hb hby d7_32) rfl ?_
    exact kt
  obtain ⟨cl444, Ar444, cq444, cS444, cN444, cH444, cG444⟩ := id V_1
  have hin444 := inb_of (j := (2 : Int32)) cS444 ⟨by decide, by decide⟩
  have hat444 : cl444.slots[((2 : Int32)).toNatClampNeg]? = some (.int (own_iv (vs.getD 2 (.int 0)))) := Has.at cH444 hin444 (hI 2 (by decide))
  refine own_go (B := s₁.setTop (mkF m 48 #[.val (.ref a1), .val (.int 0)] [(.int 3), (.ref a1), (.int (((((own_iv (vs.getD 0 (.int 0))) &&& (255 : Int32)) <<< ((24 : Int32) &&& 31)) ||| (((own_iv (vs.getD 1 (.int 0))) &&& (255 : Int32)) <<< ((16 : Int32) &&& 31))) ||| (((own_iv (vs.getD 2 (.int 0))) &&& (255 : Int32)) <<< ((8 : Int32) &&& 31))))])) (fun tg kt => ?_) ?_
  · refine X0.baloadBytes hx (j := (2 : Int32)) (v := (.int (own_iv (vs.getD 2 (.int 0))))) (by rw [e0]; exact Ar444.1) (State.isArrayOf_alike hZ.alike Ar444.2.1) Ar444.2.2 hin444 hat444 (g := (mkF m 33 #[.val (.ref a1), .val (.int 0)] [(.int 2), (.ref a1), (.int ((((own_iv (vs.getD 0 (.int 0))) &&& (255 : Int32)) <<< ((24 : Int32) &&& 31)) ||| (((own_iv (vs.getD 1 (.int 0))) &&& (255 : Int32)) <<< ((16 : Int32) &&& 31))))])) rfl rfl (hb hby d7_33) _ ?_
    refine XS.sipush X0.here hx rfl (hb hby d7_34) ?_
    refine XS.iand X0.here hx rfl (hb hby d7_37) rfl ?_
    refine XS.bipush X0.here hx rfl (hb hby d7_38) ?_
    refine XS.ishl X0.here hx rfl (hb hby d7_40) rfl ?_
    refine XS.ior X0.here hx rfl (hb hby d7_41) rfl ?_
    refine XS.aloadN X0.here hx rfl (hb hby d7_42) rfl rfl ?_
    refine XS.iconst X0.here hx rfl (hb hby d7_43) ?_
    refine XS.iloadN X0.here hx rfl (hb hby d7_44) rfl ?_
    refine XS.imul X0.here hx rfl (hb hby d7_45) rfl ?_
    refine XS.iconst X0.here hx rfl (hb hby d7_46) ?_
    refine XS.iadd X0.here hx rfl (hb hby d7_47) rfl ?_
    exact kt
  obtain ⟨cl445, Ar445, cq445, cS445, cN445, cH445, cG445⟩ := id V_1
  have hin445 := inb_of (j := (3 : Int32)) cS445 ⟨by decide, by decide⟩
  have hat445 : cl445.slots[((3 : Int32)).toNatClampNeg]? = some (.int (own_iv (vs.getD 3 (.int 0)))) := Has.at cH445 hin445 (hI 3 (by decide))
  refine own_go (B := s₁.setTop (mkF m 54 #[.val (.ref a1), .val (.int 0)] [(.int ((((((own_iv (vs.getD 0 (.int 0))) &&& (255 : Int32)) <<< ((24 : Int32) &&& 31)) ||| (((own_iv (vs.getD 1 (.int 0))) &&& (255 : Int32)) <<< ((16 : Int32) &&& 31))) ||| (((own_iv (vs.getD 2 (.int 0))) &&& (255 : Int32)) <<< ((8 : Int32) &&& 31))) ||| ((own_iv (vs.getD 3 (.int 0))) &&& (255 : Int32))))])) (fun tg kt => ?_) ?_
  · refine X0.baloadBytes hx (j := (3 : Int32)) (v := (.int (own_iv (vs.getD 3 (.int 0))))) (by rw [e0]; exact Ar445.1) (State.isArrayOf_alike hZ.alike Ar445.2.1) Ar445.2.2 hin445 hat445 (g := (mkF m 48 #[.val (.ref a1), .val (.int 0)] [(.int 3), (.ref a1), (.int (((((own_iv (vs.getD 0 (.int 0))) &&& (255 : Int32)) <<< ((24 : Int32) &&& 31)) ||| (((own_iv (vs.getD 1 (.int 0))) &&& (255 : Int32)) <<< ((16 : Int32) &&& 31))) ||| (((own_iv (vs.getD 2 (.int 0))) &&& (255 : Int32)) <<< ((8 : Int32) &&& 31))))])) rfl rfl (hb hby d7_48) _ ?_
    refine XS.sipush X0.here hx rfl (hb hby d7_49) ?_
    refine XS.iand X0.here hx rfl (hb hby d7_52) rfl ?_
    refine XS.ior X0.here hx rfl (hb hby d7_53) rfl ?_
    exact kt
  obtain ⟨fs, hr, hrun, hended, hW, hsame⟩ := X0.leave (v := some (.int ((((((own_iv (vs.getD 0 (.int 0))) &&& (255 : Int32)) <<< ((24 : Int32) &&& 31)) ||| (((own_iv (vs.getD 1 (.int 0))) &&& (255 : Int32)) <<< ((16 : Int32) &&& 31))) ||| (((own_iv (vs.getD 2 (.int 0))) &&& (255 : Int32)) <<< ((8 : Int32) &&& 31))) ||| ((own_iv (vs.getD 3 (.int 0))) &&& (255 : Int32))))) (fun h => by rw [Bd.returns] at h; cases h)
  refine ⟨_, _, ?_, hrun, hended, _, _, rfl, ?_, ⟨_, rfl⟩, hW, hsame.mono (by decide) (by decide)⟩
  · exact retI X0 hx Bd.returns (hb hby d7_54) hr
  · show Q7_0 Z a1 k1 vs h0 n0 _ s₁.heap _
    rw [e0]
    exact ⟨rfl, N0, rfl⟩
theorem ef_7_1 (m : MethodId) (a1 : Addr) : entryFrame m #[(.ref a1), (.int 1)] 2 = mkF m 0 #[.val (.ref a1), .val (.int 1)] [] := by first | (simp [entryFrame, mkF, argsToLocals, Value.category]; done) | rfl
def Q7_1 (Z : State) (a1 : Addr) (k1 : ClassId) (vs : List Value) (h0 : Heap) (n0 : Nat) (v : Option Value) (h : Heap) (L : List Loc) : Prop := v = some (.int (own_wd vs 1)) ∧ Fr n0 L ∧ h = h0
set_option maxRecDepth 65536 in
set_option maxHeartbeats 40000000 in
theorem rm7_1 (l : Launch) (Z : State) (a0 : Array Value) (hw : ∀ d ∈ tables_1, d.before a0 Z = true) (ws : List Jvm.Cond) (a1 : Addr) (k1 : ClassId) (vs : List Value) (h0 : Heap) (n0 : Nat) (Z0 : n0 ≤ h0.size) (V_1 : Arv Z h0 a1 k1 .byte (32 : Int32) vs (.int 0)) (hI : ∀ j, j < 32 → vs.getD j (.int 0) = .int (own_iv (vs.getD j (.int 0)))) :
    MetFree l (⟨"tributary/DigestsSha256PinLaw", "word", "([BI)I"⟩ : MethodName) (head1 (Jvm.Cond.code (⟨"tributary/DigestsSha256PinLaw", "word", "([BI)I"⟩ : MethodName) method_5_code 2 (some .int) :: ws) ({ frames := 0, cells := 0, slots := 0, locals := 0 } : Room)) (fun a U => a = #[(.ref a1), (.int 1)] ∧ Z.Warmed39 U.vm ∧ U.heap = h0) (fun _ _ _ _ _ => True) (fun _ U o U' => ∃ v L, o = .returned v ∧ Q7_1 Z a1 k1 vs h0 n0 v U'.heap L ∧ FrameEnd U o U' L ({ frames := 0, cells := 0, slots := 0, locals := 0 } : Room).cells ({ frames := 0, cells := 0, slots := 0, locals := 0 } : Room).slots) := by
  refine MetFree.of_bodySF (plainFor_of_name pn_497) hisR ?_
  intro p e s m args below meth c s₁ Bd hml0 hP hK
  obtain ⟨rfl, hZ, hh⟩ := hP
  have hx := Bd.exec
  have hby := Bd.bytes
  have hml : c.maxLocals = 2 := hml0
  have hown : s.vm.findClass "tributary/DigestsSha256PinLaw" = some m.cls := findClass_of_methodNamed Bd.named
  have hnm := (name_of_methodNamed Bd.named Bd.method).1
  have X0 : Stand p l e ({ frames := 0, cells := 0, slots := 0, locals := 0 } : Room) s m #[(.ref a1), (.int 1)] below meth c s₁ [] 0 0 := Stand.of_body Bd
  have e0 : s₁.heap = h0 := by rw [← hh, Bd.state]; rfl
  have N0 := Fr.nil n0
  refine own_go (B := s₁.setTop (mkF m 0 #[.val (.ref a1), .val (.int 1)] [])) (fun t k => castTop (ef_7_1 m a1) k) ?_
  refine own_go (B := s₁.setTop (mkF m 4 #[.val (.ref a1), .val (.int 1)] [(.int 4), (.ref a1)])) (fun tg kt => ?_) ?_
  · refine XS.aloadN X0.here hx rfl (hb hby d7_0) rfl rfl ?_
    refine XS.iconst X0.here hx rfl (hb hby d7_1) ?_
    refine XS.iloadN X0.here hx rfl (hb hby d7_2) rfl ?_
    refine XS.imul X0.here hx rfl (hb hby d7_3) rfl ?_
    exact kt
  obtain ⟨cl447, Ar447, cq447, cS447, cN447, cH447, cG447⟩ := id V_1
  have hin447 := inb_of (j := (4 : Int32)) cS447 ⟨by decide, by decide⟩
  have hat447 : cl447.slots[((4 : Int32)).toNatClampNeg]? = some (.int (own_iv (vs.getD 4 (.int 0)))) := Has.at cH447 hin447 (hI 4 (by decide))
  refine own_go (B := s₁.setTop (mkF m 18 #[.val (.ref a1), .val (.int 1)] [(.int 5), (.ref a1), (.int (((own_iv (vs.getD 4 (.int 0))) &&& (255 : Int32)) <<< ((24 : Int32) &&& 31)))])) (fun tg kt => ?_) ?_
  · refine X0.baloadBytes hx (j := (4 : Int32)) (v := (.int (own_iv (vs.getD 4 (.int 0))))) (by rw [e0]; exact Ar447.1) (State.isArrayOf_alike hZ.alike Ar447.2.1) Ar447.2.2 hin447 hat447 (g := (mkF m 4 #[.val (.ref a1), .val (.int 1)] [(.int 4), (.ref a1)])) rfl rfl (hb hby d7_4) _ ?_
    refine XS.sipush X0.here hx rfl (hb hby d7_5) ?_
    refine XS.iand X0.here hx rfl (hb hby d7_8) rfl ?_
    refine XS.bipush X0.here hx rfl (hb hby d7_9) ?_
    refine XS.ishl X0.here hx rfl (hb hby d7_11) rfl ?_
    refine XS.aloadN X0.here hx rfl (hb hby d7_12) rfl rfl ?_
    refine XS.iconst X0.here hx rfl (hb hby d7_13) ?_
    refine XS.iloadN X0.here hx rfl (hb hby d7_14) rfl ?_
    refine XS.imul X0.here hx rfl (hb hby d7_15) rfl ?_
    refine XS.iconst X0.here hx rfl (hb hby d7_16) ?_
    refine XS.iadd X0.here hx rfl (hb hby d7_17) rfl ?_
    exact kt
  obtain ⟨cl448, Ar448, cq448, cS448, cN448, cH448, cG448⟩ := id V_1
  have hin448 := inb_of (j := (5 : Int32)) cS448 ⟨by decide, by decide⟩
  have hat448 : cl448.slots[((5 : Int32)).toNatClampNeg]? = some (.int (own_iv (vs.getD 5 (.int 0)))) := Has.at cH448 hin448 (hI 5 (by decide))
  refine own_go (B := s₁.setTop (mkF m 33 #[.val (.ref a1), .val (.int 1)] [(.int 6), (.ref a1), (.int ((((own_iv (vs.getD 4 (.int 0))) &&& (255 : Int32)) <<< ((24 : Int32) &&& 31)) ||| (((own_iv (vs.getD 5 (.int 0))) &&& (255 : Int32)) <<< ((16 : Int32) &&& 31))))])) (fun tg kt => ?_) ?_
  · refine X0.baloadBytes hx (j := (5 : Int32)) (v := (.int (own_iv (vs.getD 5 (.int 0))))) (by rw [e0]; exact Ar448.1) (State.isArrayOf_alike hZ.alike Ar448.2.1) Ar448.2.2 hin448 hat448 (g := (mkF m 18 #[.val (.ref a1), .val (.int 1)] [(.int 5), (.ref a1), (.int (((own_iv (vs.getD 4 (.int 0))) &&& (255 : Int32)) <<< ((24 : Int32) &&& 31)))])) rfl rfl (hb hby d7_18) _ ?_
    refine XS.sipush X0.here hx rfl (hb hby d7_19) ?_
    refine XS.iand X0.here hx rfl (hb hby d7_22) rfl ?_
    refine XS.bipush X0.here hx rfl (hb hby d7_23) ?_
    refine XS.ishl X0.here hx rfl (hb hby d7_25) rfl ?_
    refine XS.ior X0.here hx rfl (hb hby d7_26) rfl ?_
    refine XS.aloadN X0.here hx rfl (hb hby d7_27) rfl rfl ?_
    refine XS.iconst X0.here hx rfl (hb hby d7_28) ?_
    refine XS.iloadN X0.here hx rfl (hb hby d7_29) rfl ?_
    refine XS.imul X0.here hx rfl (hb hby d7_30) rfl ?_
    refine XS.iconst X0.here hx rfl (hb hby d7_31) ?_
    refine XS.iadd X0.here hx rfl (hb hby d7_32) rfl ?_
    exact kt
  obtain ⟨cl449, Ar449, cq449, cS449, cN449, cH449, cG449⟩ := id V_1
  have hin449 := inb_of (j := (6 : Int32)) cS449 ⟨by decide, by decide⟩
  have hat449 : cl449.slots[((6 : Int32)).toNatClampNeg]? = some (.int (own_iv (vs.getD 6 (.int 0)))) := Has.at cH449 hin449 (hI 6 (by decide))
  refine own_go (B := s₁.setTop (mkF m 48 #[.val (.ref a1), .val (.int 1)] [(.int 7), (.ref a1), (.int (((((own_iv (vs.getD 4 (.int 0))) &&& (255 : Int32)) <<< ((24 : Int32) &&& 31)) ||| (((own_iv (vs.getD 5 (.int 0))) &&& (255 : Int32)) <<< ((16 : Int32) &&& 31))) ||| (((own_iv (vs.getD 6 (.int 0))) &&& (255 : Int32)) <<< ((8 : Int32) &&& 31))))])) (fun tg kt => ?_) ?_
  · refine X0.baloadBytes hx (j := (6 : Int32)) (v := (.int (own_iv (vs.getD 6 (.int 0))))) (by rw [e0]; exact Ar449.1) (State.isArrayOf_alike hZ.alike Ar449.2.1) Ar449.2.2 hin449 hat449 (g := (mkF m 33 #[.val (.ref a1), .val (.int 1)] [(.int 6), (.ref a1), (.int ((((own_iv (vs.getD 4 (.int 0))) &&& (255 : Int32)) <<< ((24 : Int32) &&& 31)) ||| (((own_iv (vs.getD 5 (.int 0))) &&& (255 : Int32)) <<< ((16 : Int32) &&& 31))))])) rfl rfl (hb hby d7_33) _ ?_
    refine XS.sipush X0.here hx rfl (hb hby d7_34) ?_
    refine XS.iand X0.here hx rfl (hb hby d7_37) rfl ?_
    refine XS.bipush X0.here hx rfl (hb hby d7_38) ?_
    refine XS.ishl X0.here hx rfl (hb hby d7_40) rfl ?_
    refine XS.ior X0.here hx rfl (hb hby d7_41) rfl ?_
    refine XS.aloadN X0.here hx rfl (hb hby d7_42) rfl rfl ?_
    refine XS.iconst X0.here hx rfl (hb hby d7_43) ?_
    refine XS.iloadN X0.here hx rfl (hb hby d7_44) rfl ?_
    refine XS.imul X0.here hx rfl (hb hby d7_45) rfl ?_
    refine XS.iconst X0.here hx rfl (hb hby d7_46) ?_
    refine XS.iadd X0.here hx rfl (hb hby d7_47) rfl ?_
    exact kt
  obtain ⟨cl450, Ar450, cq450, cS450, cN450, cH450, cG450⟩ := id V_1
  have hin450 := inb_of (j := (7 : Int32)) cS450 ⟨by decide, by decide⟩
  have hat450 : cl450.slots[((7 : Int32)).toNatClampNeg]? = some (.int (own_iv (vs.getD 7 (.int 0)))) := Has.at cH450 hin450 (hI 7 (by decide))
  refine own_go (B := s₁.setTop (mkF m 54 #[.val (.ref a1), .val (.int 1)] [(.int ((((((own_iv (vs.getD 4 (.int 0))) &&& (255 : Int32)) <<< ((24 : Int32) &&& 31)) ||| (((own_iv (vs.getD 5 (.int 0))) &&& (255 : Int32)) <<< ((16 : Int32) &&& 31))) ||| (((own_iv (vs.getD 6 (.int 0))) &&& (255 : Int32)) <<< ((8 : Int32) &&& 31))) ||| ((own_iv (vs.getD 7 (.int 0))) &&& (255 : Int32))))])) (fun tg kt => ?_) ?_
  · refine X0.baloadBytes hx (j := (7 : Int32)) (v := (.int (own_iv (vs.getD 7 (.int 0))))) (by rw [e0]; exact Ar450.1) (State.isArrayOf_alike hZ.alike Ar450.2.1) Ar450.2.2 hin450 hat450 (g := (mkF m 48 #[.val (.ref a1), .val (.int 1)] [(.int 7), (.ref a1), (.int (((((own_iv (vs.getD 4 (.int 0))) &&& (255 : Int32)) <<< ((24 : Int32) &&& 31)) ||| (((own_iv (vs.getD 5 (.int 0))) &&& (255 : Int32)) <<< ((16 : Int32) &&& 31))) ||| (((own_iv (vs.getD 6 (.int 0))) &&& (255 : Int32)) <<< ((8 : Int32) &&& 31))))])) rfl rfl (hb hby d7_48) _ ?_
    refine XS.sipush X0.here hx rfl (hb hby d7_49) ?_
    refine XS.iand X0.here hx rfl (hb hby d7_52) rfl ?_
    refine XS.ior X0.here hx rfl (hb hby d7_53) rfl ?_
    exact kt
  obtain ⟨fs, hr, hrun, hended, hW, hsame⟩ := X0.leave (v := some (.int ((((((own_iv (vs.getD 4 (.int 0))) &&& (255 : Int32)) <<< ((24 : Int32) &&& 31)) ||| (((own_iv (vs.getD 5 (.int 0))) &&& (255 : Int32)) <<< ((16 : Int32) &&& 31))) ||| (((own_iv (vs.getD 6 (.int 0))) &&& (255 : Int32)) <<< ((8 : Int32) &&& 31))) ||| ((own_iv (vs.getD 7 (.int 0))) &&& (255 : Int32))))) (fun h => by rw [Bd.returns] at h; cases h)
  refine ⟨_, _, ?_, hrun, hended, _, _, rfl, ?_, ⟨_, rfl⟩, hW, hsame.mono (by decide) (by decide)⟩
  · exact retI X0 hx Bd.returns (hb hby d7_54) hr
  · show Q7_1 Z a1 k1 vs h0 n0 _ s₁.heap _
    rw [e0]
    exact ⟨rfl, N0, rfl⟩
theorem ef_7_2 (m : MethodId) (a1 : Addr) : entryFrame m #[(.ref a1), (.int 2)] 2 = mkF m 0 #[.val (.ref a1), .val (.int 2)] [] := by first | (simp [entryFrame, mkF, argsToLocals, Value.category]; done) | rfl
def Q7_2 (Z : State) (a1 : Addr) (k1 : ClassId) (vs : List Value) (h0 : Heap) (n0 : Nat) (v : Option Value) (h : Heap) (L : List Loc) : Prop := v = some (.int (own_wd vs 2)) ∧ Fr n0 L ∧ h = h0
set_option maxRecDepth 65536 in
set_option maxHeartbeats 40000000 in
theorem rm7_2 (l : Launch) (Z : State) (a0 : Array Value) (hw : ∀ d ∈ tables_1, d.before a0 Z = true) (ws : List Jvm.Cond) (a1 : Addr) (k1 : ClassId) (vs : List Value) (h0 : Heap) (n0 : Nat) (Z0 : n0 ≤ h0.size) (V_1 : Arv Z h0 a1 k1 .byte (32 : Int32) vs (.int 0)) (hI : ∀ j, j < 32 → vs.getD j (.int 0) = .int (own_iv (vs.getD j (.int 0)))) :
    MetFree l (⟨"tributary/DigestsSha256PinLaw", "word", "([BI)I"⟩ : MethodName) (head1 (Jvm.Cond.code (⟨"tributary/DigestsSha256PinLaw", "word", "([BI)I"⟩ : MethodName) method_5_code 2 (some .int) :: ws) ({ frames := 0, cells := 0, slots := 0, locals := 0 } : Room)) (fun a U => a = #[(.ref a1), (.int 2)] ∧ Z.Warmed39 U.vm ∧ U.heap = h0) (fun _ _ _ _ _ => True) (fun _ U o U' => ∃ v L, o = .returned v ∧ Q7_2 Z a1 k1 vs h0 n0 v U'.heap L ∧ FrameEnd U o U' L ({ frames := 0, cells := 0, slots := 0, locals := 0 } : Room).cells ({ frames := 0, cells := 0, slots := 0, locals := 0 } : Room).slots) := by
  refine MetFree.of_bodySF (plainFor_of_name pn_497) hisR ?_
  intro p e s m args below meth c s₁ Bd hml0 hP hK
  obtain ⟨rfl, hZ, hh⟩ := hP
  have hx := Bd.exec
  have hby := Bd.bytes
  have hml : c.maxLocals = 2 := hml0
  have hown : s.vm.findClass "tributary/DigestsSha256PinLaw" = some m.cls := findClass_of_methodNamed Bd.named
  have hnm := (name_of_methodNamed Bd.named Bd.method).1
  have X0 : Stand p l e ({ frames := 0, cells := 0, slots := 0, locals := 0 } : Room) s m #[(.ref a1), (.int 2)] below meth c s₁ [] 0 0 := Stand.of_body Bd
  have e0 : s₁.heap = h0 := by rw [← hh, Bd.state]; rfl
  have N0 := Fr.nil n0
  refine own_go (B := s₁.setTop (mkF m 0 #[.val (.ref a1), .val (.int 2)] [])) (fun t k => castTop (ef_7_2 m a1) k) ?_
  refine own_go (B := s₁.setTop (mkF m 4 #[.val (.ref a1), .val (.int 2)] [(.int 8), (.ref a1)])) (fun tg kt => ?_) ?_
  · refine XS.aloadN X0.here hx rfl (hb hby d7_0) rfl rfl ?_
    refine XS.iconst X0.here hx rfl (hb hby d7_1) ?_
    refine XS.iloadN X0.here hx rfl (hb hby d7_2) rfl ?_
    refine XS.imul X0.here hx rfl (hb hby d7_3) rfl ?_
    exact kt
  obtain ⟨cl452, Ar452, cq452, cS452, cN452, cH452, cG452⟩ := id V_1
  have hin452 := inb_of (j := (8 : Int32)) cS452 ⟨by decide, by decide⟩
  have hat452 : cl452.slots[((8 : Int32)).toNatClampNeg]? = some (.int (own_iv (vs.getD 8 (.int 0)))) := Has.at cH452 hin452 (hI 8 (by decide))
  refine own_go (B := s₁.setTop (mkF m 18 #[.val (.ref a1), .val (.int 2)] [(.int 9), (.ref a1), (.int (((own_iv (vs.getD 8 (.int 0))) &&& (255 : Int32)) <<< ((24 : Int32) &&& 31)))])) (fun tg kt => ?_) ?_
  · refine X0.baloadBytes hx (j := (8 : Int32)) (v := (.int (own_iv (vs.getD 8 (.int 0))))) (by rw [e0]; exact Ar452.1) (State.isArrayOf_alike hZ.alike Ar452.2.1) Ar452.2.2 hin452 hat452 (g := (mkF m 4 #[.val (.ref a1), .val (.int 2)] [(.int 8), (.ref a1)])) rfl rfl (hb hby d7_4) _ ?_
    refine XS.sipush X0.here hx rfl (hb hby d7_5) ?_
    refine XS.iand X0.here hx rfl (hb hby d7_8) rfl ?_
    refine XS.bipush X0.here hx rfl (hb hby d7_9) ?_
    refine XS.ishl X0.here hx rfl (hb hby d7_11) rfl ?_
    refine XS.aloadN X0.here hx rfl (hb hby d7_12) rfl rfl ?_
    refine XS.iconst X0.here hx rfl (hb hby d7_13) ?_
    refine XS.iloadN X0.here hx rfl (hb hby d7_14) rfl ?_
    refine XS.imul X0.here hx rfl (hb hby d7_15) rfl ?_
    refine XS.iconst X0.here hx rfl (hb hby d7_16) ?_
    refine XS.iadd X0.here hx rfl (hb hby d7_17) rfl ?_
    exact kt
  obtain ⟨cl453, Ar453, cq453, cS453, cN453, cH453, cG453⟩ := id V_1
  have hin453 := inb_of (j := (9 : Int32)) cS453 ⟨by decide, by decide⟩
  have hat453 : cl453.slots[((9 : Int32)).toNatClampNeg]? = some (.int (own_iv (vs.getD 9 (.int 0)))) := Has.at cH453 hin453 (hI 9 (by decide))
  refine own_go (B := s₁.setTop (mkF m 33 #[.val (.ref a1), .val (.int 2)] [(.int 10), (.ref a1), (.int ((((own_iv (vs.getD 8 (.int 0))) &&& (255 : Int32)) <<< ((24 : Int32) &&& 31)) ||| (((own_iv (vs.getD 9 (.int 0))) &&& (255 : Int32)) <<< ((16 : Int32) &&& 31))))])) (fun tg kt => ?_) ?_
  · refine X0.baloadBytes hx (j := (9 : Int32)) (v := (.int (own_iv (vs.getD 9 (.int 0))))) (by rw [e0]; exact Ar453.1) (State.isArrayOf_alike hZ.alike Ar453.2.1) Ar453.2.2 hin453 hat453 (g := (mkF m 18 #[.val (.ref a1), .val (.int 2)] [(.int 9), (.ref a1), (.int (((own_iv (vs.getD 8 (.int 0))) &&& (255 : Int32)) <<< ((24 : Int32) &&& 31)))])) rfl rfl (hb hby d7_18) _ ?_
    refine XS.sipush X0.here hx rfl (hb hby d7_19) ?_
    refine XS.iand X0.here hx rfl (hb hby d7_22) rfl ?_
    refine XS.bipush X0.here hx rfl (hb hby d7_23) ?_
    refine XS.ishl X0.here hx rfl (hb hby d7_25) rfl ?_
    refine XS.ior X0.here hx rfl (hb hby d7_26) rfl ?_
    refine XS.aloadN X0.here hx rfl (hb hby d7_27) rfl rfl ?_
    refine XS.iconst X0.here hx rfl (hb hby d7_28) ?_
    refine XS.iloadN X0.here hx rfl (hb hby d7_29) rfl ?_
    refine XS.imul X0.here hx rfl (hb hby d7_30) rfl ?_
    refine XS.iconst X0.here hx rfl (hb hby d7_31) ?_
    refine XS.iadd X0.here hx rfl (hb hby d7_32) rfl ?_
    exact kt
  obtain ⟨cl454, Ar454, cq454, cS454, cN454, cH454, cG454⟩ := id V_1
  have hin454 := inb_of (j := (10 : Int32)) cS454 ⟨by decide, by decide⟩
  have hat454 : cl454.slots[((10 : Int32)).toNatClampNeg]? = some (.int (own_iv (vs.getD 10 (.int 0)))) := Has.at cH454 hin454 (hI 10 (by decide))
  refine own_go (B := s₁.setTop (mkF m 48 #[.val (.ref a1), .val (.int 2)] [(.int 11), (.ref a1), (.int (((((own_iv (vs.getD 8 (.int 0))) &&& (255 : Int32)) <<< ((24 : Int32) &&& 31)) ||| (((own_iv (vs.getD 9 (.int 0))) &&& (255 : Int32)) <<< ((16 : Int32) &&& 31))) ||| (((own_iv (vs.getD 10 (.int 0))) &&& (255 : Int32)) <<< ((8 : Int32) &&& 31))))])) (fun tg kt => ?_) ?_
  · refine X0.baloadBytes hx (j := (10 : Int32)) (v := (.int (own_iv (vs.getD 10 (.int 0))))) (by rw [e0]; exact Ar454.1) (State.isArrayOf_alike hZ.alike Ar454.2.1) Ar454.2.2 hin454 hat454 (g := (mkF m 33 #[.val (.ref a1), .val (.int 2)] [(.int 10), (.ref a1), (.int ((((own_iv (vs.getD 8 (.int 0))) &&& (255 : Int32)) <<< ((24 : Int32) &&& 31)) ||| (((own_iv (vs.getD 9 (.int 0))) &&& (255 : Int32)) <<< ((16 : Int32) &&& 31))))])) rfl rfl (hb hby d7_33) _ ?_
    refine XS.sipush X0.here hx rfl (hb hby d7_34) ?_
    refine XS.iand X0.here hx rfl (hb hby d7_37) rfl ?_
    refine XS.bipush X0.here hx rfl (hb hby d7_38) ?_
    refine XS.ishl X0.here hx rfl (hb hby d7_40) rfl ?_
    refine XS.ior X0.here hx rfl (hb hby d7_41) rfl ?_
    refine XS.aloadN X0.here hx rfl (hb hby d7_42) rfl rfl ?_
    refine XS.iconst X0.here hx rfl (hb hby d7_43) ?_
    refine XS.iloadN X0.here hx rfl (hb hby d7_44) rfl ?_
    refine XS.imul X0.here hx rfl (hb hby d7_45) rfl ?_
    refine XS.iconst X0.here hx rfl (hb hby d7_46) ?_
    refine XS.iadd X0.here hx rfl (hb hby d7_47) rfl ?_
    exact kt
  obtain ⟨cl455, Ar455, cq455, cS455, cN455, cH455, cG455⟩ := id V_1
  have hin455 := inb_of (j := (11 : Int32)) cS455 ⟨by decide, by decide⟩
  have hat455 : cl455.slots[((11 : Int32)).toNatClampNeg]? = some (.int (own_iv (vs.getD 11 (.int 0)))) := Has.at cH455 hin455 (hI 11 (by decide))
  refine own_go (B := s₁.setTop (mkF m 54 #[.val (.ref a1), .val (.int 2)] [(.int ((((((own_iv (vs.getD 8 (.int 0))) &&& (255 : Int32)) <<< ((24 : Int32) &&& 31)) ||| (((own_iv (vs.getD 9 (.int 0))) &&& (255 : Int32)) <<< ((16 : Int32) &&& 31))) ||| (((own_iv (vs.getD 10 (.int 0))) &&& (255 : Int32)) <<< ((8 : Int32) &&& 31))) ||| ((own_iv (vs.getD 11 (.int 0))) &&& (255 : Int32))))])) (fun tg kt => ?_) ?_
  · refine X0.baloadBytes hx (j := (11 : Int32)) (v := (.int (own_iv (vs.getD 11 (.int 0))))) (by rw [e0]; exact Ar455.1) (State.isArrayOf_alike hZ.alike Ar455.2.1) Ar455.2.2 hin455 hat455 (g := (mkF m 48 #[.val (.ref a1), .val (.int 2)] [(.int 11), (.ref a1), (.int (((((own_iv (vs.getD 8 (.int 0))) &&& (255 : Int32)) <<< ((24 : Int32) &&& 31)) ||| (((own_iv (vs.getD 9 (.int 0))) &&& (255 : Int32)) <<< ((16 : Int32) &&& 31))) ||| (((own_iv (vs.getD 10 (.int 0))) &&& (255 : Int32)) <<< ((8 : Int32) &&& 31))))])) rfl rfl (hb hby d7_48) _ ?_
    refine XS.sipush X0.here hx rfl (hb hby d7_49) ?_
    refine XS.iand X0.here hx rfl (hb hby d7_52) rfl ?_
    refine XS.ior X0.here hx rfl (hb hby d7_53) rfl ?_
    exact kt
  obtain ⟨fs, hr, hrun, hended, hW, hsame⟩ := X0.leave (v := some (.int ((((((own_iv (vs.getD 8 (.int 0))) &&& (255 : Int32)) <<< ((24 : Int32) &&& 31)) ||| (((own_iv (vs.getD 9 (.int 0))) &&& (255 : Int32)) <<< ((16 : Int32) &&& 31))) ||| (((own_iv (vs.getD 10 (.int 0))) &&& (255 : Int32)) <<< ((8 : Int32) &&& 31))) ||| ((own_iv (vs.getD 11 (.int 0))) &&& (255 : Int32))))) (fun h => by rw [Bd.returns] at h; cases h)
  refine ⟨_, _, ?_, hrun, hended, _, _, rfl, ?_, ⟨_, rfl⟩, hW, hsame.mono (by decide) (by decide)⟩
  · exact retI X0 hx Bd.returns (hb hby d7_54) hr
  · show Q7_2 Z a1 k1 vs h0 n0 _ s₁.heap _
    rw [e0]
    exact ⟨rfl, N0, rfl⟩
theorem ef_7_3 (m : MethodId) (a1 : Addr) : entryFrame m #[(.ref a1), (.int 3)] 2 = mkF m 0 #[.val (.ref a1), .val (.int 3)] [] := by first | (simp [entryFrame, mkF, argsToLocals, Value.category]; done) | rfl
def Q7_3 (Z : State) (a1 : Addr) (k1 : ClassId) (vs : List Value) (h0 : Heap) (n0 : Nat) (v : Option Value) (h : Heap) (L : List Loc) : Prop := v = some (.int (own_wd vs 3)) ∧ Fr n0 L ∧ h = h0
set_option maxRecDepth 65536 in
set_option maxHeartbeats 40000000 in
theorem rm7_3 (l : Launch) (Z : State) (a0 : Array Value) (hw : ∀ d ∈ tables_1, d.before a0 Z = true) (ws : List Jvm.Cond) (a1 : Addr) (k1 : ClassId) (vs : List Value) (h0 : Heap) (n0 : Nat) (Z0 : n0 ≤ h0.size) (V_1 : Arv Z h0 a1 k1 .byte (32 : Int32) vs (.int 0)) (hI : ∀ j, j < 32 → vs.getD j (.int 0) = .int (own_iv (vs.getD j (.int 0)))) :
    MetFree l (⟨"tributary/DigestsSha256PinLaw", "word", "([BI)I"⟩ : MethodName) (head1 (Jvm.Cond.code (⟨"tributary/DigestsSha256PinLaw", "word", "([BI)I"⟩ : MethodName) method_5_code 2 (some .int) :: ws) ({ frames := 0, cells := 0, slots := 0, locals := 0 } : Room)) (fun a U => a = #[(.ref a1), (.int 3)] ∧ Z.Warmed39 U.vm ∧ U.heap = h0) (fun _ _ _ _ _ => True) (fun _ U o U' => ∃ v L, o = .returned v ∧ Q7_3 Z a1 k1 vs h0 n0 v U'.heap L ∧ FrameEnd U o U' L ({ frames := 0, cells := 0, slots := 0, locals := 0 } : Room).cells ({ frames := 0, cells := 0, slots := 0, locals := 0 } : Room).slots) := by
  refine MetFree.of_bodySF (plainFor_of_name pn_497) hisR ?_
  intro p e s m args below meth c s₁ Bd hml0 hP hK
  obtain ⟨rfl, hZ, hh⟩ := hP
  have hx := Bd.exec
  have hby := Bd.bytes
  have hml : c.maxLocals = 2 := hml0
  have hown : s.vm.findClass "tributary/DigestsSha256PinLaw" = some m.cls := findClass_of_methodNamed Bd.named
  have hnm := (name_of_methodNamed Bd.named Bd.method).1
  have X0 : Stand p l e ({ frames := 0, cells := 0, slots := 0, locals := 0 } : Room) s m #[(.ref a1), (.int 3)] below meth c s₁ [] 0 0 := Stand.of_body Bd
  have e0 : s₁.heap = h0 := by rw [← hh, Bd.state]; rfl
  have N0 := Fr.nil n0
  refine own_go (B := s₁.setTop (mkF m 0 #[.val (.ref a1), .val (.int 3)] [])) (fun t k => castTop (ef_7_3 m a1) k) ?_
  refine own_go (B := s₁.setTop (mkF m 4 #[.val (.ref a1), .val (.int 3)] [(.int 12), (.ref a1)])) (fun tg kt => ?_) ?_
  · refine XS.aloadN X0.here hx rfl (hb hby d7_0) rfl rfl ?_
    refine XS.iconst X0.here hx rfl (hb hby d7_1) ?_
    refine XS.iloadN X0.here hx rfl (hb hby d7_2) rfl ?_
    refine XS.imul X0.here hx rfl (hb hby d7_3) rfl ?_
    exact kt
  obtain ⟨cl457, Ar457, cq457, cS457, cN457, cH457, cG457⟩ := id V_1
  have hin457 := inb_of (j := (12 : Int32)) cS457 ⟨by decide, by decide⟩
  have hat457 : cl457.slots[((12 : Int32)).toNatClampNeg]? = some (.int (own_iv (vs.getD 12 (.int 0)))) := Has.at cH457 hin457 (hI 12 (by decide))
  refine own_go (B := s₁.setTop (mkF m 18 #[.val (.ref a1), .val (.int 3)] [(.int 13), (.ref a1), (.int (((own_iv (vs.getD 12 (.int 0))) &&& (255 : Int32)) <<< ((24 : Int32) &&& 31)))])) (fun tg kt => ?_) ?_
  · refine X0.baloadBytes hx (j := (12 : Int32)) (v := (.int (own_iv (vs.getD 12 (.int 0))))) (by rw [e0]; exact Ar457.1) (State.isArrayOf_alike hZ.alike Ar457.2.1) Ar457.2.2 hin457 hat457 (g := (mkF m 4 #[.val (.ref a1), .val (.int 3)] [(.int 12), (.ref a1)])) rfl rfl (hb hby d7_4) _ ?_
    refine XS.sipush X0.here hx rfl (hb hby d7_5) ?_
    refine XS.iand X0.here hx rfl (hb hby d7_8) rfl ?_
    refine XS.bipush X0.here hx rfl (hb hby d7_9) ?_
    refine XS.ishl X0.here hx rfl (hb hby d7_11) rfl ?_
    refine XS.aloadN X0.here hx rfl (hb hby d7_12) rfl rfl ?_
    refine XS.iconst X0.here hx rfl (hb hby d7_13) ?_
    refine XS.iloadN X0.here hx rfl (hb hby d7_14) rfl ?_
    refine XS.imul X0.here hx rfl (hb hby d7_15) rfl ?_
    refine XS.iconst X0.here hx rfl (hb hby d7_16) ?_
    refine XS.iadd X0.here hx rfl (hb hby d7_17) rfl ?_
    exact kt
  obtain ⟨cl458, Ar458, cq458, cS458, cN458, cH458, cG458⟩ := id V_1
  have hin458 := inb_of (j := (13 : Int32)) cS458 ⟨by decide, by decide⟩
  have hat458 : cl458.slots[((13 : Int32)).toNatClampNeg]? = some (.int (own_iv (vs.getD 13 (.int 0)))) := Has.at cH458 hin458 (hI 13 (by decide))
  refine own_go (B := s₁.setTop (mkF m 33 #[.val (.ref a1), .val (.int 3)] [(.int 14), (.ref a1), (.int ((((own_iv (vs.getD 12 (.int 0))) &&& (255 : Int32)) <<< ((24 : Int32) &&& 31)) ||| (((own_iv (vs.getD 13 (.int 0))) &&& (255 : Int32)) <<< ((16 : Int32) &&& 31))))])) (fun tg kt => ?_) ?_
  · refine X0.baloadBytes hx (j := (13 : Int32)) (v := (.int (own_iv (vs.getD 13 (.int 0))))) (by rw [e0]; exact Ar458.1) (State.isArrayOf_alike hZ.alike Ar458.2.1) Ar458.2.2 hin458 hat458 (g := (mkF m 18 #[.val (.ref a1), .val (.int 3)] [(.int 13), (.ref a1), (.int (((own_iv (vs.getD 12 (.int 0))) &&& (255 : Int32)) <<< ((24 : Int32) &&& 31)))])) rfl rfl (hb hby d7_18) _ ?_
    refine XS.sipush X0.here hx rfl (hb hby d7_19) ?_
    refine XS.iand X0.here hx rfl (hb hby d7_22) rfl ?_
    refine XS.bipush X0.here hx rfl (hb hby d7_23) ?_
    refine XS.ishl X0.here hx rfl (hb hby d7_25) rfl ?_
    refine XS.ior X0.here hx rfl (hb hby d7_26) rfl ?_
    refine XS.aloadN X0.here hx rfl (hb hby d7_27) rfl rfl ?_
    refine XS.iconst X0.here hx rfl (hb hby d7_28) ?_
    refine XS.iloadN X0.here hx rfl (hb hby d7_29) rfl ?_
    refine XS.imul X0.here hx rfl (hb hby d7_30) rfl ?_
    refine XS.iconst X0.here hx rfl (hb hby d7_31) ?_
    refine XS.iadd X0.here hx rfl (hb hby d7_32) rfl ?_
    exact kt
  obtain ⟨cl459, Ar459, cq459, cS459, cN459, cH459, cG459⟩ := id V_1
  have hin459 := inb_of (j := (14 : Int32)) cS459 ⟨by decide, by decide⟩
  have hat459 : cl459.slots[((14 : Int32)).toNatClampNeg]? = some (.int (own_iv (vs.getD 14 (.int 0)))) := Has.at cH459 hin459 (hI 14 (by decide))
  refine own_go (B := s₁.setTop (mkF m 48 #[.val (.ref a1), .val (.int 3)] [(.int 15), (.ref a1), (.int (((((own_iv (vs.getD 12 (.int 0))) &&& (255 : Int32)) <<< ((24 : Int32) &&& 31)) ||| (((own_iv (vs.getD 13 (.int 0))) &&& (255 : Int32)) <<< ((16 : Int32) &&& 31))) ||| (((own_iv (vs.getD 14 (.int 0))) &&& (255 : Int32)) <<< ((8 : Int32) &&& 31))))])) (fun tg kt => ?_) ?_
  · refine X0.baloadBytes hx (j := (14 : Int32)) (v := (.int (own_iv (vs.getD 14 (.int 0))))) (by rw [e0]; exact Ar459.1) (State.isArrayOf_alike hZ.alike Ar459.2.1) Ar459.2.2 hin459 hat459 (g := (mkF m 33 #[.val (.ref a1), .val (.int 3)] [(.int 14), (.ref a1), (.int ((((own_iv (vs.getD 12 (.int 0))) &&& (255 : Int32)) <<< ((24 : Int32) &&& 31)) ||| (((own_iv (vs.getD 13 (.int 0))) &&& (255 : Int32)) <<< ((16 : Int32) &&& 31))))])) rfl rfl (hb hby d7_33) _ ?_
    refine XS.sipush X0.here hx rfl (hb hby d7_34) ?_
    refine XS.iand X0.here hx rfl (hb hby d7_37) rfl ?_
    refine XS.bipush X0.here hx rfl (hb hby d7_38) ?_
    refine XS.ishl X0.here hx rfl (hb hby d7_40) rfl ?_
    refine XS.ior X0.here hx rfl (hb hby d7_41) rfl ?_
    refine XS.aloadN X0.here hx rfl (hb hby d7_42) rfl rfl ?_
    refine XS.iconst X0.here hx rfl (hb hby d7_43) ?_
    refine XS.iloadN X0.here hx rfl (hb hby d7_44) rfl ?_
    refine XS.imul X0.here hx rfl (hb hby d7_45) rfl ?_
    refine XS.iconst X0.here hx rfl (hb hby d7_46) ?_
    refine XS.iadd X0.here hx rfl (hb hby d7_47) rfl ?_
    exact kt
  obtain ⟨cl460, Ar460, cq460, cS460, cN460, cH460, cG460⟩ := id V_1
  have hin460 := inb_of (j := (15 : Int32)) cS460 ⟨by decide, by decide⟩
  have hat460 : cl460.slots[((15 : Int32)).toNatClampNeg]? = some (.int (own_iv (vs.getD 15 (.int 0)))) := Has.at cH460 hin460 (hI 15 (by decide))
  refine own_go (B := s₁.setTop (mkF m 54 #[.val (.ref a1), .val (.int 3)] [(.int ((((((own_iv (vs.getD 12 (.int 0))) &&& (255 : Int32)) <<< ((24 : Int32) &&& 31)) ||| (((own_iv (vs.getD 13 (.int 0))) &&& (255 : Int32)) <<< ((16 : Int32) &&& 31))) ||| (((own_iv (vs.getD 14 (.int 0))) &&& (255 : Int32)) <<< ((8 : Int32) &&& 31))) ||| ((own_iv (vs.getD 15 (.int 0))) &&& (255 : Int32))))])) (fun tg kt => ?_) ?_
  · refine X0.baloadBytes hx (j := (15 : Int32)) (v := (.int (own_iv (vs.getD 15 (.int 0))))) (by rw [e0]; exact Ar460.1) (State.isArrayOf_alike hZ.alike Ar460.2.1) Ar460.2.2 hin460 hat460 (g := (mkF m 48 #[.val (.ref a1), .val (.int 3)] [(.int 15), (.ref a1), (.int (((((own_iv (vs.getD 12 (.int 0))) &&& (255 : Int32)) <<< ((24 : Int32) &&& 31)) ||| (((own_iv (vs.getD 13 (.int 0))) &&& (255 : Int32)) <<< ((16 : Int32) &&& 31))) ||| (((own_iv (vs.getD 14 (.int 0))) &&& (255 : Int32)) <<< ((8 : Int32) &&& 31))))])) rfl rfl (hb hby d7_48) _ ?_
    refine XS.sipush X0.here hx rfl (hb hby d7_49) ?_
    refine XS.iand X0.here hx rfl (hb hby d7_52) rfl ?_
    refine XS.ior X0.here hx rfl (hb hby d7_53) rfl ?_
    exact kt
  obtain ⟨fs, hr, hrun, hended, hW, hsame⟩ := X0.leave (v := some (.int ((((((own_iv (vs.getD 12 (.int 0))) &&& (255 : Int32)) <<< ((24 : Int32) &&& 31)) ||| (((own_iv (vs.getD 13 (.int 0))) &&& (255 : Int32)) <<< ((16 : Int32) &&& 31))) ||| (((own_iv (vs.getD 14 (.int 0))) &&& (255 : Int32)) <<< ((8 : Int32) &&& 31))) ||| ((own_iv (vs.getD 15 (.int 0))) &&& (255 : Int32))))) (fun h => by rw [Bd.returns] at h; cases h)
  refine ⟨_, _, ?_, hrun, hended, _, _, rfl, ?_, ⟨_, rfl⟩, hW, hsame.mono (by decide) (by decide)⟩
  · exact retI X0 hx Bd.returns (hb hby d7_54) hr
  · show Q7_3 Z a1 k1 vs h0 n0 _ s₁.heap _
    rw [e0]
    exact ⟨rfl, N0, rfl⟩
theorem ef_7_4 (m : MethodId) (a1 : Addr) : entryFrame m #[(.ref a1), (.int 4)] 2 = mkF m 0 #[.val (.ref a1), .val (.int 4)] [] := by first | (simp [entryFrame, mkF, argsToLocals, Value.category]; done) | rfl
def Q7_4 (Z : State) (a1 : Addr) (k1 : ClassId) (vs : List Value) (h0 : Heap) (n0 : Nat) (v : Option Value) (h : Heap) (L : List Loc) : Prop := v = some (.int (own_wd vs 4)) ∧ Fr n0 L ∧ h = h0
set_option maxRecDepth 65536 in
set_option maxHeartbeats 40000000 in
theorem rm7_4 (l : Launch) (Z : State) (a0 : Array Value) (hw : ∀ d ∈ tables_1, d.before a0 Z = true) (ws : List Jvm.Cond) (a1 : Addr) (k1 : ClassId) (vs : List Value) (h0 : Heap) (n0 : Nat) (Z0 : n0 ≤ h0.size) (V_1 : Arv Z h0 a1 k1 .byte (32 : Int32) vs (.int 0)) (hI : ∀ j, j < 32 → vs.getD j (.int 0) = .int (own_iv (vs.getD j (.int 0)))) :
    MetFree l (⟨"tributary/DigestsSha256PinLaw", "word", "([BI)I"⟩ : MethodName) (head1 (Jvm.Cond.code (⟨"tributary/DigestsSha256PinLaw", "word", "([BI)I"⟩ : MethodName) method_5_code 2 (some .int) :: ws) ({ frames := 0, cells := 0, slots := 0, locals := 0 } : Room)) (fun a U => a = #[(.ref a1), (.int 4)] ∧ Z.Warmed39 U.vm ∧ U.heap = h0) (fun _ _ _ _ _ => True) (fun _ U o U' => ∃ v L, o = .returned v ∧ Q7_4 Z a1 k1 vs h0 n0 v U'.heap L ∧ FrameEnd U o U' L ({ frames := 0, cells := 0, slots := 0, locals := 0 } : Room).cells ({ frames := 0, cells := 0, slots := 0, locals := 0 } : Room).slots) := by
  refine MetFree.of_bodySF (plainFor_of_name pn_497) hisR ?_
  intro p e s m args below meth c s₁ Bd hml0 hP hK
  obtain ⟨rfl, hZ, hh⟩ := hP
  have hx := Bd.exec
  have hby := Bd.bytes
  have hml : c.maxLocals = 2 := hml0
  have hown : s.vm.findClass "tributary/DigestsSha256PinLaw" = some m.cls := findClass_of_methodNamed Bd.named
  have hnm := (name_of_methodNamed Bd.named Bd.method).1
  have X0 : Stand p l e ({ frames := 0, cells := 0, slots := 0, locals := 0 } : Room) s m #[(.ref a1), (.int 4)] below meth c s₁ [] 0 0 := Stand.of_body Bd
  have e0 : s₁.heap = h0 := by rw [← hh, Bd.state]; rfl
  have N0 := Fr.nil n0
  refine own_go (B := s₁.setTop (mkF m 0 #[.val (.ref a1), .val (.int 4)] [])) (fun t k => castTop (ef_7_4 m a1) k) ?_
  refine own_go (B := s₁.setTop (mkF m 4 #[.val (.ref a1), .val (.int 4)] [(.int 16), (.ref a1)])) (fun tg kt => ?_) ?_
  · refine XS.aloadN X0.here hx rfl (hb hby d7_0) rfl rfl ?_
    refine XS.iconst X0.here hx rfl (hb hby d7_1) ?_
    refine XS.iloadN X0.here hx rfl (hb hby d7_2) rfl ?_
    refine XS.imul X0.here hx rfl (hb hby d7_3) rfl ?_
    exact kt
  obtain ⟨cl462, Ar462, cq462, cS462, cN462, cH462, cG462⟩ := id V_1
  have hin462 := inb_of (j := (16 : Int32)) cS462 ⟨by decide, by decide⟩
  have hat462 : cl462.slots[((16 : Int32)).toNatClampNeg]? = some (.int (own_iv (vs.getD 16 (.int 0)))) := Has.at cH462 hin462 (hI 16 (by decide))
  refine own_go (B := s₁.setTop (mkF m 18 #[.val (.ref a1), .val (.int 4)] [(.int 17), (.ref a1), (.int (((own_iv (vs.getD 16 (.int 0))) &&& (255 : Int32)) <<< ((24 : Int32) &&& 31)))])) (fun tg kt => ?_) ?_
  · refine X0.baloadBytes hx (j := (16 : Int32)) (v := (.int (own_iv (vs.getD 16 (.int 0))))) (by rw [e0]; exact Ar462.1) (State.isArrayOf_alike hZ.alike Ar462.2.1) Ar462.2.2 hin462 hat462 (g := (mkF m 4 #[.val (.ref a1), .val (.int 4)] [(.int 16), (.ref a1)])) rfl rfl (hb hby d7_4) _ ?_
    refine XS.sipush X0.here hx rfl (hb hby d7_5) ?_
    refine XS.iand X0.here hx rfl (hb hby d7_8) rfl ?_
    refine XS.bipush X0.here hx rfl (hb hby d7_9) ?_
    refine XS.ishl X0.here hx rfl (hb hby d7_11) rfl ?_
    refine XS.aloadN X0.here hx rfl (hb hby d7_12) rfl rfl ?_
    refine XS.iconst X0.here hx rfl (hb hby d7_13) ?_
    refine XS.iloadN X0.here hx rfl (hb hby d7_14) rfl ?_
    refine XS.imul X0.here hx rfl (hb hby d7_15) rfl ?_
    refine XS.iconst X0.here hx rfl (hb hby d7_16) ?_
    refine XS.iadd X0.here hx rfl (hb hby d7_17) rfl ?_
    exact kt
  obtain ⟨cl463, Ar463, cq463, cS463, cN463, cH463, cG463⟩ := id V_1
  have hin463 := inb_of (j := (17 : Int32)) cS463 ⟨by decide, by decide⟩
  have hat463 : cl463.slots[((17 : Int32)).toNatClampNeg]? = some (.int (own_iv (vs.getD 17 (.int 0)))) := Has.at cH463 hin463 (hI 17 (by decide))
  refine own_go (B := s₁.setTop (mkF m 33 #[.val (.ref a1), .val (.int 4)] [(.int 18), (.ref a1), (.int ((((own_iv (vs.getD 16 (.int 0))) &&& (255 : Int32)) <<< ((24 : Int32) &&& 31)) ||| (((own_iv (vs.getD 17 (.int 0))) &&& (255 : Int32)) <<< ((16 : Int32) &&& 31))))])) (fun tg kt => ?_) ?_
  · refine X0.baloadBytes hx (j := (17 : Int32)) (v := (.int (own_iv (vs.getD 17 (.int 0))))) (by rw [e0]; exact Ar463.1) (State.isArrayOf_alike hZ.alike Ar463.2.1) Ar463.2.2 hin463 hat463 (g := (mkF m 18 #[.val (.ref a1), .val (.int 4)] [(.int 17), (.ref a1), (.int (((own_iv (vs.getD 16 (.int 0))) &&& (255 : Int32)) <<< ((24 : Int32) &&& 31)))])) rfl rfl (hb hby d7_18) _ ?_
    refine XS.sipush X0.here hx rfl (hb hby d7_19) ?_
    refine XS.iand X0.here hx rfl (hb hby d7_22) rfl ?_
    refine XS.bipush X0.here hx rfl (hb hby d7_23) ?_
    refine XS.ishl X0.here hx rfl (hb hby d7_25) rfl ?_
    refine XS.ior X0.here hx rfl (hb hby d7_26) rfl ?_
    refine XS.aloadN X0.here hx rfl (hb hby d7_27) rfl rfl ?_
    refine XS.iconst X0.here hx rfl (hb hby d7_28) ?_
    refine XS.iloadN X0.here hx rfl (hb hby d7_29) rfl ?_
    refine XS.imul X0.here hx rfl (hb hby d7_30) rfl ?_
    refine XS.iconst X0.here hx rfl (hb hby d7_31) ?_
    refine XS.iadd X0.here hx rfl (hb hby d7_32) rfl ?_
    exact kt
  obtain ⟨cl464, Ar464, cq464, cS464, cN464, cH464, cG464⟩ := id V_1
  have hin464 := inb_of (j := (18 : Int32)) cS464 ⟨by decide, by decide⟩
  have hat464 : cl464.slots[((18 : Int32)).toNatClampNeg]? = some (.int (own_iv (vs.getD 18 (.int 0)))) := Has.at cH464 hin464 (hI 18 (by decide))
  refine own_go (B := s₁.setTop (mkF m 48 #[.val (.ref a1), .val (.int 4)] [(.int 19), (.ref a1), (.int (((((own_iv (vs.getD 16 (.int 0))) &&& (255 : Int32)) <<< ((24 : Int32) &&& 31)) ||| (((own_iv (vs.getD 17 (.int 0))) &&& (255 : Int32)) <<< ((16 : Int32) &&& 31))) ||| (((own_iv (vs.getD 18 (.int 0))) &&& (255 : Int32)) <<< ((8 : Int32) &&& 31))))])) (fun tg kt => ?_) ?_
  · refine X0.baloadBytes hx (j := (18 : Int32)) (v := (.int (own_iv (vs.getD 18 (.int 0))))) (by rw [e0]; exact Ar464.1) (State.isArrayOf_alike hZ.alike Ar464.2.1) Ar464.2.2 hin464 hat464 (g := (mkF m 33 #[.val (.ref a1), .val (.int 4)] [(.int 18), (.ref a1), (.int ((((own_iv (vs.getD 16 (.int 0))) &&& (255 : Int32)) <<< ((24 : Int32) &&& 31)) ||| (((own_iv (vs.getD 17 (.int 0))) &&& (255 : Int32)) <<< ((16 : Int32) &&& 31))))])) rfl rfl (hb hby d7_33) _ ?_
    refine XS.sipush X0.here hx rfl (hb hby d7_34) ?_
    refine XS.iand X0.here hx rfl (hb hby d7_37) rfl ?_
    refine XS.bipush X0.here hx rfl (hb hby d7_38) ?_
    refine XS.ishl X0.here hx rfl (hb hby d7_40) rfl ?_
    refine XS.ior X0.here hx rfl (hb hby d7_41) rfl ?_
    refine XS.aloadN X0.here hx rfl (hb hby d7_42) rfl rfl ?_
    refine XS.iconst X0.here hx rfl (hb hby d7_43) ?_
    refine XS.iloadN X0.here hx rfl (hb hby d7_44) rfl ?_
    refine XS.imul X0.here hx rfl (hb hby d7_45) rfl ?_
    refine XS.iconst X0.here hx rfl (hb hby d7_46) ?_
    refine XS.iadd X0.here hx rfl (hb hby d7_47) rfl ?_
    exact kt
  obtain ⟨cl465, Ar465, cq465, cS465, cN465, cH465, cG465⟩ := id V_1
  have hin465 := inb_of (j := (19 : Int32)) cS465 ⟨by decide, by decide⟩
  have hat465 : cl465.slots[((19 : Int32)).toNatClampNeg]? = some (.int (own_iv (vs.getD 19 (.int 0)))) := Has.at cH465 hin465 (hI 19 (by decide))
  refine own_go (B := s₁.setTop (mkF m 54 #[.val (.ref a1), .val (.int 4)] [(.int ((((((own_iv (vs.getD 16 (.int 0))) &&& (255 : Int32)) <<< ((24 : Int32) &&& 31)) ||| (((own_iv (vs.getD 17 (.int 0))) &&& (255 : Int32)) <<< ((16 : Int32) &&& 31))) ||| (((own_iv (vs.getD 18 (.int 0))) &&& (255 : Int32)) <<< ((8 : Int32) &&& 31))) ||| ((own_iv (vs.getD 19 (.int 0))) &&& (255 : Int32))))])) (fun tg kt => ?_) ?_
  · refine X0.baloadBytes hx (j := (19 : Int32)) (v := (.int (own_iv (vs.getD 19 (.int 0))))) (by rw [e0]; exact Ar465.1) (State.isArrayOf_alike hZ.alike Ar465.2.1) Ar465.2.2 hin465 hat465 (g := (mkF m 48 #[.val (.ref a1), .val (.int 4)] [(.int 19), (.ref a1), (.int (((((own_iv (vs.getD 16 (.int 0))) &&& (255 : Int32)) <<< ((24 : Int32) &&& 31)) ||| (((own_iv (vs.getD 17 (.int 0))) &&& (255 : Int32)) <<< ((16 : Int32) &&& 31))) ||| (((own_iv (vs.getD 18 (.int 0))) &&& (255 : Int32)) <<< ((8 : Int32) &&& 31))))])) rfl rfl (hb hby d7_48) _ ?_
    refine XS.sipush X0.here hx rfl (hb hby d7_49) ?_
    refine XS.iand X0.here hx rfl (hb hby d7_52) rfl ?_
    refine XS.ior X0.here hx rfl (hb hby d7_53) rfl ?_
    exact kt
  obtain ⟨fs, hr, hrun, hended, hW, hsame⟩ := X0.leave (v := some (.int ((((((own_iv (vs.getD 16 (.int 0))) &&& (255 : Int32)) <<< ((24 : Int32) &&& 31)) ||| (((own_iv (vs.getD 17 (.int 0))) &&& (255 : Int32)) <<< ((16 : Int32) &&& 31))) ||| (((own_iv (vs.getD 18 (.int 0))) &&& (255 : Int32)) <<< ((8 : Int32) &&& 31))) ||| ((own_iv (vs.getD 19 (.int 0))) &&& (255 : Int32))))) (fun h => by rw [Bd.returns] at h; cases h)
  refine ⟨_, _, ?_, hrun, hended, _, _, rfl, ?_, ⟨_, rfl⟩, hW, hsame.mono (by decide) (by decide)⟩
  · exact retI X0 hx Bd.returns (hb hby d7_54) hr
  · show Q7_4 Z a1 k1 vs h0 n0 _ s₁.heap _
    rw [e0]
    exact ⟨rfl, N0, rfl⟩
theorem ef_7_5 (m : MethodId) (a1 : Addr) : entryFrame m #[(.ref a1), (.int 5)] 2 = mkF m 0 #[.val (.ref a1), .val (.int 5)] [] := by first | (simp [entryFrame, mkF, argsToLocals, Value.category]; done) | rfl
def Q7_5 (Z : State) (a1 : Addr) (k1 : ClassId) (vs : List Value) (h0 : Heap) (n0 : Nat) (v : Option Value) (h : Heap) (L : List Loc) : Prop := v = some (.int (own_wd vs 5)) ∧ Fr n0 L ∧ h = h0
set_option maxRecDepth 65536 in
set_option maxHeartbeats 40000000 in
theorem rm7_5 (l : Launch) (Z : State) (a0 : Array Value) (hw : ∀ d ∈ tables_1, d.before a0 Z = true) (ws : List Jvm.Cond) (a1 : Addr) (k1 : ClassId) (vs : List Value) (h0 : Heap) (n0 : Nat) (Z0 : n0 ≤ h0.size) (V_1 : Arv Z h0 a1 k1 .byte (32 : Int32) vs (.int 0)) (hI : ∀ j, j < 32 → vs.getD j (.int 0) = .int (own_iv (vs.getD j (.int 0)))) :
    MetFree l (⟨"tributary/DigestsSha256PinLaw", "word", "([BI)I"⟩ : MethodName) (head1 (Jvm.Cond.code (⟨"tributary/DigestsSha256PinLaw", "word", "([BI)I"⟩ : MethodName) method_5_code 2 (some .int) :: ws) ({ frames := 0, cells := 0, slots := 0, locals := 0 } : Room)) (fun a U => a = #[(.ref a1), (.int 5)] ∧ Z.Warmed39 U.vm ∧ U.heap = h0) (fun _ _ _ _ _ => True) (fun _ U o U' => ∃ v L, o = .returned v ∧ Q7_5 Z a1 k1 vs h0 n0 v U'.heap L ∧ FrameEnd U o U' L ({ frames := 0, cells := 0, slots := 0, locals := 0 } : Room).cells ({ frames := 0, cells := 0, slots := 0, locals := 0 } : Room).slots) := by
  refine MetFree.of_bodySF (plainFor_of_name pn_497) hisR ?_
  intro p e s m args below meth c s₁ Bd hml0 hP hK
  obtain ⟨rfl, hZ, hh⟩ := hP
  have hx := Bd.exec
  have hby := Bd.bytes
  have hml : c.maxLocals = 2 := hml0
  have hown : s.vm.findClass "tributary/DigestsSha256PinLaw" = some m.cls := findClass_of_methodNamed Bd.named
  have hnm := (name_of_methodNamed Bd.named Bd.method).1
  have X0 : Stand p l e ({ frames := 0, cells := 0, slots := 0, locals := 0 } : Room) s m #[(.ref a1), (.int 5)] below meth c s₁ [] 0 0 := Stand.of_body Bd
  have e0 : s₁.heap = h0 := by rw [← hh, Bd.state]; rfl
  have N0 := Fr.nil n0
  refine own_go (B := s₁.setTop (mkF m 0 #[.val (.ref a1), .val (.int 5)] [])) (fun t k => castTop (ef_7_5 m a1) k) ?_
  refine own_go (B := s₁.setTop (mkF m 4 #[.val (.ref a1), .val (.int 5)] [(.int 20), (.ref a1)])) (fun tg kt => ?_) ?_
  · refine XS.aloadN X0.here hx rfl (hb hby d7_0) rfl rfl ?_
    refine XS.iconst X0.here hx rfl (hb hby d7_1) ?_
    refine XS.iloadN X0.here hx rfl (hb hby d7_2) rfl ?_
    refine XS.imul X0.here hx rfl (hb hby d7_3) rfl ?_
    exact kt
  obtain ⟨cl467, Ar467, cq467, cS467, cN467, cH467, cG467⟩ := id V_1
  have hin467 := inb_of (j := (20 : Int32)) cS467 ⟨by decide, by decide⟩
  have hat467 : cl467.slots[((20 : Int32)).toNatClampNeg]? = some (.int (own_iv (vs.getD 20 (.int 0)))) := Has.at cH467 hin467 (hI 20 (by decide))
  refine own_go (B := s₁.setTop (mkF m 18 #[.val (.ref a1), .val (.int 5)] [(.int 21), (.ref a1), (.int (((own_iv (vs.getD 20 (.int 0))) &&& (255 : Int32)) <<< ((24 : Int32) &&& 31)))])) (fun tg kt => ?_) ?_
  · refine X0.baloadBytes hx (j := (20 : Int32)) (v := (.int (own_iv (vs.getD 20 (.int 0))))) (by rw [e0]; exact Ar467.1) (State.isArrayOf_alike hZ.alike Ar467.2.1) Ar467.2.2 hin467 hat467 (g := (mkF m 4 #[.val (.ref a1), .val (.int 5)] [(.int 20), (.ref a1)])) rfl rfl (hb hby d7_4) _ ?_
    refine XS.sipush X0.here hx rfl (hb hby d7_5) ?_
    refine XS.iand X0.here hx rfl (hb hby d7_8) rfl ?_
    refine XS.bipush X0.here hx rfl (hb hby d7_9) ?_
    refine XS.ishl X0.here hx rfl (hb hby d7_11) rfl ?_
    refine XS.aloadN X0.here hx rfl (hb hby d7_12) rfl rfl ?_
    refine XS.iconst X0.here hx rfl (hb hby d7_13) ?_
    refine XS.iloadN X0.here hx rfl (hb hby d7_14) rfl ?_
    refine XS.imul X0.here hx rfl (hb hby d7_15) rfl ?_
    refine XS.iconst X0.here hx rfl (hb hby d7_16) ?_
    refine XS.iadd X0.here hx rfl (hb hby d7_17) rfl ?_
    exact kt
  obtain ⟨cl468, Ar468, cq468, cS468, cN468, cH468, cG468⟩ := id V_1
  have hin468 := inb_of (j := (21 : Int32)) cS468 ⟨by decide, by decide⟩
  have hat468 : cl468.slots[((21 : Int32)).toNatClampNeg]? = some (.int (own_iv (vs.getD 21 (.int 0)))) := Has.at cH468 hin468 (hI 21 (by decide))
  refine own_go (B := s₁.setTop (mkF m 33 #[.val (.ref a1), .val (.int 5)] [(.int 22), (.ref a1), (.int ((((own_iv (vs.getD 20 (.int 0))) &&& (255 : Int32)) <<< ((24 : Int32) &&& 31)) ||| (((own_iv (vs.getD 21 (.int 0))) &&& (255 : Int32)) <<< ((16 : Int32) &&& 31))))])) (fun tg kt => ?_) ?_
  · refine X0.baloadBytes hx (j := (21 : Int32)) (v := (.int (own_iv (vs.getD 21 (.int 0))))) (by rw [e0]; exact Ar468.1) (State.isArrayOf_alike hZ.alike Ar468.2.1) Ar468.2.2 hin468 hat468 (g := (mkF m 18 #[.val (.ref a1), .val (.int 5)] [(.int 21), (.ref a1), (.int (((own_iv (vs.getD 20 (.int 0))) &&& (255 : Int32)) <<< ((24 : Int32) &&& 31)))])) rfl rfl (hb hby d7_18) _ ?_
    refine XS.sipush X0.here hx rfl (hb hby d7_19) ?_
    refine XS.iand X0.here hx rfl (hb hby d7_22) rfl ?_
    refine XS.bipush X0.here hx rfl (hb hby d7_23) ?_
    refine XS.ishl X0.here hx rfl (hb hby d7_25) rfl ?_
    refine XS.ior X0.here hx rfl (hb hby d7_26) rfl ?_
    refine XS.aloadN X0.here hx rfl (hb hby d7_27) rfl rfl ?_
    refine XS.iconst X0.here hx rfl (hb hby d7_28) ?_
    refine XS.iloadN X0.here hx rfl (hb hby d7_29) rfl ?_
    refine XS.imul X0.here hx rfl (hb hby d7_30) rfl ?_
    refine XS.iconst X0.here hx rfl (hb hby d7_31) ?_
    refine XS.iadd X0.here hx rfl (hb hby d7_32) rfl ?_
    exact kt
  obtain ⟨cl469, Ar469, cq469, cS469, cN469, cH469, cG469⟩ := id V_1
  have hin469 := inb_of (j := (22 : Int32)) cS469 ⟨by decide, by decide⟩
  have hat469 : cl469.slots[((22 : Int32)).toNatClampNeg]? = some (.int (own_iv (vs.getD 22 (.int 0)))) := Has.at cH469 hin469 (hI 22 (by decide))
  refine own_go (B := s₁.setTop (mkF m 48 #[.val (.ref a1), .val (.int 5)] [(.int 23), (.ref a1), (.int (((((own_iv (vs.getD 20 (.int 0))) &&& (255 : Int32)) <<< ((24 : Int32) &&& 31)) ||| (((own_iv (vs.getD 21 (.int 0))) &&& (255 : Int32)) <<< ((16 : Int32) &&& 31))) ||| (((own_iv (vs.getD 22 (.int 0))) &&& (255 : Int32)) <<< ((8 : Int32) &&& 31))))])) (fun tg kt => ?_) ?_
  · refine X0.baloadBytes hx (j := (22 : Int32)) (v := (.int (own_iv (vs.getD 22 (.int 0))))) (by rw [e0]; exact Ar469.1) (State.isArrayOf_alike hZ.alike Ar469.2.1) Ar469.2.2 hin469 hat469 (g := (mkF m 33 #[.val (.ref a1), .val (.int 5)] [(.int 22), (.ref a1), (.int ((((own_iv (vs.getD 20 (.int 0))) &&& (255 : Int32)) <<< ((24 : Int32) &&& 31)) ||| (((own_iv (vs.getD 21 (.int 0))) &&& (255 : Int32)) <<< ((16 : Int32) &&& 31))))])) rfl rfl (hb hby d7_33) _ ?_
    refine XS.sipush X0.here hx rfl (hb hby d7_34) ?_
    refine XS.iand X0.here hx rfl (hb hby d7_37) rfl ?_
    refine XS.bipush X0.here hx rfl (hb hby d7_38) ?_
    refine XS.ishl X0.here hx rfl (hb hby d7_40) rfl ?_
    refine XS.ior X0.here hx rfl (hb hby d7_41) rfl ?_
    refine XS.aloadN X0.here hx rfl (hb hby d7_42) rfl rfl ?_
    refine XS.iconst X0.here hx rfl (hb hby d7_43) ?_
    refine XS.iloadN X0.here hx rfl (hb hby d7_44) rfl ?_
    refine XS.imul X0.here hx rfl (hb hby d7_45) rfl ?_
    refine XS.iconst X0.here hx rfl (hb hby d7_46) ?_
    refine XS.iadd X0.here hx rfl (hb hby d7_47) rfl ?_
    exact kt
  obtain ⟨cl470, Ar470, cq470, cS470, cN470, cH470, cG470⟩ := id V_1
  have hin470 := inb_of (j := (23 : Int32)) cS470 ⟨by decide, by decide⟩
  have hat470 : cl470.slots[((23 : Int32)).toNatClampNeg]? = some (.int (own_iv (vs.getD 23 (.int 0)))) := Has.at cH470 hin470 (hI 23 (by decide))
  refine own_go (B := s₁.setTop (mkF m 54 #[.val (.ref a1), .val (.int 5)] [(.int ((((((own_iv (vs.getD 20 (.int 0))) &&& (255 : Int32)) <<< ((24 : Int32) &&& 31)) ||| (((own_iv (vs.getD 21 (.int 0))) &&& (255 : Int32)) <<< ((16 : Int32) &&& 31))) ||| (((own_iv (vs.getD 22 (.int 0))) &&& (255 : Int32)) <<< ((8 : Int32) &&& 31))) ||| ((own_iv (vs.getD 23 (.int 0))) &&& (255 : Int32))))])) (fun tg kt => ?_) ?_
  · refine X0.baloadBytes hx (j := (23 : Int32)) (v := (.int (own_iv (vs.getD 23 (.int 0))))) (by rw [e0]; exact Ar470.1) (State.isArrayOf_alike hZ.alike Ar470.2.1) Ar470.2.2 hin470 hat470 (g := (mkF m 48 #[.val (.ref a1), .val (.int 5)] [(.int 23), (.ref a1), (.int (((((own_iv (vs.getD 20 (.int 0))) &&& (255 : Int32)) <<< ((24 : Int32) &&& 31)) ||| (((own_iv (vs.getD 21 (.int 0))) &&& (255 : Int32)) <<< ((16 : Int32) &&& 31))) ||| (((own_iv (vs.getD 22 (.int 0))) &&& (255 : Int32)) <<< ((8 : Int32) &&& 31))))])) rfl rfl (hb hby d7_48) _ ?_
    refine XS.sipush X0.here hx rfl (hb hby d7_49) ?_
    refine XS.iand X0.here hx rfl (hb hby d7_52) rfl ?_
    refine XS.ior X0.here hx rfl (hb hby d7_53) rfl ?_
    exact kt
  obtain ⟨fs, hr, hrun, hended, hW, hsame⟩ := X0.leave (v := some (.int ((((((own_iv (vs.getD 20 (.int 0))) &&& (255 : Int32)) <<< ((24 : Int32) &&& 31)) ||| (((own_iv (vs.getD 21 (.int 0))) &&& (255 : Int32)) <<< ((16 : Int32) &&& 31))) ||| (((own_iv (vs.getD 22 (.int 0))) &&& (255 : Int32)) <<< ((8 : Int32) &&& 31))) ||| ((own_iv (vs.getD 23 (.int 0))) &&& (255 : Int32))))) (fun h => by rw [Bd.returns] at h; cases h)
  refine ⟨_, _, ?_, hrun, hended, _, _, rfl, ?_, ⟨_, rfl⟩, hW, hsame.mono (by decide) (by decide)⟩
  · exact retI X0 hx Bd.returns (hb hby d7_54) hr
  · show Q7_5 Z a1 k1 vs h0 n0 _ s₁.heap _
    rw [e0]
    exact ⟨rfl, N0, rfl⟩
theorem ef_7_6 (m : MethodId) (a1 : Addr) : entryFrame m #[(.ref a1), (.int 6)] 2 = mkF m 0 #[.val (.ref a1), .val (.int 6)] [] := by first | (simp [entryFrame, mkF, argsToLocals, Value.category]; done) | rfl
def Q7_6 (Z : State) (a1 : Addr) (k1 : ClassId) (vs : List Value) (h0 : Heap) (n0 : Nat) (v : Option Value) (h : Heap) (L : List Loc) : Prop := v = some (.int (own_wd vs 6)) ∧ Fr n0 L ∧ h = h0
set_option maxRecDepth 65536 in
set_option maxHeartbeats 40000000 in
theorem rm7_6 (l : Launch) (Z : State) (a0 : Array Value) (hw : ∀ d ∈ tables_1, d.before a0 Z = true) (ws : List Jvm.Cond) (a1 : Addr) (k1 : ClassId) (vs : List Value) (h0 : Heap) (n0 : Nat) (Z0 : n0 ≤ h0.size) (V_1 : Arv Z h0 a1 k1 .byte (32 : Int32) vs (.int 0)) (hI : ∀ j, j < 32 → vs.getD j (.int 0) = .int (own_iv (vs.getD j (.int 0)))) :
    MetFree l (⟨"tributary/DigestsSha256PinLaw", "word", "([BI)I"⟩ : MethodName) (head1 (Jvm.Cond.code (⟨"tributary/DigestsSha256PinLaw", "word", "([BI)I"⟩ : MethodName) method_5_code 2 (some .int) :: ws) ({ frames := 0, cells := 0, slots := 0, locals := 0 } : Room)) (fun a U => a = #[(.ref a1), (.int 6)] ∧ Z.Warmed39 U.vm ∧ U.heap = h0) (fun _ _ _ _ _ => True) (fun _ U o U' => ∃ v L, o = .returned v ∧ Q7_6 Z a1 k1 vs h0 n0 v U'.heap L ∧ FrameEnd U o U' L ({ frames := 0, cells := 0, slots := 0, locals := 0 } : Room).cells ({ frames := 0, cells := 0, slots := 0, locals := 0 } : Room).slots) := by
  refine MetFree.of_bodySF (plainFor_of_name pn_497) hisR ?_
  intro p e s m args below meth c s₁ Bd hml0 hP hK
  obtain ⟨rfl, hZ, hh⟩ := hP
  have hx := Bd.exec
  have hby := Bd.bytes
  have hml : c.maxLocals = 2 := hml0
  have hown : s.vm.findClass "tributary/DigestsSha256PinLaw" = some m.cls := findClass_of_methodNamed Bd.named
  have hnm := (name_of_methodNamed Bd.named Bd.method).1
  have X0 : Stand p l e ({ frames := 0, cells := 0, slots := 0, locals := 0 } : Room) s m #[(.ref a1), (.int 6)] below meth c s₁ [] 0 0 := Stand.of_body Bd
  have e0 : s₁.heap = h0 := by rw [← hh, Bd.state]; rfl
  have N0 := Fr.nil n0
  refine own_go (B := s₁.setTop (mkF m 0 #[.val (.ref a1), .val (.int 6)] [])) (fun t k => castTop (ef_7_6 m a1) k) ?_
  refine own_go (B := s₁.setTop (mkF m 4 #[.val (.ref a1), .val (.int 6)] [(.int 24), (.ref a1)])) (fun tg kt => ?_) ?_
  · refine XS.aloadN X0.here hx rfl (hb hby d7_0) rfl rfl ?_
    refine XS.iconst X0.here hx rfl (hb hby d7_1) ?_
    refine XS.iloadN X0.here hx rfl (hb hby d7_2) rfl ?_
    refine XS.imul X0.here hx rfl (hb hby d7_3) rfl ?_
    exact kt
  obtain ⟨cl472, Ar472, cq472, cS472, cN472, cH472, cG472⟩ := id V_1
  have hin472 := inb_of (j := (24 : Int32)) cS472 ⟨by decide, by decide⟩
  have hat472 : cl472.slots[((24 : Int32)).toNatClampNeg]? = some (.int (own_iv (vs.getD 24 (.int 0)))) := Has.at cH472 hin472 (hI 24 (by decide))
  refine own_go (B := s₁.setTop (mkF m 18 #[.val (.ref a1), .val (.int 6)] [(.int 25), (.ref a1), (.int (((own_iv (vs.getD 24 (.int 0))) &&& (255 : Int32)) <<< ((24 : Int32) &&& 31)))])) (fun tg kt => ?_) ?_
  · refine X0.baloadBytes hx (j := (24 : Int32)) (v := (.int (own_iv (vs.getD 24 (.int 0))))) (by rw [e0]; exact Ar472.1) (State.isArrayOf_alike hZ.alike Ar472.2.1) Ar472.2.2 hin472 hat472 (g := (mkF m 4 #[.val (.ref a1), .val (.int 6)] [(.int 24), (.ref a1)])) rfl rfl (hb hby d7_4) _ ?_
    refine XS.sipush X0.here hx rfl (hb hby d7_5) ?_
    refine XS.iand X0.here hx rfl (hb hby d7_8) rfl ?_
    refine XS.bipush X0.here hx rfl (hb hby d7_9) ?_
    refine XS.ishl X0.here hx rfl (hb hby d7_11) rfl ?_
    refine XS.aloadN X0.here hx rfl (hb hby d7_12) rfl rfl ?_
    refine XS.iconst X0.here hx rfl (hb hby d7_13) ?_
    refine XS.iloadN X0.here hx rfl (hb hby d7_14) rfl ?_
    refine XS.imul X0.here hx rfl (hb hby d7_15) rfl ?_
    refine XS.iconst X0.here hx rfl (hb hby d7_16) ?_
    refine XS.iadd X0.here hx rfl (hb hby d7_17) rfl ?_
    exact kt
  obtain ⟨cl473, Ar473, cq473, cS473, cN473, cH473, cG473⟩ := id V_1
  have hin473 := inb_of (j := (25 : Int32)) cS473 ⟨by decide, by decide⟩
  have hat473 : cl473.slots[((25 : Int32)).toNatClampNeg]? = some (.int (own_iv (vs.getD 25 (.int 0)))) := Has.at cH473 hin473 (hI 25 (by decide))
  refine own_go (B := s₁.setTop (mkF m 33 #[.val (.ref a1), .val (.int 6)] [(.int 26), (.ref a1), (.int ((((own_iv (vs.getD 24 (.int 0))) &&& (255 : Int32)) <<< ((24 : Int32) &&& 31)) ||| (((own_iv (vs.getD 25 (.int 0))) &&& (255 : Int32)) <<< ((16 : Int32) &&& 31))))])) (fun tg kt => ?_) ?_
  · refine X0.baloadBytes hx (j := (25 : Int32)) (v := (.int (own_iv (vs.getD 25 (.int 0))))) (by rw [e0]; exact Ar473.1) (State.isArrayOf_alike hZ.alike Ar473.2.1) Ar473.2.2 hin473 hat473 (g := (mkF m 18 #[.val (.ref a1), .val (.int 6)] [(.int 25), (.ref a1), (.int (((own_iv (vs.getD 24 (.int 0))) &&& (255 : Int32)) <<< ((24 : Int32) &&& 31)))])) rfl rfl (hb hby d7_18) _ ?_
    refine XS.sipush X0.here hx rfl (hb hby d7_19) ?_
    refine XS.iand X0.here hx rfl (hb hby d7_22) rfl ?_
    refine XS.bipush X0.here hx rfl (hb hby d7_23) ?_
    refine XS.ishl X0.here hx rfl (hb hby d7_25) rfl ?_
    refine XS.ior X0.here hx rfl (hb hby d7_26) rfl ?_
    refine XS.aloadN X0.here hx rfl (hb hby d7_27) rfl rfl ?_
    refine XS.iconst X0.here hx rfl (hb hby d7_28) ?_
    refine XS.iloadN X0.here hx rfl (hb hby d7_29) rfl ?_
    refine XS.imul X0.here hx rfl (hb hby d7_30) rfl ?_
    refine XS.iconst X0.here hx rfl (hb hby d7_31) ?_
    refine XS.iadd X0.here hx rfl (hb hby d7_32) rfl ?_
    exact kt
  obtain ⟨cl474, Ar474, cq474, cS474, cN474, cH474, cG474⟩ := id V_1
  have hin474 := inb_of (j := (26 : Int32)) cS474 ⟨by decide, by decide⟩
  have hat474 : cl474.slots[((26 : Int32)).toNatClampNeg]? = some (.int (own_iv (vs.getD 26 (.int 0)))) := Has.at cH474 hin474 (hI 26 (by decide))
  refine own_go (B := s₁.setTop (mkF m 48 #[.val (.ref a1), .val (.int 6)] [(.int 27), (.ref a1), (.int (((((own_iv (vs.getD 24 (.int 0))) &&& (255 : Int32)) <<< ((24 : Int32) &&& 31)) ||| (((own_iv (vs.getD 25 (.int 0))) &&& (255 : Int32)) <<< ((16 : Int32) &&& 31))) ||| (((own_iv (vs.getD 26 (.int 0))) &&& (255 : Int32)) <<< ((8 : Int32) &&& 31))))])) (fun tg kt => ?_) ?_
  · refine X0.baloadBytes hx (j := (26 : Int32)) (v := (.int (own_iv (vs.getD 26 (.int 0))))) (by rw [e0]; exact Ar474.1) (State.isArrayOf_alike hZ.alike Ar474.2.1) Ar474.2.2 hin474 hat474 (g := (mkF m 33 #[.val (.ref a1), .val (.int 6)] [(.int 26), (.ref a1), (.int ((((own_iv (vs.getD 24 (.int 0))) &&& (255 : Int32)) <<< ((24 : Int32) &&& 31)) ||| (((own_iv (vs.getD 25 (.int 0))) &&& (255 : Int32)) <<< ((16 : Int32) &&& 31))))])) rfl rfl (hb hby d7_33) _ ?_
    refine XS.sipush X0.here hx rfl (hb hby d7_34) ?_
    refine XS.iand X0.here hx rfl (hb hby d7_37) rfl ?_
    refine XS.bipush X0.here hx rfl (hb hby d7_38) ?_
    refine XS.ishl X0.here hx rfl (hb hby d7_40) rfl ?_
    refine XS.ior X0.here hx rfl (hb hby d7_41) rfl ?_
    refine XS.aloadN X0.here hx rfl (hb hby d7_42) rfl rfl ?_
    refine XS.iconst X0.here hx rfl (hb hby d7_43) ?_
    refine XS.iloadN X0.here hx rfl (hb hby d7_44) rfl ?_
    refine XS.imul X0.here hx rfl (hb hby d7_45) rfl ?_
    refine XS.iconst X0.here hx rfl (hb hby d7_46) ?_
    refine XS.iadd X0.here hx rfl (hb hby d7_47) rfl ?_
    exact kt
  obtain ⟨cl475, Ar475, cq475, cS475, cN475, cH475, cG475⟩ := id V_1
  have hin475 := inb_of (j := (27 : Int32)) cS475 ⟨by decide, by decide⟩
  have hat475 : cl475.slots[((27 : Int32)).toNatClampNeg]? = some (.int (own_iv (vs.getD 27 (.int 0)))) := Has.at cH475 hin475 (hI 27 (by decide))
  refine own_go (B := s₁.setTop (mkF m 54 #[.val (.ref a1), .val (.int 6)] [(.int ((((((own_iv (vs.getD 24 (.int 0))) &&& (255 : Int32)) <<< ((24 : Int32) &&& 31)) ||| (((own_iv (vs.getD 25 (.int 0))) &&& (255 : Int32)) <<< ((16 : Int32) &&& 31))) ||| (((own_iv (vs.getD 26 (.int 0))) &&& (255 : Int32)) <<< ((8 : Int32) &&& 31))) ||| ((own_iv (vs.getD 27 (.int 0))) &&& (255 : Int32))))])) (fun tg kt => ?_) ?_
  · refine X0.baloadBytes hx (j := (27 : Int32)) (v := (.int (own_iv (vs.getD 27 (.int 0))))) (by rw [e0]; exact Ar475.1) (State.isArrayOf_alike hZ.alike Ar475.2.1) Ar475.2.2 hin475 hat475 (g := (mkF m 48 #[.val (.ref a1), .val (.int 6)] [(.int 27), (.ref a1), (.int (((((own_iv (vs.getD 24 (.int 0))) &&& (255 : Int32)) <<< ((24 : Int32) &&& 31)) ||| (((own_iv (vs.getD 25 (.int 0))) &&& (255 : Int32)) <<< ((16 : Int32) &&& 31))) ||| (((own_iv (vs.getD 26 (.int 0))) &&& (255 : Int32)) <<< ((8 : Int32) &&& 31))))])) rfl rfl (hb hby d7_48) _ ?_
    refine XS.sipush X0.here hx rfl (hb hby d7_49) ?_
    refine XS.iand X0.here hx rfl (hb hby d7_52) rfl ?_
    refine XS.ior X0.here hx rfl (hb hby d7_53) rfl ?_
    exact kt
  obtain ⟨fs, hr, hrun, hended, hW, hsame⟩ := X0.leave (v := some (.int ((((((own_iv (vs.getD 24 (.int 0))) &&& (255 : Int32)) <<< ((24 : Int32) &&& 31)) ||| (((own_iv (vs.getD 25 (.int 0))) &&& (255 : Int32)) <<< ((16 : Int32) &&& 31))) ||| (((own_iv (vs.getD 26 (.int 0))) &&& (255 : Int32)) <<< ((8 : Int32) &&& 31))) ||| ((own_iv (vs.getD 27 (.int 0))) &&& (255 : Int32))))) (fun h => by rw [Bd.returns] at h; cases h)
  refine ⟨_, _, ?_, hrun, hended, _, _, rfl, ?_, ⟨_, rfl⟩, hW, hsame.mono (by decide) (by decide)⟩
  · exact retI X0 hx Bd.returns (hb hby d7_54) hr
  · show Q7_6 Z a1 k1 vs h0 n0 _ s₁.heap _
    rw [e0]
    exact ⟨rfl, N0, rfl⟩
theorem ef_7_7 (m : MethodId) (a1 : Addr) : entryFrame m #[(.ref a1), (.int 7)] 2 = mkF m 0 #[.val (.ref a1), .val (.int 7)] [] := by first | (simp [entryFrame, mkF, argsToLocals, Value.category]; done) | rfl
def Q7_7 (Z : State) (a1 : Addr) (k1 : ClassId) (vs : List Value) (h0 : Heap) (n0 : Nat) (v : Option Value) (h : Heap) (L : List Loc) : Prop := v = some (.int (own_wd vs 7)) ∧ Fr n0 L ∧ h = h0
set_option maxRecDepth 65536 in
set_option maxHeartbeats 40000000 in
theorem rm7_7 (l : Launch) (Z : State) (a0 : Array Value) (hw : ∀ d ∈ tables_1, d.before a0 Z = true) (ws : List Jvm.Cond) (a1 : Addr) (k1 : ClassId) (vs : List Value) (h0 : Heap) (n0 : Nat) (Z0 : n0 ≤ h0.size) (V_1 : Arv Z h0 a1 k1 .byte (32 : Int32) vs (.int 0)) (hI : ∀ j, j < 32 → vs.getD j (.int 0) = .int (own_iv (vs.getD j (.int 0)))) :
    MetFree l (⟨"tributary/DigestsSha256PinLaw", "word", "([BI)I"⟩ : MethodName) (head1 (Jvm.Cond.code (⟨"tributary/DigestsSha256PinLaw", "word", "([BI)I"⟩ : MethodName) method_5_code 2 (some .int) :: ws) ({ frames := 0, cells := 0, slots := 0, locals := 0 } : Room)) (fun a U => a = #[(.ref a1), (.int 7)] ∧ Z.Warmed39 U.vm ∧ U.heap = h0) (fun _ _ _ _ _ => True) (fun _ U o U' => ∃ v L, o = .returned v ∧ Q7_7 Z a1 k1 vs h0 n0 v U'.heap L ∧ FrameEnd U o U' L ({ frames := 0, cells := 0, slots := 0, locals := 0 } : Room).cells ({ frames := 0, cells := 0, slots := 0, locals := 0 } : Room).slots) := by
  refine MetFree.of_bodySF (plainFor_of_name pn_497) hisR ?_
  intro p e s m args below meth c s₁ Bd hml0 hP hK
  obtain ⟨rfl, hZ, hh⟩ := hP
  have hx := Bd.exec
  have hby := Bd.bytes
  have hml : c.maxLocals = 2 := hml0
  have hown : s.vm.findClass "tributary/DigestsSha256PinLaw" = some m.cls := findClass_of_methodNamed Bd.named
  have hnm := (name_of_methodNamed Bd.named Bd.method).1
  have X0 : Stand p l e ({ frames := 0, cells := 0, slots := 0, locals := 0 } : Room) s m #[(.ref a1), (.int 7)] below meth c s₁ [] 0 0 := Stand.of_body Bd
  have e0 : s₁.heap = h0 := by rw [← hh, Bd.state]; rfl
  have N0 := Fr.nil n0
  refine own_go (B := s₁.setTop (mkF m 0 #[.val (.ref a1), .val (.int 7)] [])) (fun t k => castTop (ef_7_7 m a1) k) ?_
  refine own_go (B := s₁.setTop (mkF m 4 #[.val (.ref a1), .val (.int 7)] [(.int 28), (.ref a1)])) (fun tg kt => ?_) ?_
  · refine XS.aloadN X0.here hx rfl (hb hby d7_0) rfl rfl ?_
    refine XS.iconst X0.here hx rfl (hb hby d7_1) ?_
    refine XS.iloadN X0.here hx rfl (hb hby d7_2) rfl ?_
    refine XS.imul X0.here hx rfl (hb hby d7_3) rfl ?_
    exact kt
  obtain ⟨cl477, Ar477, cq477, cS477, cN477, cH477, cG477⟩ := id V_1
  have hin477 := inb_of (j := (28 : Int32)) cS477 ⟨by decide, by decide⟩
  have hat477 : cl477.slots[((28 : Int32)).toNatClampNeg]? = some (.int (own_iv (vs.getD 28 (.int 0)))) := Has.at cH477 hin477 (hI 28 (by decide))
  refine own_go (B := s₁.setTop (mkF m 18 #[.val (.ref a1), .val (.int 7)] [(.int 29), (.ref a1), (.int (((own_iv (vs.getD 28 (.int 0))) &&& (255 : Int32)) <<< ((24 : Int32) &&& 31)))])) (fun tg kt => ?_) ?_
  · refine X0.baloadBytes hx (j := (28 : Int32)) (v := (.int (own_iv (vs.getD 28 (.int 0))))) (by rw [e0]; exact Ar477.1) (State.isArrayOf_alike hZ.alike Ar477.2.1) Ar477.2.2 hin477 hat477 (g := (mkF m 4 #[.val (.ref a1), .val (.int 7)] [(.int 28), (.ref a1)])) rfl rfl (hb hby d7_4) _ ?_
    refine XS.sipush X0.here hx rfl (hb hby d7_5) ?_
    refine XS.iand X0.here hx rfl (hb hby d7_8) rfl ?_
    refine XS.bipush X0.here hx rfl (hb hby d7_9) ?_
    refine XS.ishl X0.here hx rfl (hb hby d7_11) rfl ?_
    refine XS.aloadN X0.here hx rfl (hb hby d7_12) rfl rfl ?_
    refine XS.iconst X0.here hx rfl (hb hby d7_13) ?_
    refine XS.iloadN X0.here hx rfl (hb hby d7_14) rfl ?_
    refine XS.imul X0.here hx rfl (hb hby d7_15) rfl ?_
    refine XS.iconst X0.here hx rfl (hb hby d7_16) ?_
    refine XS.iadd X0.here hx rfl (hb hby d7_17) rfl ?_
    exact kt
  obtain ⟨cl478, Ar478, cq478, cS478, cN478, cH478, cG478⟩ := id V_1
  have hin478 := inb_of (j := (29 : Int32)) cS478 ⟨by decide, by decide⟩
  have hat478 : cl478.slots[((29 : Int32)).toNatClampNeg]? = some (.int (own_iv (vs.getD 29 (.int 0)))) := Has.at cH478 hin478 (hI 29 (by decide))
  refine own_go (B := s₁.setTop (mkF m 33 #[.val (.ref a1), .val (.int 7)] [(.int 30), (.ref a1), (.int ((((own_iv (vs.getD 28 (.int 0))) &&& (255 : Int32)) <<< ((24 : Int32) &&& 31)) ||| (((own_iv (vs.getD 29 (.int 0))) &&& (255 : Int32)) <<< ((16 : Int32) &&& 31))))])) (fun tg kt => ?_) ?_
  · refine X0.baloadBytes hx (j := (29 : Int32)) (v := (.int (own_iv (vs.getD 29 (.int 0))))) (by rw [e0]; exact Ar478.1) (State.isArrayOf_alike hZ.alike Ar478.2.1) Ar478.2.2 hin478 hat478 (g := (mkF m 18 #[.val (.ref a1), .val (.int 7)] [(.int 29), (.ref a1), (.int (((own_iv (vs.getD 28 (.int 0))) &&& (255 : Int32)) <<< ((24 : Int32) &&& 31)))])) rfl rfl (hb hby d7_18) _ ?_
    refine XS.sipush X0.here hx rfl (hb hby d7_19) ?_
    refine XS.iand X0.here hx rfl (hb hby d7_22) rfl ?_
    refine XS.bipush X0.here hx rfl (hb hby d7_23) ?_
    refine XS.ishl X0.here hx rfl (hb hby d7_25) rfl ?_
    refine XS.ior X0.here hx rfl (hb hby d7_26) rfl ?_
    refine XS.aloadN X0.here hx rfl (hb hby d7_27) rfl rfl ?_
    refine XS.iconst X0.here hx rfl (hb hby d7_28) ?_
    refine XS.iloadN X0.here hx rfl (hb hby d7_29) rfl ?_
    refine XS.imul X0.here hx rfl (hb hby d7_30) rfl ?_
    refine XS.iconst X0.here hx rfl (hb hby d7_31) ?_
    refine XS.iadd X0.here hx rfl (hb hby d7_32) rfl ?_
    exact kt
  obtain ⟨cl479, Ar479, cq479, cS479, cN479, cH479, cG479⟩ := id V_1
  have hin479 := inb_of (j := (30 : Int32)) cS479 ⟨by decide, by decide⟩
  have hat479 : cl479.slots[((30 : Int32)).toNatClampNeg]? = some (.int (own_iv (vs.getD 30 (.int 0)))) := Has.at cH479 hin479 (hI 30 (by decide))
  refine own_go (B := s₁.setTop (mkF m 48 #[.val (.ref a1), .val (.int 7)] [(.int 31), (.ref a1), (.int (((((own_iv (vs.getD 28 (.int 0))) &&& (255 : Int32)) <<< ((24 : Int32) &&& 31)) ||| (((own_iv (vs.getD 29 (.int 0))) &&& (255 : Int32)) <<< ((16 : Int32) &&& 31))) ||| (((own_iv (vs.getD 30 (.int 0))) &&& (255 : Int32)) <<< ((8 : Int32) &&& 31))))])) (fun tg kt => ?_) ?_
  · refine X0.baloadBytes hx (j := (30 : Int32)) (v := (.int (own_iv (vs.getD 30 (.int 0))))) (by rw [e0]; exact Ar479.1) (State.isArrayOf_alike hZ.alike Ar479.2.1) Ar479.2.2 hin479 hat479 (g := (mkF m 33 #[.val (.ref a1), .val (.int 7)] [(.int 30), (.ref a1), (.int ((((own_iv (vs.getD 28 (.int 0))) &&& (255 : Int32)) <<< ((24 : Int32) &&& 31)) ||| (((own_iv (vs.getD 29 (.int 0))) &&& (255 : Int32)) <<< ((16 : Int32) &&& 31))))])) rfl rfl (hb hby d7_33) _ ?_
    refine XS.sipush X0.here hx rfl (hb hby d7_34) ?_
    refine XS.iand X0.here hx rfl (hb hby d7_37) rfl ?_
    refine XS.bipush X0.here hx rfl (hb hby d7_38) ?_
    refine XS.ishl X0.here hx rfl (hb hby d7_40) rfl ?_
    refine XS.ior X0.here hx rfl (hb hby d7_41) rfl ?_
    refine XS.aloadN X0.here hx rfl (hb hby d7_42) rfl rfl ?_
    refine XS.iconst X0.here hx rfl (hb hby d7_43) ?_
    refine XS.iloadN X0.here hx rfl (hb hby d7_44) rfl ?_
    refine XS.imul X0.here hx rfl (hb hby d7_45) rfl ?_
    refine XS.iconst X0.here hx rfl (hb hby d7_46) ?_
    refine XS.iadd X0.here hx rfl (hb hby d7_47) rfl ?_
    exact kt
  obtain ⟨cl480, Ar480, cq480, cS480, cN480, cH480, cG480⟩ := id V_1
  have hin480 := inb_of (j := (31 : Int32)) cS480 ⟨by decide, by decide⟩
  have hat480 : cl480.slots[((31 : Int32)).toNatClampNeg]? = some (.int (own_iv (vs.getD 31 (.int 0)))) := Has.at cH480 hin480 (hI 31 (by decide))
  refine own_go (B := s₁.setTop (mkF m 54 #[.val (.ref a1), .val (.int 7)] [(.int ((((((own_iv (vs.getD 28 (.int 0))) &&& (255 : Int32)) <<< ((24 : Int32) &&& 31)) ||| (((own_iv (vs.getD 29 (.int 0))) &&& (255 : Int32)) <<< ((16 : Int32) &&& 31))) ||| (((own_iv (vs.getD 30 (.int 0))) &&& (255 : Int32)) <<< ((8 : Int32) &&& 31))) ||| ((own_iv (vs.getD 31 (.int 0))) &&& (255 : Int32))))])) (fun tg kt => ?_) ?_
  · refine X0.baloadBytes hx (j := (31 : Int32)) (v := (.int (own_iv (vs.getD 31 (.int 0))))) (by rw [e0]; exact Ar480.1) (State.isArrayOf_alike hZ.alike Ar480.2.1) Ar480.2.2 hin480 hat480 (g := (mkF m 48 #[.val (.ref a1), .val (.int 7)] [(.int 31), (.ref a1), (.int (((((own_iv (vs.getD 28 (.int 0))) &&& (255 : Int32)) <<< ((24 : Int32) &&& 31)) ||| (((own_iv (vs.getD 29 (.int 0))) &&& (255 : Int32)) <<< ((16 : Int32) &&& 31))) ||| (((own_iv (vs.getD 30 (.int 0))) &&& (255 : Int32)) <<< ((8 : Int32) &&& 31))))])) rfl rfl (hb hby d7_48) _ ?_
    refine XS.sipush X0.here hx rfl (hb hby d7_49) ?_
    refine XS.iand X0.here hx rfl (hb hby d7_52) rfl ?_
    refine XS.ior X0.here hx rfl (hb hby d7_53) rfl ?_
    exact kt
  obtain ⟨fs, hr, hrun, hended, hW, hsame⟩ := X0.leave (v := some (.int ((((((own_iv (vs.getD 28 (.int 0))) &&& (255 : Int32)) <<< ((24 : Int32) &&& 31)) ||| (((own_iv (vs.getD 29 (.int 0))) &&& (255 : Int32)) <<< ((16 : Int32) &&& 31))) ||| (((own_iv (vs.getD 30 (.int 0))) &&& (255 : Int32)) <<< ((8 : Int32) &&& 31))) ||| ((own_iv (vs.getD 31 (.int 0))) &&& (255 : Int32))))) (fun h => by rw [Bd.returns] at h; cases h)
  refine ⟨_, _, ?_, hrun, hended, _, _, rfl, ?_, ⟨_, rfl⟩, hW, hsame.mono (by decide) (by decide)⟩
  · exact retI X0 hx Bd.returns (hb hby d7_54) hr
  · show Q7_7 Z a1 k1 vs h0 n0 _ s₁.heap _
    rw [e0]
    exact ⟨rfl, N0, rfl⟩
theorem pd_2 : parseMethodDescriptor "([BI)I" = some ⟨[(.array .byte), .int], some .int⟩ := by decide +kernel
theorem d6_0 : decode method_6_code 0 = .ok (.aload_n 0, 1) := by decide +kernel
theorem d6_1 : decode method_6_code 1 = .ok (.iconst 0, 1) := by decide +kernel
theorem d6_2 : decode method_6_code 2 = .ok (.invokestatic 52, 3) := by decide +kernel
theorem d6_5 : decode method_6_code 5 = .ok (.iload_n 1, 1) := by decide +kernel
theorem d6_6 : decode method_6_code 6 = .ok (.if_icmp .ne 77, 3) := by decide +kernel
theorem d6_9 : decode method_6_code 9 = .ok (.aload_n 0, 1) := by decide +kernel
theorem d6_10 : decode method_6_code 10 = .ok (.iconst 1, 1) := by decide +kernel
theorem d6_11 : decode method_6_code 11 = .ok (.invokestatic 52, 3) := by decide +kernel
theorem d6_14 : decode method_6_code 14 = .ok (.iload_n 2, 1) := by decide +kernel
theorem d6_15 : decode method_6_code 15 = .ok (.if_icmp .ne 68, 3) := by decide +kernel
theorem d6_18 : decode method_6_code 18 = .ok (.aload_n 0, 1) := by decide +kernel
theorem d6_19 : decode method_6_code 19 = .ok (.iconst 2, 1) := by decide +kernel
theorem d6_20 : decode method_6_code 20 = .ok (.invokestatic 52, 3) := by decide +kernel
theorem d6_23 : decode method_6_code 23 = .ok (.iload_n 3, 1) := by decide +kernel
theorem d6_24 : decode method_6_code 24 = .ok (.if_icmp .ne 59, 3) := by decide +kernel
theorem d6_27 : decode method_6_code 27 = .ok (.aload_n 0, 1) := by decide +kernel
theorem d6_28 : decode method_6_code 28 = .ok (.iconst 3, 1) := by decide +kernel
theorem d6_29 : decode method_6_code 29 = .ok (.invokestatic 52, 3) := by decide +kernel
theorem d6_32 : decode method_6_code 32 = .ok (.iload 4, 2) := by decide +kernel
theorem d6_34 : decode method_6_code 34 = .ok (.if_icmp .ne 49, 3) := by decide +kernel
theorem d6_37 : decode method_6_code 37 = .ok (.aload_n 0, 1) := by decide +kernel
theorem d6_38 : decode method_6_code 38 = .ok (.iconst 4, 1) := by decide +kernel
theorem d6_39 : decode method_6_code 39 = .ok (.invokestatic 52, 3) := by decide +kernel
theorem d6_42 : decode method_6_code 42 = .ok (.iload 5, 2) := by decide +kernel
theorem d6_44 : decode method_6_code 44 = .ok (.if_icmp .ne 39, 3) := by decide +kernel
theorem d6_47 : decode method_6_code 47 = .ok (.aload_n 0, 1) := by decide +kernel
theorem d6_48 : decode method_6_code 48 = .ok (.iconst 5, 1) := by decide +kernel
theorem d6_49 : decode method_6_code 49 = .ok (.invokestatic 52, 3) := by decide +kernel
theorem d6_52 : decode method_6_code 52 = .ok (.iload 6, 2) := by decide +kernel
theorem d6_54 : decode method_6_code 54 = .ok (.if_icmp .ne 29, 3) := by decide +kernel
theorem d6_57 : decode method_6_code 57 = .ok (.aload_n 0, 1) := by decide +kernel
theorem d6_58 : decode method_6_code 58 = .ok (.bipush 6, 2) := by decide +kernel
theorem d6_60 : decode method_6_code 60 = .ok (.invokestatic 52, 3) := by decide +kernel
theorem d6_63 : decode method_6_code 63 = .ok (.iload 7, 2) := by decide +kernel
theorem d6_65 : decode method_6_code 65 = .ok (.if_icmp .ne 18, 3) := by decide +kernel
theorem d6_68 : decode method_6_code 68 = .ok (.aload_n 0, 1) := by decide +kernel
theorem d6_69 : decode method_6_code 69 = .ok (.bipush 7, 2) := by decide +kernel
theorem d6_71 : decode method_6_code 71 = .ok (.invokestatic 52, 3) := by decide +kernel
theorem d6_74 : decode method_6_code 74 = .ok (.iload 8, 2) := by decide +kernel
theorem d6_76 : decode method_6_code 76 = .ok (.if_icmp .ne 7, 3) := by decide +kernel
theorem d6_79 : decode method_6_code 79 = .ok (.iconst 1, 1) := by decide +kernel
theorem d6_80 : decode method_6_code 80 = .ok (.goto 4, 3) := by decide +kernel
theorem d6_84 : decode method_6_code 84 = .ok (.ireturn, 1) := by decide +kernel
theorem ef_6 (m : MethodId) (a1 : Addr) (p0 : Int32) (p1 : Int32) (p2 : Int32) (p3 : Int32) (p4 : Int32) (p5 : Int32) (p6 : Int32) (p7 : Int32) : entryFrame m #[(.ref a1), (.int p0), (.int p1), (.int p2), (.int p3), (.int p4), (.int p5), (.int p6), (.int p7)] 9 = mkF m 0 #[.val (.ref a1), .val (.int p0), .val (.int p1), .val (.int p2), .val (.int p3), .val (.int p4), .val (.int p5), .val (.int p6), .val (.int p7)] [] := by first | (simp [entryFrame, mkF, argsToLocals, Value.category]; done) | rfl
def Q6 (Z : State) (a1 : Addr) (p0 : Int32) (p1 : Int32) (p2 : Int32) (p3 : Int32) (p4 : Int32) (p5 : Int32) (p6 : Int32) (p7 : Int32) (k1 : ClassId) (vs : List Value) (h0 : Heap) (n0 : Nat) (v : Option Value) (h : Heap) (L : List Loc) : Prop := v = some (.int 1) ∧ Fr n0 L ∧ h = h0
set_option maxRecDepth 65536 in
set_option maxHeartbeats 40000000 in
theorem rm6 (l : Launch) (Z : State) (a0 : Array Value) (hw : ∀ d ∈ tables_1, d.before a0 Z = true) (ws : List Jvm.Cond) (a1 : Addr) (p0 : Int32) (p1 : Int32) (p2 : Int32) (p3 : Int32) (p4 : Int32) (p5 : Int32) (p6 : Int32) (p7 : Int32) (k1 : ClassId) (vs : List Value) (h0 : Heap) (n0 : Nat) (Z0 : n0 ≤ h0.size) (V_1 : Arv Z h0 a1 k1 .byte (32 : Int32) vs (.int 0)) (hI : ∀ j, j < 32 → vs.getD j (.int 0) = .int (own_iv (vs.getD j (.int 0)))) (hW0 : own_wd vs 0 = p0) (hW1 : own_wd vs 1 = p1) (hW2 : own_wd vs 2 = p2) (hW3 : own_wd vs 3 = p3) (hW4 : own_wd vs 4 = p4) (hW5 : own_wd vs 5 = p5) (hW6 : own_wd vs 6 = p6) (hW7 : own_wd vs 7 = p7) :
    MetFree l (⟨"tributary/DigestsSha256PinLaw", "is", "([BIIIIIIII)Z"⟩ : MethodName) (head1 (Jvm.Cond.code (⟨"tributary/DigestsSha256PinLaw", "is", "([BIIIIIIII)Z"⟩ : MethodName) method_6_code 9 (some .boolean) :: ws) ({ frames := 1, cells := 0, slots := 0, locals := 13 } : Room)) (fun a U => a = #[(.ref a1), (.int p0), (.int p1), (.int p2), (.int p3), (.int p4), (.int p5), (.int p6), (.int p7)] ∧ Z.Warmed39 U.vm ∧ U.heap = h0) (fun _ _ _ _ _ => True) (fun _ U o U' => ∃ v L, o = .returned v ∧ Q6 Z a1 p0 p1 p2 p3 p4 p5 p6 p7 k1 vs h0 n0 v U'.heap L ∧ FrameEnd U o U' L ({ frames := 1, cells := 0, slots := 0, locals := 13 } : Room).cells ({ frames := 1, cells := 0, slots := 0, locals := 13 } : Room).slots) := by
  refine MetFree.of_bodySF (plainFor_of_name pn_497) hisR ?_
  intro p e s m args below meth c s₁ Bd hml0 hP hK
  obtain ⟨rfl, hZ, hh⟩ := hP
  have hx := Bd.exec
  have hby := Bd.bytes
  have hml : c.maxLocals = 9 := hml0
  have hown : s.vm.findClass "tributary/DigestsSha256PinLaw" = some m.cls := findClass_of_methodNamed Bd.named
  have hnm := (name_of_methodNamed Bd.named Bd.method).1
  have X0 : Stand p l e ({ frames := 1, cells := 0, slots := 0, locals := 13 } : Room) s m #[(.ref a1), (.int p0), (.int p1), (.int p2), (.int p3), (.int p4), (.int p5), (.int p6), (.int p7)] below meth c s₁ [] 0 0 := Stand.of_body Bd
  have e0 : s₁.heap = h0 := by rw [← hh, Bd.state]; rfl
  have N0 := Fr.nil n0
  refine own_go (B := s₁.setTop (mkF m 0 #[.val (.ref a1), .val (.int p0), .val (.int p1), .val (.int p2), .val (.int p3), .val (.int p4), .val (.int p5), .val (.int p6), .val (.int p7)] [])) (fun t k => castTop (ef_6 m a1 p0 p1 p2 p3 p4 p5 p6 p7) k) ?_
  refine own_go (B := s₁.setTop (mkF m 2 #[.val (.ref a1), .val (.int p0), .val (.int p1), .val (.int p2), .val (.int p3), .val (.int p4), .val (.int p5), .val (.int p6), .val (.int p7)] [(.int 0), (.ref a1)])) (fun tg kt => ?_) ?_
  · refine XS.aloadN X0.here hx rfl (hb hby d6_0) rfl rfl ?_
    refine XS.iconst X0.here hx rfl (hb hby d6_1) ?_
    exact kt
  obtain ⟨_, _, ⟨T482, L482, k482, n482⟩, -, X482, ⟨Lc482, hQ482, l482, y482, z482⟩, st482⟩ := Jvm.LawKit.callS X0 hx (y := (⟨"tributary/DigestsSha256PinLaw", "word", "([BI)I"⟩ : MethodName)) hown (mvT hZ (hw _ (List.mem_of_getElem? (i := 50) rfl))) (mvT hZ (hw _ (List.mem_of_getElem? (i := 51) rfl))) (mvT hZ (hw _ (List.mem_of_getElem? (i := 4) rfl))) (mvT hZ (hw _ (List.mem_of_getElem? (i := 52) rfl))) (by decide) (backOf (W := 0) (rm7_0 l Z a0 hw [] a1 k1 vs h0 n0 Z0 V_1 (by first | assumption | decide)) hZ (hw _ (List.mem_of_getElem? (i := 52) rfl)) (hw _ (List.mem_of_getElem? (i := 4) rfl)) (by decide) (by decide)) (g := (mkF m 2 #[.val (.ref a1), .val (.int p0), .val (.int p1), .val (.int p2), .val (.int p3), .val (.int p4), .val (.int p5), .val (.int p6), .val (.int p7)] [(.int 0), (.ref a1)])) rfl (by rw [hml]; rfl) (argsL := [(.ref a1), (.int 0)]) (rest := []) (lenOf pd_2 rfl) rfl (by show 2 * 0 + _ ≤ _; exact Nat.le_of_eq rfl) (hb hby d6_2) (fun _ _ => ⟨rfl, e0, (by decide : 0 + 0 ≤ _), (by decide : 0 + 0 ≤ _)⟩)
  dsimp only [Pt.U, Pt.locs, Pt.cells, Pt.slots] at X482 l482 y482 z482 st482 hQ482
  rw [l482, y482, z482] at X482
  obtain ⟨rfl, M482, q482_0⟩ := hQ482
  have N482 := Fr.app N0 M482
  refine own_go st482 ?_
  refine own_go (B := T482.setTop (mkF m 11 #[.val (.ref a1), .val (.int p0), .val (.int p1), .val (.int p2), .val (.int p3), .val (.int p4), .val (.int p5), .val (.int p6), .val (.int p7)] [(.int 1), (.ref a1)])) (fun tg kt => ?_) ?_
  · refine XS.iloadN X482.here hx rfl (hb hby d6_5) rfl ?_
    refine XS.icmpNo X482.here hx rfl (hb hby d6_6) rfl (teq (show (own_wd vs 0) = p0 from hW0)).2 ?_
    refine XS.aloadN X482.here hx rfl (hb hby d6_9) rfl rfl ?_
    refine XS.iconst X482.here hx rfl (hb hby d6_10) ?_
    exact kt
  obtain ⟨_, _, ⟨T483, L483, k483, n483⟩, -, X483, ⟨Lc483, hQ483, l483, y483, z483⟩, st483⟩ := Jvm.LawKit.callS X482 hx (y := (⟨"tributary/DigestsSha256PinLaw", "word", "([BI)I"⟩ : MethodName)) hown (mvT hZ (hw _ (List.mem_of_getElem? (i := 50) rfl))) (mvT hZ (hw _ (List.mem_of_getElem? (i := 51) rfl))) (mvT hZ (hw _ (List.mem_of_getElem? (i := 4) rfl))) (mvT hZ (hw _ (List.mem_of_getElem? (i := 52) rfl))) (by decide) (backOf (W := 0) (rm7_1 l Z a0 hw [] a1 k1 vs h0 n0 Z0 V_1 (by first | assumption | decide)) hZ (hw _ (List.mem_of_getElem? (i := 52) rfl)) (hw _ (List.mem_of_getElem? (i := 4) rfl)) (by decide) (by decide)) (g := (mkF m 11 #[.val (.ref a1), .val (.int p0), .val (.int p1), .val (.int p2), .val (.int p3), .val (.int p4), .val (.int p5), .val (.int p6), .val (.int p7)] [(.int 1), (.ref a1)])) rfl (by rw [hml]; rfl) (argsL := [(.ref a1), (.int 1)]) (rest := []) (lenOf pd_2 rfl) rfl (by show 2 * 0 + _ ≤ _; exact Nat.le_of_eq rfl) (hb hby d6_11) (fun _ _ => ⟨rfl, q482_0, (by decide : 0 + 0 ≤ _), (by decide : 0 + 0 ≤ _)⟩)
  dsimp only [Pt.U, Pt.locs, Pt.cells, Pt.slots] at X483 l483 y483 z483 st483 hQ483
  rw [l483, y483, z483] at X483
  obtain ⟨rfl, M483, q483_0⟩ := hQ483
  have N483 := Fr.app N482 M483
  refine own_go st483 ?_
  refine own_go (B := T483.setTop (mkF m 20 #[.val (.ref a1), .val (.int p0), .val (.int p1), .val (.int p2), .val (.int p3), .val (.int p4), .val (.int p5), .val (.int p6), .val (.int p7)] [(.int 2), (.ref a1)])) (fun tg kt => ?_) ?_
  · refine XS.iloadN X483.here hx rfl (hb hby d6_14) rfl ?_
    refine XS.icmpNo X483.here hx rfl (hb hby d6_15) rfl (teq (show (own_wd vs 1) = p1 from hW1)).2 ?_
    refine XS.aloadN X483.here hx rfl (hb hby d6_18) rfl rfl ?_
    refine XS.iconst X483.here hx rfl (hb hby d6_19) ?_
    exact kt
  obtain ⟨_, _, ⟨T484, L484, k484, n484⟩, -, X484, ⟨Lc484, hQ484, l484, y484, z484⟩, st484⟩ := Jvm.LawKit.callS X483 hx (y := (⟨"tributary/DigestsSha256PinLaw", "word", "([BI)I"⟩ : MethodName)) hown (mvT hZ (hw _ (List.mem_of_getElem? (i := 50) rfl))) (mvT hZ (hw _ (List.mem_of_getElem? (i := 51) rfl))) (mvT hZ (hw _ (List.mem_of_getElem? (i := 4) rfl))) (mvT hZ (hw _ (List.mem_of_getElem? (i := 52) rfl))) (by decide) (backOf (W := 0) (rm7_2 l Z a0 hw [] a1 k1 vs h0 n0 Z0 V_1 (by first | assumption | decide)) hZ (hw _ (List.mem_of_getElem? (i := 52) rfl)) (hw _ (List.mem_of_getElem? (i := 4) rfl)) (by decide) (by decide)) (g := (mkF m 20 #[.val (.ref a1), .val (.int p0), .val (.int p1), .val (.int p2), .val (.int p3), .val (.int p4), .val (.int p5), .val (.int p6), .val (.int p7)] [(.int 2), (.ref a1)])) rfl (by rw [hml]; rfl) (argsL := [(.ref a1), (.int 2)]) (rest := []) (lenOf pd_2 rfl) rfl (by show 2 * 0 + _ ≤ _; exact Nat.le_of_eq rfl) (hb hby d6_20) (fun _ _ => ⟨rfl, q483_0, (by decide : 0 + 0 ≤ _), (by decide : 0 + 0 ≤ _)⟩)
  dsimp only [Pt.U, Pt.locs, Pt.cells, Pt.slots] at X484 l484 y484 z484 st484 hQ484
  rw [l484, y484, z484] at X484
  obtain ⟨rfl, M484, q484_0⟩ := hQ484
  have N484 := Fr.app N483 M484
  refine own_go st484 ?_
  refine own_go (B := T484.setTop (mkF m 29 #[.val (.ref a1), .val (.int p0), .val (.int p1), .val (.int p2), .val (.int p3), .val (.int p4), .val (.int p5), .val (.int p6), .val (.int p7)] [(.int 3), (.ref a1)])) (fun tg kt => ?_) ?_
  · refine XS.iloadN X484.here hx rfl (hb hby d6_23) rfl ?_
    refine XS.icmpNo X484.here hx rfl (hb hby d6_24) rfl (teq (show (own_wd vs 2) = p2 from hW2)).2 ?_
    refine XS.aloadN X484.here hx rfl (hb hby d6_27) rfl rfl ?_
    refine XS.iconst X484.here hx rfl (hb hby d6_28) ?_
    exact kt
  obtain ⟨_, _, ⟨T485, L485, k485, n485⟩, -, X485, ⟨Lc485, hQ485, l485, y485, z485⟩, st485⟩ := Jvm.LawKit.callS X484 hx (y := (⟨"tributary/DigestsSha256PinLaw", "word", "([BI)I"⟩ : MethodName)) hown (mvT hZ (hw _ (List.mem_of_getElem? (i := 50) rfl))) (mvT hZ (hw _ (List.mem_of_getElem? (i := 51) rfl))) (mvT hZ (hw _ (List.mem_of_getElem? (i := 4) rfl))) (mvT hZ (hw _ (List.mem_of_getElem? (i := 52) rfl))) (by decide) (backOf (W := 0) (rm7_3 l Z a0 hw [] a1 k1 vs h0 n0 Z0 V_1 (by first | assumption | decide)) hZ (hw _ (List.mem_of_getElem? (i := 52) rfl)) (hw _ (List.mem_of_getElem? (i := 4) rfl)) (by decide) (by decide)) (g := (mkF m 29 #[.val (.ref a1), .val (.int p0), .val (.int p1), .val (.int p2), .val (.int p3), .val (.int p4), .val (.int p5), .val (.int p6), .val (.int p7)] [(.int 3), (.ref a1)])) rfl (by rw [hml]; rfl) (argsL := [(.ref a1), (.int 3)]) (rest := []) (lenOf pd_2 rfl) rfl (by show 2 * 0 + _ ≤ _; exact Nat.le_of_eq rfl) (hb hby d6_29) (fun _ _ => ⟨rfl, q484_0, (by decide : 0 + 0 ≤ _), (by decide : 0 + 0 ≤ _)⟩)
  dsimp only [Pt.U, Pt.locs, Pt.cells, Pt.slots] at X485 l485 y485 z485 st485 hQ485
  rw [l485, y485, z485] at X485
  obtain ⟨rfl, M485, q485_0⟩ := hQ485
  have N485 := Fr.app N484 M485
  refine own_go st485 ?_
  refine own_go (B := T485.setTop (mkF m 39 #[.val (.ref a1), .val (.int p0), .val (.int p1), .val (.int p2), .val (.int p3), .val (.int p4), .val (.int p5), .val (.int p6), .val (.int p7)] [(.int 4), (.ref a1)])) (fun tg kt => ?_) ?_
  · refine XS.iload X485.here hx rfl (hb hby d6_32) rfl ?_
    refine XS.icmpNo X485.here hx rfl (hb hby d6_34) rfl (teq (show (own_wd vs 3) = p3 from hW3)).2 ?_
    refine XS.aloadN X485.here hx rfl (hb hby d6_37) rfl rfl ?_
    refine XS.iconst X485.here hx rfl (hb hby d6_38) ?_
    exact kt
  obtain ⟨_, _, ⟨T486, L486, k486, n486⟩, -, X486, ⟨Lc486, hQ486, l486, y486, z486⟩, st486⟩ := Jvm.LawKit.callS X485 hx (y := (⟨"tributary/DigestsSha256PinLaw", "word", "([BI)I"⟩ : MethodName)) hown (mvT hZ (hw _ (List.mem_of_getElem? (i := 50) rfl))) (mvT hZ (hw _ (List.mem_of_getElem? (i := 51) rfl))) (mvT hZ (hw _ (List.mem_of_getElem? (i := 4) rfl))) (mvT hZ (hw _ (List.mem_of_getElem? (i := 52) rfl))) (by decide) (backOf (W := 0) (rm7_4 l Z a0 hw [] a1 k1 vs h0 n0 Z0 V_1 (by first | assumption | decide)) hZ (hw _ (List.mem_of_getElem? (i := 52) rfl)) (hw _ (List.mem_of_getElem? (i := 4) rfl)) (by decide) (by decide)) (g := (mkF m 39 #[.val (.ref a1), .val (.int p0), .val (.int p1), .val (.int p2), .val (.int p3), .val (.int p4), .val (.int p5), .val (.int p6), .val (.int p7)] [(.int 4), (.ref a1)])) rfl (by rw [hml]; rfl) (argsL := [(.ref a1), (.int 4)]) (rest := []) (lenOf pd_2 rfl) rfl (by show 2 * 0 + _ ≤ _; exact Nat.le_of_eq rfl) (hb hby d6_39) (fun _ _ => ⟨rfl, q485_0, (by decide : 0 + 0 ≤ _), (by decide : 0 + 0 ≤ _)⟩)
  dsimp only [Pt.U, Pt.locs, Pt.cells, Pt.slots] at X486 l486 y486 z486 st486 hQ486
  rw [l486, y486, z486] at X486
  obtain ⟨rfl, M486, q486_0⟩ := hQ486
  have N486 := Fr.app N485 M486
  refine own_go st486 ?_
  refine own_go (B := T486.setTop (mkF m 49 #[.val (.ref a1), .val (.int p0), .val (.int p1), .val (.int p2), .val (.int p3), .val (.int p4), .val (.int p5), .val (.int p6), .val (.int p7)] [(.int 5), (.ref a1)])) (fun tg kt => ?_) ?_
  · refine XS.iload X486.here hx rfl (hb hby d6_42) rfl ?_
    refine XS.icmpNo X486.here hx rfl (hb hby d6_44) rfl (teq (show (own_wd vs 4) = p4 from hW4)).2 ?_
    refine XS.aloadN X486.here hx rfl (hb hby d6_47) rfl rfl ?_
    refine XS.iconst X486.here hx rfl (hb hby d6_48) ?_
    exact kt
  obtain ⟨_, _, ⟨T487, L487, k487, n487⟩, -, X487, ⟨Lc487, hQ487, l487, y487, z487⟩, st487⟩ := Jvm.LawKit.callS X486 hx (y := (⟨"tributary/DigestsSha256PinLaw", "word", "([BI)I"⟩ : MethodName)) hown (mvT hZ (hw _ (List.mem_of_getElem? (i := 50) rfl))) (mvT hZ (hw _ (List.mem_of_getElem? (i := 51) rfl))) (mvT hZ (hw _ (List.mem_of_getElem? (i := 4) rfl))) (mvT hZ (hw _ (List.mem_of_getElem? (i := 52) rfl))) (by decide) (backOf (W := 0) (rm7_5 l Z a0 hw [] a1 k1 vs h0 n0 Z0 V_1 (by first | assumption | decide)) hZ (hw _ (List.mem_of_getElem? (i := 52) rfl)) (hw _ (List.mem_of_getElem? (i := 4) rfl)) (by decide) (by decide)) (g := (mkF m 49 #[.val (.ref a1), .val (.int p0), .val (.int p1), .val (.int p2), .val (.int p3), .val (.int p4), .val (.int p5), .val (.int p6), .val (.int p7)] [(.int 5), (.ref a1)])) rfl (by rw [hml]; rfl) (argsL := [(.ref a1), (.int 5)]) (rest := []) (lenOf pd_2 rfl) rfl (by show 2 * 0 + _ ≤ _; exact Nat.le_of_eq rfl) (hb hby d6_49) (fun _ _ => ⟨rfl, q486_0, (by decide : 0 + 0 ≤ _), (by decide : 0 + 0 ≤ _)⟩)
  dsimp only [Pt.U, Pt.locs, Pt.cells, Pt.slots] at X487 l487 y487 z487 st487 hQ487
  rw [l487, y487, z487] at X487
  obtain ⟨rfl, M487, q487_0⟩ := hQ487
  have N487 := Fr.app N486 M487
  refine own_go st487 ?_
  refine own_go (B := T487.setTop (mkF m 60 #[.val (.ref a1), .val (.int p0), .val (.int p1), .val (.int p2), .val (.int p3), .val (.int p4), .val (.int p5), .val (.int p6), .val (.int p7)] [(.int 6), (.ref a1)])) (fun tg kt => ?_) ?_
  · refine XS.iload X487.here hx rfl (hb hby d6_52) rfl ?_
    refine XS.icmpNo X487.here hx rfl (hb hby d6_54) rfl (teq (show (own_wd vs 5) = p5 from hW5)).2 ?_
    refine XS.aloadN X487.here hx rfl (hb hby d6_57) rfl rfl ?_
    refine XS.bipush X487.here hx rfl (hb hby d6_58) ?_
    exact kt
  obtain ⟨_, _, ⟨T488, L488, k488, n488⟩, -, X488, ⟨Lc488, hQ488, l488, y488, z488⟩, st488⟩ := Jvm.LawKit.callS X487 hx (y := (⟨"tributary/DigestsSha256PinLaw", "word", "([BI)I"⟩ : MethodName)) hown (mvT hZ (hw _ (List.mem_of_getElem? (i := 50) rfl))) (mvT hZ (hw _ (List.mem_of_getElem? (i := 51) rfl))) (mvT hZ (hw _ (List.mem_of_getElem? (i := 4) rfl))) (mvT hZ (hw _ (List.mem_of_getElem? (i := 52) rfl))) (by decide) (backOf (W := 0) (rm7_6 l Z a0 hw [] a1 k1 vs h0 n0 Z0 V_1 (by first | assumption | decide)) hZ (hw _ (List.mem_of_getElem? (i := 52) rfl)) (hw _ (List.mem_of_getElem? (i := 4) rfl)) (by decide) (by decide)) (g := (mkF m 60 #[.val (.ref a1), .val (.int p0), .val (.int p1), .val (.int p2), .val (.int p3), .val (.int p4), .val (.int p5), .val (.int p6), .val (.int p7)] [(.int 6), (.ref a1)])) rfl (by rw [hml]; rfl) (argsL := [(.ref a1), (.int 6)]) (rest := []) (lenOf pd_2 rfl) rfl (by show 2 * 0 + _ ≤ _; exact Nat.le_of_eq rfl) (hb hby d6_60) (fun _ _ => ⟨rfl, q487_0, (by decide : 0 + 0 ≤ _), (by decide : 0 + 0 ≤ _)⟩)
  dsimp only [Pt.U, Pt.locs, Pt.cells, Pt.slots] at X488 l488 y488 z488 st488 hQ488
  rw [l488, y488, z488] at X488
  obtain ⟨rfl, M488, q488_0⟩ := hQ488
  have N488 := Fr.app N487 M488
  refine own_go st488 ?_
  refine own_go (B := T488.setTop (mkF m 71 #[.val (.ref a1), .val (.int p0), .val (.int p1), .val (.int p2), .val (.int p3), .val (.int p4), .val (.int p5), .val (.int p6), .val (.int p7)] [(.int 7), (.ref a1)])) (fun tg kt => ?_) ?_
  · refine XS.iload X488.here hx rfl (hb hby d6_63) rfl ?_
    refine XS.icmpNo X488.here hx rfl (hb hby d6_65) rfl (teq (show (own_wd vs 6) = p6 from hW6)).2 ?_
    refine XS.aloadN X488.here hx rfl (hb hby d6_68) rfl rfl ?_
    refine XS.bipush X488.here hx rfl (hb hby d6_69) ?_
    exact kt
  obtain ⟨_, _, ⟨T489, L489, k489, n489⟩, -, X489, ⟨Lc489, hQ489, l489, y489, z489⟩, st489⟩ := Jvm.LawKit.callS X488 hx (y := (⟨"tributary/DigestsSha256PinLaw", "word", "([BI)I"⟩ : MethodName)) hown (mvT hZ (hw _ (List.mem_of_getElem? (i := 50) rfl))) (mvT hZ (hw _ (List.mem_of_getElem? (i := 51) rfl))) (mvT hZ (hw _ (List.mem_of_getElem? (i := 4) rfl))) (mvT hZ (hw _ (List.mem_of_getElem? (i := 52) rfl))) (by decide) (backOf (W := 0) (rm7_7 l Z a0 hw [] a1 k1 vs h0 n0 Z0 V_1 (by first | assumption | decide)) hZ (hw _ (List.mem_of_getElem? (i := 52) rfl)) (hw _ (List.mem_of_getElem? (i := 4) rfl)) (by decide) (by decide)) (g := (mkF m 71 #[.val (.ref a1), .val (.int p0), .val (.int p1), .val (.int p2), .val (.int p3), .val (.int p4), .val (.int p5), .val (.int p6), .val (.int p7)] [(.int 7), (.ref a1)])) rfl (by rw [hml]; rfl) (argsL := [(.ref a1), (.int 7)]) (rest := []) (lenOf pd_2 rfl) rfl (by show 2 * 0 + _ ≤ _; exact Nat.le_of_eq rfl) (hb hby d6_71) (fun _ _ => ⟨rfl, q488_0, (by decide : 0 + 0 ≤ _), (by decide : 0 + 0 ≤ _)⟩)
  dsimp only [Pt.U, Pt.locs, Pt.cells, Pt.slots] at X489 l489 y489 z489 st489 hQ489
  rw [l489, y489, z489] at X489
  obtain ⟨rfl, M489, q489_0⟩ := hQ489
  have N489 := Fr.app N488 M489
  refine own_go st489 ?_
  refine own_go (B := T489.setTop (mkF m 84 #[.val (.ref a1), .val (.int p0), .val (.int p1), .val (.int p2), .val (.int p3), .val (.int p4), .val (.int p5), .val (.int p6), .val (.int p7)] [(.int 1)])) (fun tg kt => ?_) ?_
  · refine XS.iload X489.here hx rfl (hb hby d6_74) rfl ?_
    refine XS.icmpNo X489.here hx rfl (hb hby d6_76) rfl (teq (show (own_wd vs 7) = p7 from hW7)).2 ?_
    refine XS.iconst X489.here hx rfl (hb hby d6_79) ?_
    refine XS.goto X489.here hx rfl (pc0 := 80) (pc' := 84) rfl (hb hby d6_80) (by decide) (by decide) ?_
    exact kt
  obtain ⟨fs, hr, hrun, hended, hW, hsame⟩ := X489.leave (v := some (.int 1)) (fun h => by rw [Bd.returns] at h; cases h)
  refine ⟨_, _, ?_, hrun, hended, _, _, rfl, ?_, ⟨_, rfl⟩, hW, hsame.mono (by decide) (by decide)⟩
  · exact retN X489 hx (t := .boolean) Bd.returns (by simp) (hb hby d6_84) hr
  · show Q6 Z a1 p0 p1 p2 p3 p4 p5 p6 p7 k1 vs h0 n0 _ T489.heap _
    rw [q489_0]
    exact ⟨rfl, N489, rfl⟩
theorem pd_3 : parseMethodDescriptor "([BJ)V" = some ⟨[(.array .byte), .long], none⟩ := by decide +kernel
theorem pd_4 : parseMethodDescriptor "([B)[B" = some ⟨[(.array .byte)], some (.array .byte)⟩ := by decide +kernel
theorem pd_5 : parseMethodDescriptor "([BJ)Z" = some ⟨[(.array .byte), .long], some .boolean⟩ := by decide +kernel
theorem pd_6 : parseMethodDescriptor "([BIIIIIIII)Z" = some ⟨[(.array .byte), .int, .int, .int, .int, .int, .int, .int, .int], some .boolean⟩ := by decide +kernel
theorem ef_0 (m : MethodId) (q1 : Int64) (p2 : Int32) : entryFrame m #[(.long q1), (.int p2)] maxLocals = mkF m 0 #[.val (.long q1), .second, .val (.int p2), .unset, .unset, .unset, .unset, .unset, .unset, .unset, .unset, .unset] [] := by first | (simp [entryFrame, mkF, argsToLocals, Value.category, maxLocals]; done) | rfl
def Q0 (Z : State) (q1 : Int64) (p2 : Int32) (w_ROUND : Addr) (k_ROUND : ClassId) (w_INITIAL : Addr) (k_INITIAL : ClassId) (h0 : Heap) (n0 : Nat) (v : Option Value) (h : Heap) (L : List Loc) : Prop := v = some (.int 1) ∧ Fr n0 L
set_option maxRecDepth 65536 in
set_option maxHeartbeats 40000000 in
theorem rm0 (l : Launch) (Z : State) (a0 : Array Value) (hw : ∀ d ∈ tables_1, d.before a0 Z = true) (ws : List Jvm.Cond) (q1 : Int64) (p2 : Int32) (w_ROUND : Addr) (k_ROUND : ClassId) (w_INITIAL : Addr) (k_INITIAL : ClassId) (h0 : Heap) (n0 : Nat) (Z0 : n0 ≤ h0.size) (S_ROUND : Sta Z h0 "tributary/Digests" "ROUND" "[I" (.ref w_ROUND)) (V_ROUND : Arv Z h0 w_ROUND k_ROUND .int (64 : Int32) (own_tab 64 own_K) (.int 0)) (S_INITIAL : Sta Z h0 "tributary/Digests" "INITIAL" "[I" (.ref w_INITIAL)) (E_INITIAL : Exa Z h0 w_INITIAL "[I") (V_INITIAL : Arv Z h0 w_INITIAL k_INITIAL .int (8 : Int32) [(.int 1779033703), (.int (-1150833019)), (.int 1013904242), (.int (-1521486534)), (.int 1359893119), (.int (-1694144372)), (.int 528734635), (.int 1541459225)] (.int 0)) :
    MetFree l x (head1 (Jvm.Cond.code x code maxLocals ret :: ws) room_1) (fun a U => a = #[(.long q1), (.int p2)] ∧ Z.Warmed39 U.vm ∧ U.heap = h0) (fun _ _ _ _ _ => True) (fun _ U o U' => ∃ v L, o = .returned v ∧ Q0 Z q1 p2 w_ROUND k_ROUND w_INITIAL k_INITIAL h0 n0 v U'.heap L ∧ FrameEnd U o U' L room_1.cells room_1.slots) := by
  refine MetFree.of_bodySF (plainFor_of_name pn_497) hisR ?_
  intro p e s m args below meth c s₁ Bd hml0 hP hK
  obtain ⟨rfl, hZ, hh⟩ := hP
  have hx := Bd.exec
  have hby := Bd.bytes
  have hml : c.maxLocals = 12 := hml0
  have hown : s.vm.findClass "tributary/DigestsSha256PinLaw" = some m.cls := findClass_of_methodNamed Bd.named
  have hnm := (name_of_methodNamed Bd.named Bd.method).1
  have X0 : Stand p l e room_1 s m #[(.long q1), (.int p2)] below meth c s₁ [] 0 0 := Stand.of_body Bd
  have e0 : s₁.heap = h0 := by rw [← hh, Bd.state]; rfl
  have N0 := Fr.nil n0
  refine own_go (B := s₁.setTop (mkF m 0 #[.val (.long q1), .second, .val (.int p2), .unset, .unset, .unset, .unset, .unset, .unset, .unset, .unset, .unset] [])) (fun t k => castTop (ef_0 m q1 p2) k) ?_
  refine own_go (B := s₁.setTop (mkF m 8 #[.val (.long q1), .second, .val (.int p2), .val (.int ((p2 &&& (2147483647 : Int32)) % (9 : Int32))), .unset, .unset, .unset, .unset, .unset, .unset, .unset, .unset] [])) (fun tg kt => ?_) ?_
  · refine XS.iloadN X0.here hx rfl (hb hby at_0) rfl ?_
    refine X0.ldcInt hx hown (mvT hZ (hw _ (List.mem_of_getElem? (i := 0) rfl))) (g := (mkF m 1 #[.val (.long q1), .second, .val (.int p2), .unset, .unset, .unset, .unset, .unset, .unset, .unset, .unset, .unset] [(.int p2)])) rfl (hb hby at_1) _ ?_
    refine XS.iand X0.here hx rfl (hb hby at_3) rfl ?_
    refine XS.bipush X0.here hx rfl (hb hby at_4) ?_
    refine iremM X0 hx rfl (hb hby at_6) rfl (by decide) ?_
    refine XS.istoreN X0.here hx rfl (hb hby at_7) rfl (l' := #[.val (.long q1), .second, .val (.int p2), .val (.int ((p2 &&& (2147483647 : Int32)) % (9 : Int32))), .unset, .unset, .unset, .unset, .unset, .unset, .unset, .unset]) rfl ?_
    exact kt
  obtain ⟨nn, e_nn⟩ : ∃ z, z = ((p2 &&& (2147483647 : Int32)) % (9 : Int32)) := ⟨_, rfl⟩
  rw [← e_nn]
  have hnn : 0 ≤ nn.toInt ∧ nn.toInt ≤ 8 := by rw [e_nn]; exact own_n9 p2
  refine own_go (B := s₁.setTop (mkF m 9 #[.val (.long q1), .second, .val (.int p2), .val (.int nn), .unset, .unset, .unset, .unset, .unset, .unset, .unset, .unset] [(.int nn)])) (fun tg kt => ?_) ?_
  · refine XS.iloadN X0.here hx rfl (hb hby at_8) rfl ?_
    exact kt
  obtain ⟨T491, h491, k491, X491, e491, E491, A491, st491⟩ := newP X0 hx hZ (hw _ (List.mem_of_getElem? (i := 1) rfl)) e0 (g := (mkF m 9 #[.val (.long q1), .second, .val (.int p2), .val (.int nn), .unset, .unset, .unset, .unset, .unset, .unset, .unset, .unset] [(.int nn)])) rfl (hb hby at_9) rfl (own_n8 hnn).1 (cap := 8) (own_n8 hnn).2.2 (by decide) (by decide) (by decide)
  obtain ⟨b491, g491⟩ : ∃ z, z = h0.size := ⟨_, rfl⟩
  rw [← g491] at A491 st491
  refine own_go st491 ?_
  have K491 : Keep h0 h491 [] := Keep.ext (Keep.refl h0 []) E491
  have V491 : Arv Z h491 b491 k491 .byte nn [(.int 0), (.int 0), (.int 0), (.int 0), (.int 0), (.int 0), (.int 0), (.int 0)] (.int 0) := (Arv.new A491 (own_n8 hnn).1).pad (pad_rep [] (.int 0) 8)
  refine own_go (B := T491.setTop (mkF m 16 #[.val (.long q1), .second, .val (.int p2), .val (.int nn), .val (.ref b491), .unset, .unset, .unset, .unset, .unset, .unset, .unset] [(.long q1), (.ref b491)])) (fun tg kt => ?_) ?_
  · refine XS.astore X491.here hx rfl (hb hby at_11) rfl rfl (l' := #[.val (.long q1), .second, .val (.int p2), .val (.int nn), .val (.ref b491), .unset, .unset, .unset, .unset, .unset, .unset, .unset]) rfl ?_
    refine XS.aload X491.here hx rfl (hb hby at_13) rfl rfl ?_
    refine XS.lloadN X491.here hx rfl (hb hby at_15) rfl ?_
    exact kt
  obtain ⟨_, _, ⟨T492, L492, k492, n492⟩, -, X492, ⟨Lc492, hQ492, l492, y492, z492⟩, st492⟩ := Jvm.LawKit.callS X491 hx (y := (⟨"tributary/DigestsSha256PinLaw", "fill", "([BJ)V"⟩ : MethodName)) hown (mvT hZ (hw _ (List.mem_of_getElem? (i := 2) rfl))) (mvT hZ (hw _ (List.mem_of_getElem? (i := 3) rfl))) (mvT hZ (hw _ (List.mem_of_getElem? (i := 4) rfl))) (mvT hZ (hw _ (List.mem_of_getElem? (i := 5) rfl))) (by decide) (backOf (W := 0) (rm1 l Z a0 hw [] b491 q1 k491 nn h491 n0 (Nat.le_trans Z0 E491.1) V491 (Nat.le_trans Z0 (Nat.le_of_eq g491.symm)) ((own_n8 hnn).1) ((own_n8 hnn).2.1)) hZ (hw _ (List.mem_of_getElem? (i := 5) rfl)) (hw _ (List.mem_of_getElem? (i := 4) rfl)) (by decide) (by decide)) (g := (mkF m 16 #[.val (.long q1), .second, .val (.int p2), .val (.int nn), .val (.ref b491), .unset, .unset, .unset, .unset, .unset, .unset, .unset] [(.long q1), (.ref b491)])) rfl (by rw [hml]; rfl) (argsL := [(.ref b491), (.long q1)]) (rest := []) (lenOf pd_3 rfl) rfl (by show 2 * 0 + _ ≤ _; exact Nat.le_of_eq rfl) (hb hby at_16) (fun _ _ => ⟨rfl, e491, (by decide : 1 + 0 ≤ _), (by decide : 8 + 0 ≤ _)⟩)
  dsimp only [Pt.U, Pt.locs, Pt.cells, Pt.slots] at X492 l492 y492 z492 st492 hQ492
  rw [l492, y492, z492] at X492
  obtain ⟨rfl, M492, q492_0, q492_1⟩ := hQ492
  have N492 := Fr.app N0 M492
  have K492 : Keep h0 T492.heap [] := Keep.trans K491 q492_0 (allS (Or.inr (Nat.le_of_eq g491.symm)) all0)
  refine own_go st492 ?_
  refine own_go (B := T492.setTop (mkF m 20 #[.val (.long q1), .second, .val (.int p2), .val (.int nn), .val (.ref b491), .unset, .unset, .unset, .unset, .unset, .unset, .unset] [(.int 0)])) (fun tg kt => ?_) ?_
  · refine XS.iconst X492.here hx rfl (hb hby at_19) ?_
    exact kt
  obtain ⟨T493, h493, k493, X493, e493, E493, A493, st493⟩ := newP X492 hx hZ (hw _ (List.mem_of_getElem? (i := 1) rfl)) rfl (g := (mkF m 20 #[.val (.long q1), .second, .val (.int p2), .val (.int nn), .val (.ref b491), .unset, .unset, .unset, .unset, .unset, .unset, .unset] [(.int 0)])) rfl (hb hby at_20) rfl (by decide) (cap := 0) (by decide) (by decide) (by decide) (by decide)
  obtain ⟨b493, g493⟩ : ∃ z, z = T492.heap.size := ⟨_, rfl⟩
  rw [← g493] at A493 st493
  refine own_go st493 ?_
  have K493 : Keep h0 h493 [] := Keep.ext K492 E493
  have V493 : Arv Z h493 b493 k493 .byte (0 : Int32) [] (.int 0) := Arv.new A493 (by decide)
  refine own_go (B := T493.setTop (mkF m 25 #[.val (.long q1), .second, .val (.int p2), .val (.int nn), .val (.ref b491), .val (.ref b493), .unset, .unset, .unset, .unset, .unset, .unset] [(.int 3)])) (fun tg kt => ?_) ?_
  · refine XS.astore X493.here hx rfl (hb hby at_22) rfl rfl (l' := #[.val (.long q1), .second, .val (.int p2), .val (.int nn), .val (.ref b491), .val (.ref b493), .unset, .unset, .unset, .unset, .unset, .unset]) rfl ?_
    refine XS.iconst X493.here hx rfl (hb hby at_24) ?_
    exact kt
  obtain ⟨T494, h494, k494, X494, e494, E494, A494, st494⟩ := newP X493 hx hZ (hw _ (List.mem_of_getElem? (i := 1) rfl)) e493 (g := (mkF m 25 #[.val (.long q1), .second, .val (.int p2), .val (.int nn), .val (.ref b491), .val (.ref b493), .unset, .unset, .unset, .unset, .unset, .unset] [(.int 3)])) rfl (hb hby at_25) rfl (by decide) (cap := 3) (by decide) (by decide) (by decide) (by decide)
  obtain ⟨b494, g494⟩ : ∃ z, z = h493.size := ⟨_, rfl⟩
  rw [← g494] at A494 st494
  refine own_go st494 ?_
  have K494 : Keep h0 h494 [] := Keep.ext K493 E494
  have V494 : Arv Z h494 b494 k494 .byte (3 : Int32) [(.int 0), (.int 0), (.int 0)] (.int 0) := (Arv.new A494 (by decide)).pad (pad_rep [] (.int 0) 3)
  refine own_go (B := T494.setTop (mkF m 31 #[.val (.long q1), .second, .val (.int p2), .val (.int nn), .val (.ref b491), .val (.ref b493), .unset, .unset, .unset, .unset, .unset, .unset] [(.int 97), (.int 0), (.ref b494), (.ref b494)])) (fun tg kt => ?_) ?_
  · refine XS.dup X494.here hx rfl (hb hby at_27) rfl rfl ?_
    refine XS.iconst X494.here hx rfl (hb hby at_28) ?_
    refine XS.bipush X494.here hx rfl (hb hby at_29) ?_
    exact kt
  obtain ⟨cl495, Ar495, cq495, cS495, cN495, cH495, cG495⟩ := id V494
  have hin495 := inb_of (j := (0 : Int32)) cS495 ⟨by decide, by decide⟩
  obtain ⟨T495, h495, X495, e495, W495, st495⟩ := stB X494 hx hZ e494 Ar495 (j := (0 : Int32)) hin495 (g := (mkF m 31 #[.val (.long q1), .second, .val (.int p2), .val (.int nn), .val (.ref b491), .val (.ref b493), .unset, .unset, .unset, .unset, .unset, .unset] [(.int 97), (.int 0), (.ref b494), (.ref b494)])) rfl rfl (hb hby at_31)
  refine own_go st495 ?_
  have V495 : Arv Z h495 b494 k494 .byte (3 : Int32) [(.int 97), (.int 0), (.int 0)] (.int 0) := Arv.set Ar495 cq495 cS495 cN495 cH495 cG495 (fits_nar_byte _) W495 0 rfl (Nat.le_of_ble_eq_true rfl)
  have le496 : h0.size ≤ h493.size := (Nat.le_trans (Nat.le_trans E491.1 q492_0.1) E493.1)
  have K495 : Keep h0 h495 [] := Keep.wr K494 W495 (Or.inr (Nat.le_trans le496 (Nat.le_of_eq g494.symm)))
  have N495 := Fr.snoc X495 N492 (Nat.le_trans (Nat.le_trans Z0 le496) (Nat.le_of_eq g494.symm))
  refine own_go (B := T495.setTop (mkF m 36 #[.val (.long q1), .second, .val (.int p2), .val (.int nn), .val (.ref b491), .val (.ref b493), .unset, .unset, .unset, .unset, .unset, .unset] [(.int 98), (.int 1), (.ref b494), (.ref b494)])) (fun tg kt => ?_) ?_
  · refine XS.dup X495.here hx rfl (hb hby at_32) rfl rfl ?_
    refine XS.iconst X495.here hx rfl (hb hby at_33) ?_
    refine XS.bipush X495.here hx rfl (hb hby at_34) ?_
    exact kt
  obtain ⟨cl497, Ar497, cq497, cS497, cN497, cH497, cG497⟩ := id V495
  have hin497 := inb_of (j := (1 : Int32)) cS497 ⟨by decide, by decide⟩
  obtain ⟨T497, h497, X497, e497, W497, st497⟩ := stB X495 hx hZ e495 Ar497 (j := (1 : Int32)) hin497 (g := (mkF m 36 #[.val (.long q1), .second, .val (.int p2), .val (.int nn), .val (.ref b491), .val (.ref b493), .unset, .unset, .unset, .unset, .unset, .unset] [(.int 98), (.int 1), (.ref b494), (.ref b494)])) rfl rfl (hb hby at_36)
  refine own_go st497 ?_
  have V497 : Arv Z h497 b494 k494 .byte (3 : Int32) [(.int 97), (.int 98), (.int 0)] (.int 0) := Arv.set Ar497 cq497 cS497 cN497 cH497 cG497 (fits_nar_byte _) W497 1 rfl (Nat.le_of_ble_eq_true rfl)
  have K497 : Keep h0 h497 [] := Keep.wr K495 W497 (Or.inr (Nat.le_trans le496 (Nat.le_of_eq g494.symm)))
  have N497 := Fr.snoc X497 N495 (Nat.le_trans (Nat.le_trans Z0 le496) (Nat.le_of_eq g494.symm))
  refine own_go (B := T497.setTop (mkF m 41 #[.val (.long q1), .second, .val (.int p2), .val (.int nn), .val (.ref b491), .val (.ref b493), .unset, .unset, .unset, .unset, .unset, .unset] [(.int 99), (.int 2), (.ref b494), (.ref b494)])) (fun tg kt => ?_) ?_
  · refine XS.dup X497.here hx rfl (hb hby at_37) rfl rfl ?_
    refine XS.iconst X497.here hx rfl (hb hby at_38) ?_
    refine XS.bipush X497.here hx rfl (hb hby at_39) ?_
    exact kt
  obtain ⟨cl498, Ar498, cq498, cS498, cN498, cH498, cG498⟩ := id V497
  have hin498 := inb_of (j := (2 : Int32)) cS498 ⟨by decide, by decide⟩
  obtain ⟨T498, h498, X498, e498, W498, st498⟩ := stB X497 hx hZ e497 Ar498 (j := (2 : Int32)) hin498 (g := (mkF m 41 #[.val (.long q1), .second, .val (.int p2), .val (.int nn), .val (.ref b491), .val (.ref b493), .unset, .unset, .unset, .unset, .unset, .unset] [(.int 99), (.int 2), (.ref b494), (.ref b494)])) rfl rfl (hb hby at_41)
  refine own_go st498 ?_
  have V498 : Arv Z h498 b494 k494 .byte (3 : Int32) [(.int 97), (.int 98), (.int 99)] (.int 0) := Arv.set Ar498 cq498 cS498 cN498 cH498 cG498 (fits_nar_byte _) W498 2 rfl (Nat.le_of_ble_eq_true rfl)
  have K498 : Keep h0 h498 [] := Keep.wr K497 W498 (Or.inr (Nat.le_trans le496 (Nat.le_of_eq g494.symm)))
  have N498 := Fr.snoc X498 N497 (Nat.le_trans (Nat.le_trans Z0 le496) (Nat.le_of_eq g494.symm))
  refine own_go (B := T498.setTop (mkF m 46 #[.val (.long q1), .second, .val (.int p2), .val (.int nn), .val (.ref b491), .val (.ref b493), .val (.ref b494), .unset, .unset, .unset, .unset, .unset] [(.int 56)])) (fun tg kt => ?_) ?_
  · refine XS.astore X498.here hx rfl (hb hby at_42) rfl rfl (l' := #[.val (.long q1), .second, .val (.int p2), .val (.int nn), .val (.ref b491), .val (.ref b493), .val (.ref b494), .unset, .unset, .unset, .unset, .unset]) rfl ?_
    refine XS.bipush X498.here hx rfl (hb hby at_44) ?_
    exact kt
  obtain ⟨T499, h499, k499, X499, e499, E499, A499, st499⟩ := newP X498 hx hZ (hw _ (List.mem_of_getElem? (i := 1) rfl)) e498 (g := (mkF m 46 #[.val (.long q1), .second, .val (.int p2), .val (.int nn), .val (.ref b491), .val (.ref b493), .val (.ref b494), .unset, .unset, .unset, .unset, .unset] [(.int 56)])) rfl (hb hby at_46) rfl (by decide) (cap := 56) (by decide) (by decide) (by decide) (by decide)
  obtain ⟨b499, g499⟩ : ∃ z, z = h498.size := ⟨_, rfl⟩
  rw [← g499] at A499 st499
  refine own_go st499 ?_
  have K499 : Keep h0 h499 [] := Keep.ext K498 E499
  have V499 : Arv Z h499 b499 k499 .byte (56 : Int32) [(.int 0), (.int 0), (.int 0), (.int 0), (.int 0), (.int 0), (.int 0), (.int 0), (.int 0), (.int 0), (.int 0), (.int 0), (.int 0), (.int 0), (.int 0), (.int 0), (.int 0), (.int 0), (.int 0), (.int 0), (.int 0), (.int 0), (.int 0), (.int 0), (.int 0), (.int 0), (.int 0), (.int 0), (.int 0), (.int 0), (.int 0), (.int 0), (.int 0), (.int 0), (.int 0), (.int 0), (.int 0), (.int 0), (.int 0), (.int 0), (.int 0), (.int 0), (.int 0), (.int 0), (.int 0), (.int 0), (.int 0), (.int 0), (.int 0), (.int 0), (.int 0), (.int 0), (.int 0), (.int 0), (.int 0), (.int 0)] (.int 0) := (Arv.new A499 (by decide)).pad (pad_rep [] (.int 0) 56)
  refine own_go (B := T499.setTop (mkF m 52 #[.val (.long q1), .second, .val (.int p2), .val (.int nn), .val (.ref b491), .val (.ref b493), .val (.ref b494), .unset, .unset, .unset, .unset, .unset] [(.int 97), (.int 0), (.ref b499), (.ref b499)])) (fun tg kt => ?_) ?_
  · refine XS.dup X499.here hx rfl (hb hby at_48) rfl rfl ?_
    refine XS.iconst X499.here hx rfl (hb hby at_49) ?_
    refine XS.bipush X499.here hx rfl (hb hby at_50) ?_
    exact kt
  obtain ⟨cl500, Ar500, cq500, cS500, cN500, cH500, cG500⟩ := id V499
  have hin500 := inb_of (j := (0 : Int32)) cS500 ⟨by decide, by decide⟩
  obtain ⟨T500, h500, X500, e500, W500, st500⟩ := stB X499 hx hZ e499 Ar500 (j := (0 : Int32)) hin500 (g := (mkF m 52 #[.val (.long q1), .second, .val (.int p2), .val (.int nn), .val (.ref b491), .val (.ref b493), .val (.ref b494), .unset, .unset, .unset, .unset, .unset] [(.int 97), (.int 0), (.ref b499), (.ref b499)])) rfl rfl (hb hby at_52)
  refine own_go st500 ?_
  have V500 : Arv Z h500 b499 k499 .byte (56 : Int32) [(.int 97), (.int 0), (.int 0), (.int 0), (.int 0), (.int 0), (.int 0), (.int 0), (.int 0), (.int 0), (.int 0), (.int 0), (.int 0), (.int 0), (.int 0), (.int 0), (.int 0), (.int 0), (.int 0), (.int 0), (.int 0), (.int 0), (.int 0), (.int 0), (.int 0), (.int 0), (.int 0), (.int 0), (.int 0), (.int 0), (.int 0), (.int 0), (.int 0), (.int 0), (.int 0), (.int 0), (.int 0), (.int 0), (.int 0), (.int 0), (.int 0), (.int 0), (.int 0), (.int 0), (.int 0), (.int 0), (.int 0), (.int 0), (.int 0), (.int 0), (.int 0), (.int 0), (.int 0), (.int 0), (.int 0), (.int 0)] (.int 0) := Arv.set Ar500 cq500 cS500 cN500 cH500 cG500 (fits_nar_byte _) W500 0 rfl (Nat.le_of_ble_eq_true rfl)
  have le501 : h0.size ≤ h498.size := (Nat.le_trans (Nat.le_trans (Nat.le_trans (Nat.le_trans (Nat.le_trans (Nat.le_trans E491.1 q492_0.1) E493.1) E494.1) (Nat.le_of_eq (Wr.size W495).symm)) (Nat.le_of_eq (Wr.size W497).symm)) (Nat.le_of_eq (Wr.size W498).symm))
  have K500 : Keep h0 h500 [] := Keep.wr K499 W500 (Or.inr (Nat.le_trans le501 (Nat.le_of_eq g499.symm)))
  have N500 := Fr.snoc X500 N498 (Nat.le_trans (Nat.le_trans Z0 le501) (Nat.le_of_eq g499.symm))
  refine own_go (B := T500.setTop (mkF m 57 #[.val (.long q1), .second, .val (.int p2), .val (.int nn), .val (.ref b491), .val (.ref b493), .val (.ref b494), .unset, .unset, .unset, .unset, .unset] [(.int 98), (.int 1), (.ref b499), (.ref b499)])) (fun tg kt => ?_) ?_
  · refine XS.dup X500.here hx rfl (hb hby at_53) rfl rfl ?_
    refine XS.iconst X500.here hx rfl (hb hby at_54) ?_
    refine XS.bipush X500.here hx rfl (hb hby at_55) ?_
    exact kt
  obtain ⟨cl502, Ar502, cq502, cS502, cN502, cH502, cG502⟩ := id V500
  have hin502 := inb_of (j := (1 : Int32)) cS502 ⟨by decide, by decide⟩
  obtain ⟨T502, h502, X502, e502, W502, st502⟩ := stB X500 hx hZ e500 Ar502 (j := (1 : Int32)) hin502 (g := (mkF m 57 #[.val (.long q1), .second, .val (.int p2), .val (.int nn), .val (.ref b491), .val (.ref b493), .val (.ref b494), .unset, .unset, .unset, .unset, .unset] [(.int 98), (.int 1), (.ref b499), (.ref b499)])) rfl rfl (hb hby at_57)
  refine own_go st502 ?_
  have V502 : Arv Z h502 b499 k499 .byte (56 : Int32) [(.int 97), (.int 98), (.int 0), (.int 0), (.int 0), (.int 0), (.int 0), (.int 0), (.int 0), (.int 0), (.int 0), (.int 0), (.int 0), (.int 0), (.int 0), (.int 0), (.int 0), (.int 0), (.int 0), (.int 0), (.int 0), (.int 0), (.int 0), (.int 0), (.int 0), (.int 0), (.int 0), (.int 0), (.int 0), (.int 0), (.int 0), (.int 0), (.int 0), (.int 0), (.int 0), (.int 0), (.int 0), (.int 0), (.int 0), (.int 0), (.int 0), (.int 0), (.int 0), (.int 0), (.int 0), (.int 0), (.int 0), (.int 0), (.int 0), (.int 0), (.int 0), (.int 0), (.int 0), (.int 0), (.int 0), (.int 0)] (.int 0) := Arv.set Ar502 cq502 cS502 cN502 cH502 cG502 (fits_nar_byte _) W502 1 rfl (Nat.le_of_ble_eq_true rfl)
  have K502 : Keep h0 h502 [] := Keep.wr K500 W502 (Or.inr (Nat.le_trans le501 (Nat.le_of_eq g499.symm)))
  have N502 := Fr.snoc X502 N500 (Nat.le_trans (Nat.le_trans Z0 le501) (Nat.le_of_eq g499.symm))
  refine own_go (B := T502.setTop (mkF m 62 #[.val (.long q1), .second, .val (.int p2), .val (.int nn), .val (.ref b491), .val (.ref b493), .val (.ref b494), .unset, .unset, .unset, .unset, .unset] [(.int 99), (.int 2), (.ref b499), (.ref b499)])) (fun tg kt => ?_) ?_
  · refine XS.dup X502.here hx rfl (hb hby at_58) rfl rfl ?_
    refine XS.iconst X502.here hx rfl (hb hby at_59) ?_
    refine XS.bipush X502.here hx rfl (hb hby at_60) ?_
    exact kt
  obtain ⟨cl503, Ar503, cq503, cS503, cN503, cH503, cG503⟩ := id V502
  have hin503 := inb_of (j := (2 : Int32)) cS503 ⟨by decide, by decide⟩
  obtain ⟨T503, h503, X503, e503, W503, st503⟩ := stB X502 hx hZ e502 Ar503 (j := (2 : Int32)) hin503 (g := (mkF m 62 #[.val (.long q1), .second, .val (.int p2), .val (.int nn), .val (.ref b491), .val (.ref b493), .val (.ref b494), .unset, .unset, .unset, .unset, .unset] [(.int 99), (.int 2), (.ref b499), (.ref b499)])) rfl rfl (hb hby at_62)
  refine own_go st503 ?_
  have V503 : Arv Z h503 b499 k499 .byte (56 : Int32) [(.int 97), (.int 98), (.int 99), (.int 0), (.int 0), (.int 0), (.int 0), (.int 0), (.int 0), (.int 0), (.int 0), (.int 0), (.int 0), (.int 0), (.int 0), (.int 0), (.int 0), (.int 0), (.int 0), (.int 0), (.int 0), (.int 0), (.int 0), (.int 0), (.int 0), (.int 0), (.int 0), (.int 0), (.int 0), (.int 0), (.int 0), (.int 0), (.int 0), (.int 0), (.int 0), (.int 0), (.int 0), (.int 0), (.int 0), (.int 0), (.int 0), (.int 0), (.int 0), (.int 0), (.int 0), (.int 0), (.int 0), (.int 0), (.int 0), (.int 0), (.int 0), (.int 0), (.int 0), (.int 0), (.int 0), (.int 0)] (.int 0) := Arv.set Ar503 cq503 cS503 cN503 cH503 cG503 (fits_nar_byte _) W503 2 rfl (Nat.le_of_ble_eq_true rfl)
  have K503 : Keep h0 h503 [] := Keep.wr K502 W503 (Or.inr (Nat.le_trans le501 (Nat.le_of_eq g499.symm)))
  have N503 := Fr.snoc X503 N502 (Nat.le_trans (Nat.le_trans Z0 le501) (Nat.le_of_eq g499.symm))
  refine own_go (B := T503.setTop (mkF m 67 #[.val (.long q1), .second, .val (.int p2), .val (.int nn), .val (.ref b491), .val (.ref b493), .val (.ref b494), .unset, .unset, .unset, .unset, .unset] [(.int 100), (.int 3), (.ref b499), (.ref b499)])) (fun tg kt => ?_) ?_
  · refine XS.dup X503.here hx rfl (hb hby at_63) rfl rfl ?_
    refine XS.iconst X503.here hx rfl (hb hby at_64) ?_
    refine XS.bipush X503.here hx rfl (hb hby at_65) ?_
    exact kt
  obtain ⟨cl504, Ar504, cq504, cS504, cN504, cH504, cG504⟩ := id V503
  have hin504 := inb_of (j := (3 : Int32)) cS504 ⟨by decide, by decide⟩
  obtain ⟨T504, h504, X504, e504, W504, st504⟩ := stB X503 hx hZ e503 Ar504 (j := (3 : Int32)) hin504 (g := (mkF m 67 #[.val (.long q1), .second, .val (.int p2), .val (.int nn), .val (.ref b491), .val (.ref b493), .val (.ref b494), .unset, .unset, .unset, .unset, .unset] [(.int 100), (.int 3), (.ref b499), (.ref b499)])) rfl rfl (hb hby at_67)
  refine own_go st504 ?_
  have V504 : Arv Z h504 b499 k499 .byte (56 : Int32) [(.int 97), (.int 98), (.int 99), (.int 100), (.int 0), (.int 0), (.int 0), (.int 0), (.int 0), (.int 0), (.int 0), (.int 0), (.int 0), (.int 0), (.int 0), (.int 0), (.int 0), (.int 0), (.int 0), (.int 0), (.int 0), (.int 0), (.int 0), (.int 0), (.int 0), (.int 0), (.int 0), (.int 0), (.int 0), (.int 0), (.int 0), (.int 0), (.int 0), (.int 0), (.int 0), (.int 0), (.int 0), (.int 0), (.int 0), (.int 0), (.int 0), (.int 0), (.int 0), (.int 0), (.int 0), (.int 0), (.int 0), (.int 0), (.int 0), (.int 0), (.int 0), (.int 0), (.int 0), (.int 0), (.int 0), (.int 0)] (.int 0) := Arv.set Ar504 cq504 cS504 cN504 cH504 cG504 (fits_nar_byte _) W504 3 rfl (Nat.le_of_ble_eq_true rfl)
  have K504 : Keep h0 h504 [] := Keep.wr K503 W504 (Or.inr (Nat.le_trans le501 (Nat.le_of_eq g499.symm)))
  have N504 := Fr.snoc X504 N503 (Nat.le_trans (Nat.le_trans Z0 le501) (Nat.le_of_eq g499.symm))
  refine own_go (B := T504.setTop (mkF m 72 #[.val (.long q1), .second, .val (.int p2), .val (.int nn), .val (.ref b491), .val (.ref b493), .val (.ref b494), .unset, .unset, .unset, .unset, .unset] [(.int 98), (.int 4), (.ref b499), (.ref b499)])) (fun tg kt => ?_) ?_
  · refine XS.dup X504.here hx rfl (hb hby at_68) rfl rfl ?_
    refine XS.iconst X504.here hx rfl (hb hby at_69) ?_
    refine XS.bipush X504.here hx rfl (hb hby at_70) ?_
    exact kt
  obtain ⟨cl505, Ar505, cq505, cS505, cN505, cH505, cG505⟩ := id V504
  have hin505 := inb_of (j := (4 : Int32)) cS505 ⟨by decide, by decide⟩
  obtain ⟨T505, h505, X505, e505, W505, st505⟩ := stB X504 hx hZ e504 Ar505 (j := (4 : Int32)) hin505 (g := (mkF m 72 #[.val (.long q1), .second, .val (.int p2), .val (.int nn), .val (.ref b491), .val (.ref b493), .val (.ref b494), .unset, .unset, .unset, .unset, .unset] [(.int 98), (.int 4), (.ref b499), (.ref b499)])) rfl rfl (hb hby at_72)
  refine own_go st505 ?_
  have V505 : Arv Z h505 b499 k499 .byte (56 : Int32) [(.int 97), (.int 98), (.int 99), (.int 100), (.int 98), (.int 0), (.int 0), (.int 0), (.int 0), (.int 0), (.int 0), (.int 0), (.int 0), (.int 0), (.int 0), (.int 0), (.int 0), (.int 0), (.int 0), (.int 0), (.int 0), (.int 0), (.int 0), (.int 0), (.int 0), (.int 0), (.int 0), (.int 0), (.int 0), (.int 0), (.int 0), (.int 0), (.int 0), (.int 0), (.int 0), (.int 0), (.int 0), (.int 0), (.int 0), (.int 0), (.int 0), (.int 0), (.int 0), (.int 0), (.int 0), (.int 0), (.int 0), (.int 0), (.int 0), (.int 0), (.int 0), (.int 0), (.int 0), (.int 0), (.int 0), (.int 0)] (.int 0) := Arv.set Ar505 cq505 cS505 cN505 cH505 cG505 (fits_nar_byte _) W505 4 rfl (Nat.le_of_ble_eq_true rfl)
  have K505 : Keep h0 h505 [] := Keep.wr K504 W505 (Or.inr (Nat.le_trans le501 (Nat.le_of_eq g499.symm)))
  have N505 := Fr.snoc X505 N504 (Nat.le_trans (Nat.le_trans Z0 le501) (Nat.le_of_eq g499.symm))
  refine own_go (B := T505.setTop (mkF m 77 #[.val (.long q1), .second, .val (.int p2), .val (.int nn), .val (.ref b491), .val (.ref b493), .val (.ref b494), .unset, .unset, .unset, .unset, .unset] [(.int 99), (.int 5), (.ref b499), (.ref b499)])) (fun tg kt => ?_) ?_
  · refine XS.dup X505.here hx rfl (hb hby at_73) rfl rfl ?_
    refine XS.iconst X505.here hx rfl (hb hby at_74) ?_
    refine XS.bipush X505.here hx rfl (hb hby at_75) ?_
    exact kt
  obtain ⟨cl506, Ar506, cq506, cS506, cN506, cH506, cG506⟩ := id V505
  have hin506 := inb_of (j := (5 : Int32)) cS506 ⟨by decide, by decide⟩
  obtain ⟨T506, h506, X506, e506, W506, st506⟩ := stB X505 hx hZ e505 Ar506 (j := (5 : Int32)) hin506 (g := (mkF m 77 #[.val (.long q1), .second, .val (.int p2), .val (.int nn), .val (.ref b491), .val (.ref b493), .val (.ref b494), .unset, .unset, .unset, .unset, .unset] [(.int 99), (.int 5), (.ref b499), (.ref b499)])) rfl rfl (hb hby at_77)
  refine own_go st506 ?_
  have V506 : Arv Z h506 b499 k499 .byte (56 : Int32) [(.int 97), (.int 98), (.int 99), (.int 100), (.int 98), (.int 99), (.int 0), (.int 0), (.int 0), (.int 0), (.int 0), (.int 0), (.int 0), (.int 0), (.int 0), (.int 0), (.int 0), (.int 0), (.int 0), (.int 0), (.int 0), (.int 0), (.int 0), (.int 0), (.int 0), (.int 0), (.int 0), (.int 0), (.int 0), (.int 0), (.int 0), (.int 0), (.int 0), (.int 0), (.int 0), (.int 0), (.int 0), (.int 0), (.int 0), (.int 0), (.int 0), (.int 0), (.int 0), (.int 0), (.int 0), (.int 0), (.int 0), (.int 0), (.int 0), (.int 0), (.int 0), (.int 0), (.int 0), (.int 0), (.int 0), (.int 0)] (.int 0) := Arv.set Ar506 cq506 cS506 cN506 cH506 cG506 (fits_nar_byte _) W506 5 rfl (Nat.le_of_ble_eq_true rfl)
  have K506 : Keep h0 h506 [] := Keep.wr K505 W506 (Or.inr (Nat.le_trans le501 (Nat.le_of_eq g499.symm)))
  have N506 := Fr.snoc X506 N505 (Nat.le_trans (Nat.le_trans Z0 le501) (Nat.le_of_eq g499.symm))
  refine own_go (B := T506.setTop (mkF m 83 #[.val (.long q1), .second, .val (.int p2), .val (.int nn), .val (.ref b491), .val (.ref b493), .val (.ref b494), .unset, .unset, .unset, .unset, .unset] [(.int 100), (.int 6), (.ref b499), (.ref b499)])) (fun tg kt => ?_) ?_
  · refine XS.dup X506.here hx rfl (hb hby at_78) rfl rfl ?_
    refine XS.bipush X506.here hx rfl (hb hby at_79) ?_
    refine XS.bipush X506.here hx rfl (hb hby at_81) ?_
    exact kt
  obtain ⟨cl507, Ar507, cq507, cS507, cN507, cH507, cG507⟩ := id V506
  have hin507 := inb_of (j := (6 : Int32)) cS507 ⟨by decide, by decide⟩
  obtain ⟨T507, h507, X507, e507, W507, st507⟩ := stB X506 hx hZ e506 Ar507 (j := (6 : Int32)) hin507 (g := (mkF m 83 #[.val (.long q1), .second, .val (.int p2), .val (.int nn), .val (.ref b491), .val (.ref b493), .val (.ref b494), .unset, .unset, .unset, .unset, .unset] [(.int 100), (.int 6), (.ref b499), (.ref b499)])) rfl rfl (hb hby at_83)
  refine own_go st507 ?_
  have V507 : Arv Z h507 b499 k499 .byte (56 : Int32) [(.int 97), (.int 98), (.int 99), (.int 100), (.int 98), (.int 99), (.int 100), (.int 0), (.int 0), (.int 0), (.int 0), (.int 0), (.int 0), (.int 0), (.int 0), (.int 0), (.int 0), (.int 0), (.int 0), (.int 0), (.int 0), (.int 0), (.int 0), (.int 0), (.int 0), (.int 0), (.int 0), (.int 0), (.int 0), (.int 0), (.int 0), (.int 0), (.int 0), (.int 0), (.int 0), (.int 0), (.int 0), (.int 0), (.int 0), (.int 0), (.int 0), (.int 0), (.int 0), (.int 0), (.int 0), (.int 0), (.int 0), (.int 0), (.int 0), (.int 0), (.int 0), (.int 0), (.int 0), (.int 0), (.int 0), (.int 0)] (.int 0) := Arv.set Ar507 cq507 cS507 cN507 cH507 cG507 (fits_nar_byte _) W507 6 rfl (Nat.le_of_ble_eq_true rfl)
  have K507 : Keep h0 h507 [] := Keep.wr K506 W507 (Or.inr (Nat.le_trans le501 (Nat.le_of_eq g499.symm)))
  have N507 := Fr.snoc X507 N506 (Nat.le_trans (Nat.le_trans Z0 le501) (Nat.le_of_eq g499.symm))
  refine own_go (B := T507.setTop (mkF m 89 #[.val (.long q1), .second, .val (.int p2), .val (.int nn), .val (.ref b491), .val (.ref b493), .val (.ref b494), .unset, .unset, .unset, .unset, .unset] [(.int 101), (.int 7), (.ref b499), (.ref b499)])) (fun tg kt => ?_) ?_
  · refine XS.dup X507.here hx rfl (hb hby at_84) rfl rfl ?_
    refine XS.bipush X507.here hx rfl (hb hby at_85) ?_
    refine XS.bipush X507.here hx rfl (hb hby at_87) ?_
    exact kt
  obtain ⟨cl508, Ar508, cq508, cS508, cN508, cH508, cG508⟩ := id V507
  have hin508 := inb_of (j := (7 : Int32)) cS508 ⟨by decide, by decide⟩
  obtain ⟨T508, h508, X508, e508, W508, st508⟩ := stB X507 hx hZ e507 Ar508 (j := (7 : Int32)) hin508 (g := (mkF m 89 #[.val (.long q1), .second, .val (.int p2), .val (.int nn), .val (.ref b491), .val (.ref b493), .val (.ref b494), .unset, .unset, .unset, .unset, .unset] [(.int 101), (.int 7), (.ref b499), (.ref b499)])) rfl rfl (hb hby at_89)
  refine own_go st508 ?_
  have V508 : Arv Z h508 b499 k499 .byte (56 : Int32) [(.int 97), (.int 98), (.int 99), (.int 100), (.int 98), (.int 99), (.int 100), (.int 101), (.int 0), (.int 0), (.int 0), (.int 0), (.int 0), (.int 0), (.int 0), (.int 0), (.int 0), (.int 0), (.int 0), (.int 0), (.int 0), (.int 0), (.int 0), (.int 0), (.int 0), (.int 0), (.int 0), (.int 0), (.int 0), (.int 0), (.int 0), (.int 0), (.int 0), (.int 0), (.int 0), (.int 0), (.int 0), (.int 0), (.int 0), (.int 0), (.int 0), (.int 0), (.int 0), (.int 0), (.int 0), (.int 0), (.int 0), (.int 0), (.int 0), (.int 0), (.int 0), (.int 0), (.int 0), (.int 0), (.int 0), (.int 0)] (.int 0) := Arv.set Ar508 cq508 cS508 cN508 cH508 cG508 (fits_nar_byte _) W508 7 rfl (Nat.le_of_ble_eq_true rfl)
  have K508 : Keep h0 h508 [] := Keep.wr K507 W508 (Or.inr (Nat.le_trans le501 (Nat.le_of_eq g499.symm)))
  have N508 := Fr.snoc X508 N507 (Nat.le_trans (Nat.le_trans Z0 le501) (Nat.le_of_eq g499.symm))
  refine own_go (B := T508.setTop (mkF m 95 #[.val (.long q1), .second, .val (.int p2), .val (.int nn), .val (.ref b491), .val (.ref b493), .val (.ref b494), .unset, .unset, .unset, .unset, .unset] [(.int 99), (.int 8), (.ref b499), (.ref b499)])) (fun tg kt => ?_) ?_
  · refine XS.dup X508.here hx rfl (hb hby at_90) rfl rfl ?_
    refine XS.bipush X508.here hx rfl (hb hby at_91) ?_
    refine XS.bipush X508.here hx rfl (hb hby at_93) ?_
    exact kt
  obtain ⟨cl509, Ar509, cq509, cS509, cN509, cH509, cG509⟩ := id V508
  have hin509 := inb_of (j := (8 : Int32)) cS509 ⟨by decide, by decide⟩
  obtain ⟨T509, h509, X509, e509, W509, st509⟩ := stB X508 hx hZ e508 Ar509 (j := (8 : Int32)) hin509 (g := (mkF m 95 #[.val (.long q1), .second, .val (.int p2), .val (.int nn), .val (.ref b491), .val (.ref b493), .val (.ref b494), .unset, .unset, .unset, .unset, .unset] [(.int 99), (.int 8), (.ref b499), (.ref b499)])) rfl rfl (hb hby at_95)
  refine own_go st509 ?_
  have V509 : Arv Z h509 b499 k499 .byte (56 : Int32) [(.int 97), (.int 98), (.int 99), (.int 100), (.int 98), (.int 99), (.int 100), (.int 101), (.int 99), (.int 0), (.int 0), (.int 0), (.int 0), (.int 0), (.int 0), (.int 0), (.int 0), (.int 0), (.int 0), (.int 0), (.int 0), (.int 0), (.int 0), (.int 0), (.int 0), (.int 0), (.int 0), (.int 0), (.int 0), (.int 0), (.int 0), (.int 0), (.int 0), (.int 0), (.int 0), (.int 0), (.int 0), (.int 0), (.int 0), (.int 0), (.int 0), (.int 0), (.int 0), (.int 0), (.int 0), (.int 0), (.int 0), (.int 0), (.int 0), (.int 0), (.int 0), (.int 0), (.int 0), (.int 0), (.int 0), (.int 0)] (.int 0) := Arv.set Ar509 cq509 cS509 cN509 cH509 cG509 (fits_nar_byte _) W509 8 rfl (Nat.le_of_ble_eq_true rfl)
  have K509 : Keep h0 h509 [] := Keep.wr K508 W509 (Or.inr (Nat.le_trans le501 (Nat.le_of_eq g499.symm)))
  have N509 := Fr.snoc X509 N508 (Nat.le_trans (Nat.le_trans Z0 le501) (Nat.le_of_eq g499.symm))
  refine own_go (B := T509.setTop (mkF m 101 #[.val (.long q1), .second, .val (.int p2), .val (.int nn), .val (.ref b491), .val (.ref b493), .val (.ref b494), .unset, .unset, .unset, .unset, .unset] [(.int 100), (.int 9), (.ref b499), (.ref b499)])) (fun tg kt => ?_) ?_
  · refine XS.dup X509.here hx rfl (hb hby at_96) rfl rfl ?_
    refine XS.bipush X509.here hx rfl (hb hby at_97) ?_
    refine XS.bipush X509.here hx rfl (hb hby at_99) ?_
    exact kt
  obtain ⟨cl510, Ar510, cq510, cS510, cN510, cH510, cG510⟩ := id V509
  have hin510 := inb_of (j := (9 : Int32)) cS510 ⟨by decide, by decide⟩
  obtain ⟨T510, h510, X510, e510, W510, st510⟩ := stB X509 hx hZ e509 Ar510 (j := (9 : Int32)) hin510 (g := (mkF m 101 #[.val (.long q1), .second, .val (.int p2), .val (.int nn), .val (.ref b491), .val (.ref b493), .val (.ref b494), .unset, .unset, .unset, .unset, .unset] [(.int 100), (.int 9), (.ref b499), (.ref b499)])) rfl rfl (hb hby at_101)
  refine own_go st510 ?_
  have V510 : Arv Z h510 b499 k499 .byte (56 : Int32) [(.int 97), (.int 98), (.int 99), (.int 100), (.int 98), (.int 99), (.int 100), (.int 101), (.int 99), (.int 100), (.int 0), (.int 0), (.int 0), (.int 0), (.int 0), (.int 0), (.int 0), (.int 0), (.int 0), (.int 0), (.int 0), (.int 0), (.int 0), (.int 0), (.int 0), (.int 0), (.int 0), (.int 0), (.int 0), (.int 0), (.int 0), (.int 0), (.int 0), (.int 0), (.int 0), (.int 0), (.int 0), (.int 0), (.int 0), (.int 0), (.int 0), (.int 0), (.int 0), (.int 0), (.int 0), (.int 0), (.int 0), (.int 0), (.int 0), (.int 0), (.int 0), (.int 0), (.int 0), (.int 0), (.int 0), (.int 0)] (.int 0) := Arv.set Ar510 cq510 cS510 cN510 cH510 cG510 (fits_nar_byte _) W510 9 rfl (Nat.le_of_ble_eq_true rfl)
  have K510 : Keep h0 h510 [] := Keep.wr K509 W510 (Or.inr (Nat.le_trans le501 (Nat.le_of_eq g499.symm)))
  have N510 := Fr.snoc X510 N509 (Nat.le_trans (Nat.le_trans Z0 le501) (Nat.le_of_eq g499.symm))
  refine own_go (B := T510.setTop (mkF m 107 #[.val (.long q1), .second, .val (.int p2), .val (.int nn), .val (.ref b491), .val (.ref b493), .val (.ref b494), .unset, .unset, .unset, .unset, .unset] [(.int 101), (.int 10), (.ref b499), (.ref b499)])) (fun tg kt => ?_) ?_
  · refine XS.dup X510.here hx rfl (hb hby at_102) rfl rfl ?_
    refine XS.bipush X510.here hx rfl (hb hby at_103) ?_
    refine XS.bipush X510.here hx rfl (hb hby at_105) ?_
    exact kt
  obtain ⟨cl511, Ar511, cq511, cS511, cN511, cH511, cG511⟩ := id V510
  have hin511 := inb_of (j := (10 : Int32)) cS511 ⟨by decide, by decide⟩
  obtain ⟨T511, h511, X511, e511, W511, st511⟩ := stB X510 hx hZ e510 Ar511 (j := (10 : Int32)) hin511 (g := (mkF m 107 #[.val (.long q1), .second, .val (.int p2), .val (.int nn), .val (.ref b491), .val (.ref b493), .val (.ref b494), .unset, .unset, .unset, .unset, .unset] [(.int 101), (.int 10), (.ref b499), (.ref b499)])) rfl rfl (hb hby at_107)
  refine own_go st511 ?_
  have V511 : Arv Z h511 b499 k499 .byte (56 : Int32) [(.int 97), (.int 98), (.int 99), (.int 100), (.int 98), (.int 99), (.int 100), (.int 101), (.int 99), (.int 100), (.int 101), (.int 0), (.int 0), (.int 0), (.int 0), (.int 0), (.int 0), (.int 0), (.int 0), (.int 0), (.int 0), (.int 0), (.int 0), (.int 0), (.int 0), (.int 0), (.int 0), (.int 0), (.int 0), (.int 0), (.int 0), (.int 0), (.int 0), (.int 0), (.int 0), (.int 0), (.int 0), (.int 0), (.int 0), (.int 0), (.int 0), (.int 0), (.int 0), (.int 0), (.int 0), (.int 0), (.int 0), (.int 0), (.int 0), (.int 0), (.int 0), (.int 0), (.int 0), (.int 0), (.int 0), (.int 0)] (.int 0) := Arv.set Ar511 cq511 cS511 cN511 cH511 cG511 (fits_nar_byte _) W511 10 rfl (Nat.le_of_ble_eq_true rfl)
  have K511 : Keep h0 h511 [] := Keep.wr K510 W511 (Or.inr (Nat.le_trans le501 (Nat.le_of_eq g499.symm)))
  have N511 := Fr.snoc X511 N510 (Nat.le_trans (Nat.le_trans Z0 le501) (Nat.le_of_eq g499.symm))
  refine own_go (B := T511.setTop (mkF m 113 #[.val (.long q1), .second, .val (.int p2), .val (.int nn), .val (.ref b491), .val (.ref b493), .val (.ref b494), .unset, .unset, .unset, .unset, .unset] [(.int 102), (.int 11), (.ref b499), (.ref b499)])) (fun tg kt => ?_) ?_
  · refine XS.dup X511.here hx rfl (hb hby at_108) rfl rfl ?_
    refine XS.bipush X511.here hx rfl (hb hby at_109) ?_
    refine XS.bipush X511.here hx rfl (hb hby at_111) ?_
    exact kt
  obtain ⟨cl512, Ar512, cq512, cS512, cN512, cH512, cG512⟩ := id V511
  have hin512 := inb_of (j := (11 : Int32)) cS512 ⟨by decide, by decide⟩
  obtain ⟨T512, h512, X512, e512, W512, st512⟩ := stB X511 hx hZ e511 Ar512 (j := (11 : Int32)) hin512 (g := (mkF m 113 #[.val (.long q1), .second, .val (.int p2), .val (.int nn), .val (.ref b491), .val (.ref b493), .val (.ref b494), .unset, .unset, .unset, .unset, .unset] [(.int 102), (.int 11), (.ref b499), (.ref b499)])) rfl rfl (hb hby at_113)
  refine own_go st512 ?_
  have V512 : Arv Z h512 b499 k499 .byte (56 : Int32) [(.int 97), (.int 98), (.int 99), (.int 100), (.int 98), (.int 99), (.int 100), (.int 101), (.int 99), (.int 100), (.int 101), (.int 102), (.int 0), (.int 0), (.int 0), (.int 0), (.int 0), (.int 0), (.int 0), (.int 0), (.int 0), (.int 0), (.int 0), (.int 0), (.int 0), (.int 0), (.int 0), (.int 0), (.int 0), (.int 0), (.int 0), (.int 0), (.int 0), (.int 0), (.int 0), (.int 0), (.int 0), (.int 0), (.int 0), (.int 0), (.int 0), (.int 0), (.int 0), (.int 0), (.int 0), (.int 0), (.int 0), (.int 0), (.int 0), (.int 0), (.int 0), (.int 0), (.int 0), (.int 0), (.int 0), (.int 0)] (.int 0) := Arv.set Ar512 cq512 cS512 cN512 cH512 cG512 (fits_nar_byte _) W512 11 rfl (Nat.le_of_ble_eq_true rfl)
  have K512 : Keep h0 h512 [] := Keep.wr K511 W512 (Or.inr (Nat.le_trans le501 (Nat.le_of_eq g499.symm)))
  have N512 := Fr.snoc X512 N511 (Nat.le_trans (Nat.le_trans Z0 le501) (Nat.le_of_eq g499.symm))
  refine own_go (B := T512.setTop (mkF m 119 #[.val (.long q1), .second, .val (.int p2), .val (.int nn), .val (.ref b491), .val (.ref b493), .val (.ref b494), .unset, .unset, .unset, .unset, .unset] [(.int 100), (.int 12), (.ref b499), (.ref b499)])) (fun tg kt => ?_) ?_
  · refine XS.dup X512.here hx rfl (hb hby at_114) rfl rfl ?_
    refine XS.bipush X512.here hx rfl (hb hby at_115) ?_
    refine XS.bipush X512.here hx rfl (hb hby at_117) ?_
    exact kt
  obtain ⟨cl513, Ar513, cq513, cS513, cN513, cH513, cG513⟩ := id V512
  have hin513 := inb_of (j := (12 : Int32)) cS513 ⟨by decide, by decide⟩
  obtain ⟨T513, h513, X513, e513, W513, st513⟩ := stB X512 hx hZ e512 Ar513 (j := (12 : Int32)) hin513 (g := (mkF m 119 #[.val (.long q1), .second, .val (.int p2), .val (.int nn), .val (.ref b491), .val (.ref b493), .val (.ref b494), .unset, .unset, .unset, .unset, .unset] [(.int 100), (.int 12), (.ref b499), (.ref b499)])) rfl rfl (hb hby at_119)
  refine own_go st513 ?_
  have V513 : Arv Z h513 b499 k499 .byte (56 : Int32) [(.int 97), (.int 98), (.int 99), (.int 100), (.int 98), (.int 99), (.int 100), (.int 101), (.int 99), (.int 100), (.int 101), (.int 102), (.int 100), (.int 0), (.int 0), (.int 0), (.int 0), (.int 0), (.int 0), (.int 0), (.int 0), (.int 0), (.int 0), (.int 0), (.int 0), (.int 0), (.int 0), (.int 0), (.int 0), (.int 0), (.int 0), (.int 0), (.int 0), (.int 0), (.int 0), (.int 0), (.int 0), (.int 0), (.int 0), (.int 0), (.int 0), (.int 0), (.int 0), (.int 0), (.int 0), (.int 0), (.int 0), (.int 0), (.int 0), (.int 0), (.int 0), (.int 0), (.int 0), (.int 0), (.int 0), (.int 0)] (.int 0) := Arv.set Ar513 cq513 cS513 cN513 cH513 cG513 (fits_nar_byte _) W513 12 rfl (Nat.le_of_ble_eq_true rfl)
  have K513 : Keep h0 h513 [] := Keep.wr K512 W513 (Or.inr (Nat.le_trans le501 (Nat.le_of_eq g499.symm)))
  have N513 := Fr.snoc X513 N512 (Nat.le_trans (Nat.le_trans Z0 le501) (Nat.le_of_eq g499.symm))
  refine own_go (B := T513.setTop (mkF m 125 #[.val (.long q1), .second, .val (.int p2), .val (.int nn), .val (.ref b491), .val (.ref b493), .val (.ref b494), .unset, .unset, .unset, .unset, .unset] [(.int 101), (.int 13), (.ref b499), (.ref b499)])) (fun tg kt => ?_) ?_
  · refine XS.dup X513.here hx rfl (hb hby at_120) rfl rfl ?_
    refine XS.bipush X513.here hx rfl (hb hby at_121) ?_
    refine XS.bipush X513.here hx rfl (hb hby at_123) ?_
    exact kt
  obtain ⟨cl514, Ar514, cq514, cS514, cN514, cH514, cG514⟩ := id V513
  have hin514 := inb_of (j := (13 : Int32)) cS514 ⟨by decide, by decide⟩
  obtain ⟨T514, h514, X514, e514, W514, st514⟩ := stB X513 hx hZ e513 Ar514 (j := (13 : Int32)) hin514 (g := (mkF m 125 #[.val (.long q1), .second, .val (.int p2), .val (.int nn), .val (.ref b491), .val (.ref b493), .val (.ref b494), .unset, .unset, .unset, .unset, .unset] [(.int 101), (.int 13), (.ref b499), (.ref b499)])) rfl rfl (hb hby at_125)
  refine own_go st514 ?_
  have V514 : Arv Z h514 b499 k499 .byte (56 : Int32) [(.int 97), (.int 98), (.int 99), (.int 100), (.int 98), (.int 99), (.int 100), (.int 101), (.int 99), (.int 100), (.int 101), (.int 102), (.int 100), (.int 101), (.int 0), (.int 0), (.int 0), (.int 0), (.int 0), (.int 0), (.int 0), (.int 0), (.int 0), (.int 0), (.int 0), (.int 0), (.int 0), (.int 0), (.int 0), (.int 0), (.int 0), (.int 0), (.int 0), (.int 0), (.int 0), (.int 0), (.int 0), (.int 0), (.int 0), (.int 0), (.int 0), (.int 0), (.int 0), (.int 0), (.int 0), (.int 0), (.int 0), (.int 0), (.int 0), (.int 0), (.int 0), (.int 0), (.int 0), (.int 0), (.int 0), (.int 0)] (.int 0) := Arv.set Ar514 cq514 cS514 cN514 cH514 cG514 (fits_nar_byte _) W514 13 rfl (Nat.le_of_ble_eq_true rfl)
  have K514 : Keep h0 h514 [] := Keep.wr K513 W514 (Or.inr (Nat.le_trans le501 (Nat.le_of_eq g499.symm)))
  have N514 := Fr.snoc X514 N513 (Nat.le_trans (Nat.le_trans Z0 le501) (Nat.le_of_eq g499.symm))
  refine own_go (B := T514.setTop (mkF m 131 #[.val (.long q1), .second, .val (.int p2), .val (.int nn), .val (.ref b491), .val (.ref b493), .val (.ref b494), .unset, .unset, .unset, .unset, .unset] [(.int 102), (.int 14), (.ref b499), (.ref b499)])) (fun tg kt => ?_) ?_
  · refine XS.dup X514.here hx rfl (hb hby at_126) rfl rfl ?_
    refine XS.bipush X514.here hx rfl (hb hby at_127) ?_
    refine XS.bipush X514.here hx rfl (hb hby at_129) ?_
    exact kt
  obtain ⟨cl515, Ar515, cq515, cS515, cN515, cH515, cG515⟩ := id V514
  have hin515 := inb_of (j := (14 : Int32)) cS515 ⟨by decide, by decide⟩
  obtain ⟨T515, h515, X515, e515, W515, st515⟩ := stB X514 hx hZ e514 Ar515 (j := (14 : Int32)) hin515 (g := (mkF m 131 #[.val (.long q1), .second, .val (.int p2), .val (.int nn), .val (.ref b491), .val (.ref b493), .val (.ref b494), .unset, .unset, .unset, .unset, .unset] [(.int 102), (.int 14), (.ref b499), (.ref b499)])) rfl rfl (hb hby at_131)
  refine own_go st515 ?_
  have V515 : Arv Z h515 b499 k499 .byte (56 : Int32) [(.int 97), (.int 98), (.int 99), (.int 100), (.int 98), (.int 99), (.int 100), (.int 101), (.int 99), (.int 100), (.int 101), (.int 102), (.int 100), (.int 101), (.int 102), (.int 0), (.int 0), (.int 0), (.int 0), (.int 0), (.int 0), (.int 0), (.int 0), (.int 0), (.int 0), (.int 0), (.int 0), (.int 0), (.int 0), (.int 0), (.int 0), (.int 0), (.int 0), (.int 0), (.int 0), (.int 0), (.int 0), (.int 0), (.int 0), (.int 0), (.int 0), (.int 0), (.int 0), (.int 0), (.int 0), (.int 0), (.int 0), (.int 0), (.int 0), (.int 0), (.int 0), (.int 0), (.int 0), (.int 0), (.int 0), (.int 0)] (.int 0) := Arv.set Ar515 cq515 cS515 cN515 cH515 cG515 (fits_nar_byte _) W515 14 rfl (Nat.le_of_ble_eq_true rfl)
  have K515 : Keep h0 h515 [] := Keep.wr K514 W515 (Or.inr (Nat.le_trans le501 (Nat.le_of_eq g499.symm)))
  have N515 := Fr.snoc X515 N514 (Nat.le_trans (Nat.le_trans Z0 le501) (Nat.le_of_eq g499.symm))
  refine own_go (B := T515.setTop (mkF m 137 #[.val (.long q1), .second, .val (.int p2), .val (.int nn), .val (.ref b491), .val (.ref b493), .val (.ref b494), .unset, .unset, .unset, .unset, .unset] [(.int 103), (.int 15), (.ref b499), (.ref b499)])) (fun tg kt => ?_) ?_
  · refine XS.dup X515.here hx rfl (hb hby at_132) rfl rfl ?_
    refine XS.bipush X515.here hx rfl (hb hby at_133) ?_
    refine XS.bipush X515.here hx rfl (hb hby at_135) ?_
    exact kt
  obtain ⟨cl516, Ar516, cq516, cS516, cN516, cH516, cG516⟩ := id V515
  have hin516 := inb_of (j := (15 : Int32)) cS516 ⟨by decide, by decide⟩
  obtain ⟨T516, h516, X516, e516, W516, st516⟩ := stB X515 hx hZ e515 Ar516 (j := (15 : Int32)) hin516 (g := (mkF m 137 #[.val (.long q1), .second, .val (.int p2), .val (.int nn), .val (.ref b491), .val (.ref b493), .val (.ref b494), .unset, .unset, .unset, .unset, .unset] [(.int 103), (.int 15), (.ref b499), (.ref b499)])) rfl rfl (hb hby at_137)
  refine own_go st516 ?_
  have V516 : Arv Z h516 b499 k499 .byte (56 : Int32) [(.int 97), (.int 98), (.int 99), (.int 100), (.int 98), (.int 99), (.int 100), (.int 101), (.int 99), (.int 100), (.int 101), (.int 102), (.int 100), (.int 101), (.int 102), (.int 103), (.int 0), (.int 0), (.int 0), (.int 0), (.int 0), (.int 0), (.int 0), (.int 0), (.int 0), (.int 0), (.int 0), (.int 0), (.int 0), (.int 0), (.int 0), (.int 0), (.int 0), (.int 0), (.int 0), (.int 0), (.int 0), (.int 0), (.int 0), (.int 0), (.int 0), (.int 0), (.int 0), (.int 0), (.int 0), (.int 0), (.int 0), (.int 0), (.int 0), (.int 0), (.int 0), (.int 0), (.int 0), (.int 0), (.int 0), (.int 0)] (.int 0) := Arv.set Ar516 cq516 cS516 cN516 cH516 cG516 (fits_nar_byte _) W516 15 rfl (Nat.le_of_ble_eq_true rfl)
  have K516 : Keep h0 h516 [] := Keep.wr K515 W516 (Or.inr (Nat.le_trans le501 (Nat.le_of_eq g499.symm)))
  have N516 := Fr.snoc X516 N515 (Nat.le_trans (Nat.le_trans Z0 le501) (Nat.le_of_eq g499.symm))
  refine own_go (B := T516.setTop (mkF m 143 #[.val (.long q1), .second, .val (.int p2), .val (.int nn), .val (.ref b491), .val (.ref b493), .val (.ref b494), .unset, .unset, .unset, .unset, .unset] [(.int 101), (.int 16), (.ref b499), (.ref b499)])) (fun tg kt => ?_) ?_
  · refine XS.dup X516.here hx rfl (hb hby at_138) rfl rfl ?_
    refine XS.bipush X516.here hx rfl (hb hby at_139) ?_
    refine XS.bipush X516.here hx rfl (hb hby at_141) ?_
    exact kt
  obtain ⟨cl517, Ar517, cq517, cS517, cN517, cH517, cG517⟩ := id V516
  have hin517 := inb_of (j := (16 : Int32)) cS517 ⟨by decide, by decide⟩
  obtain ⟨T517, h517, X517, e517, W517, st517⟩ := stB X516 hx hZ e516 Ar517 (j := (16 : Int32)) hin517 (g := (mkF m 143 #[.val (.long q1), .second, .val (.int p2), .val (.int nn), .val (.ref b491), .val (.ref b493), .val (.ref b494), .unset, .unset, .unset, .unset, .unset] [(.int 101), (.int 16), (.ref b499), (.ref b499)])) rfl rfl (hb hby at_143)
  refine own_go st517 ?_
  have V517 : Arv Z h517 b499 k499 .byte (56 : Int32) [(.int 97), (.int 98), (.int 99), (.int 100), (.int 98), (.int 99), (.int 100), (.int 101), (.int 99), (.int 100), (.int 101), (.int 102), (.int 100), (.int 101), (.int 102), (.int 103), (.int 101), (.int 0), (.int 0), (.int 0), (.int 0), (.int 0), (.int 0), (.int 0), (.int 0), (.int 0), (.int 0), (.int 0), (.int 0), (.int 0), (.int 0), (.int 0), (.int 0), (.int 0), (.int 0), (.int 0), (.int 0), (.int 0), (.int 0), (.int 0), (.int 0), (.int 0), (.int 0), (.int 0), (.int 0), (.int 0), (.int 0), (.int 0), (.int 0), (.int 0), (.int 0), (.int 0), (.int 0), (.int 0), (.int 0), (.int 0)] (.int 0) := Arv.set Ar517 cq517 cS517 cN517 cH517 cG517 (fits_nar_byte _) W517 16 rfl (Nat.le_of_ble_eq_true rfl)
  have K517 : Keep h0 h517 [] := Keep.wr K516 W517 (Or.inr (Nat.le_trans le501 (Nat.le_of_eq g499.symm)))
  have N517 := Fr.snoc X517 N516 (Nat.le_trans (Nat.le_trans Z0 le501) (Nat.le_of_eq g499.symm))
  refine own_go (B := T517.setTop (mkF m 149 #[.val (.long q1), .second, .val (.int p2), .val (.int nn), .val (.ref b491), .val (.ref b493), .val (.ref b494), .unset, .unset, .unset, .unset, .unset] [(.int 102), (.int 17), (.ref b499), (.ref b499)])) (fun tg kt => ?_) ?_
  · refine XS.dup X517.here hx rfl (hb hby at_144) rfl rfl ?_
    refine XS.bipush X517.here hx rfl (hb hby at_145) ?_
    refine XS.bipush X517.here hx rfl (hb hby at_147) ?_
    exact kt
  obtain ⟨cl518, Ar518, cq518, cS518, cN518, cH518, cG518⟩ := id V517
  have hin518 := inb_of (j := (17 : Int32)) cS518 ⟨by decide, by decide⟩
  obtain ⟨T518, h518, X518, e518, W518, st518⟩ := stB X517 hx hZ e517 Ar518 (j := (17 : Int32)) hin518 (g := (mkF m 149 #[.val (.long q1), .second, .val (.int p2), .val (.int nn), .val (.ref b491), .val (.ref b493), .val (.ref b494), .unset, .unset, .unset, .unset, .unset] [(.int 102), (.int 17), (.ref b499), (.ref b499)])) rfl rfl (hb hby at_149)
  refine own_go st518 ?_
  have V518 : Arv Z h518 b499 k499 .byte (56 : Int32) [(.int 97), (.int 98), (.int 99), (.int 100), (.int 98), (.int 99), (.int 100), (.int 101), (.int 99), (.int 100), (.int 101), (.int 102), (.int 100), (.int 101), (.int 102), (.int 103), (.int 101), (.int 102), (.int 0), (.int 0), (.int 0), (.int 0), (.int 0), (.int 0), (.int 0), (.int 0), (.int 0), (.int 0), (.int 0), (.int 0), (.int 0), (.int 0), (.int 0), (.int 0), (.int 0), (.int 0), (.int 0), (.int 0), (.int 0), (.int 0), (.int 0), (.int 0), (.int 0), (.int 0), (.int 0), (.int 0), (.int 0), (.int 0), (.int 0), (.int 0), (.int 0), (.int 0), (.int 0), (.int 0), (.int 0), (.int 0)] (.int 0) := Arv.set Ar518 cq518 cS518 cN518 cH518 cG518 (fits_nar_byte _) W518 17 rfl (Nat.le_of_ble_eq_true rfl)
  have K518 : Keep h0 h518 [] := Keep.wr K517 W518 (Or.inr (Nat.le_trans le501 (Nat.le_of_eq g499.symm)))
  have N518 := Fr.snoc X518 N517 (Nat.le_trans (Nat.le_trans Z0 le501) (Nat.le_of_eq g499.symm))
  refine own_go (B := T518.setTop (mkF m 155 #[.val (.long q1), .second, .val (.int p2), .val (.int nn), .val (.ref b491), .val (.ref b493), .val (.ref b494), .unset, .unset, .unset, .unset, .unset] [(.int 103), (.int 18), (.ref b499), (.ref b499)])) (fun tg kt => ?_) ?_
  · refine XS.dup X518.here hx rfl (hb hby at_150) rfl rfl ?_
    refine XS.bipush X518.here hx rfl (hb hby at_151) ?_
    refine XS.bipush X518.here hx rfl (hb hby at_153) ?_
    exact kt
  obtain ⟨cl519, Ar519, cq519, cS519, cN519, cH519, cG519⟩ := id V518
  have hin519 := inb_of (j := (18 : Int32)) cS519 ⟨by decide, by decide⟩
  obtain ⟨T519, h519, X519, e519, W519, st519⟩ := stB X518 hx hZ e518 Ar519 (j := (18 : Int32)) hin519 (g := (mkF m 155 #[.val (.long q1), .second, .val (.int p2), .val (.int nn), .val (.ref b491), .val (.ref b493), .val (.ref b494), .unset, .unset, .unset, .unset, .unset] [(.int 103), (.int 18), (.ref b499), (.ref b499)])) rfl rfl (hb hby at_155)
  refine own_go st519 ?_
  have V519 : Arv Z h519 b499 k499 .byte (56 : Int32) [(.int 97), (.int 98), (.int 99), (.int 100), (.int 98), (.int 99), (.int 100), (.int 101), (.int 99), (.int 100), (.int 101), (.int 102), (.int 100), (.int 101), (.int 102), (.int 103), (.int 101), (.int 102), (.int 103), (.int 0), (.int 0), (.int 0), (.int 0), (.int 0), (.int 0), (.int 0), (.int 0), (.int 0), (.int 0), (.int 0), (.int 0), (.int 0), (.int 0), (.int 0), (.int 0), (.int 0), (.int 0), (.int 0), (.int 0), (.int 0), (.int 0), (.int 0), (.int 0), (.int 0), (.int 0), (.int 0), (.int 0), (.int 0), (.int 0), (.int 0), (.int 0), (.int 0), (.int 0), (.int 0), (.int 0), (.int 0)] (.int 0) := Arv.set Ar519 cq519 cS519 cN519 cH519 cG519 (fits_nar_byte _) W519 18 rfl (Nat.le_of_ble_eq_true rfl)
  have K519 : Keep h0 h519 [] := Keep.wr K518 W519 (Or.inr (Nat.le_trans le501 (Nat.le_of_eq g499.symm)))
  have N519 := Fr.snoc X519 N518 (Nat.le_trans (Nat.le_trans Z0 le501) (Nat.le_of_eq g499.symm))
  refine own_go (B := T519.setTop (mkF m 161 #[.val (.long q1), .second, .val (.int p2), .val (.int nn), .val (.ref b491), .val (.ref b493), .val (.ref b494), .unset, .unset, .unset, .unset, .unset] [(.int 104), (.int 19), (.ref b499), (.ref b499)])) (fun tg kt => ?_) ?_
  · refine XS.dup X519.here hx rfl (hb hby at_156) rfl rfl ?_
    refine XS.bipush X519.here hx rfl (hb hby at_157) ?_
    refine XS.bipush X519.here hx rfl (hb hby at_159) ?_
    exact kt
  obtain ⟨cl520, Ar520, cq520, cS520, cN520, cH520, cG520⟩ := id V519
  have hin520 := inb_of (j := (19 : Int32)) cS520 ⟨by decide, by decide⟩
  obtain ⟨T520, h520, X520, e520, W520, st520⟩ := stB X519 hx hZ e519 Ar520 (j := (19 : Int32)) hin520 (g := (mkF m 161 #[.val (.long q1), .second, .val (.int p2), .val (.int nn), .val (.ref b491), .val (.ref b493), .val (.ref b494), .unset, .unset, .unset, .unset, .unset] [(.int 104), (.int 19), (.ref b499), (.ref b499)])) rfl rfl (hb hby at_161)
  refine own_go st520 ?_
  have V520 : Arv Z h520 b499 k499 .byte (56 : Int32) [(.int 97), (.int 98), (.int 99), (.int 100), (.int 98), (.int 99), (.int 100), (.int 101), (.int 99), (.int 100), (.int 101), (.int 102), (.int 100), (.int 101), (.int 102), (.int 103), (.int 101), (.int 102), (.int 103), (.int 104), (.int 0), (.int 0), (.int 0), (.int 0), (.int 0), (.int 0), (.int 0), (.int 0), (.int 0), (.int 0), (.int 0), (.int 0), (.int 0), (.int 0), (.int 0), (.int 0), (.int 0), (.int 0), (.int 0), (.int 0), (.int 0), (.int 0), (.int 0), (.int 0), (.int 0), (.int 0), (.int 0), (.int 0), (.int 0), (.int 0), (.int 0), (.int 0), (.int 0), (.int 0), (.int 0), (.int 0)] (.int 0) := Arv.set Ar520 cq520 cS520 cN520 cH520 cG520 (fits_nar_byte _) W520 19 rfl (Nat.le_of_ble_eq_true rfl)
  have K520 : Keep h0 h520 [] := Keep.wr K519 W520 (Or.inr (Nat.le_trans le501 (Nat.le_of_eq g499.symm)))
  have N520 := Fr.snoc X520 N519 (Nat.le_trans (Nat.le_trans Z0 le501) (Nat.le_of_eq g499.symm))
  refine own_go (B := T520.setTop (mkF m 167 #[.val (.long q1), .second, .val (.int p2), .val (.int nn), .val (.ref b491), .val (.ref b493), .val (.ref b494), .unset, .unset, .unset, .unset, .unset] [(.int 102), (.int 20), (.ref b499), (.ref b499)])) (fun tg kt => ?_) ?_
  · refine XS.dup X520.here hx rfl (hb hby at_162) rfl rfl ?_
    refine XS.bipush X520.here hx rfl (hb hby at_163) ?_
    refine XS.bipush X520.here hx rfl (hb hby at_165) ?_
    exact kt
  obtain ⟨cl521, Ar521, cq521, cS521, cN521, cH521, cG521⟩ := id V520
  have hin521 := inb_of (j := (20 : Int32)) cS521 ⟨by decide, by decide⟩
  obtain ⟨T521, h521, X521, e521, W521, st521⟩ := stB X520 hx hZ e520 Ar521 (j := (20 : Int32)) hin521 (g := (mkF m 167 #[.val (.long q1), .second, .val (.int p2), .val (.int nn), .val (.ref b491), .val (.ref b493), .val (.ref b494), .unset, .unset, .unset, .unset, .unset] [(.int 102), (.int 20), (.ref b499), (.ref b499)])) rfl rfl (hb hby at_167)
  refine own_go st521 ?_
  have V521 : Arv Z h521 b499 k499 .byte (56 : Int32) [(.int 97), (.int 98), (.int 99), (.int 100), (.int 98), (.int 99), (.int 100), (.int 101), (.int 99), (.int 100), (.int 101), (.int 102), (.int 100), (.int 101), (.int 102), (.int 103), (.int 101), (.int 102), (.int 103), (.int 104), (.int 102), (.int 0), (.int 0), (.int 0), (.int 0), (.int 0), (.int 0), (.int 0), (.int 0), (.int 0), (.int 0), (.int 0), (.int 0), (.int 0), (.int 0), (.int 0), (.int 0), (.int 0), (.int 0), (.int 0), (.int 0), (.int 0), (.int 0), (.int 0), (.int 0), (.int 0), (.int 0), (.int 0), (.int 0), (.int 0), (.int 0), (.int 0), (.int 0), (.int 0), (.int 0), (.int 0)] (.int 0) := Arv.set Ar521 cq521 cS521 cN521 cH521 cG521 (fits_nar_byte _) W521 20 rfl (Nat.le_of_ble_eq_true rfl)
  have K521 : Keep h0 h521 [] := Keep.wr K520 W521 (Or.inr (Nat.le_trans le501 (Nat.le_of_eq g499.symm)))
  have N521 := Fr.snoc X521 N520 (Nat.le_trans (Nat.le_trans Z0 le501) (Nat.le_of_eq g499.symm))
  refine own_go (B := T521.setTop (mkF m 173 #[.val (.long q1), .second, .val (.int p2), .val (.int nn), .val (.ref b491), .val (.ref b493), .val (.ref b494), .unset, .unset, .unset, .unset, .unset] [(.int 103), (.int 21), (.ref b499), (.ref b499)])) (fun tg kt => ?_) ?_
  · refine XS.dup X521.here hx rfl (hb hby at_168) rfl rfl ?_
    refine XS.bipush X521.here hx rfl (hb hby at_169) ?_
    refine XS.bipush X521.here hx rfl (hb hby at_171) ?_
    exact kt
  obtain ⟨cl522, Ar522, cq522, cS522, cN522, cH522, cG522⟩ := id V521
  have hin522 := inb_of (j := (21 : Int32)) cS522 ⟨by decide, by decide⟩
  obtain ⟨T522, h522, X522, e522, W522, st522⟩ := stB X521 hx hZ e521 Ar522 (j := (21 : Int32)) hin522 (g := (mkF m 173 #[.val (.long q1), .second, .val (.int p2), .val (.int nn), .val (.ref b491), .val (.ref b493), .val (.ref b494), .unset, .unset, .unset, .unset, .unset] [(.int 103), (.int 21), (.ref b499), (.ref b499)])) rfl rfl (hb hby at_173)
  refine own_go st522 ?_
  have V522 : Arv Z h522 b499 k499 .byte (56 : Int32) [(.int 97), (.int 98), (.int 99), (.int 100), (.int 98), (.int 99), (.int 100), (.int 101), (.int 99), (.int 100), (.int 101), (.int 102), (.int 100), (.int 101), (.int 102), (.int 103), (.int 101), (.int 102), (.int 103), (.int 104), (.int 102), (.int 103), (.int 0), (.int 0), (.int 0), (.int 0), (.int 0), (.int 0), (.int 0), (.int 0), (.int 0), (.int 0), (.int 0), (.int 0), (.int 0), (.int 0), (.int 0), (.int 0), (.int 0), (.int 0), (.int 0), (.int 0), (.int 0), (.int 0), (.int 0), (.int 0), (.int 0), (.int 0), (.int 0), (.int 0), (.int 0), (.int 0), (.int 0), (.int 0), (.int 0), (.int 0)] (.int 0) := Arv.set Ar522 cq522 cS522 cN522 cH522 cG522 (fits_nar_byte _) W522 21 rfl (Nat.le_of_ble_eq_true rfl)
  have K522 : Keep h0 h522 [] := Keep.wr K521 W522 (Or.inr (Nat.le_trans le501 (Nat.le_of_eq g499.symm)))
  have N522 := Fr.snoc X522 N521 (Nat.le_trans (Nat.le_trans Z0 le501) (Nat.le_of_eq g499.symm))
  refine own_go (B := T522.setTop (mkF m 179 #[.val (.long q1), .second, .val (.int p2), .val (.int nn), .val (.ref b491), .val (.ref b493), .val (.ref b494), .unset, .unset, .unset, .unset, .unset] [(.int 104), (.int 22), (.ref b499), (.ref b499)])) (fun tg kt => ?_) ?_
  · refine XS.dup X522.here hx rfl (hb hby at_174) rfl rfl ?_
    refine XS.bipush X522.here hx rfl (hb hby at_175) ?_
    refine XS.bipush X522.here hx rfl (hb hby at_177) ?_
    exact kt
  obtain ⟨cl523, Ar523, cq523, cS523, cN523, cH523, cG523⟩ := id V522
  have hin523 := inb_of (j := (22 : Int32)) cS523 ⟨by decide, by decide⟩
  obtain ⟨T523, h523, X523, e523, W523, st523⟩ := stB X522 hx hZ e522 Ar523 (j := (22 : Int32)) hin523 (g := (mkF m 179 #[.val (.long q1), .second, .val (.int p2), .val (.int nn), .val (.ref b491), .val (.ref b493), .val (.ref b494), .unset, .unset, .unset, .unset, .unset] [(.int 104), (.int 22), (.ref b499), (.ref b499)])) rfl rfl (hb hby at_179)
  refine own_go st523 ?_
  have V523 : Arv Z h523 b499 k499 .byte (56 : Int32) [(.int 97), (.int 98), (.int 99), (.int 100), (.int 98), (.int 99), (.int 100), (.int 101), (.int 99), (.int 100), (.int 101), (.int 102), (.int 100), (.int 101), (.int 102), (.int 103), (.int 101), (.int 102), (.int 103), (.int 104), (.int 102), (.int 103), (.int 104), (.int 0), (.int 0), (.int 0), (.int 0), (.int 0), (.int 0), (.int 0), (.int 0), (.int 0), (.int 0), (.int 0), (.int 0), (.int 0), (.int 0), (.int 0), (.int 0), (.int 0), (.int 0), (.int 0), (.int 0), (.int 0), (.int 0), (.int 0), (.int 0), (.int 0), (.int 0), (.int 0), (.int 0), (.int 0), (.int 0), (.int 0), (.int 0), (.int 0)] (.int 0) := Arv.set Ar523 cq523 cS523 cN523 cH523 cG523 (fits_nar_byte _) W523 22 rfl (Nat.le_of_ble_eq_true rfl)
  have K523 : Keep h0 h523 [] := Keep.wr K522 W523 (Or.inr (Nat.le_trans le501 (Nat.le_of_eq g499.symm)))
  have N523 := Fr.snoc X523 N522 (Nat.le_trans (Nat.le_trans Z0 le501) (Nat.le_of_eq g499.symm))
  refine own_go (B := T523.setTop (mkF m 185 #[.val (.long q1), .second, .val (.int p2), .val (.int nn), .val (.ref b491), .val (.ref b493), .val (.ref b494), .unset, .unset, .unset, .unset, .unset] [(.int 105), (.int 23), (.ref b499), (.ref b499)])) (fun tg kt => ?_) ?_
  · refine XS.dup X523.here hx rfl (hb hby at_180) rfl rfl ?_
    refine XS.bipush X523.here hx rfl (hb hby at_181) ?_
    refine XS.bipush X523.here hx rfl (hb hby at_183) ?_
    exact kt
  obtain ⟨cl524, Ar524, cq524, cS524, cN524, cH524, cG524⟩ := id V523
  have hin524 := inb_of (j := (23 : Int32)) cS524 ⟨by decide, by decide⟩
  obtain ⟨T524, h524, X524, e524, W524, st524⟩ := stB X523 hx hZ e523 Ar524 (j := (23 : Int32)) hin524 (g := (mkF m 185 #[.val (.long q1), .second, .val (.int p2), .val (.int nn), .val (.ref b491), .val (.ref b493), .val (.ref b494), .unset, .unset, .unset, .unset, .unset] [(.int 105), (.int 23), (.ref b499), (.ref b499)])) rfl rfl (hb hby at_185)
  refine own_go st524 ?_
  have V524 : Arv Z h524 b499 k499 .byte (56 : Int32) [(.int 97), (.int 98), (.int 99), (.int 100), (.int 98), (.int 99), (.int 100), (.int 101), (.int 99), (.int 100), (.int 101), (.int 102), (.int 100), (.int 101), (.int 102), (.int 103), (.int 101), (.int 102), (.int 103), (.int 104), (.int 102), (.int 103), (.int 104), (.int 105), (.int 0), (.int 0), (.int 0), (.int 0), (.int 0), (.int 0), (.int 0), (.int 0), (.int 0), (.int 0), (.int 0), (.int 0), (.int 0), (.int 0), (.int 0), (.int 0), (.int 0), (.int 0), (.int 0), (.int 0), (.int 0), (.int 0), (.int 0), (.int 0), (.int 0), (.int 0), (.int 0), (.int 0), (.int 0), (.int 0), (.int 0), (.int 0)] (.int 0) := Arv.set Ar524 cq524 cS524 cN524 cH524 cG524 (fits_nar_byte _) W524 23 rfl (Nat.le_of_ble_eq_true rfl)
  have K524 : Keep h0 h524 [] := Keep.wr K523 W524 (Or.inr (Nat.le_trans le501 (Nat.le_of_eq g499.symm)))
  have N524 := Fr.snoc X524 N523 (Nat.le_trans (Nat.le_trans Z0 le501) (Nat.le_of_eq g499.symm))
  refine own_go (B := T524.setTop (mkF m 191 #[.val (.long q1), .second, .val (.int p2), .val (.int nn), .val (.ref b491), .val (.ref b493), .val (.ref b494), .unset, .unset, .unset, .unset, .unset] [(.int 103), (.int 24), (.ref b499), (.ref b499)])) (fun tg kt => ?_) ?_
  · refine XS.dup X524.here hx rfl (hb hby at_186) rfl rfl ?_
    refine XS.bipush X524.here hx rfl (hb hby at_187) ?_
    refine XS.bipush X524.here hx rfl (hb hby at_189) ?_
    exact kt
  obtain ⟨cl525, Ar525, cq525, cS525, cN525, cH525, cG525⟩ := id V524
  have hin525 := inb_of (j := (24 : Int32)) cS525 ⟨by decide, by decide⟩
  obtain ⟨T525, h525, X525, e525, W525, st525⟩ := stB X524 hx hZ e524 Ar525 (j := (24 : Int32)) hin525 (g := (mkF m 191 #[.val (.long q1), .second, .val (.int p2), .val (.int nn), .val (.ref b491), .val (.ref b493), .val (.ref b494), .unset, .unset, .unset, .unset, .unset] [(.int 103), (.int 24), (.ref b499), (.ref b499)])) rfl rfl (hb hby at_191)
  refine own_go st525 ?_
  have V525 : Arv Z h525 b499 k499 .byte (56 : Int32) [(.int 97), (.int 98), (.int 99), (.int 100), (.int 98), (.int 99), (.int 100), (.int 101), (.int 99), (.int 100), (.int 101), (.int 102), (.int 100), (.int 101), (.int 102), (.int 103), (.int 101), (.int 102), (.int 103), (.int 104), (.int 102), (.int 103), (.int 104), (.int 105), (.int 103), (.int 0), (.int 0), (.int 0), (.int 0), (.int 0), (.int 0), (.int 0), (.int 0), (.int 0), (.int 0), (.int 0), (.int 0), (.int 0), (.int 0), (.int 0), (.int 0), (.int 0), (.int 0), (.int 0), (.int 0), (.int 0), (.int 0), (.int 0), (.int 0), (.int 0), (.int 0), (.int 0), (.int 0), (.int 0), (.int 0), (.int 0)] (.int 0) := Arv.set Ar525 cq525 cS525 cN525 cH525 cG525 (fits_nar_byte _) W525 24 rfl (Nat.le_of_ble_eq_true rfl)
  have K525 : Keep h0 h525 [] := Keep.wr K524 W525 (Or.inr (Nat.le_trans le501 (Nat.le_of_eq g499.symm)))
  have N525 := Fr.snoc X525 N524 (Nat.le_trans (Nat.le_trans Z0 le501) (Nat.le_of_eq g499.symm))
  refine own_go (B := T525.setTop (mkF m 197 #[.val (.long q1), .second, .val (.int p2), .val (.int nn), .val (.ref b491), .val (.ref b493), .val (.ref b494), .unset, .unset, .unset, .unset, .unset] [(.int 104), (.int 25), (.ref b499), (.ref b499)])) (fun tg kt => ?_) ?_
  · refine XS.dup X525.here hx rfl (hb hby at_192) rfl rfl ?_
    refine XS.bipush X525.here hx rfl (hb hby at_193) ?_
    refine XS.bipush X525.here hx rfl (hb hby at_195) ?_
    exact kt
  obtain ⟨cl526, Ar526, cq526, cS526, cN526, cH526, cG526⟩ := id V525
  have hin526 := inb_of (j := (25 : Int32)) cS526 ⟨by decide, by decide⟩
  obtain ⟨T526, h526, X526, e526, W526, st526⟩ := stB X525 hx hZ e525 Ar526 (j := (25 : Int32)) hin526 (g := (mkF m 197 #[.val (.long q1), .second, .val (.int p2), .val (.int nn), .val (.ref b491), .val (.ref b493), .val (.ref b494), .unset, .unset, .unset, .unset, .unset] [(.int 104), (.int 25), (.ref b499), (.ref b499)])) rfl rfl (hb hby at_197)
  refine own_go st526 ?_
  have V526 : Arv Z h526 b499 k499 .byte (56 : Int32) [(.int 97), (.int 98), (.int 99), (.int 100), (.int 98), (.int 99), (.int 100), (.int 101), (.int 99), (.int 100), (.int 101), (.int 102), (.int 100), (.int 101), (.int 102), (.int 103), (.int 101), (.int 102), (.int 103), (.int 104), (.int 102), (.int 103), (.int 104), (.int 105), (.int 103), (.int 104), (.int 0), (.int 0), (.int 0), (.int 0), (.int 0), (.int 0), (.int 0), (.int 0), (.int 0), (.int 0), (.int 0), (.int 0), (.int 0), (.int 0), (.int 0), (.int 0), (.int 0), (.int 0), (.int 0), (.int 0), (.int 0), (.int 0), (.int 0), (.int 0), (.int 0), (.int 0), (.int 0), (.int 0), (.int 0), (.int 0)] (.int 0) := Arv.set Ar526 cq526 cS526 cN526 cH526 cG526 (fits_nar_byte _) W526 25 rfl (Nat.le_of_ble_eq_true rfl)
  have K526 : Keep h0 h526 [] := Keep.wr K525 W526 (Or.inr (Nat.le_trans le501 (Nat.le_of_eq g499.symm)))
  have N526 := Fr.snoc X526 N525 (Nat.le_trans (Nat.le_trans Z0 le501) (Nat.le_of_eq g499.symm))
  refine own_go (B := T526.setTop (mkF m 203 #[.val (.long q1), .second, .val (.int p2), .val (.int nn), .val (.ref b491), .val (.ref b493), .val (.ref b494), .unset, .unset, .unset, .unset, .unset] [(.int 105), (.int 26), (.ref b499), (.ref b499)])) (fun tg kt => ?_) ?_
  · refine XS.dup X526.here hx rfl (hb hby at_198) rfl rfl ?_
    refine XS.bipush X526.here hx rfl (hb hby at_199) ?_
    refine XS.bipush X526.here hx rfl (hb hby at_201) ?_
    exact kt
  obtain ⟨cl527, Ar527, cq527, cS527, cN527, cH527, cG527⟩ := id V526
  have hin527 := inb_of (j := (26 : Int32)) cS527 ⟨by decide, by decide⟩
  obtain ⟨T527, h527, X527, e527, W527, st527⟩ := stB X526 hx hZ e526 Ar527 (j := (26 : Int32)) hin527 (g := (mkF m 203 #[.val (.long q1), .second, .val (.int p2), .val (.int nn), .val (.ref b491), .val (.ref b493), .val (.ref b494), .unset, .unset, .unset, .unset, .unset] [(.int 105), (.int 26), (.ref b499), (.ref b499)])) rfl rfl (hb hby at_203)
  refine own_go st527 ?_
  have V527 : Arv Z h527 b499 k499 .byte (56 : Int32) [(.int 97), (.int 98), (.int 99), (.int 100), (.int 98), (.int 99), (.int 100), (.int 101), (.int 99), (.int 100), (.int 101), (.int 102), (.int 100), (.int 101), (.int 102), (.int 103), (.int 101), (.int 102), (.int 103), (.int 104), (.int 102), (.int 103), (.int 104), (.int 105), (.int 103), (.int 104), (.int 105), (.int 0), (.int 0), (.int 0), (.int 0), (.int 0), (.int 0), (.int 0), (.int 0), (.int 0), (.int 0), (.int 0), (.int 0), (.int 0), (.int 0), (.int 0), (.int 0), (.int 0), (.int 0), (.int 0), (.int 0), (.int 0), (.int 0), (.int 0), (.int 0), (.int 0), (.int 0), (.int 0), (.int 0), (.int 0)] (.int 0) := Arv.set Ar527 cq527 cS527 cN527 cH527 cG527 (fits_nar_byte _) W527 26 rfl (Nat.le_of_ble_eq_true rfl)
  have K527 : Keep h0 h527 [] := Keep.wr K526 W527 (Or.inr (Nat.le_trans le501 (Nat.le_of_eq g499.symm)))
  have N527 := Fr.snoc X527 N526 (Nat.le_trans (Nat.le_trans Z0 le501) (Nat.le_of_eq g499.symm))
  refine own_go (B := T527.setTop (mkF m 209 #[.val (.long q1), .second, .val (.int p2), .val (.int nn), .val (.ref b491), .val (.ref b493), .val (.ref b494), .unset, .unset, .unset, .unset, .unset] [(.int 106), (.int 27), (.ref b499), (.ref b499)])) (fun tg kt => ?_) ?_
  · refine XS.dup X527.here hx rfl (hb hby at_204) rfl rfl ?_
    refine XS.bipush X527.here hx rfl (hb hby at_205) ?_
    refine XS.bipush X527.here hx rfl (hb hby at_207) ?_
    exact kt
  obtain ⟨cl528, Ar528, cq528, cS528, cN528, cH528, cG528⟩ := id V527
  have hin528 := inb_of (j := (27 : Int32)) cS528 ⟨by decide, by decide⟩
  obtain ⟨T528, h528, X528, e528, W528, st528⟩ := stB X527 hx hZ e527 Ar528 (j := (27 : Int32)) hin528 (g := (mkF m 209 #[.val (.long q1), .second, .val (.int p2), .val (.int nn), .val (.ref b491), .val (.ref b493), .val (.ref b494), .unset, .unset, .unset, .unset, .unset] [(.int 106), (.int 27), (.ref b499), (.ref b499)])) rfl rfl (hb hby at_209)
  refine own_go st528 ?_
  have V528 : Arv Z h528 b499 k499 .byte (56 : Int32) [(.int 97), (.int 98), (.int 99), (.int 100), (.int 98), (.int 99), (.int 100), (.int 101), (.int 99), (.int 100), (.int 101), (.int 102), (.int 100), (.int 101), (.int 102), (.int 103), (.int 101), (.int 102), (.int 103), (.int 104), (.int 102), (.int 103), (.int 104), (.int 105), (.int 103), (.int 104), (.int 105), (.int 106), (.int 0), (.int 0), (.int 0), (.int 0), (.int 0), (.int 0), (.int 0), (.int 0), (.int 0), (.int 0), (.int 0), (.int 0), (.int 0), (.int 0), (.int 0), (.int 0), (.int 0), (.int 0), (.int 0), (.int 0), (.int 0), (.int 0), (.int 0), (.int 0), (.int 0), (.int 0), (.int 0), (.int 0)] (.int 0) := Arv.set Ar528 cq528 cS528 cN528 cH528 cG528 (fits_nar_byte _) W528 27 rfl (Nat.le_of_ble_eq_true rfl)
  have K528 : Keep h0 h528 [] := Keep.wr K527 W528 (Or.inr (Nat.le_trans le501 (Nat.le_of_eq g499.symm)))
  have N528 := Fr.snoc X528 N527 (Nat.le_trans (Nat.le_trans Z0 le501) (Nat.le_of_eq g499.symm))
  refine own_go (B := T528.setTop (mkF m 215 #[.val (.long q1), .second, .val (.int p2), .val (.int nn), .val (.ref b491), .val (.ref b493), .val (.ref b494), .unset, .unset, .unset, .unset, .unset] [(.int 104), (.int 28), (.ref b499), (.ref b499)])) (fun tg kt => ?_) ?_
  · refine XS.dup X528.here hx rfl (hb hby at_210) rfl rfl ?_
    refine XS.bipush X528.here hx rfl (hb hby at_211) ?_
    refine XS.bipush X528.here hx rfl (hb hby at_213) ?_
    exact kt
  obtain ⟨cl529, Ar529, cq529, cS529, cN529, cH529, cG529⟩ := id V528
  have hin529 := inb_of (j := (28 : Int32)) cS529 ⟨by decide, by decide⟩
  obtain ⟨T529, h529, X529, e529, W529, st529⟩ := stB X528 hx hZ e528 Ar529 (j := (28 : Int32)) hin529 (g := (mkF m 215 #[.val (.long q1), .second, .val (.int p2), .val (.int nn), .val (.ref b491), .val (.ref b493), .val (.ref b494), .unset, .unset, .unset, .unset, .unset] [(.int 104), (.int 28), (.ref b499), (.ref b499)])) rfl rfl (hb hby at_215)
  refine own_go st529 ?_
  have V529 : Arv Z h529 b499 k499 .byte (56 : Int32) [(.int 97), (.int 98), (.int 99), (.int 100), (.int 98), (.int 99), (.int 100), (.int 101), (.int 99), (.int 100), (.int 101), (.int 102), (.int 100), (.int 101), (.int 102), (.int 103), (.int 101), (.int 102), (.int 103), (.int 104), (.int 102), (.int 103), (.int 104), (.int 105), (.int 103), (.int 104), (.int 105), (.int 106), (.int 104), (.int 0), (.int 0), (.int 0), (.int 0), (.int 0), (.int 0), (.int 0), (.int 0), (.int 0), (.int 0), (.int 0), (.int 0), (.int 0), (.int 0), (.int 0), (.int 0), (.int 0), (.int 0), (.int 0), (.int 0), (.int 0), (.int 0), (.int 0), (.int 0), (.int 0), (.int 0), (.int 0)] (.int 0) := Arv.set Ar529 cq529 cS529 cN529 cH529 cG529 (fits_nar_byte _) W529 28 rfl (Nat.le_of_ble_eq_true rfl)
  have K529 : Keep h0 h529 [] := Keep.wr K528 W529 (Or.inr (Nat.le_trans le501 (Nat.le_of_eq g499.symm)))
  have N529 := Fr.snoc X529 N528 (Nat.le_trans (Nat.le_trans Z0 le501) (Nat.le_of_eq g499.symm))
  refine own_go (B := T529.setTop (mkF m 221 #[.val (.long q1), .second, .val (.int p2), .val (.int nn), .val (.ref b491), .val (.ref b493), .val (.ref b494), .unset, .unset, .unset, .unset, .unset] [(.int 105), (.int 29), (.ref b499), (.ref b499)])) (fun tg kt => ?_) ?_
  · refine XS.dup X529.here hx rfl (hb hby at_216) rfl rfl ?_
    refine XS.bipush X529.here hx rfl (hb hby at_217) ?_
    refine XS.bipush X529.here hx rfl (hb hby at_219) ?_
    exact kt
  obtain ⟨cl530, Ar530, cq530, cS530, cN530, cH530, cG530⟩ := id V529
  have hin530 := inb_of (j := (29 : Int32)) cS530 ⟨by decide, by decide⟩
  obtain ⟨T530, h530, X530, e530, W530, st530⟩ := stB X529 hx hZ e529 Ar530 (j := (29 : Int32)) hin530 (g := (mkF m 221 #[.val (.long q1), .second, .val (.int p2), .val (.int nn), .val (.ref b491), .val (.ref b493), .val (.ref b494), .unset, .unset, .unset, .unset, .unset] [(.int 105), (.int 29), (.ref b499), (.ref b499)])) rfl rfl (hb hby at_221)
  refine own_go st530 ?_
  have V530 : Arv Z h530 b499 k499 .byte (56 : Int32) [(.int 97), (.int 98), (.int 99), (.int 100), (.int 98), (.int 99), (.int 100), (.int 101), (.int 99), (.int 100), (.int 101), (.int 102), (.int 100), (.int 101), (.int 102), (.int 103), (.int 101), (.int 102), (.int 103), (.int 104), (.int 102), (.int 103), (.int 104), (.int 105), (.int 103), (.int 104), (.int 105), (.int 106), (.int 104), (.int 105), (.int 0), (.int 0), (.int 0), (.int 0), (.int 0), (.int 0), (.int 0), (.int 0), (.int 0), (.int 0), (.int 0), (.int 0), (.int 0), (.int 0), (.int 0), (.int 0), (.int 0), (.int 0), (.int 0), (.int 0), (.int 0), (.int 0), (.int 0), (.int 0), (.int 0), (.int 0)] (.int 0) := Arv.set Ar530 cq530 cS530 cN530 cH530 cG530 (fits_nar_byte _) W530 29 rfl (Nat.le_of_ble_eq_true rfl)
  have K530 : Keep h0 h530 [] := Keep.wr K529 W530 (Or.inr (Nat.le_trans le501 (Nat.le_of_eq g499.symm)))
  have N530 := Fr.snoc X530 N529 (Nat.le_trans (Nat.le_trans Z0 le501) (Nat.le_of_eq g499.symm))
  refine own_go (B := T530.setTop (mkF m 227 #[.val (.long q1), .second, .val (.int p2), .val (.int nn), .val (.ref b491), .val (.ref b493), .val (.ref b494), .unset, .unset, .unset, .unset, .unset] [(.int 106), (.int 30), (.ref b499), (.ref b499)])) (fun tg kt => ?_) ?_
  · refine XS.dup X530.here hx rfl (hb hby at_222) rfl rfl ?_
    refine XS.bipush X530.here hx rfl (hb hby at_223) ?_
    refine XS.bipush X530.here hx rfl (hb hby at_225) ?_
    exact kt
  obtain ⟨cl531, Ar531, cq531, cS531, cN531, cH531, cG531⟩ := id V530
  have hin531 := inb_of (j := (30 : Int32)) cS531 ⟨by decide, by decide⟩
  obtain ⟨T531, h531, X531, e531, W531, st531⟩ := stB X530 hx hZ e530 Ar531 (j := (30 : Int32)) hin531 (g := (mkF m 227 #[.val (.long q1), .second, .val (.int p2), .val (.int nn), .val (.ref b491), .val (.ref b493), .val (.ref b494), .unset, .unset, .unset, .unset, .unset] [(.int 106), (.int 30), (.ref b499), (.ref b499)])) rfl rfl (hb hby at_227)
  refine own_go st531 ?_
  have V531 : Arv Z h531 b499 k499 .byte (56 : Int32) [(.int 97), (.int 98), (.int 99), (.int 100), (.int 98), (.int 99), (.int 100), (.int 101), (.int 99), (.int 100), (.int 101), (.int 102), (.int 100), (.int 101), (.int 102), (.int 103), (.int 101), (.int 102), (.int 103), (.int 104), (.int 102), (.int 103), (.int 104), (.int 105), (.int 103), (.int 104), (.int 105), (.int 106), (.int 104), (.int 105), (.int 106), (.int 0), (.int 0), (.int 0), (.int 0), (.int 0), (.int 0), (.int 0), (.int 0), (.int 0), (.int 0), (.int 0), (.int 0), (.int 0), (.int 0), (.int 0), (.int 0), (.int 0), (.int 0), (.int 0), (.int 0), (.int 0), (.int 0), (.int 0), (.int 0), (.int 0)] (.int 0) := Arv.set Ar531 cq531 cS531 cN531 cH531 cG531 (fits_nar_byte _) W531 30 rfl (Nat.le_of_ble_eq_true rfl)
  have K531 : Keep h0 h531 [] := Keep.wr K530 W531 (Or.inr (Nat.le_trans le501 (Nat.le_of_eq g499.symm)))
  have N531 := Fr.snoc X531 N530 (Nat.le_trans (Nat.le_trans Z0 le501) (Nat.le_of_eq g499.symm))
  refine own_go (B := T531.setTop (mkF m 233 #[.val (.long q1), .second, .val (.int p2), .val (.int nn), .val (.ref b491), .val (.ref b493), .val (.ref b494), .unset, .unset, .unset, .unset, .unset] [(.int 107), (.int 31), (.ref b499), (.ref b499)])) (fun tg kt => ?_) ?_
  · refine XS.dup X531.here hx rfl (hb hby at_228) rfl rfl ?_
    refine XS.bipush X531.here hx rfl (hb hby at_229) ?_
    refine XS.bipush X531.here hx rfl (hb hby at_231) ?_
    exact kt
  obtain ⟨cl532, Ar532, cq532, cS532, cN532, cH532, cG532⟩ := id V531
  have hin532 := inb_of (j := (31 : Int32)) cS532 ⟨by decide, by decide⟩
  obtain ⟨T532, h532, X532, e532, W532, st532⟩ := stB X531 hx hZ e531 Ar532 (j := (31 : Int32)) hin532 (g := (mkF m 233 #[.val (.long q1), .second, .val (.int p2), .val (.int nn), .val (.ref b491), .val (.ref b493), .val (.ref b494), .unset, .unset, .unset, .unset, .unset] [(.int 107), (.int 31), (.ref b499), (.ref b499)])) rfl rfl (hb hby at_233)
  refine own_go st532 ?_
  have V532 : Arv Z h532 b499 k499 .byte (56 : Int32) [(.int 97), (.int 98), (.int 99), (.int 100), (.int 98), (.int 99), (.int 100), (.int 101), (.int 99), (.int 100), (.int 101), (.int 102), (.int 100), (.int 101), (.int 102), (.int 103), (.int 101), (.int 102), (.int 103), (.int 104), (.int 102), (.int 103), (.int 104), (.int 105), (.int 103), (.int 104), (.int 105), (.int 106), (.int 104), (.int 105), (.int 106), (.int 107), (.int 0), (.int 0), (.int 0), (.int 0), (.int 0), (.int 0), (.int 0), (.int 0), (.int 0), (.int 0), (.int 0), (.int 0), (.int 0), (.int 0), (.int 0), (.int 0), (.int 0), (.int 0), (.int 0), (.int 0), (.int 0), (.int 0), (.int 0), (.int 0)] (.int 0) := Arv.set Ar532 cq532 cS532 cN532 cH532 cG532 (fits_nar_byte _) W532 31 rfl (Nat.le_of_ble_eq_true rfl)
  have K532 : Keep h0 h532 [] := Keep.wr K531 W532 (Or.inr (Nat.le_trans le501 (Nat.le_of_eq g499.symm)))
  have N532 := Fr.snoc X532 N531 (Nat.le_trans (Nat.le_trans Z0 le501) (Nat.le_of_eq g499.symm))
  refine own_go (B := T532.setTop (mkF m 239 #[.val (.long q1), .second, .val (.int p2), .val (.int nn), .val (.ref b491), .val (.ref b493), .val (.ref b494), .unset, .unset, .unset, .unset, .unset] [(.int 105), (.int 32), (.ref b499), (.ref b499)])) (fun tg kt => ?_) ?_
  · refine XS.dup X532.here hx rfl (hb hby at_234) rfl rfl ?_
    refine XS.bipush X532.here hx rfl (hb hby at_235) ?_
    refine XS.bipush X532.here hx rfl (hb hby at_237) ?_
    exact kt
  obtain ⟨cl533, Ar533, cq533, cS533, cN533, cH533, cG533⟩ := id V532
  have hin533 := inb_of (j := (32 : Int32)) cS533 ⟨by decide, by decide⟩
  obtain ⟨T533, h533, X533, e533, W533, st533⟩ := stB X532 hx hZ e532 Ar533 (j := (32 : Int32)) hin533 (g := (mkF m 239 #[.val (.long q1), .second, .val (.int p2), .val (.int nn), .val (.ref b491), .val (.ref b493), .val (.ref b494), .unset, .unset, .unset, .unset, .unset] [(.int 105), (.int 32), (.ref b499), (.ref b499)])) rfl rfl (hb hby at_239)
  refine own_go st533 ?_
  have V533 : Arv Z h533 b499 k499 .byte (56 : Int32) [(.int 97), (.int 98), (.int 99), (.int 100), (.int 98), (.int 99), (.int 100), (.int 101), (.int 99), (.int 100), (.int 101), (.int 102), (.int 100), (.int 101), (.int 102), (.int 103), (.int 101), (.int 102), (.int 103), (.int 104), (.int 102), (.int 103), (.int 104), (.int 105), (.int 103), (.int 104), (.int 105), (.int 106), (.int 104), (.int 105), (.int 106), (.int 107), (.int 105), (.int 0), (.int 0), (.int 0), (.int 0), (.int 0), (.int 0), (.int 0), (.int 0), (.int 0), (.int 0), (.int 0), (.int 0), (.int 0), (.int 0), (.int 0), (.int 0), (.int 0), (.int 0), (.int 0), (.int 0), (.int 0), (.int 0), (.int 0)] (.int 0) := Arv.set Ar533 cq533 cS533 cN533 cH533 cG533 (fits_nar_byte _) W533 32 rfl (Nat.le_of_ble_eq_true rfl)
  have K533 : Keep h0 h533 [] := Keep.wr K532 W533 (Or.inr (Nat.le_trans le501 (Nat.le_of_eq g499.symm)))
  have N533 := Fr.snoc X533 N532 (Nat.le_trans (Nat.le_trans Z0 le501) (Nat.le_of_eq g499.symm))
  refine own_go (B := T533.setTop (mkF m 245 #[.val (.long q1), .second, .val (.int p2), .val (.int nn), .val (.ref b491), .val (.ref b493), .val (.ref b494), .unset, .unset, .unset, .unset, .unset] [(.int 106), (.int 33), (.ref b499), (.ref b499)])) (fun tg kt => ?_) ?_
  · refine XS.dup X533.here hx rfl (hb hby at_240) rfl rfl ?_
    refine XS.bipush X533.here hx rfl (hb hby at_241) ?_
    refine XS.bipush X533.here hx rfl (hb hby at_243) ?_
    exact kt
  obtain ⟨cl534, Ar534, cq534, cS534, cN534, cH534, cG534⟩ := id V533
  have hin534 := inb_of (j := (33 : Int32)) cS534 ⟨by decide, by decide⟩
  obtain ⟨T534, h534, X534, e534, W534, st534⟩ := stB X533 hx hZ e533 Ar534 (j := (33 : Int32)) hin534 (g := (mkF m 245 #[.val (.long q1), .second, .val (.int p2), .val (.int nn), .val (.ref b491), .val (.ref b493), .val (.ref b494), .unset, .unset, .unset, .unset, .unset] [(.int 106), (.int 33), (.ref b499), (.ref b499)])) rfl rfl (hb hby at_245)
  refine own_go st534 ?_
  have V534 : Arv Z h534 b499 k499 .byte (56 : Int32) [(.int 97), (.int 98), (.int 99), (.int 100), (.int 98), (.int 99), (.int 100), (.int 101), (.int 99), (.int 100), (.int 101), (.int 102), (.int 100), (.int 101), (.int 102), (.int 103), (.int 101), (.int 102), (.int 103), (.int 104), (.int 102), (.int 103), (.int 104), (.int 105), (.int 103), (.int 104), (.int 105), (.int 106), (.int 104), (.int 105), (.int 106), (.int 107), (.int 105), (.int 106), (.int 0), (.int 0), (.int 0), (.int 0), (.int 0), (.int 0), (.int 0), (.int 0), (.int 0), (.int 0), (.int 0), (.int 0), (.int 0), (.int 0), (.int 0), (.int 0), (.int 0), (.int 0), (.int 0), (.int 0), (.int 0), (.int 0)] (.int 0) := Arv.set Ar534 cq534 cS534 cN534 cH534 cG534 (fits_nar_byte _) W534 33 rfl (Nat.le_of_ble_eq_true rfl)
  have K534 : Keep h0 h534 [] := Keep.wr K533 W534 (Or.inr (Nat.le_trans le501 (Nat.le_of_eq g499.symm)))
  have N534 := Fr.snoc X534 N533 (Nat.le_trans (Nat.le_trans Z0 le501) (Nat.le_of_eq g499.symm))
  refine own_go (B := T534.setTop (mkF m 251 #[.val (.long q1), .second, .val (.int p2), .val (.int nn), .val (.ref b491), .val (.ref b493), .val (.ref b494), .unset, .unset, .unset, .unset, .unset] [(.int 107), (.int 34), (.ref b499), (.ref b499)])) (fun tg kt => ?_) ?_
  · refine XS.dup X534.here hx rfl (hb hby at_246) rfl rfl ?_
    refine XS.bipush X534.here hx rfl (hb hby at_247) ?_
    refine XS.bipush X534.here hx rfl (hb hby at_249) ?_
    exact kt
  obtain ⟨cl535, Ar535, cq535, cS535, cN535, cH535, cG535⟩ := id V534
  have hin535 := inb_of (j := (34 : Int32)) cS535 ⟨by decide, by decide⟩
  obtain ⟨T535, h535, X535, e535, W535, st535⟩ := stB X534 hx hZ e534 Ar535 (j := (34 : Int32)) hin535 (g := (mkF m 251 #[.val (.long q1), .second, .val (.int p2), .val (.int nn), .val (.ref b491), .val (.ref b493), .val (.ref b494), .unset, .unset, .unset, .unset, .unset] [(.int 107), (.int 34), (.ref b499), (.ref b499)])) rfl rfl (hb hby at_251)
  refine own_go st535 ?_
  have V535 : Arv Z h535 b499 k499 .byte (56 : Int32) [(.int 97), (.int 98), (.int 99), (.int 100), (.int 98), (.int 99), (.int 100), (.int 101), (.int 99), (.int 100), (.int 101), (.int 102), (.int 100), (.int 101), (.int 102), (.int 103), (.int 101), (.int 102), (.int 103), (.int 104), (.int 102), (.int 103), (.int 104), (.int 105), (.int 103), (.int 104), (.int 105), (.int 106), (.int 104), (.int 105), (.int 106), (.int 107), (.int 105), (.int 106), (.int 107), (.int 0), (.int 0), (.int 0), (.int 0), (.int 0), (.int 0), (.int 0), (.int 0), (.int 0), (.int 0), (.int 0), (.int 0), (.int 0), (.int 0), (.int 0), (.int 0), (.int 0), (.int 0), (.int 0), (.int 0), (.int 0)] (.int 0) := Arv.set Ar535 cq535 cS535 cN535 cH535 cG535 (fits_nar_byte _) W535 34 rfl (Nat.le_of_ble_eq_true rfl)
  have K535 : Keep h0 h535 [] := Keep.wr K534 W535 (Or.inr (Nat.le_trans le501 (Nat.le_of_eq g499.symm)))
  have N535 := Fr.snoc X535 N534 (Nat.le_trans (Nat.le_trans Z0 le501) (Nat.le_of_eq g499.symm))
  refine own_go (B := T535.setTop (mkF m 257 #[.val (.long q1), .second, .val (.int p2), .val (.int nn), .val (.ref b491), .val (.ref b493), .val (.ref b494), .unset, .unset, .unset, .unset, .unset] [(.int 108), (.int 35), (.ref b499), (.ref b499)])) (fun tg kt => ?_) ?_
  · refine XS.dup X535.here hx rfl (hb hby at_252) rfl rfl ?_
    refine XS.bipush X535.here hx rfl (hb hby at_253) ?_
    refine XS.bipush X535.here hx rfl (hb hby at_255) ?_
    exact kt
  obtain ⟨cl536, Ar536, cq536, cS536, cN536, cH536, cG536⟩ := id V535
  have hin536 := inb_of (j := (35 : Int32)) cS536 ⟨by decide, by decide⟩
  obtain ⟨T536, h536, X536, e536, W536, st536⟩ := stB X535 hx hZ e535 Ar536 (j := (35 : Int32)) hin536 (g := (mkF m 257 #[.val (.long q1), .second, .val (.int p2), .val (.int nn), .val (.ref b491), .val (.ref b493), .val (.ref b494), .unset, .unset, .unset, .unset, .unset] [(.int 108), (.int 35), (.ref b499), (.ref b499)])) rfl rfl (hb hby at_257)
  refine own_go st536 ?_
  have V536 : Arv Z h536 b499 k499 .byte (56 : Int32) [(.int 97), (.int 98), (.int 99), (.int 100), (.int 98), (.int 99), (.int 100), (.int 101), (.int 99), (.int 100), (.int 101), (.int 102), (.int 100), (.int 101), (.int 102), (.int 103), (.int 101), (.int 102), (.int 103), (.int 104), (.int 102), (.int 103), (.int 104), (.int 105), (.int 103), (.int 104), (.int 105), (.int 106), (.int 104), (.int 105), (.int 106), (.int 107), (.int 105), (.int 106), (.int 107), (.int 108), (.int 0), (.int 0), (.int 0), (.int 0), (.int 0), (.int 0), (.int 0), (.int 0), (.int 0), (.int 0), (.int 0), (.int 0), (.int 0), (.int 0), (.int 0), (.int 0), (.int 0), (.int 0), (.int 0), (.int 0)] (.int 0) := Arv.set Ar536 cq536 cS536 cN536 cH536 cG536 (fits_nar_byte _) W536 35 rfl (Nat.le_of_ble_eq_true rfl)
  have K536 : Keep h0 h536 [] := Keep.wr K535 W536 (Or.inr (Nat.le_trans le501 (Nat.le_of_eq g499.symm)))
  have N536 := Fr.snoc X536 N535 (Nat.le_trans (Nat.le_trans Z0 le501) (Nat.le_of_eq g499.symm))
  refine own_go (B := T536.setTop (mkF m 263 #[.val (.long q1), .second, .val (.int p2), .val (.int nn), .val (.ref b491), .val (.ref b493), .val (.ref b494), .unset, .unset, .unset, .unset, .unset] [(.int 106), (.int 36), (.ref b499), (.ref b499)])) (fun tg kt => ?_) ?_
  · refine XS.dup X536.here hx rfl (hb hby at_258) rfl rfl ?_
    refine XS.bipush X536.here hx rfl (hb hby at_259) ?_
    refine XS.bipush X536.here hx rfl (hb hby at_261) ?_
    exact kt
  obtain ⟨cl537, Ar537, cq537, cS537, cN537, cH537, cG537⟩ := id V536
  have hin537 := inb_of (j := (36 : Int32)) cS537 ⟨by decide, by decide⟩
  obtain ⟨T537, h537, X537, e537, W537, st537⟩ := stB X536 hx hZ e536 Ar537 (j := (36 : Int32)) hin537 (g := (mkF m 263 #[.val (.long q1), .second, .val (.int p2), .val (.int nn), .val (.ref b491), .val (.ref b493), .val (.ref b494), .unset, .unset, .unset, .unset, .unset] [(.int 106), (.int 36), (.ref b499), (.ref b499)])) rfl rfl (hb hby at_263)
  refine own_go st537 ?_
  have V537 : Arv Z h537 b499 k499 .byte (56 : Int32) [(.int 97), (.int 98), (.int 99), (.int 100), (.int 98), (.int 99), (.int 100), (.int 101), (.int 99), (.int 100), (.int 101), (.int 102), (.int 100), (.int 101), (.int 102), (.int 103), (.int 101), (.int 102), (.int 103), (.int 104), (.int 102), (.int 103), (.int 104), (.int 105), (.int 103), (.int 104), (.int 105), (.int 106), (.int 104), (.int 105), (.int 106), (.int 107), (.int 105), (.int 106), (.int 107), (.int 108), (.int 106), (.int 0), (.int 0), (.int 0), (.int 0), (.int 0), (.int 0), (.int 0), (.int 0), (.int 0), (.int 0), (.int 0), (.int 0), (.int 0), (.int 0), (.int 0), (.int 0), (.int 0), (.int 0), (.int 0)] (.int 0) := Arv.set Ar537 cq537 cS537 cN537 cH537 cG537 (fits_nar_byte _) W537 36 rfl (Nat.le_of_ble_eq_true rfl)
  have K537 : Keep h0 h537 [] := Keep.wr K536 W537 (Or.inr (Nat.le_trans le501 (Nat.le_of_eq g499.symm)))
  have N537 := Fr.snoc X537 N536 (Nat.le_trans (Nat.le_trans Z0 le501) (Nat.le_of_eq g499.symm))
  refine own_go (B := T537.setTop (mkF m 269 #[.val (.long q1), .second, .val (.int p2), .val (.int nn), .val (.ref b491), .val (.ref b493), .val (.ref b494), .unset, .unset, .unset, .unset, .unset] [(.int 107), (.int 37), (.ref b499), (.ref b499)])) (fun tg kt => ?_) ?_
  · refine XS.dup X537.here hx rfl (hb hby at_264) rfl rfl ?_
    refine XS.bipush X537.here hx rfl (hb hby at_265) ?_
    refine XS.bipush X537.here hx rfl (hb hby at_267) ?_
    exact kt
  obtain ⟨cl538, Ar538, cq538, cS538, cN538, cH538, cG538⟩ := id V537
  have hin538 := inb_of (j := (37 : Int32)) cS538 ⟨by decide, by decide⟩
  obtain ⟨T538, h538, X538, e538, W538, st538⟩ := stB X537 hx hZ e537 Ar538 (j := (37 : Int32)) hin538 (g := (mkF m 269 #[.val (.long q1), .second, .val (.int p2), .val (.int nn), .val (.ref b491), .val (.ref b493), .val (.ref b494), .unset, .unset, .unset, .unset, .unset] [(.int 107), (.int 37), (.ref b499), (.ref b499)])) rfl rfl (hb hby at_269)
  refine own_go st538 ?_
  have V538 : Arv Z h538 b499 k499 .byte (56 : Int32) [(.int 97), (.int 98), (.int 99), (.int 100), (.int 98), (.int 99), (.int 100), (.int 101), (.int 99), (.int 100), (.int 101), (.int 102), (.int 100), (.int 101), (.int 102), (.int 103), (.int 101), (.int 102), (.int 103), (.int 104), (.int 102), (.int 103), (.int 104), (.int 105), (.int 103), (.int 104), (.int 105), (.int 106), (.int 104), (.int 105), (.int 106), (.int 107), (.int 105), (.int 106), (.int 107), (.int 108), (.int 106), (.int 107), (.int 0), (.int 0), (.int 0), (.int 0), (.int 0), (.int 0), (.int 0), (.int 0), (.int 0), (.int 0), (.int 0), (.int 0), (.int 0), (.int 0), (.int 0), (.int 0), (.int 0), (.int 0)] (.int 0) := Arv.set Ar538 cq538 cS538 cN538 cH538 cG538 (fits_nar_byte _) W538 37 rfl (Nat.le_of_ble_eq_true rfl)
  have K538 : Keep h0 h538 [] := Keep.wr K537 W538 (Or.inr (Nat.le_trans le501 (Nat.le_of_eq g499.symm)))
  have N538 := Fr.snoc X538 N537 (Nat.le_trans (Nat.le_trans Z0 le501) (Nat.le_of_eq g499.symm))
  refine own_go (B := T538.setTop (mkF m 275 #[.val (.long q1), .second, .val (.int p2), .val (.int nn), .val (.ref b491), .val (.ref b493), .val (.ref b494), .unset, .unset, .unset, .unset, .unset] [(.int 108), (.int 38), (.ref b499), (.ref b499)])) (fun tg kt => ?_) ?_
  · refine XS.dup X538.here hx rfl (hb hby at_270) rfl rfl ?_
    refine XS.bipush X538.here hx rfl (hb hby at_271) ?_
    refine XS.bipush X538.here hx rfl (hb hby at_273) ?_
    exact kt
  obtain ⟨cl539, Ar539, cq539, cS539, cN539, cH539, cG539⟩ := id V538
  have hin539 := inb_of (j := (38 : Int32)) cS539 ⟨by decide, by decide⟩
  obtain ⟨T539, h539, X539, e539, W539, st539⟩ := stB X538 hx hZ e538 Ar539 (j := (38 : Int32)) hin539 (g := (mkF m 275 #[.val (.long q1), .second, .val (.int p2), .val (.int nn), .val (.ref b491), .val (.ref b493), .val (.ref b494), .unset, .unset, .unset, .unset, .unset] [(.int 108), (.int 38), (.ref b499), (.ref b499)])) rfl rfl (hb hby at_275)
  refine own_go st539 ?_
  have V539 : Arv Z h539 b499 k499 .byte (56 : Int32) [(.int 97), (.int 98), (.int 99), (.int 100), (.int 98), (.int 99), (.int 100), (.int 101), (.int 99), (.int 100), (.int 101), (.int 102), (.int 100), (.int 101), (.int 102), (.int 103), (.int 101), (.int 102), (.int 103), (.int 104), (.int 102), (.int 103), (.int 104), (.int 105), (.int 103), (.int 104), (.int 105), (.int 106), (.int 104), (.int 105), (.int 106), (.int 107), (.int 105), (.int 106), (.int 107), (.int 108), (.int 106), (.int 107), (.int 108), (.int 0), (.int 0), (.int 0), (.int 0), (.int 0), (.int 0), (.int 0), (.int 0), (.int 0), (.int 0), (.int 0), (.int 0), (.int 0), (.int 0), (.int 0), (.int 0), (.int 0)] (.int 0) := Arv.set Ar539 cq539 cS539 cN539 cH539 cG539 (fits_nar_byte _) W539 38 rfl (Nat.le_of_ble_eq_true rfl)
  have K539 : Keep h0 h539 [] := Keep.wr K538 W539 (Or.inr (Nat.le_trans le501 (Nat.le_of_eq g499.symm)))
  have N539 := Fr.snoc X539 N538 (Nat.le_trans (Nat.le_trans Z0 le501) (Nat.le_of_eq g499.symm))
  refine own_go (B := T539.setTop (mkF m 281 #[.val (.long q1), .second, .val (.int p2), .val (.int nn), .val (.ref b491), .val (.ref b493), .val (.ref b494), .unset, .unset, .unset, .unset, .unset] [(.int 109), (.int 39), (.ref b499), (.ref b499)])) (fun tg kt => ?_) ?_
  · refine XS.dup X539.here hx rfl (hb hby at_276) rfl rfl ?_
    refine XS.bipush X539.here hx rfl (hb hby at_277) ?_
    refine XS.bipush X539.here hx rfl (hb hby at_279) ?_
    exact kt
  obtain ⟨cl540, Ar540, cq540, cS540, cN540, cH540, cG540⟩ := id V539
  have hin540 := inb_of (j := (39 : Int32)) cS540 ⟨by decide, by decide⟩
  obtain ⟨T540, h540, X540, e540, W540, st540⟩ := stB X539 hx hZ e539 Ar540 (j := (39 : Int32)) hin540 (g := (mkF m 281 #[.val (.long q1), .second, .val (.int p2), .val (.int nn), .val (.ref b491), .val (.ref b493), .val (.ref b494), .unset, .unset, .unset, .unset, .unset] [(.int 109), (.int 39), (.ref b499), (.ref b499)])) rfl rfl (hb hby at_281)
  refine own_go st540 ?_
  have V540 : Arv Z h540 b499 k499 .byte (56 : Int32) [(.int 97), (.int 98), (.int 99), (.int 100), (.int 98), (.int 99), (.int 100), (.int 101), (.int 99), (.int 100), (.int 101), (.int 102), (.int 100), (.int 101), (.int 102), (.int 103), (.int 101), (.int 102), (.int 103), (.int 104), (.int 102), (.int 103), (.int 104), (.int 105), (.int 103), (.int 104), (.int 105), (.int 106), (.int 104), (.int 105), (.int 106), (.int 107), (.int 105), (.int 106), (.int 107), (.int 108), (.int 106), (.int 107), (.int 108), (.int 109), (.int 0), (.int 0), (.int 0), (.int 0), (.int 0), (.int 0), (.int 0), (.int 0), (.int 0), (.int 0), (.int 0), (.int 0), (.int 0), (.int 0), (.int 0), (.int 0)] (.int 0) := Arv.set Ar540 cq540 cS540 cN540 cH540 cG540 (fits_nar_byte _) W540 39 rfl (Nat.le_of_ble_eq_true rfl)
  have K540 : Keep h0 h540 [] := Keep.wr K539 W540 (Or.inr (Nat.le_trans le501 (Nat.le_of_eq g499.symm)))
  have N540 := Fr.snoc X540 N539 (Nat.le_trans (Nat.le_trans Z0 le501) (Nat.le_of_eq g499.symm))
  refine own_go (B := T540.setTop (mkF m 287 #[.val (.long q1), .second, .val (.int p2), .val (.int nn), .val (.ref b491), .val (.ref b493), .val (.ref b494), .unset, .unset, .unset, .unset, .unset] [(.int 107), (.int 40), (.ref b499), (.ref b499)])) (fun tg kt => ?_) ?_
  · refine XS.dup X540.here hx rfl (hb hby at_282) rfl rfl ?_
    refine XS.bipush X540.here hx rfl (hb hby at_283) ?_
    refine XS.bipush X540.here hx rfl (hb hby at_285) ?_
    exact kt
  obtain ⟨cl541, Ar541, cq541, cS541, cN541, cH541, cG541⟩ := id V540
  have hin541 := inb_of (j := (40 : Int32)) cS541 ⟨by decide, by decide⟩
  obtain ⟨T541, h541, X541, e541, W541, st541⟩ := stB X540 hx hZ e540 Ar541 (j := (40 : Int32)) hin541 (g := (mkF m 287 #[.val (.long q1), .second, .val (.int p2), .val (.int nn), .val (.ref b491), .val (.ref b493), .val (.ref b494), .unset, .unset, .unset, .unset, .unset] [(.int 107), (.int 40), (.ref b499), (.ref b499)])) rfl rfl (hb hby at_287)
  refine own_go st541 ?_
  have V541 : Arv Z h541 b499 k499 .byte (56 : Int32) [(.int 97), (.int 98), (.int 99), (.int 100), (.int 98), (.int 99), (.int 100), (.int 101), (.int 99), (.int 100), (.int 101), (.int 102), (.int 100), (.int 101), (.int 102), (.int 103), (.int 101), (.int 102), (.int 103), (.int 104), (.int 102), (.int 103), (.int 104), (.int 105), (.int 103), (.int 104), (.int 105), (.int 106), (.int 104), (.int 105), (.int 106), (.int 107), (.int 105), (.int 106), (.int 107), (.int 108), (.int 106), (.int 107), (.int 108), (.int 109), (.int 107), (.int 0), (.int 0), (.int 0), (.int 0), (.int 0), (.int 0), (.int 0), (.int 0), (.int 0), (.int 0), (.int 0), (.int 0), (.int 0), (.int 0), (.int 0)] (.int 0) := Arv.set Ar541 cq541 cS541 cN541 cH541 cG541 (fits_nar_byte _) W541 40 rfl (Nat.le_of_ble_eq_true rfl)
  have K541 : Keep h0 h541 [] := Keep.wr K540 W541 (Or.inr (Nat.le_trans le501 (Nat.le_of_eq g499.symm)))
  have N541 := Fr.snoc X541 N540 (Nat.le_trans (Nat.le_trans Z0 le501) (Nat.le_of_eq g499.symm))
  refine own_go (B := T541.setTop (mkF m 293 #[.val (.long q1), .second, .val (.int p2), .val (.int nn), .val (.ref b491), .val (.ref b493), .val (.ref b494), .unset, .unset, .unset, .unset, .unset] [(.int 108), (.int 41), (.ref b499), (.ref b499)])) (fun tg kt => ?_) ?_
  · refine XS.dup X541.here hx rfl (hb hby at_288) rfl rfl ?_
    refine XS.bipush X541.here hx rfl (hb hby at_289) ?_
    refine XS.bipush X541.here hx rfl (hb hby at_291) ?_
    exact kt
  obtain ⟨cl542, Ar542, cq542, cS542, cN542, cH542, cG542⟩ := id V541
  have hin542 := inb_of (j := (41 : Int32)) cS542 ⟨by decide, by decide⟩
  obtain ⟨T542, h542, X542, e542, W542, st542⟩ := stB X541 hx hZ e541 Ar542 (j := (41 : Int32)) hin542 (g := (mkF m 293 #[.val (.long q1), .second, .val (.int p2), .val (.int nn), .val (.ref b491), .val (.ref b493), .val (.ref b494), .unset, .unset, .unset, .unset, .unset] [(.int 108), (.int 41), (.ref b499), (.ref b499)])) rfl rfl (hb hby at_293)
  refine own_go st542 ?_
  have V542 : Arv Z h542 b499 k499 .byte (56 : Int32) [(.int 97), (.int 98), (.int 99), (.int 100), (.int 98), (.int 99), (.int 100), (.int 101), (.int 99), (.int 100), (.int 101), (.int 102), (.int 100), (.int 101), (.int 102), (.int 103), (.int 101), (.int 102), (.int 103), (.int 104), (.int 102), (.int 103), (.int 104), (.int 105), (.int 103), (.int 104), (.int 105), (.int 106), (.int 104), (.int 105), (.int 106), (.int 107), (.int 105), (.int 106), (.int 107), (.int 108), (.int 106), (.int 107), (.int 108), (.int 109), (.int 107), (.int 108), (.int 0), (.int 0), (.int 0), (.int 0), (.int 0), (.int 0), (.int 0), (.int 0), (.int 0), (.int 0), (.int 0), (.int 0), (.int 0), (.int 0)] (.int 0) := Arv.set Ar542 cq542 cS542 cN542 cH542 cG542 (fits_nar_byte _) W542 41 rfl (Nat.le_of_ble_eq_true rfl)
  have K542 : Keep h0 h542 [] := Keep.wr K541 W542 (Or.inr (Nat.le_trans le501 (Nat.le_of_eq g499.symm)))
  have N542 := Fr.snoc X542 N541 (Nat.le_trans (Nat.le_trans Z0 le501) (Nat.le_of_eq g499.symm))
  refine own_go (B := T542.setTop (mkF m 299 #[.val (.long q1), .second, .val (.int p2), .val (.int nn), .val (.ref b491), .val (.ref b493), .val (.ref b494), .unset, .unset, .unset, .unset, .unset] [(.int 109), (.int 42), (.ref b499), (.ref b499)])) (fun tg kt => ?_) ?_
  · refine XS.dup X542.here hx rfl (hb hby at_294) rfl rfl ?_
    refine XS.bipush X542.here hx rfl (hb hby at_295) ?_
    refine XS.bipush X542.here hx rfl (hb hby at_297) ?_
    exact kt
  obtain ⟨cl543, Ar543, cq543, cS543, cN543, cH543, cG543⟩ := id V542
  have hin543 := inb_of (j := (42 : Int32)) cS543 ⟨by decide, by decide⟩
  obtain ⟨T543, h543, X543, e543, W543, st543⟩ := stB X542 hx hZ e542 Ar543 (j := (42 : Int32)) hin543 (g := (mkF m 299 #[.val (.long q1), .second, .val (.int p2), .val (.int nn), .val (.ref b491), .val (.ref b493), .val (.ref b494), .unset, .unset, .unset, .unset, .unset] [(.int 109), (.int 42), (.ref b499), (.ref b499)])) rfl rfl (hb hby at_299)
  refine own_go st543 ?_
  have V543 : Arv Z h543 b499 k499 .byte (56 : Int32) [(.int 97), (.int 98), (.int 99), (.int 100), (.int 98), (.int 99), (.int 100), (.int 101), (.int 99), (.int 100), (.int 101), (.int 102), (.int 100), (.int 101), (.int 102), (.int 103), (.int 101), (.int 102), (.int 103), (.int 104), (.int 102), (.int 103), (.int 104), (.int 105), (.int 103), (.int 104), (.int 105), (.int 106), (.int 104), (.int 105), (.int 106), (.int 107), (.int 105), (.int 106), (.int 107), (.int 108), (.int 106), (.int 107), (.int 108), (.int 109), (.int 107), (.int 108), (.int 109), (.int 0), (.int 0), (.int 0), (.int 0), (.int 0), (.int 0), (.int 0), (.int 0), (.int 0), (.int 0), (.int 0), (.int 0), (.int 0)] (.int 0) := Arv.set Ar543 cq543 cS543 cN543 cH543 cG543 (fits_nar_byte _) W543 42 rfl (Nat.le_of_ble_eq_true rfl)
  have K543 : Keep h0 h543 [] := Keep.wr K542 W543 (Or.inr (Nat.le_trans le501 (Nat.le_of_eq g499.symm)))
  have N543 := Fr.snoc X543 N542 (Nat.le_trans (Nat.le_trans Z0 le501) (Nat.le_of_eq g499.symm))
  refine own_go (B := T543.setTop (mkF m 305 #[.val (.long q1), .second, .val (.int p2), .val (.int nn), .val (.ref b491), .val (.ref b493), .val (.ref b494), .unset, .unset, .unset, .unset, .unset] [(.int 110), (.int 43), (.ref b499), (.ref b499)])) (fun tg kt => ?_) ?_
  · refine XS.dup X543.here hx rfl (hb hby at_300) rfl rfl ?_
    refine XS.bipush X543.here hx rfl (hb hby at_301) ?_
    refine XS.bipush X543.here hx rfl (hb hby at_303) ?_
    exact kt
  obtain ⟨cl544, Ar544, cq544, cS544, cN544, cH544, cG544⟩ := id V543
  have hin544 := inb_of (j := (43 : Int32)) cS544 ⟨by decide, by decide⟩
  obtain ⟨T544, h544, X544, e544, W544, st544⟩ := stB X543 hx hZ e543 Ar544 (j := (43 : Int32)) hin544 (g := (mkF m 305 #[.val (.long q1), .second, .val (.int p2), .val (.int nn), .val (.ref b491), .val (.ref b493), .val (.ref b494), .unset, .unset, .unset, .unset, .unset] [(.int 110), (.int 43), (.ref b499), (.ref b499)])) rfl rfl (hb hby at_305)
  refine own_go st544 ?_
  have V544 : Arv Z h544 b499 k499 .byte (56 : Int32) [(.int 97), (.int 98), (.int 99), (.int 100), (.int 98), (.int 99), (.int 100), (.int 101), (.int 99), (.int 100), (.int 101), (.int 102), (.int 100), (.int 101), (.int 102), (.int 103), (.int 101), (.int 102), (.int 103), (.int 104), (.int 102), (.int 103), (.int 104), (.int 105), (.int 103), (.int 104), (.int 105), (.int 106), (.int 104), (.int 105), (.int 106), (.int 107), (.int 105), (.int 106), (.int 107), (.int 108), (.int 106), (.int 107), (.int 108), (.int 109), (.int 107), (.int 108), (.int 109), (.int 110), (.int 0), (.int 0), (.int 0), (.int 0), (.int 0), (.int 0), (.int 0), (.int 0), (.int 0), (.int 0), (.int 0), (.int 0)] (.int 0) := Arv.set Ar544 cq544 cS544 cN544 cH544 cG544 (fits_nar_byte _) W544 43 rfl (Nat.le_of_ble_eq_true rfl)
  have K544 : Keep h0 h544 [] := Keep.wr K543 W544 (Or.inr (Nat.le_trans le501 (Nat.le_of_eq g499.symm)))
  have N544 := Fr.snoc X544 N543 (Nat.le_trans (Nat.le_trans Z0 le501) (Nat.le_of_eq g499.symm))
  refine own_go (B := T544.setTop (mkF m 311 #[.val (.long q1), .second, .val (.int p2), .val (.int nn), .val (.ref b491), .val (.ref b493), .val (.ref b494), .unset, .unset, .unset, .unset, .unset] [(.int 108), (.int 44), (.ref b499), (.ref b499)])) (fun tg kt => ?_) ?_
  · refine XS.dup X544.here hx rfl (hb hby at_306) rfl rfl ?_
    refine XS.bipush X544.here hx rfl (hb hby at_307) ?_
    refine XS.bipush X544.here hx rfl (hb hby at_309) ?_
    exact kt
  obtain ⟨cl545, Ar545, cq545, cS545, cN545, cH545, cG545⟩ := id V544
  have hin545 := inb_of (j := (44 : Int32)) cS545 ⟨by decide, by decide⟩
  obtain ⟨T545, h545, X545, e545, W545, st545⟩ := stB X544 hx hZ e544 Ar545 (j := (44 : Int32)) hin545 (g := (mkF m 311 #[.val (.long q1), .second, .val (.int p2), .val (.int nn), .val (.ref b491), .val (.ref b493), .val (.ref b494), .unset, .unset, .unset, .unset, .unset] [(.int 108), (.int 44), (.ref b499), (.ref b499)])) rfl rfl (hb hby at_311)
  refine own_go st545 ?_
  have V545 : Arv Z h545 b499 k499 .byte (56 : Int32) [(.int 97), (.int 98), (.int 99), (.int 100), (.int 98), (.int 99), (.int 100), (.int 101), (.int 99), (.int 100), (.int 101), (.int 102), (.int 100), (.int 101), (.int 102), (.int 103), (.int 101), (.int 102), (.int 103), (.int 104), (.int 102), (.int 103), (.int 104), (.int 105), (.int 103), (.int 104), (.int 105), (.int 106), (.int 104), (.int 105), (.int 106), (.int 107), (.int 105), (.int 106), (.int 107), (.int 108), (.int 106), (.int 107), (.int 108), (.int 109), (.int 107), (.int 108), (.int 109), (.int 110), (.int 108), (.int 0), (.int 0), (.int 0), (.int 0), (.int 0), (.int 0), (.int 0), (.int 0), (.int 0), (.int 0), (.int 0)] (.int 0) := Arv.set Ar545 cq545 cS545 cN545 cH545 cG545 (fits_nar_byte _) W545 44 rfl (Nat.le_of_ble_eq_true rfl)
  have K545 : Keep h0 h545 [] := Keep.wr K544 W545 (Or.inr (Nat.le_trans le501 (Nat.le_of_eq g499.symm)))
  have N545 := Fr.snoc X545 N544 (Nat.le_trans (Nat.le_trans Z0 le501) (Nat.le_of_eq g499.symm))
  refine own_go (B := T545.setTop (mkF m 317 #[.val (.long q1), .second, .val (.int p2), .val (.int nn), .val (.ref b491), .val (.ref b493), .val (.ref b494), .unset, .unset, .unset, .unset, .unset] [(.int 109), (.int 45), (.ref b499), (.ref b499)])) (fun tg kt => ?_) ?_
  · refine XS.dup X545.here hx rfl (hb hby at_312) rfl rfl ?_
    refine XS.bipush X545.here hx rfl (hb hby at_313) ?_
    refine XS.bipush X545.here hx rfl (hb hby at_315) ?_
    exact kt
  obtain ⟨cl546, Ar546, cq546, cS546, cN546, cH546, cG546⟩ := id V545
  have hin546 := inb_of (j := (45 : Int32)) cS546 ⟨by decide, by decide⟩
  obtain ⟨T546, h546, X546, e546, W546, st546⟩ := stB X545 hx hZ e545 Ar546 (j := (45 : Int32)) hin546 (g := (mkF m 317 #[.val (.long q1), .second, .val (.int p2), .val (.int nn), .val (.ref b491), .val (.ref b493), .val (.ref b494), .unset, .unset, .unset, .unset, .unset] [(.int 109), (.int 45), (.ref b499), (.ref b499)])) rfl rfl (hb hby at_317)
  refine own_go st546 ?_
  have V546 : Arv Z h546 b499 k499 .byte (56 : Int32) [(.int 97), (.int 98), (.int 99), (.int 100), (.int 98), (.int 99), (.int 100), (.int 101), (.int 99), (.int 100), (.int 101), (.int 102), (.int 100), (.int 101), (.int 102), (.int 103), (.int 101), (.int 102), (.int 103), (.int 104), (.int 102), (.int 103), (.int 104), (.int 105), (.int 103), (.int 104), (.int 105), (.int 106), (.int 104), (.int 105), (.int 106), (.int 107), (.int 105), (.int 106), (.int 107), (.int 108), (.int 106), (.int 107), (.int 108), (.int 109), (.int 107), (.int 108), (.int 109), (.int 110), (.int 108), (.int 109), (.int 0), (.int 0), (.int 0), (.int 0), (.int 0), (.int 0), (.int 0), (.int 0), (.int 0), (.int 0)] (.int 0) := Arv.set Ar546 cq546 cS546 cN546 cH546 cG546 (fits_nar_byte _) W546 45 rfl (Nat.le_of_ble_eq_true rfl)
  have K546 : Keep h0 h546 [] := Keep.wr K545 W546 (Or.inr (Nat.le_trans le501 (Nat.le_of_eq g499.symm)))
  have N546 := Fr.snoc X546 N545 (Nat.le_trans (Nat.le_trans Z0 le501) (Nat.le_of_eq g499.symm))
  refine own_go (B := T546.setTop (mkF m 323 #[.val (.long q1), .second, .val (.int p2), .val (.int nn), .val (.ref b491), .val (.ref b493), .val (.ref b494), .unset, .unset, .unset, .unset, .unset] [(.int 110), (.int 46), (.ref b499), (.ref b499)])) (fun tg kt => ?_) ?_
  · refine XS.dup X546.here hx rfl (hb hby at_318) rfl rfl ?_
    refine XS.bipush X546.here hx rfl (hb hby at_319) ?_
    refine XS.bipush X546.here hx rfl (hb hby at_321) ?_
    exact kt
  obtain ⟨cl547, Ar547, cq547, cS547, cN547, cH547, cG547⟩ := id V546
  have hin547 := inb_of (j := (46 : Int32)) cS547 ⟨by decide, by decide⟩
  obtain ⟨T547, h547, X547, e547, W547, st547⟩ := stB X546 hx hZ e546 Ar547 (j := (46 : Int32)) hin547 (g := (mkF m 323 #[.val (.long q1), .second, .val (.int p2), .val (.int nn), .val (.ref b491), .val (.ref b493), .val (.ref b494), .unset, .unset, .unset, .unset, .unset] [(.int 110), (.int 46), (.ref b499), (.ref b499)])) rfl rfl (hb hby at_323)
  refine own_go st547 ?_
  have V547 : Arv Z h547 b499 k499 .byte (56 : Int32) [(.int 97), (.int 98), (.int 99), (.int 100), (.int 98), (.int 99), (.int 100), (.int 101), (.int 99), (.int 100), (.int 101), (.int 102), (.int 100), (.int 101), (.int 102), (.int 103), (.int 101), (.int 102), (.int 103), (.int 104), (.int 102), (.int 103), (.int 104), (.int 105), (.int 103), (.int 104), (.int 105), (.int 106), (.int 104), (.int 105), (.int 106), (.int 107), (.int 105), (.int 106), (.int 107), (.int 108), (.int 106), (.int 107), (.int 108), (.int 109), (.int 107), (.int 108), (.int 109), (.int 110), (.int 108), (.int 109), (.int 110), (.int 0), (.int 0), (.int 0), (.int 0), (.int 0), (.int 0), (.int 0), (.int 0), (.int 0)] (.int 0) := Arv.set Ar547 cq547 cS547 cN547 cH547 cG547 (fits_nar_byte _) W547 46 rfl (Nat.le_of_ble_eq_true rfl)
  have K547 : Keep h0 h547 [] := Keep.wr K546 W547 (Or.inr (Nat.le_trans le501 (Nat.le_of_eq g499.symm)))
  have N547 := Fr.snoc X547 N546 (Nat.le_trans (Nat.le_trans Z0 le501) (Nat.le_of_eq g499.symm))
  refine own_go (B := T547.setTop (mkF m 329 #[.val (.long q1), .second, .val (.int p2), .val (.int nn), .val (.ref b491), .val (.ref b493), .val (.ref b494), .unset, .unset, .unset, .unset, .unset] [(.int 111), (.int 47), (.ref b499), (.ref b499)])) (fun tg kt => ?_) ?_
  · refine XS.dup X547.here hx rfl (hb hby at_324) rfl rfl ?_
    refine XS.bipush X547.here hx rfl (hb hby at_325) ?_
    refine XS.bipush X547.here hx rfl (hb hby at_327) ?_
    exact kt
  obtain ⟨cl548, Ar548, cq548, cS548, cN548, cH548, cG548⟩ := id V547
  have hin548 := inb_of (j := (47 : Int32)) cS548 ⟨by decide, by decide⟩
  obtain ⟨T548, h548, X548, e548, W548, st548⟩ := stB X547 hx hZ e547 Ar548 (j := (47 : Int32)) hin548 (g := (mkF m 329 #[.val (.long q1), .second, .val (.int p2), .val (.int nn), .val (.ref b491), .val (.ref b493), .val (.ref b494), .unset, .unset, .unset, .unset, .unset] [(.int 111), (.int 47), (.ref b499), (.ref b499)])) rfl rfl (hb hby at_329)
  refine own_go st548 ?_
  have V548 : Arv Z h548 b499 k499 .byte (56 : Int32) [(.int 97), (.int 98), (.int 99), (.int 100), (.int 98), (.int 99), (.int 100), (.int 101), (.int 99), (.int 100), (.int 101), (.int 102), (.int 100), (.int 101), (.int 102), (.int 103), (.int 101), (.int 102), (.int 103), (.int 104), (.int 102), (.int 103), (.int 104), (.int 105), (.int 103), (.int 104), (.int 105), (.int 106), (.int 104), (.int 105), (.int 106), (.int 107), (.int 105), (.int 106), (.int 107), (.int 108), (.int 106), (.int 107), (.int 108), (.int 109), (.int 107), (.int 108), (.int 109), (.int 110), (.int 108), (.int 109), (.int 110), (.int 111), (.int 0), (.int 0), (.int 0), (.int 0), (.int 0), (.int 0), (.int 0), (.int 0)] (.int 0) := Arv.set Ar548 cq548 cS548 cN548 cH548 cG548 (fits_nar_byte _) W548 47 rfl (Nat.le_of_ble_eq_true rfl)
  have K548 : Keep h0 h548 [] := Keep.wr K547 W548 (Or.inr (Nat.le_trans le501 (Nat.le_of_eq g499.symm)))
  have N548 := Fr.snoc X548 N547 (Nat.le_trans (Nat.le_trans Z0 le501) (Nat.le_of_eq g499.symm))
  refine own_go (B := T548.setTop (mkF m 335 #[.val (.long q1), .second, .val (.int p2), .val (.int nn), .val (.ref b491), .val (.ref b493), .val (.ref b494), .unset, .unset, .unset, .unset, .unset] [(.int 109), (.int 48), (.ref b499), (.ref b499)])) (fun tg kt => ?_) ?_
  · refine XS.dup X548.here hx rfl (hb hby at_330) rfl rfl ?_
    refine XS.bipush X548.here hx rfl (hb hby at_331) ?_
    refine XS.bipush X548.here hx rfl (hb hby at_333) ?_
    exact kt
  obtain ⟨cl549, Ar549, cq549, cS549, cN549, cH549, cG549⟩ := id V548
  have hin549 := inb_of (j := (48 : Int32)) cS549 ⟨by decide, by decide⟩
  obtain ⟨T549, h549, X549, e549, W549, st549⟩ := stB X548 hx hZ e548 Ar549 (j := (48 : Int32)) hin549 (g := (mkF m 335 #[.val (.long q1), .second, .val (.int p2), .val (.int nn), .val (.ref b491), .val (.ref b493), .val (.ref b494), .unset, .unset, .unset, .unset, .unset] [(.int 109), (.int 48), (.ref b499), (.ref b499)])) rfl rfl (hb hby at_335)
  refine own_go st549 ?_
  have V549 : Arv Z h549 b499 k499 .byte (56 : Int32) [(.int 97), (.int 98), (.int 99), (.int 100), (.int 98), (.int 99), (.int 100), (.int 101), (.int 99), (.int 100), (.int 101), (.int 102), (.int 100), (.int 101), (.int 102), (.int 103), (.int 101), (.int 102), (.int 103), (.int 104), (.int 102), (.int 103), (.int 104), (.int 105), (.int 103), (.int 104), (.int 105), (.int 106), (.int 104), (.int 105), (.int 106), (.int 107), (.int 105), (.int 106), (.int 107), (.int 108), (.int 106), (.int 107), (.int 108), (.int 109), (.int 107), (.int 108), (.int 109), (.int 110), (.int 108), (.int 109), (.int 110), (.int 111), (.int 109), (.int 0), (.int 0), (.int 0), (.int 0), (.int 0), (.int 0), (.int 0)] (.int 0) := Arv.set Ar549 cq549 cS549 cN549 cH549 cG549 (fits_nar_byte _) W549 48 rfl (Nat.le_of_ble_eq_true rfl)
  have K549 : Keep h0 h549 [] := Keep.wr K548 W549 (Or.inr (Nat.le_trans le501 (Nat.le_of_eq g499.symm)))
  have N549 := Fr.snoc X549 N548 (Nat.le_trans (Nat.le_trans Z0 le501) (Nat.le_of_eq g499.symm))
  refine own_go (B := T549.setTop (mkF m 341 #[.val (.long q1), .second, .val (.int p2), .val (.int nn), .val (.ref b491), .val (.ref b493), .val (.ref b494), .unset, .unset, .unset, .unset, .unset] [(.int 110), (.int 49), (.ref b499), (.ref b499)])) (fun tg kt => ?_) ?_
  · refine XS.dup X549.here hx rfl (hb hby at_336) rfl rfl ?_
    refine XS.bipush X549.here hx rfl (hb hby at_337) ?_
    refine XS.bipush X549.here hx rfl (hb hby at_339) ?_
    exact kt
  obtain ⟨cl550, Ar550, cq550, cS550, cN550, cH550, cG550⟩ := id V549
  have hin550 := inb_of (j := (49 : Int32)) cS550 ⟨by decide, by decide⟩
  obtain ⟨T550, h550, X550, e550, W550, st550⟩ := stB X549 hx hZ e549 Ar550 (j := (49 : Int32)) hin550 (g := (mkF m 341 #[.val (.long q1), .second, .val (.int p2), .val (.int nn), .val (.ref b491), .val (.ref b493), .val (.ref b494), .unset, .unset, .unset, .unset, .unset] [(.int 110), (.int 49), (.ref b499), (.ref b499)])) rfl rfl (hb hby at_341)
  refine own_go st550 ?_
  have V550 : Arv Z h550 b499 k499 .byte (56 : Int32) [(.int 97), (.int 98), (.int 99), (.int 100), (.int 98), (.int 99), (.int 100), (.int 101), (.int 99), (.int 100), (.int 101), (.int 102), (.int 100), (.int 101), (.int 102), (.int 103), (.int 101), (.int 102), (.int 103), (.int 104), (.int 102), (.int 103), (.int 104), (.int 105), (.int 103), (.int 104), (.int 105), (.int 106), (.int 104), (.int 105), (.int 106), (.int 107), (.int 105), (.int 106), (.int 107), (.int 108), (.int 106), (.int 107), (.int 108), (.int 109), (.int 107), (.int 108), (.int 109), (.int 110), (.int 108), (.int 109), (.int 110), (.int 111), (.int 109), (.int 110), (.int 0), (.int 0), (.int 0), (.int 0), (.int 0), (.int 0)] (.int 0) := Arv.set Ar550 cq550 cS550 cN550 cH550 cG550 (fits_nar_byte _) W550 49 rfl (Nat.le_of_ble_eq_true rfl)
  have K550 : Keep h0 h550 [] := Keep.wr K549 W550 (Or.inr (Nat.le_trans le501 (Nat.le_of_eq g499.symm)))
  have N550 := Fr.snoc X550 N549 (Nat.le_trans (Nat.le_trans Z0 le501) (Nat.le_of_eq g499.symm))
  refine own_go (B := T550.setTop (mkF m 347 #[.val (.long q1), .second, .val (.int p2), .val (.int nn), .val (.ref b491), .val (.ref b493), .val (.ref b494), .unset, .unset, .unset, .unset, .unset] [(.int 111), (.int 50), (.ref b499), (.ref b499)])) (fun tg kt => ?_) ?_
  · refine XS.dup X550.here hx rfl (hb hby at_342) rfl rfl ?_
    refine XS.bipush X550.here hx rfl (hb hby at_343) ?_
    refine XS.bipush X550.here hx rfl (hb hby at_345) ?_
    exact kt
  obtain ⟨cl551, Ar551, cq551, cS551, cN551, cH551, cG551⟩ := id V550
  have hin551 := inb_of (j := (50 : Int32)) cS551 ⟨by decide, by decide⟩
  obtain ⟨T551, h551, X551, e551, W551, st551⟩ := stB X550 hx hZ e550 Ar551 (j := (50 : Int32)) hin551 (g := (mkF m 347 #[.val (.long q1), .second, .val (.int p2), .val (.int nn), .val (.ref b491), .val (.ref b493), .val (.ref b494), .unset, .unset, .unset, .unset, .unset] [(.int 111), (.int 50), (.ref b499), (.ref b499)])) rfl rfl (hb hby at_347)
  refine own_go st551 ?_
  have V551 : Arv Z h551 b499 k499 .byte (56 : Int32) [(.int 97), (.int 98), (.int 99), (.int 100), (.int 98), (.int 99), (.int 100), (.int 101), (.int 99), (.int 100), (.int 101), (.int 102), (.int 100), (.int 101), (.int 102), (.int 103), (.int 101), (.int 102), (.int 103), (.int 104), (.int 102), (.int 103), (.int 104), (.int 105), (.int 103), (.int 104), (.int 105), (.int 106), (.int 104), (.int 105), (.int 106), (.int 107), (.int 105), (.int 106), (.int 107), (.int 108), (.int 106), (.int 107), (.int 108), (.int 109), (.int 107), (.int 108), (.int 109), (.int 110), (.int 108), (.int 109), (.int 110), (.int 111), (.int 109), (.int 110), (.int 111), (.int 0), (.int 0), (.int 0), (.int 0), (.int 0)] (.int 0) := Arv.set Ar551 cq551 cS551 cN551 cH551 cG551 (fits_nar_byte _) W551 50 rfl (Nat.le_of_ble_eq_true rfl)
  have K551 : Keep h0 h551 [] := Keep.wr K550 W551 (Or.inr (Nat.le_trans le501 (Nat.le_of_eq g499.symm)))
  have N551 := Fr.snoc X551 N550 (Nat.le_trans (Nat.le_trans Z0 le501) (Nat.le_of_eq g499.symm))
  refine own_go (B := T551.setTop (mkF m 353 #[.val (.long q1), .second, .val (.int p2), .val (.int nn), .val (.ref b491), .val (.ref b493), .val (.ref b494), .unset, .unset, .unset, .unset, .unset] [(.int 112), (.int 51), (.ref b499), (.ref b499)])) (fun tg kt => ?_) ?_
  · refine XS.dup X551.here hx rfl (hb hby at_348) rfl rfl ?_
    refine XS.bipush X551.here hx rfl (hb hby at_349) ?_
    refine XS.bipush X551.here hx rfl (hb hby at_351) ?_
    exact kt
  obtain ⟨cl552, Ar552, cq552, cS552, cN552, cH552, cG552⟩ := id V551
  have hin552 := inb_of (j := (51 : Int32)) cS552 ⟨by decide, by decide⟩
  obtain ⟨T552, h552, X552, e552, W552, st552⟩ := stB X551 hx hZ e551 Ar552 (j := (51 : Int32)) hin552 (g := (mkF m 353 #[.val (.long q1), .second, .val (.int p2), .val (.int nn), .val (.ref b491), .val (.ref b493), .val (.ref b494), .unset, .unset, .unset, .unset, .unset] [(.int 112), (.int 51), (.ref b499), (.ref b499)])) rfl rfl (hb hby at_353)
  refine own_go st552 ?_
  have V552 : Arv Z h552 b499 k499 .byte (56 : Int32) [(.int 97), (.int 98), (.int 99), (.int 100), (.int 98), (.int 99), (.int 100), (.int 101), (.int 99), (.int 100), (.int 101), (.int 102), (.int 100), (.int 101), (.int 102), (.int 103), (.int 101), (.int 102), (.int 103), (.int 104), (.int 102), (.int 103), (.int 104), (.int 105), (.int 103), (.int 104), (.int 105), (.int 106), (.int 104), (.int 105), (.int 106), (.int 107), (.int 105), (.int 106), (.int 107), (.int 108), (.int 106), (.int 107), (.int 108), (.int 109), (.int 107), (.int 108), (.int 109), (.int 110), (.int 108), (.int 109), (.int 110), (.int 111), (.int 109), (.int 110), (.int 111), (.int 112), (.int 0), (.int 0), (.int 0), (.int 0)] (.int 0) := Arv.set Ar552 cq552 cS552 cN552 cH552 cG552 (fits_nar_byte _) W552 51 rfl (Nat.le_of_ble_eq_true rfl)
  have K552 : Keep h0 h552 [] := Keep.wr K551 W552 (Or.inr (Nat.le_trans le501 (Nat.le_of_eq g499.symm)))
  have N552 := Fr.snoc X552 N551 (Nat.le_trans (Nat.le_trans Z0 le501) (Nat.le_of_eq g499.symm))
  refine own_go (B := T552.setTop (mkF m 359 #[.val (.long q1), .second, .val (.int p2), .val (.int nn), .val (.ref b491), .val (.ref b493), .val (.ref b494), .unset, .unset, .unset, .unset, .unset] [(.int 110), (.int 52), (.ref b499), (.ref b499)])) (fun tg kt => ?_) ?_
  · refine XS.dup X552.here hx rfl (hb hby at_354) rfl rfl ?_
    refine XS.bipush X552.here hx rfl (hb hby at_355) ?_
    refine XS.bipush X552.here hx rfl (hb hby at_357) ?_
    exact kt
  obtain ⟨cl553, Ar553, cq553, cS553, cN553, cH553, cG553⟩ := id V552
  have hin553 := inb_of (j := (52 : Int32)) cS553 ⟨by decide, by decide⟩
  obtain ⟨T553, h553, X553, e553, W553, st553⟩ := stB X552 hx hZ e552 Ar553 (j := (52 : Int32)) hin553 (g := (mkF m 359 #[.val (.long q1), .second, .val (.int p2), .val (.int nn), .val (.ref b491), .val (.ref b493), .val (.ref b494), .unset, .unset, .unset, .unset, .unset] [(.int 110), (.int 52), (.ref b499), (.ref b499)])) rfl rfl (hb hby at_359)
  refine own_go st553 ?_
  have V553 : Arv Z h553 b499 k499 .byte (56 : Int32) [(.int 97), (.int 98), (.int 99), (.int 100), (.int 98), (.int 99), (.int 100), (.int 101), (.int 99), (.int 100), (.int 101), (.int 102), (.int 100), (.int 101), (.int 102), (.int 103), (.int 101), (.int 102), (.int 103), (.int 104), (.int 102), (.int 103), (.int 104), (.int 105), (.int 103), (.int 104), (.int 105), (.int 106), (.int 104), (.int 105), (.int 106), (.int 107), (.int 105), (.int 106), (.int 107), (.int 108), (.int 106), (.int 107), (.int 108), (.int 109), (.int 107), (.int 108), (.int 109), (.int 110), (.int 108), (.int 109), (.int 110), (.int 111), (.int 109), (.int 110), (.int 111), (.int 112), (.int 110), (.int 0), (.int 0), (.int 0)] (.int 0) := Arv.set Ar553 cq553 cS553 cN553 cH553 cG553 (fits_nar_byte _) W553 52 rfl (Nat.le_of_ble_eq_true rfl)
  have K553 : Keep h0 h553 [] := Keep.wr K552 W553 (Or.inr (Nat.le_trans le501 (Nat.le_of_eq g499.symm)))
  have N553 := Fr.snoc X553 N552 (Nat.le_trans (Nat.le_trans Z0 le501) (Nat.le_of_eq g499.symm))
  refine own_go (B := T553.setTop (mkF m 365 #[.val (.long q1), .second, .val (.int p2), .val (.int nn), .val (.ref b491), .val (.ref b493), .val (.ref b494), .unset, .unset, .unset, .unset, .unset] [(.int 111), (.int 53), (.ref b499), (.ref b499)])) (fun tg kt => ?_) ?_
  · refine XS.dup X553.here hx rfl (hb hby at_360) rfl rfl ?_
    refine XS.bipush X553.here hx rfl (hb hby at_361) ?_
    refine XS.bipush X553.here hx rfl (hb hby at_363) ?_
    exact kt
  obtain ⟨cl554, Ar554, cq554, cS554, cN554, cH554, cG554⟩ := id V553
  have hin554 := inb_of (j := (53 : Int32)) cS554 ⟨by decide, by decide⟩
  obtain ⟨T554, h554, X554, e554, W554, st554⟩ := stB X553 hx hZ e553 Ar554 (j := (53 : Int32)) hin554 (g := (mkF m 365 #[.val (.long q1), .second, .val (.int p2), .val (.int nn), .val (.ref b491), .val (.ref b493), .val (.ref b494), .unset, .unset, .unset, .unset, .unset] [(.int 111), (.int 53), (.ref b499), (.ref b499)])) rfl rfl (hb hby at_365)
  refine own_go st554 ?_
  have V554 : Arv Z h554 b499 k499 .byte (56 : Int32) [(.int 97), (.int 98), (.int 99), (.int 100), (.int 98), (.int 99), (.int 100), (.int 101), (.int 99), (.int 100), (.int 101), (.int 102), (.int 100), (.int 101), (.int 102), (.int 103), (.int 101), (.int 102), (.int 103), (.int 104), (.int 102), (.int 103), (.int 104), (.int 105), (.int 103), (.int 104), (.int 105), (.int 106), (.int 104), (.int 105), (.int 106), (.int 107), (.int 105), (.int 106), (.int 107), (.int 108), (.int 106), (.int 107), (.int 108), (.int 109), (.int 107), (.int 108), (.int 109), (.int 110), (.int 108), (.int 109), (.int 110), (.int 111), (.int 109), (.int 110), (.int 111), (.int 112), (.int 110), (.int 111), (.int 0), (.int 0)] (.int 0) := Arv.set Ar554 cq554 cS554 cN554 cH554 cG554 (fits_nar_byte _) W554 53 rfl (Nat.le_of_ble_eq_true rfl)
  have K554 : Keep h0 h554 [] := Keep.wr K553 W554 (Or.inr (Nat.le_trans le501 (Nat.le_of_eq g499.symm)))
  have N554 := Fr.snoc X554 N553 (Nat.le_trans (Nat.le_trans Z0 le501) (Nat.le_of_eq g499.symm))
  refine own_go (B := T554.setTop (mkF m 371 #[.val (.long q1), .second, .val (.int p2), .val (.int nn), .val (.ref b491), .val (.ref b493), .val (.ref b494), .unset, .unset, .unset, .unset, .unset] [(.int 112), (.int 54), (.ref b499), (.ref b499)])) (fun tg kt => ?_) ?_
  · refine XS.dup X554.here hx rfl (hb hby at_366) rfl rfl ?_
    refine XS.bipush X554.here hx rfl (hb hby at_367) ?_
    refine XS.bipush X554.here hx rfl (hb hby at_369) ?_
    exact kt
  obtain ⟨cl555, Ar555, cq555, cS555, cN555, cH555, cG555⟩ := id V554
  have hin555 := inb_of (j := (54 : Int32)) cS555 ⟨by decide, by decide⟩
  obtain ⟨T555, h555, X555, e555, W555, st555⟩ := stB X554 hx hZ e554 Ar555 (j := (54 : Int32)) hin555 (g := (mkF m 371 #[.val (.long q1), .second, .val (.int p2), .val (.int nn), .val (.ref b491), .val (.ref b493), .val (.ref b494), .unset, .unset, .unset, .unset, .unset] [(.int 112), (.int 54), (.ref b499), (.ref b499)])) rfl rfl (hb hby at_371)
  refine own_go st555 ?_
  have V555 : Arv Z h555 b499 k499 .byte (56 : Int32) [(.int 97), (.int 98), (.int 99), (.int 100), (.int 98), (.int 99), (.int 100), (.int 101), (.int 99), (.int 100), (.int 101), (.int 102), (.int 100), (.int 101), (.int 102), (.int 103), (.int 101), (.int 102), (.int 103), (.int 104), (.int 102), (.int 103), (.int 104), (.int 105), (.int 103), (.int 104), (.int 105), (.int 106), (.int 104), (.int 105), (.int 106), (.int 107), (.int 105), (.int 106), (.int 107), (.int 108), (.int 106), (.int 107), (.int 108), (.int 109), (.int 107), (.int 108), (.int 109), (.int 110), (.int 108), (.int 109), (.int 110), (.int 111), (.int 109), (.int 110), (.int 111), (.int 112), (.int 110), (.int 111), (.int 112), (.int 0)] (.int 0) := Arv.set Ar555 cq555 cS555 cN555 cH555 cG555 (fits_nar_byte _) W555 54 rfl (Nat.le_of_ble_eq_true rfl)
  have K555 : Keep h0 h555 [] := Keep.wr K554 W555 (Or.inr (Nat.le_trans le501 (Nat.le_of_eq g499.symm)))
  have N555 := Fr.snoc X555 N554 (Nat.le_trans (Nat.le_trans Z0 le501) (Nat.le_of_eq g499.symm))
  refine own_go (B := T555.setTop (mkF m 377 #[.val (.long q1), .second, .val (.int p2), .val (.int nn), .val (.ref b491), .val (.ref b493), .val (.ref b494), .unset, .unset, .unset, .unset, .unset] [(.int 113), (.int 55), (.ref b499), (.ref b499)])) (fun tg kt => ?_) ?_
  · refine XS.dup X555.here hx rfl (hb hby at_372) rfl rfl ?_
    refine XS.bipush X555.here hx rfl (hb hby at_373) ?_
    refine XS.bipush X555.here hx rfl (hb hby at_375) ?_
    exact kt
  obtain ⟨cl556, Ar556, cq556, cS556, cN556, cH556, cG556⟩ := id V555
  have hin556 := inb_of (j := (55 : Int32)) cS556 ⟨by decide, by decide⟩
  obtain ⟨T556, h556, X556, e556, W556, st556⟩ := stB X555 hx hZ e555 Ar556 (j := (55 : Int32)) hin556 (g := (mkF m 377 #[.val (.long q1), .second, .val (.int p2), .val (.int nn), .val (.ref b491), .val (.ref b493), .val (.ref b494), .unset, .unset, .unset, .unset, .unset] [(.int 113), (.int 55), (.ref b499), (.ref b499)])) rfl rfl (hb hby at_377)
  refine own_go st556 ?_
  have V556 : Arv Z h556 b499 k499 .byte (56 : Int32) [(.int 97), (.int 98), (.int 99), (.int 100), (.int 98), (.int 99), (.int 100), (.int 101), (.int 99), (.int 100), (.int 101), (.int 102), (.int 100), (.int 101), (.int 102), (.int 103), (.int 101), (.int 102), (.int 103), (.int 104), (.int 102), (.int 103), (.int 104), (.int 105), (.int 103), (.int 104), (.int 105), (.int 106), (.int 104), (.int 105), (.int 106), (.int 107), (.int 105), (.int 106), (.int 107), (.int 108), (.int 106), (.int 107), (.int 108), (.int 109), (.int 107), (.int 108), (.int 109), (.int 110), (.int 108), (.int 109), (.int 110), (.int 111), (.int 109), (.int 110), (.int 111), (.int 112), (.int 110), (.int 111), (.int 112), (.int 113)] (.int 0) := Arv.set Ar556 cq556 cS556 cN556 cH556 cG556 (fits_nar_byte _) W556 55 rfl (Nat.le_of_ble_eq_true rfl)
  have K556 : Keep h0 h556 [] := Keep.wr K555 W556 (Or.inr (Nat.le_trans le501 (Nat.le_of_eq g499.symm)))
  have N556 := Fr.snoc X556 N555 (Nat.le_trans (Nat.le_trans Z0 le501) (Nat.le_of_eq g499.symm))
  refine own_go (B := T556.setTop (mkF m 382 #[.val (.long q1), .second, .val (.int p2), .val (.int nn), .val (.ref b491), .val (.ref b493), .val (.ref b494), .val (.ref b499), .unset, .unset, .unset, .unset] [(.ref b491)])) (fun tg kt => ?_) ?_
  · refine XS.astore X556.here hx rfl (hb hby at_378) rfl rfl (l' := #[.val (.long q1), .second, .val (.int p2), .val (.int nn), .val (.ref b491), .val (.ref b493), .val (.ref b494), .val (.ref b499), .unset, .unset, .unset, .unset]) rfl ?_
    refine XS.aload X556.here hx rfl (hb hby at_380) rfl rfl ?_
    exact kt
  have f558 : Sta Z h556 "tributary/Digests" "ROUND" "[I" (.ref w_ROUND) := (((((((((((((((((((((((((((((((((((((((((((((((((((((((((((((((own_staKeep (S_ROUND.ext E491) q492_0 (own_nsS (own_nsV V491) own_ns0)).ext E493).ext E494).wr W495).wr W497).wr W498).ext E499).wr W500).wr W502).wr W503).wr W504).wr W505).wr W506).wr W507).wr W508).wr W509).wr W510).wr W511).wr W512).wr W513).wr W514).wr W515).wr W516).wr W517).wr W518).wr W519).wr W520).wr W521).wr W522).wr W523).wr W524).wr W525).wr W526).wr W527).wr W528).wr W529).wr W530).wr W531).wr W532).wr W533).wr W534).wr W535).wr W536).wr W537).wr W538).wr W539).wr W540).wr W541).wr W542).wr W543).wr W544).wr W545).wr W546).wr W547).wr W548).wr W549).wr W550).wr W551).wr W552).wr W553).wr W554).wr W555).wr W556)
  have ne559 : w_ROUND ≠ b491 := (Nat.ne_of_lt (Nat.lt_of_lt_of_le V_ROUND.lt (Nat.le_of_eq g491.symm)))
  have ne560 : w_ROUND ≠ b494 := (Nat.ne_of_lt (Nat.lt_of_lt_of_le (Nat.lt_of_lt_of_le V_ROUND.lt le496) (Nat.le_of_eq g494.symm)))
  have ne561 : w_ROUND ≠ b499 := (Nat.ne_of_lt (Nat.lt_of_lt_of_le (Nat.lt_of_lt_of_le V_ROUND.lt le501) (Nat.le_of_eq g499.symm)))
  have f562 : Arv Z h556 w_ROUND k_ROUND .int (64 : Int32) (own_tab 64 own_K) (.int 0) := ((((((((((((((((((((((((((((((((((((((((((((((((((((((((((((((((V_ROUND.ext E491).keep q492_0 (ninS ne559 nin0)).ext E493).ext E494).other W495 ne560).other W497 ne560).other W498 ne560).ext E499).other W500 ne561).other W502 ne561).other W503 ne561).other W504 ne561).other W505 ne561).other W506 ne561).other W507 ne561).other W508 ne561).other W509 ne561).other W510 ne561).other W511 ne561).other W512 ne561).other W513 ne561).other W514 ne561).other W515 ne561).other W516 ne561).other W517 ne561).other W518 ne561).other W519 ne561).other W520 ne561).other W521 ne561).other W522 ne561).other W523 ne561).other W524 ne561).other W525 ne561).other W526 ne561).other W527 ne561).other W528 ne561).other W529 ne561).other W530 ne561).other W531 ne561).other W532 ne561).other W533 ne561).other W534 ne561).other W535 ne561).other W536 ne561).other W537 ne561).other W538 ne561).other W539 ne561).other W540 ne561).other W541 ne561).other W542 ne561).other W543 ne561).other W544 ne561).other W545 ne561).other W546 ne561).other W547 ne561).other W548 ne561).other W549 ne561).other W550 ne561).other W551 ne561).other W552 ne561).other W553 ne561).other W554 ne561).other W555 ne561).other W556 ne561)
  have f563 : Sta Z h556 "tributary/Digests" "INITIAL" "[I" (.ref w_INITIAL) := (((((((((((((((((((((((((((((((((((((((((((((((((((((((((((((((own_staKeep (S_INITIAL.ext E491) q492_0 (own_nsS (own_nsV V491) own_ns0)).ext E493).ext E494).wr W495).wr W497).wr W498).ext E499).wr W500).wr W502).wr W503).wr W504).wr W505).wr W506).wr W507).wr W508).wr W509).wr W510).wr W511).wr W512).wr W513).wr W514).wr W515).wr W516).wr W517).wr W518).wr W519).wr W520).wr W521).wr W522).wr W523).wr W524).wr W525).wr W526).wr W527).wr W528).wr W529).wr W530).wr W531).wr W532).wr W533).wr W534).wr W535).wr W536).wr W537).wr W538).wr W539).wr W540).wr W541).wr W542).wr W543).wr W544).wr W545).wr W546).wr W547).wr W548).wr W549).wr W550).wr W551).wr W552).wr W553).wr W554).wr W555).wr W556)
  have f564 : Exa Z h556 w_INITIAL "[I" := ((((((((((((((((((((((((((((((((((((((((((((((((((((((((((((((((E_INITIAL.ext E491).keep q492_0).ext E493).ext E494).wr W495).wr W497).wr W498).ext E499).wr W500).wr W502).wr W503).wr W504).wr W505).wr W506).wr W507).wr W508).wr W509).wr W510).wr W511).wr W512).wr W513).wr W514).wr W515).wr W516).wr W517).wr W518).wr W519).wr W520).wr W521).wr W522).wr W523).wr W524).wr W525).wr W526).wr W527).wr W528).wr W529).wr W530).wr W531).wr W532).wr W533).wr W534).wr W535).wr W536).wr W537).wr W538).wr W539).wr W540).wr W541).wr W542).wr W543).wr W544).wr W545).wr W546).wr W547).wr W548).wr W549).wr W550).wr W551).wr W552).wr W553).wr W554).wr W555).wr W556)
  have ne565 : w_INITIAL ≠ b491 := (Nat.ne_of_lt (Nat.lt_of_lt_of_le E_INITIAL.lt (Nat.le_of_eq g491.symm)))
  have ne566 : w_INITIAL ≠ b494 := (Nat.ne_of_lt (Nat.lt_of_lt_of_le (Nat.lt_of_lt_of_le E_INITIAL.lt le496) (Nat.le_of_eq g494.symm)))
  have ne567 : w_INITIAL ≠ b499 := (Nat.ne_of_lt (Nat.lt_of_lt_of_le (Nat.lt_of_lt_of_le E_INITIAL.lt le501) (Nat.le_of_eq g499.symm)))
  have f568 : Arv Z h556 w_INITIAL k_INITIAL .int (8 : Int32) [(.int 1779033703), (.int (-1150833019)), (.int 1013904242), (.int (-1521486534)), (.int 1359893119), (.int (-1694144372)), (.int 528734635), (.int 1541459225)] (.int 0) := ((((((((((((((((((((((((((((((((((((((((((((((((((((((((((((((((V_INITIAL.ext E491).keep q492_0 (ninS ne565 nin0)).ext E493).ext E494).other W495 ne566).other W497 ne566).other W498 ne566).ext E499).other W500 ne567).other W502 ne567).other W503 ne567).other W504 ne567).other W505 ne567).other W506 ne567).other W507 ne567).other W508 ne567).other W509 ne567).other W510 ne567).other W511 ne567).other W512 ne567).other W513 ne567).other W514 ne567).other W515 ne567).other W516 ne567).other W517 ne567).other W518 ne567).other W519 ne567).other W520 ne567).other W521 ne567).other W522 ne567).other W523 ne567).other W524 ne567).other W525 ne567).other W526 ne567).other W527 ne567).other W528 ne567).other W529 ne567).other W530 ne567).other W531 ne567).other W532 ne567).other W533 ne567).other W534 ne567).other W535 ne567).other W536 ne567).other W537 ne567).other W538 ne567).other W539 ne567).other W540 ne567).other W541 ne567).other W542 ne567).other W543 ne567).other W544 ne567).other W545 ne567).other W546 ne567).other W547 ne567).other W548 ne567).other W549 ne567).other W550 ne567).other W551 ne567).other W552 ne567).other W553 ne567).other W554 ne567).other W555 ne567).other W556 ne567)
  have ne569 : b491 ≠ b494 := (Nat.ne_of_lt (Nat.lt_of_lt_of_le (Nat.lt_of_lt_of_le q492_1.lt E493.1) (Nat.le_of_eq g494.symm)))
  have le570 : T492.heap.size ≤ h498.size := (Nat.le_trans (Nat.le_trans (Nat.le_trans (Nat.le_trans E493.1 E494.1) (Nat.le_of_eq (Wr.size W495).symm)) (Nat.le_of_eq (Wr.size W497).symm)) (Nat.le_of_eq (Wr.size W498).symm))
  have ne571 : b491 ≠ b499 := (Nat.ne_of_lt (Nat.lt_of_lt_of_le (Nat.lt_of_lt_of_le q492_1.lt le570) (Nat.le_of_eq g499.symm)))
  have f572 : Arv Z h556 b491 k491 .byte nn [(.int ((q1.toInt32).toInt8.toInt32)), (.int (own_bz q1 8)), (.int (own_bz q1 16)), (.int (own_bz q1 24)), (.int (own_bz q1 32)), (.int (own_bz q1 40)), (.int (own_bz q1 48)), (.int (own_bz q1 56))] (.int 0) := ((((((((((((((((((((((((((((((((((((((((((((((((((((((((((((((q492_1.ext E493).ext E494).other W495 ne569).other W497 ne569).other W498 ne569).ext E499).other W500 ne571).other W502 ne571).other W503 ne571).other W504 ne571).other W505 ne571).other W506 ne571).other W507 ne571).other W508 ne571).other W509 ne571).other W510 ne571).other W511 ne571).other W512 ne571).other W513 ne571).other W514 ne571).other W515 ne571).other W516 ne571).other W517 ne571).other W518 ne571).other W519 ne571).other W520 ne571).other W521 ne571).other W522 ne571).other W523 ne571).other W524 ne571).other W525 ne571).other W526 ne571).other W527 ne571).other W528 ne571).other W529 ne571).other W530 ne571).other W531 ne571).other W532 ne571).other W533 ne571).other W534 ne571).other W535 ne571).other W536 ne571).other W537 ne571).other W538 ne571).other W539 ne571).other W540 ne571).other W541 ne571).other W542 ne571).other W543 ne571).other W544 ne571).other W545 ne571).other W546 ne571).other W547 ne571).other W548 ne571).other W549 ne571).other W550 ne571).other W551 ne571).other W552 ne571).other W553 ne571).other W554 ne571).other W555 ne571).other W556 ne571)
  have le573 : h0.size ≤ h556.size := (Nat.le_trans (Nat.le_trans (Nat.le_trans (Nat.le_trans (Nat.le_trans (Nat.le_trans (Nat.le_trans (Nat.le_trans (Nat.le_trans (Nat.le_trans (Nat.le_trans (Nat.le_trans (Nat.le_trans (Nat.le_trans (Nat.le_trans (Nat.le_trans (Nat.le_trans (Nat.le_trans (Nat.le_trans (Nat.le_trans (Nat.le_trans (Nat.le_trans (Nat.le_trans (Nat.le_trans (Nat.le_trans (Nat.le_trans (Nat.le_trans (Nat.le_trans (Nat.le_trans (Nat.le_trans (Nat.le_trans (Nat.le_trans (Nat.le_trans (Nat.le_trans (Nat.le_trans (Nat.le_trans (Nat.le_trans (Nat.le_trans (Nat.le_trans (Nat.le_trans (Nat.le_trans (Nat.le_trans (Nat.le_trans (Nat.le_trans (Nat.le_trans (Nat.le_trans (Nat.le_trans (Nat.le_trans (Nat.le_trans (Nat.le_trans (Nat.le_trans (Nat.le_trans (Nat.le_trans (Nat.le_trans (Nat.le_trans (Nat.le_trans (Nat.le_trans (Nat.le_trans (Nat.le_trans (Nat.le_trans (Nat.le_trans (Nat.le_trans (Nat.le_trans E491.1 q492_0.1) E493.1) E494.1) (Nat.le_of_eq (Wr.size W495).symm)) (Nat.le_of_eq (Wr.size W497).symm)) (Nat.le_of_eq (Wr.size W498).symm)) E499.1) (Nat.le_of_eq (Wr.size W500).symm)) (Nat.le_of_eq (Wr.size W502).symm)) (Nat.le_of_eq (Wr.size W503).symm)) (Nat.le_of_eq (Wr.size W504).symm)) (Nat.le_of_eq (Wr.size W505).symm)) (Nat.le_of_eq (Wr.size W506).symm)) (Nat.le_of_eq (Wr.size W507).symm)) (Nat.le_of_eq (Wr.size W508).symm)) (Nat.le_of_eq (Wr.size W509).symm)) (Nat.le_of_eq (Wr.size W510).symm)) (Nat.le_of_eq (Wr.size W511).symm)) (Nat.le_of_eq (Wr.size W512).symm)) (Nat.le_of_eq (Wr.size W513).symm)) (Nat.le_of_eq (Wr.size W514).symm)) (Nat.le_of_eq (Wr.size W515).symm)) (Nat.le_of_eq (Wr.size W516).symm)) (Nat.le_of_eq (Wr.size W517).symm)) (Nat.le_of_eq (Wr.size W518).symm)) (Nat.le_of_eq (Wr.size W519).symm)) (Nat.le_of_eq (Wr.size W520).symm)) (Nat.le_of_eq (Wr.size W521).symm)) (Nat.le_of_eq (Wr.size W522).symm)) (Nat.le_of_eq (Wr.size W523).symm)) (Nat.le_of_eq (Wr.size W524).symm)) (Nat.le_of_eq (Wr.size W525).symm)) (Nat.le_of_eq (Wr.size W526).symm)) (Nat.le_of_eq (Wr.size W527).symm)) (Nat.le_of_eq (Wr.size W528).symm)) (Nat.le_of_eq (Wr.size W529).symm)) (Nat.le_of_eq (Wr.size W530).symm)) (Nat.le_of_eq (Wr.size W531).symm)) (Nat.le_of_eq (Wr.size W532).symm)) (Nat.le_of_eq (Wr.size W533).symm)) (Nat.le_of_eq (Wr.size W534).symm)) (Nat.le_of_eq (Wr.size W535).symm)) (Nat.le_of_eq (Wr.size W536).symm)) (Nat.le_of_eq (Wr.size W537).symm)) (Nat.le_of_eq (Wr.size W538).symm)) (Nat.le_of_eq (Wr.size W539).symm)) (Nat.le_of_eq (Wr.size W540).symm)) (Nat.le_of_eq (Wr.size W541).symm)) (Nat.le_of_eq (Wr.size W542).symm)) (Nat.le_of_eq (Wr.size W543).symm)) (Nat.le_of_eq (Wr.size W544).symm)) (Nat.le_of_eq (Wr.size W545).symm)) (Nat.le_of_eq (Wr.size W546).symm)) (Nat.le_of_eq (Wr.size W547).symm)) (Nat.le_of_eq (Wr.size W548).symm)) (Nat.le_of_eq (Wr.size W549).symm)) (Nat.le_of_eq (Wr.size W550).symm)) (Nat.le_of_eq (Wr.size W551).symm)) (Nat.le_of_eq (Wr.size W552).symm)) (Nat.le_of_eq (Wr.size W553).symm)) (Nat.le_of_eq (Wr.size W554).symm)) (Nat.le_of_eq (Wr.size W555).symm)) (Nat.le_of_eq (Wr.size W556).symm))
  obtain ⟨_, _, ⟨T557, L557, k557, n557⟩, -, X557, ⟨Lc557, hQ557, l557, y557, z557⟩, st557⟩ := Jvm.LawKit.callS X556 hx (y := (⟨"tributary/Digests", "sha256", "([B)[B"⟩ : MethodName)) hown (mvT hZ (hw _ (List.mem_of_getElem? (i := 6) rfl))) (mvT hZ (hw _ (List.mem_of_getElem? (i := 7) rfl))) (mvT hZ (hw _ (List.mem_of_getElem? (i := 8) rfl))) (mvT hZ (hw _ (List.mem_of_getElem? (i := 9) rfl))) (by decide) (backOf (W := 0) (rm2A l Z a0 hw [] b491 w_ROUND k_ROUND w_INITIAL k_INITIAL k491 nn ([(.int ((q1.toInt32).toInt8.toInt32)), (.int (own_bz q1 8)), (.int (own_bz q1 16)), (.int (own_bz q1 24)), (.int (own_bz q1 32)), (.int (own_bz q1 40)), (.int (own_bz q1 48)), (.int (own_bz q1 56))]) (fun i => own_iv (([(.int ((q1.toInt32).toInt8.toInt32)), (.int (own_bz q1 8)), (.int (own_bz q1 16)), (.int (own_bz q1 24)), (.int (own_bz q1 32)), (.int (own_bz q1 40)), (.int (own_bz q1 48)), (.int (own_bz q1 56))] : List Value).getD i (.int 0))) h556 n0 (Nat.le_trans Z0 le573) f558 f562 f563 f564 f568 f572 (fun i _ => own_allI rfl i) (⟨hnn.1, by omega⟩)) hZ (hw _ (List.mem_of_getElem? (i := 9) rfl)) (hw _ (List.mem_of_getElem? (i := 8) rfl)) (by decide) (by decide)) (g := (mkF m 382 #[.val (.long q1), .second, .val (.int p2), .val (.int nn), .val (.ref b491), .val (.ref b493), .val (.ref b494), .val (.ref b499), .unset, .unset, .unset, .unset] [(.ref b491)])) rfl (by rw [hml]; rfl) (argsL := [(.ref b491)]) (rest := []) (lenOf pd_4 rfl) rfl (by show 2 * 0 + _ ≤ _; exact Nat.le_of_eq rfl) (hb hby at_382) (fun _ _ => ⟨rfl, e556, (by decide : 4 + 4 ≤ _), (by decide : 67 + 168 ≤ _)⟩)
  dsimp only [Pt.U, Pt.locs, Pt.cells, Pt.slots] at X557 l557 y557 z557 st557 hQ557
  rw [l557, y557, z557] at X557
  obtain ⟨bn_557, kn_557, y_557, rfl, M557, q557_0, q557_1, q557_2, q557_3⟩ := hQ557
  have N557 := Fr.app N556 M557
  have K557 : Keep h0 T557.heap [] := Keep.trans K556 q557_0 all0
  refine own_go st557 ?_
  refine own_go (B := T557.setTop (mkF m 389 #[.val (.long q1), .second, .val (.int p2), .val (.int nn), .val (.ref b491), .val (.ref b493), .val (.ref b494), .val (.ref b499), .val (.ref bn_557), .unset, .unset, .unset] [(.ref b493)])) (fun tg kt => ?_) ?_
  · refine XS.astore X557.here hx rfl (hb hby at_385) rfl rfl (l' := #[.val (.long q1), .second, .val (.int p2), .val (.int nn), .val (.ref b491), .val (.ref b493), .val (.ref b494), .val (.ref b499), .val (.ref bn_557), .unset, .unset, .unset]) rfl ?_
    refine XS.aload X557.here hx rfl (hb hby at_387) rfl rfl ?_
    exact kt
  have f575 : Sta Z T557.heap "tributary/Digests" "ROUND" "[I" (.ref w_ROUND) := (own_staKeep f558 q557_0 (fun x hx_ => nomatch hx_))
  have f576 : Arv Z T557.heap w_ROUND k_ROUND .int (64 : Int32) (own_tab 64 own_K) (.int 0) := (f562.keep q557_0 nin0)
  have f577 : Sta Z T557.heap "tributary/Digests" "INITIAL" "[I" (.ref w_INITIAL) := (own_staKeep f563 q557_0 (fun x hx_ => nomatch hx_))
  have f578 : Exa Z T557.heap w_INITIAL "[I" := (f564.keep q557_0)
  have f579 : Arv Z T557.heap w_INITIAL k_INITIAL .int (8 : Int32) [(.int 1779033703), (.int (-1150833019)), (.int 1013904242), (.int (-1521486534)), (.int 1359893119), (.int (-1694144372)), (.int 528734635), (.int 1541459225)] (.int 0) := (f568.keep q557_0 nin0)
  have ne580 : b493 ≠ b494 := (Nat.ne_of_lt (Nat.lt_of_lt_of_le V493.lt (Nat.le_of_eq g494.symm)))
  have le581 : h493.size ≤ h498.size := (Nat.le_trans (Nat.le_trans (Nat.le_trans E494.1 (Nat.le_of_eq (Wr.size W495).symm)) (Nat.le_of_eq (Wr.size W497).symm)) (Nat.le_of_eq (Wr.size W498).symm))
  have ne582 : b493 ≠ b499 := (Nat.ne_of_lt (Nat.lt_of_lt_of_le (Nat.lt_of_lt_of_le V493.lt le581) (Nat.le_of_eq g499.symm)))
  have f583 : Arv Z T557.heap b493 k493 .byte (0 : Int32) [] (.int 0) := ((((((((((((((((((((((((((((((((((((((((((((((((((((((((((((((V493.ext E494).other W495 ne580).other W497 ne580).other W498 ne580).ext E499).other W500 ne582).other W502 ne582).other W503 ne582).other W504 ne582).other W505 ne582).other W506 ne582).other W507 ne582).other W508 ne582).other W509 ne582).other W510 ne582).other W511 ne582).other W512 ne582).other W513 ne582).other W514 ne582).other W515 ne582).other W516 ne582).other W517 ne582).other W518 ne582).other W519 ne582).other W520 ne582).other W521 ne582).other W522 ne582).other W523 ne582).other W524 ne582).other W525 ne582).other W526 ne582).other W527 ne582).other W528 ne582).other W529 ne582).other W530 ne582).other W531 ne582).other W532 ne582).other W533 ne582).other W534 ne582).other W535 ne582).other W536 ne582).other W537 ne582).other W538 ne582).other W539 ne582).other W540 ne582).other W541 ne582).other W542 ne582).other W543 ne582).other W544 ne582).other W545 ne582).other W546 ne582).other W547 ne582).other W548 ne582).other W549 ne582).other W550 ne582).other W551 ne582).other W552 ne582).other W553 ne582).other W554 ne582).other W555 ne582).other W556 ne582).keep q557_0 nin0)
  have le584 : h0.size ≤ T557.heap.size := (Nat.le_trans (Nat.le_trans (Nat.le_trans (Nat.le_trans (Nat.le_trans (Nat.le_trans (Nat.le_trans (Nat.le_trans (Nat.le_trans (Nat.le_trans (Nat.le_trans (Nat.le_trans (Nat.le_trans (Nat.le_trans (Nat.le_trans (Nat.le_trans (Nat.le_trans (Nat.le_trans (Nat.le_trans (Nat.le_trans (Nat.le_trans (Nat.le_trans (Nat.le_trans (Nat.le_trans (Nat.le_trans (Nat.le_trans (Nat.le_trans (Nat.le_trans (Nat.le_trans (Nat.le_trans (Nat.le_trans (Nat.le_trans (Nat.le_trans (Nat.le_trans (Nat.le_trans (Nat.le_trans (Nat.le_trans (Nat.le_trans (Nat.le_trans (Nat.le_trans (Nat.le_trans (Nat.le_trans (Nat.le_trans (Nat.le_trans (Nat.le_trans (Nat.le_trans (Nat.le_trans (Nat.le_trans (Nat.le_trans (Nat.le_trans (Nat.le_trans (Nat.le_trans (Nat.le_trans (Nat.le_trans (Nat.le_trans (Nat.le_trans (Nat.le_trans (Nat.le_trans (Nat.le_trans (Nat.le_trans (Nat.le_trans (Nat.le_trans (Nat.le_trans (Nat.le_trans E491.1 q492_0.1) E493.1) E494.1) (Nat.le_of_eq (Wr.size W495).symm)) (Nat.le_of_eq (Wr.size W497).symm)) (Nat.le_of_eq (Wr.size W498).symm)) E499.1) (Nat.le_of_eq (Wr.size W500).symm)) (Nat.le_of_eq (Wr.size W502).symm)) (Nat.le_of_eq (Wr.size W503).symm)) (Nat.le_of_eq (Wr.size W504).symm)) (Nat.le_of_eq (Wr.size W505).symm)) (Nat.le_of_eq (Wr.size W506).symm)) (Nat.le_of_eq (Wr.size W507).symm)) (Nat.le_of_eq (Wr.size W508).symm)) (Nat.le_of_eq (Wr.size W509).symm)) (Nat.le_of_eq (Wr.size W510).symm)) (Nat.le_of_eq (Wr.size W511).symm)) (Nat.le_of_eq (Wr.size W512).symm)) (Nat.le_of_eq (Wr.size W513).symm)) (Nat.le_of_eq (Wr.size W514).symm)) (Nat.le_of_eq (Wr.size W515).symm)) (Nat.le_of_eq (Wr.size W516).symm)) (Nat.le_of_eq (Wr.size W517).symm)) (Nat.le_of_eq (Wr.size W518).symm)) (Nat.le_of_eq (Wr.size W519).symm)) (Nat.le_of_eq (Wr.size W520).symm)) (Nat.le_of_eq (Wr.size W521).symm)) (Nat.le_of_eq (Wr.size W522).symm)) (Nat.le_of_eq (Wr.size W523).symm)) (Nat.le_of_eq (Wr.size W524).symm)) (Nat.le_of_eq (Wr.size W525).symm)) (Nat.le_of_eq (Wr.size W526).symm)) (Nat.le_of_eq (Wr.size W527).symm)) (Nat.le_of_eq (Wr.size W528).symm)) (Nat.le_of_eq (Wr.size W529).symm)) (Nat.le_of_eq (Wr.size W530).symm)) (Nat.le_of_eq (Wr.size W531).symm)) (Nat.le_of_eq (Wr.size W532).symm)) (Nat.le_of_eq (Wr.size W533).symm)) (Nat.le_of_eq (Wr.size W534).symm)) (Nat.le_of_eq (Wr.size W535).symm)) (Nat.le_of_eq (Wr.size W536).symm)) (Nat.le_of_eq (Wr.size W537).symm)) (Nat.le_of_eq (Wr.size W538).symm)) (Nat.le_of_eq (Wr.size W539).symm)) (Nat.le_of_eq (Wr.size W540).symm)) (Nat.le_of_eq (Wr.size W541).symm)) (Nat.le_of_eq (Wr.size W542).symm)) (Nat.le_of_eq (Wr.size W543).symm)) (Nat.le_of_eq (Wr.size W544).symm)) (Nat.le_of_eq (Wr.size W545).symm)) (Nat.le_of_eq (Wr.size W546).symm)) (Nat.le_of_eq (Wr.size W547).symm)) (Nat.le_of_eq (Wr.size W548).symm)) (Nat.le_of_eq (Wr.size W549).symm)) (Nat.le_of_eq (Wr.size W550).symm)) (Nat.le_of_eq (Wr.size W551).symm)) (Nat.le_of_eq (Wr.size W552).symm)) (Nat.le_of_eq (Wr.size W553).symm)) (Nat.le_of_eq (Wr.size W554).symm)) (Nat.le_of_eq (Wr.size W555).symm)) (Nat.le_of_eq (Wr.size W556).symm)) q557_0.1)
  obtain ⟨_, _, ⟨T574, L574, k574, n574⟩, -, X574, ⟨Lc574, hQ574, l574, y574, z574⟩, st574⟩ := Jvm.LawKit.callS X557 hx (y := (⟨"tributary/Digests", "sha256", "([B)[B"⟩ : MethodName)) hown (mvT hZ (hw _ (List.mem_of_getElem? (i := 6) rfl))) (mvT hZ (hw _ (List.mem_of_getElem? (i := 7) rfl))) (mvT hZ (hw _ (List.mem_of_getElem? (i := 8) rfl))) (mvT hZ (hw _ (List.mem_of_getElem? (i := 9) rfl))) (by decide) (backOf (W := 0) (rm2A l Z a0 hw [] b493 w_ROUND k_ROUND w_INITIAL k_INITIAL k493 (0 : Int32) ([]) (fun i => own_iv (([] : List Value).getD i (.int 0))) T557.heap n0 (Nat.le_trans Z0 le584) f575 f576 f577 f578 f579 f583 (fun i _ => own_allI rfl i) (by decide)) hZ (hw _ (List.mem_of_getElem? (i := 9) rfl)) (hw _ (List.mem_of_getElem? (i := 8) rfl)) (by decide) (by decide)) (g := (mkF m 389 #[.val (.long q1), .second, .val (.int p2), .val (.int nn), .val (.ref b491), .val (.ref b493), .val (.ref b494), .val (.ref b499), .val (.ref bn_557), .unset, .unset, .unset] [(.ref b493)])) rfl (by rw [hml]; rfl) (argsL := [(.ref b493)]) (rest := []) (lenOf pd_4 rfl) rfl (by show 2 * 0 + _ ≤ _; exact Nat.le_of_eq rfl) (hb hby at_389) (fun _ _ => ⟨rfl, rfl, (by decide : 8 + 4 ≤ _), (by decide : 235 + 168 ≤ _)⟩)
  dsimp only [Pt.U, Pt.locs, Pt.cells, Pt.slots] at X574 l574 y574 z574 st574 hQ574
  rw [l574, y574, z574] at X574
  obtain ⟨bn_574, kn_574, y_574, rfl, M574, q574_0, q574_1, q574_2, q574_3⟩ := hQ574
  have N574 := Fr.app N557 M574
  have K574 : Keep h0 T574.heap [] := Keep.trans K557 q574_0 all0
  refine own_go st574 ?_
  have V585 : Arv Z T574.heap bn_574 kn_574 .byte (32 : Int32) [(.int (-29)), (.int (-80)), (.int (-60)), (.int 66), (.int (-104)), (.int (-4)), (.int 28), (.int 20), (.int (-102)), (.int (-5)), (.int (-12)), (.int (-56)), (.int (-103)), (.int 111), (.int (-71)), (.int 36), (.int 39), (.int (-82)), (.int 65), (.int (-28)), (.int 100), (.int (-101)), (.int (-109)), (.int 76), (.int (-92)), (.int (-107)), (.int (-103)), (.int 27), (.int 120), (.int 82), (.int (-72)), (.int 85)] (.int 0) := by have q := q574_2; rw [q574_3.trans own_ev389, own_ob389] at q; exact q
  refine own_go (B := T574.setTop (mkF m 396 #[.val (.long q1), .second, .val (.int p2), .val (.int nn), .val (.ref b491), .val (.ref b493), .val (.ref b494), .val (.ref b499), .val (.ref bn_557), .val (.ref bn_574), .unset, .unset] [(.ref b494)])) (fun tg kt => ?_) ?_
  · refine XS.astore X574.here hx rfl (hb hby at_392) rfl rfl (l' := #[.val (.long q1), .second, .val (.int p2), .val (.int nn), .val (.ref b491), .val (.ref b493), .val (.ref b494), .val (.ref b499), .val (.ref bn_557), .val (.ref bn_574), .unset, .unset]) rfl ?_
    refine XS.aload X574.here hx rfl (hb hby at_394) rfl rfl ?_
    exact kt
  have f587 : Sta Z T574.heap "tributary/Digests" "ROUND" "[I" (.ref w_ROUND) := (own_staKeep f575 q574_0 (fun x hx_ => nomatch hx_))
  have f588 : Arv Z T574.heap w_ROUND k_ROUND .int (64 : Int32) (own_tab 64 own_K) (.int 0) := (f576.keep q574_0 nin0)
  have f589 : Sta Z T574.heap "tributary/Digests" "INITIAL" "[I" (.ref w_INITIAL) := (own_staKeep f577 q574_0 (fun x hx_ => nomatch hx_))
  have f590 : Exa Z T574.heap w_INITIAL "[I" := (f578.keep q574_0)
  have f591 : Arv Z T574.heap w_INITIAL k_INITIAL .int (8 : Int32) [(.int 1779033703), (.int (-1150833019)), (.int 1013904242), (.int (-1521486534)), (.int 1359893119), (.int (-1694144372)), (.int 528734635), (.int 1541459225)] (.int 0) := (f579.keep q574_0 nin0)
  have le592 : h494.size ≤ h498.size := (Nat.le_trans (Nat.le_trans (Nat.le_of_eq (Wr.size W495).symm) (Nat.le_of_eq (Wr.size W497).symm)) (Nat.le_of_eq (Wr.size W498).symm))
  have ne593 : b494 ≠ b499 := (Nat.ne_of_lt (Nat.lt_of_lt_of_le (Nat.lt_of_lt_of_le V494.lt le592) (Nat.le_of_eq g499.symm)))
  have f594 : Arv Z T574.heap b494 k494 .byte (3 : Int32) [(.int 97), (.int 98), (.int 99)] (.int 0) := (((((((((((((((((((((((((((((((((((((((((((((((((((((((((((V498.ext E499).other W500 ne593).other W502 ne593).other W503 ne593).other W504 ne593).other W505 ne593).other W506 ne593).other W507 ne593).other W508 ne593).other W509 ne593).other W510 ne593).other W511 ne593).other W512 ne593).other W513 ne593).other W514 ne593).other W515 ne593).other W516 ne593).other W517 ne593).other W518 ne593).other W519 ne593).other W520 ne593).other W521 ne593).other W522 ne593).other W523 ne593).other W524 ne593).other W525 ne593).other W526 ne593).other W527 ne593).other W528 ne593).other W529 ne593).other W530 ne593).other W531 ne593).other W532 ne593).other W533 ne593).other W534 ne593).other W535 ne593).other W536 ne593).other W537 ne593).other W538 ne593).other W539 ne593).other W540 ne593).other W541 ne593).other W542 ne593).other W543 ne593).other W544 ne593).other W545 ne593).other W546 ne593).other W547 ne593).other W548 ne593).other W549 ne593).other W550 ne593).other W551 ne593).other W552 ne593).other W553 ne593).other W554 ne593).other W555 ne593).other W556 ne593).keep q557_0 nin0).keep q574_0 nin0)
  have le595 : h0.size ≤ T574.heap.size := (Nat.le_trans (Nat.le_trans (Nat.le_trans (Nat.le_trans (Nat.le_trans (Nat.le_trans (Nat.le_trans (Nat.le_trans (Nat.le_trans (Nat.le_trans (Nat.le_trans (Nat.le_trans (Nat.le_trans (Nat.le_trans (Nat.le_trans (Nat.le_trans (Nat.le_trans (Nat.le_trans (Nat.le_trans (Nat.le_trans (Nat.le_trans (Nat.le_trans (Nat.le_trans (Nat.le_trans (Nat.le_trans (Nat.le_trans (Nat.le_trans (Nat.le_trans (Nat.le_trans (Nat.le_trans (Nat.le_trans (Nat.le_trans (Nat.le_trans (Nat.le_trans (Nat.le_trans (Nat.le_trans (Nat.le_trans (Nat.le_trans (Nat.le_trans (Nat.le_trans (Nat.le_trans (Nat.le_trans (Nat.le_trans (Nat.le_trans (Nat.le_trans (Nat.le_trans (Nat.le_trans (Nat.le_trans (Nat.le_trans (Nat.le_trans (Nat.le_trans (Nat.le_trans (Nat.le_trans (Nat.le_trans (Nat.le_trans (Nat.le_trans (Nat.le_trans (Nat.le_trans (Nat.le_trans (Nat.le_trans (Nat.le_trans (Nat.le_trans (Nat.le_trans (Nat.le_trans (Nat.le_trans E491.1 q492_0.1) E493.1) E494.1) (Nat.le_of_eq (Wr.size W495).symm)) (Nat.le_of_eq (Wr.size W497).symm)) (Nat.le_of_eq (Wr.size W498).symm)) E499.1) (Nat.le_of_eq (Wr.size W500).symm)) (Nat.le_of_eq (Wr.size W502).symm)) (Nat.le_of_eq (Wr.size W503).symm)) (Nat.le_of_eq (Wr.size W504).symm)) (Nat.le_of_eq (Wr.size W505).symm)) (Nat.le_of_eq (Wr.size W506).symm)) (Nat.le_of_eq (Wr.size W507).symm)) (Nat.le_of_eq (Wr.size W508).symm)) (Nat.le_of_eq (Wr.size W509).symm)) (Nat.le_of_eq (Wr.size W510).symm)) (Nat.le_of_eq (Wr.size W511).symm)) (Nat.le_of_eq (Wr.size W512).symm)) (Nat.le_of_eq (Wr.size W513).symm)) (Nat.le_of_eq (Wr.size W514).symm)) (Nat.le_of_eq (Wr.size W515).symm)) (Nat.le_of_eq (Wr.size W516).symm)) (Nat.le_of_eq (Wr.size W517).symm)) (Nat.le_of_eq (Wr.size W518).symm)) (Nat.le_of_eq (Wr.size W519).symm)) (Nat.le_of_eq (Wr.size W520).symm)) (Nat.le_of_eq (Wr.size W521).symm)) (Nat.le_of_eq (Wr.size W522).symm)) (Nat.le_of_eq (Wr.size W523).symm)) (Nat.le_of_eq (Wr.size W524).symm)) (Nat.le_of_eq (Wr.size W525).symm)) (Nat.le_of_eq (Wr.size W526).symm)) (Nat.le_of_eq (Wr.size W527).symm)) (Nat.le_of_eq (Wr.size W528).symm)) (Nat.le_of_eq (Wr.size W529).symm)) (Nat.le_of_eq (Wr.size W530).symm)) (Nat.le_of_eq (Wr.size W531).symm)) (Nat.le_of_eq (Wr.size W532).symm)) (Nat.le_of_eq (Wr.size W533).symm)) (Nat.le_of_eq (Wr.size W534).symm)) (Nat.le_of_eq (Wr.size W535).symm)) (Nat.le_of_eq (Wr.size W536).symm)) (Nat.le_of_eq (Wr.size W537).symm)) (Nat.le_of_eq (Wr.size W538).symm)) (Nat.le_of_eq (Wr.size W539).symm)) (Nat.le_of_eq (Wr.size W540).symm)) (Nat.le_of_eq (Wr.size W541).symm)) (Nat.le_of_eq (Wr.size W542).symm)) (Nat.le_of_eq (Wr.size W543).symm)) (Nat.le_of_eq (Wr.size W544).symm)) (Nat.le_of_eq (Wr.size W545).symm)) (Nat.le_of_eq (Wr.size W546).symm)) (Nat.le_of_eq (Wr.size W547).symm)) (Nat.le_of_eq (Wr.size W548).symm)) (Nat.le_of_eq (Wr.size W549).symm)) (Nat.le_of_eq (Wr.size W550).symm)) (Nat.le_of_eq (Wr.size W551).symm)) (Nat.le_of_eq (Wr.size W552).symm)) (Nat.le_of_eq (Wr.size W553).symm)) (Nat.le_of_eq (Wr.size W554).symm)) (Nat.le_of_eq (Wr.size W555).symm)) (Nat.le_of_eq (Wr.size W556).symm)) q557_0.1) q574_0.1)
  obtain ⟨_, _, ⟨T586, L586, k586, n586⟩, -, X586, ⟨Lc586, hQ586, l586, y586, z586⟩, st586⟩ := Jvm.LawKit.callS X574 hx (y := (⟨"tributary/Digests", "sha256", "([B)[B"⟩ : MethodName)) hown (mvT hZ (hw _ (List.mem_of_getElem? (i := 6) rfl))) (mvT hZ (hw _ (List.mem_of_getElem? (i := 7) rfl))) (mvT hZ (hw _ (List.mem_of_getElem? (i := 8) rfl))) (mvT hZ (hw _ (List.mem_of_getElem? (i := 9) rfl))) (by decide) (backOf (W := 0) (rm2A l Z a0 hw [] b494 w_ROUND k_ROUND w_INITIAL k_INITIAL k494 (3 : Int32) ([(.int 97), (.int 98), (.int 99)]) (fun i => own_iv (([(.int 97), (.int 98), (.int 99)] : List Value).getD i (.int 0))) T574.heap n0 (Nat.le_trans Z0 le595) f587 f588 f589 f590 f591 f594 (fun i _ => own_allI rfl i) (by decide)) hZ (hw _ (List.mem_of_getElem? (i := 9) rfl)) (hw _ (List.mem_of_getElem? (i := 8) rfl)) (by decide) (by decide)) (g := (mkF m 396 #[.val (.long q1), .second, .val (.int p2), .val (.int nn), .val (.ref b491), .val (.ref b493), .val (.ref b494), .val (.ref b499), .val (.ref bn_557), .val (.ref bn_574), .unset, .unset] [(.ref b494)])) rfl (by rw [hml]; rfl) (argsL := [(.ref b494)]) (rest := []) (lenOf pd_4 rfl) rfl (by show 2 * 0 + _ ≤ _; exact Nat.le_of_eq rfl) (hb hby at_396) (fun _ _ => ⟨rfl, rfl, (by decide : 12 + 4 ≤ _), (by decide : 403 + 168 ≤ _)⟩)
  dsimp only [Pt.U, Pt.locs, Pt.cells, Pt.slots] at X586 l586 y586 z586 st586 hQ586
  rw [l586, y586, z586] at X586
  obtain ⟨bn_586, kn_586, y_586, rfl, M586, q586_0, q586_1, q586_2, q586_3⟩ := hQ586
  have N586 := Fr.app N574 M586
  have K586 : Keep h0 T586.heap [] := Keep.trans K574 q586_0 all0
  refine own_go st586 ?_
  have V596 : Arv Z T586.heap bn_586 kn_586 .byte (32 : Int32) [(.int (-70)), (.int 120), (.int 22), (.int (-65)), (.int (-113)), (.int 1), (.int (-49)), (.int (-22)), (.int 65), (.int 65), (.int 64), (.int (-34)), (.int 93), (.int (-82)), (.int 34), (.int 35), (.int (-80)), (.int 3), (.int 97), (.int (-93)), (.int (-106)), (.int 23), (.int 122), (.int (-100)), (.int (-76)), (.int 16), (.int (-1)), (.int 97), (.int (-14)), (.int 0), (.int 21), (.int (-83))] (.int 0) := by have q := q586_2; rw [q586_3.trans own_ev396, own_ob396] at q; exact q
  refine own_go (B := T586.setTop (mkF m 403 #[.val (.long q1), .second, .val (.int p2), .val (.int nn), .val (.ref b491), .val (.ref b493), .val (.ref b494), .val (.ref b499), .val (.ref bn_557), .val (.ref bn_574), .val (.ref bn_586), .unset] [(.ref b499)])) (fun tg kt => ?_) ?_
  · refine XS.astore X586.here hx rfl (hb hby at_399) rfl rfl (l' := #[.val (.long q1), .second, .val (.int p2), .val (.int nn), .val (.ref b491), .val (.ref b493), .val (.ref b494), .val (.ref b499), .val (.ref bn_557), .val (.ref bn_574), .val (.ref bn_586), .unset]) rfl ?_
    refine XS.aload X586.here hx rfl (hb hby at_401) rfl rfl ?_
    exact kt
  have f598 : Sta Z T586.heap "tributary/Digests" "ROUND" "[I" (.ref w_ROUND) := (own_staKeep f587 q586_0 (fun x hx_ => nomatch hx_))
  have f599 : Arv Z T586.heap w_ROUND k_ROUND .int (64 : Int32) (own_tab 64 own_K) (.int 0) := (f588.keep q586_0 nin0)
  have f600 : Sta Z T586.heap "tributary/Digests" "INITIAL" "[I" (.ref w_INITIAL) := (own_staKeep f589 q586_0 (fun x hx_ => nomatch hx_))
  have f601 : Exa Z T586.heap w_INITIAL "[I" := (f590.keep q586_0)
  have f602 : Arv Z T586.heap w_INITIAL k_INITIAL .int (8 : Int32) [(.int 1779033703), (.int (-1150833019)), (.int 1013904242), (.int (-1521486534)), (.int 1359893119), (.int (-1694144372)), (.int 528734635), (.int 1541459225)] (.int 0) := (f591.keep q586_0 nin0)
  have f603 : Arv Z T586.heap b499 k499 .byte (56 : Int32) [(.int 97), (.int 98), (.int 99), (.int 100), (.int 98), (.int 99), (.int 100), (.int 101), (.int 99), (.int 100), (.int 101), (.int 102), (.int 100), (.int 101), (.int 102), (.int 103), (.int 101), (.int 102), (.int 103), (.int 104), (.int 102), (.int 103), (.int 104), (.int 105), (.int 103), (.int 104), (.int 105), (.int 106), (.int 104), (.int 105), (.int 106), (.int 107), (.int 105), (.int 106), (.int 107), (.int 108), (.int 106), (.int 107), (.int 108), (.int 109), (.int 107), (.int 108), (.int 109), (.int 110), (.int 108), (.int 109), (.int 110), (.int 111), (.int 109), (.int 110), (.int 111), (.int 112), (.int 110), (.int 111), (.int 112), (.int 113)] (.int 0) := (((V556.keep q557_0 nin0).keep q574_0 nin0).keep q586_0 nin0)
  have le604 : h0.size ≤ T586.heap.size := (Nat.le_trans (Nat.le_trans (Nat.le_trans (Nat.le_trans (Nat.le_trans (Nat.le_trans (Nat.le_trans (Nat.le_trans (Nat.le_trans (Nat.le_trans (Nat.le_trans (Nat.le_trans (Nat.le_trans (Nat.le_trans (Nat.le_trans (Nat.le_trans (Nat.le_trans (Nat.le_trans (Nat.le_trans (Nat.le_trans (Nat.le_trans (Nat.le_trans (Nat.le_trans (Nat.le_trans (Nat.le_trans (Nat.le_trans (Nat.le_trans (Nat.le_trans (Nat.le_trans (Nat.le_trans (Nat.le_trans (Nat.le_trans (Nat.le_trans (Nat.le_trans (Nat.le_trans (Nat.le_trans (Nat.le_trans (Nat.le_trans (Nat.le_trans (Nat.le_trans (Nat.le_trans (Nat.le_trans (Nat.le_trans (Nat.le_trans (Nat.le_trans (Nat.le_trans (Nat.le_trans (Nat.le_trans (Nat.le_trans (Nat.le_trans (Nat.le_trans (Nat.le_trans (Nat.le_trans (Nat.le_trans (Nat.le_trans (Nat.le_trans (Nat.le_trans (Nat.le_trans (Nat.le_trans (Nat.le_trans (Nat.le_trans (Nat.le_trans (Nat.le_trans (Nat.le_trans (Nat.le_trans (Nat.le_trans E491.1 q492_0.1) E493.1) E494.1) (Nat.le_of_eq (Wr.size W495).symm)) (Nat.le_of_eq (Wr.size W497).symm)) (Nat.le_of_eq (Wr.size W498).symm)) E499.1) (Nat.le_of_eq (Wr.size W500).symm)) (Nat.le_of_eq (Wr.size W502).symm)) (Nat.le_of_eq (Wr.size W503).symm)) (Nat.le_of_eq (Wr.size W504).symm)) (Nat.le_of_eq (Wr.size W505).symm)) (Nat.le_of_eq (Wr.size W506).symm)) (Nat.le_of_eq (Wr.size W507).symm)) (Nat.le_of_eq (Wr.size W508).symm)) (Nat.le_of_eq (Wr.size W509).symm)) (Nat.le_of_eq (Wr.size W510).symm)) (Nat.le_of_eq (Wr.size W511).symm)) (Nat.le_of_eq (Wr.size W512).symm)) (Nat.le_of_eq (Wr.size W513).symm)) (Nat.le_of_eq (Wr.size W514).symm)) (Nat.le_of_eq (Wr.size W515).symm)) (Nat.le_of_eq (Wr.size W516).symm)) (Nat.le_of_eq (Wr.size W517).symm)) (Nat.le_of_eq (Wr.size W518).symm)) (Nat.le_of_eq (Wr.size W519).symm)) (Nat.le_of_eq (Wr.size W520).symm)) (Nat.le_of_eq (Wr.size W521).symm)) (Nat.le_of_eq (Wr.size W522).symm)) (Nat.le_of_eq (Wr.size W523).symm)) (Nat.le_of_eq (Wr.size W524).symm)) (Nat.le_of_eq (Wr.size W525).symm)) (Nat.le_of_eq (Wr.size W526).symm)) (Nat.le_of_eq (Wr.size W527).symm)) (Nat.le_of_eq (Wr.size W528).symm)) (Nat.le_of_eq (Wr.size W529).symm)) (Nat.le_of_eq (Wr.size W530).symm)) (Nat.le_of_eq (Wr.size W531).symm)) (Nat.le_of_eq (Wr.size W532).symm)) (Nat.le_of_eq (Wr.size W533).symm)) (Nat.le_of_eq (Wr.size W534).symm)) (Nat.le_of_eq (Wr.size W535).symm)) (Nat.le_of_eq (Wr.size W536).symm)) (Nat.le_of_eq (Wr.size W537).symm)) (Nat.le_of_eq (Wr.size W538).symm)) (Nat.le_of_eq (Wr.size W539).symm)) (Nat.le_of_eq (Wr.size W540).symm)) (Nat.le_of_eq (Wr.size W541).symm)) (Nat.le_of_eq (Wr.size W542).symm)) (Nat.le_of_eq (Wr.size W543).symm)) (Nat.le_of_eq (Wr.size W544).symm)) (Nat.le_of_eq (Wr.size W545).symm)) (Nat.le_of_eq (Wr.size W546).symm)) (Nat.le_of_eq (Wr.size W547).symm)) (Nat.le_of_eq (Wr.size W548).symm)) (Nat.le_of_eq (Wr.size W549).symm)) (Nat.le_of_eq (Wr.size W550).symm)) (Nat.le_of_eq (Wr.size W551).symm)) (Nat.le_of_eq (Wr.size W552).symm)) (Nat.le_of_eq (Wr.size W553).symm)) (Nat.le_of_eq (Wr.size W554).symm)) (Nat.le_of_eq (Wr.size W555).symm)) (Nat.le_of_eq (Wr.size W556).symm)) q557_0.1) q574_0.1) q586_0.1)
  obtain ⟨_, _, ⟨T597, L597, k597, n597⟩, -, X597, ⟨Lc597, hQ597, l597, y597, z597⟩, st597⟩ := Jvm.LawKit.callS X586 hx (y := (⟨"tributary/Digests", "sha256", "([B)[B"⟩ : MethodName)) hown (mvT hZ (hw _ (List.mem_of_getElem? (i := 6) rfl))) (mvT hZ (hw _ (List.mem_of_getElem? (i := 7) rfl))) (mvT hZ (hw _ (List.mem_of_getElem? (i := 8) rfl))) (mvT hZ (hw _ (List.mem_of_getElem? (i := 9) rfl))) (by decide) (backOf (W := 0) (rm2B l Z a0 hw [] b499 w_ROUND k_ROUND w_INITIAL k_INITIAL k499 ([(.int 97), (.int 98), (.int 99), (.int 100), (.int 98), (.int 99), (.int 100), (.int 101), (.int 99), (.int 100), (.int 101), (.int 102), (.int 100), (.int 101), (.int 102), (.int 103), (.int 101), (.int 102), (.int 103), (.int 104), (.int 102), (.int 103), (.int 104), (.int 105), (.int 103), (.int 104), (.int 105), (.int 106), (.int 104), (.int 105), (.int 106), (.int 107), (.int 105), (.int 106), (.int 107), (.int 108), (.int 106), (.int 107), (.int 108), (.int 109), (.int 107), (.int 108), (.int 109), (.int 110), (.int 108), (.int 109), (.int 110), (.int 111), (.int 109), (.int 110), (.int 111), (.int 112), (.int 110), (.int 111), (.int 112), (.int 113)]) (fun i => own_iv (([(.int 97), (.int 98), (.int 99), (.int 100), (.int 98), (.int 99), (.int 100), (.int 101), (.int 99), (.int 100), (.int 101), (.int 102), (.int 100), (.int 101), (.int 102), (.int 103), (.int 101), (.int 102), (.int 103), (.int 104), (.int 102), (.int 103), (.int 104), (.int 105), (.int 103), (.int 104), (.int 105), (.int 106), (.int 104), (.int 105), (.int 106), (.int 107), (.int 105), (.int 106), (.int 107), (.int 108), (.int 106), (.int 107), (.int 108), (.int 109), (.int 107), (.int 108), (.int 109), (.int 110), (.int 108), (.int 109), (.int 110), (.int 111), (.int 109), (.int 110), (.int 111), (.int 112), (.int 110), (.int 111), (.int 112), (.int 113)] : List Value).getD i (.int 0))) T586.heap n0 (Nat.le_trans Z0 le604) f598 f599 f600 f601 f602 f603 (fun i _ => own_allI rfl i)) hZ (hw _ (List.mem_of_getElem? (i := 9) rfl)) (hw _ (List.mem_of_getElem? (i := 8) rfl)) (by decide) (by decide)) (g := (mkF m 403 #[.val (.long q1), .second, .val (.int p2), .val (.int nn), .val (.ref b491), .val (.ref b493), .val (.ref b494), .val (.ref b499), .val (.ref bn_557), .val (.ref bn_574), .val (.ref bn_586), .unset] [(.ref b499)])) rfl (by rw [hml]; rfl) (argsL := [(.ref b499)]) (rest := []) (lenOf pd_4 rfl) rfl (by show 2 * 0 + _ ≤ _; exact Nat.le_of_eq rfl) (hb hby at_403) (fun _ _ => ⟨rfl, rfl, (by decide : 16 + 4 ≤ _), (by decide : 571 + 232 ≤ _)⟩)
  dsimp only [Pt.U, Pt.locs, Pt.cells, Pt.slots] at X597 l597 y597 z597 st597 hQ597
  rw [l597, y597, z597] at X597
  obtain ⟨bn_597, kn_597, y_597, rfl, M597, q597_0, q597_1, q597_2, q597_3⟩ := hQ597
  have N597 := Fr.app N586 M597
  have K597 : Keep h0 T597.heap [] := Keep.trans K586 q597_0 all0
  refine own_go st597 ?_
  have V605 : Arv Z T597.heap bn_597 kn_597 .byte (32 : Int32) [(.int 36), (.int (-115)), (.int 106), (.int 97), (.int (-46)), (.int 6), (.int 56), (.int (-72)), (.int (-27)), (.int (-64)), (.int 38), (.int (-109)), (.int 12), (.int 62), (.int 96), (.int 57), (.int (-93)), (.int 60), (.int (-28)), (.int 89), (.int 100), (.int (-1)), (.int 33), (.int 103), (.int (-10)), (.int (-20)), (.int (-19)), (.int (-44)), (.int 25), (.int (-37)), (.int 6), (.int (-63))] (.int 0) := by have q := q597_2; rw [q597_3.trans own_ev403, own_ob403] at q; exact q
  refine own_go (B := T597.setTop (mkF m 410 #[.val (.long q1), .second, .val (.int p2), .val (.int nn), .val (.ref b491), .val (.ref b493), .val (.ref b494), .val (.ref b499), .val (.ref bn_557), .val (.ref bn_574), .val (.ref bn_586), .val (.ref bn_597)] [(.ref bn_557)])) (fun tg kt => ?_) ?_
  · refine XS.astore X597.here hx rfl (hb hby at_406) rfl rfl (l' := #[.val (.long q1), .second, .val (.int p2), .val (.int nn), .val (.ref b491), .val (.ref b493), .val (.ref b494), .val (.ref b499), .val (.ref bn_557), .val (.ref bn_574), .val (.ref bn_586), .val (.ref bn_597)]) rfl ?_
    refine XS.aload X597.here hx rfl (hb hby at_408) rfl rfl ?_
    exact kt
  have f606 : Arv Z T597.heap bn_557 kn_557 .byte (32 : Int32) (own_tab 32 (own_oa (own_ob y_557) 32)) (.int 0) := (((q557_2.keep q574_0 nin0).keep q586_0 nin0).keep q597_0 nin0)
  obtain ⟨cl607, Ar607, cq607, cS607, cN607, cH607, cG607⟩ := id f606
  refine own_go (B := T597.setTop (mkF m 418 #[.val (.long q1), .second, .val (.int p2), .val (.int nn), .val (.ref b491), .val (.ref b493), .val (.ref b494), .val (.ref b499), .val (.ref bn_557), .val (.ref bn_574), .val (.ref bn_586), .val (.ref bn_597)] [(.ref bn_574)])) (fun tg kt => ?_) ?_
  · refine X597.arraylength hx (by exact Ar607.1) (State.isArrayOf_alike hZ.alike Ar607.2.1) (g := (mkF m 410 #[.val (.long q1), .second, .val (.int p2), .val (.int nn), .val (.ref b491), .val (.ref b493), .val (.ref b494), .val (.ref b499), .val (.ref bn_557), .val (.ref bn_574), .val (.ref bn_586), .val (.ref bn_597)] [(.ref bn_557)])) rfl rfl (hb hby at_410) _ ?_
    rw [len_of cS607 cN607]
    refine XS.bipush X597.here hx rfl (hb hby at_411) ?_
    refine XS.icmpNo X597.here hx rfl (hb hby at_413) rfl (teq (by decide : (32 : Int32) = (32 : Int32))).2 ?_
    refine XS.aload X597.here hx rfl (hb hby at_416) rfl rfl ?_
    exact kt
  have f608 : Arv Z T597.heap bn_574 kn_574 .byte (32 : Int32) [(.int (-29)), (.int (-80)), (.int (-60)), (.int 66), (.int (-104)), (.int (-4)), (.int 28), (.int 20), (.int (-102)), (.int (-5)), (.int (-12)), (.int (-56)), (.int (-103)), (.int 111), (.int (-71)), (.int 36), (.int 39), (.int (-82)), (.int 65), (.int (-28)), (.int 100), (.int (-101)), (.int (-109)), (.int 76), (.int (-92)), (.int (-107)), (.int (-103)), (.int 27), (.int 120), (.int 82), (.int (-72)), (.int 85)] (.int 0) := ((V585.keep q586_0 nin0).keep q597_0 nin0)
  obtain ⟨cl609, Ar609, cq609, cS609, cN609, cH609, cG609⟩ := id f608
  refine own_go (B := T597.setTop (mkF m 426 #[.val (.long q1), .second, .val (.int p2), .val (.int nn), .val (.ref b491), .val (.ref b493), .val (.ref b494), .val (.ref b499), .val (.ref bn_557), .val (.ref bn_574), .val (.ref bn_586), .val (.ref bn_597)] [(.ref bn_586)])) (fun tg kt => ?_) ?_
  · refine X597.arraylength hx (by exact Ar609.1) (State.isArrayOf_alike hZ.alike Ar609.2.1) (g := (mkF m 418 #[.val (.long q1), .second, .val (.int p2), .val (.int nn), .val (.ref b491), .val (.ref b493), .val (.ref b494), .val (.ref b499), .val (.ref bn_557), .val (.ref bn_574), .val (.ref bn_586), .val (.ref bn_597)] [(.ref bn_574)])) rfl rfl (hb hby at_418) _ ?_
    rw [len_of cS609 cN609]
    refine XS.bipush X597.here hx rfl (hb hby at_419) ?_
    refine XS.icmpNo X597.here hx rfl (hb hby at_421) rfl (teq (by decide : (32 : Int32) = (32 : Int32))).2 ?_
    refine XS.aload X597.here hx rfl (hb hby at_424) rfl rfl ?_
    exact kt
  have f610 : Arv Z T597.heap bn_586 kn_586 .byte (32 : Int32) [(.int (-70)), (.int 120), (.int 22), (.int (-65)), (.int (-113)), (.int 1), (.int (-49)), (.int (-22)), (.int 65), (.int 65), (.int 64), (.int (-34)), (.int 93), (.int (-82)), (.int 34), (.int 35), (.int (-80)), (.int 3), (.int 97), (.int (-93)), (.int (-106)), (.int 23), (.int 122), (.int (-100)), (.int (-76)), (.int 16), (.int (-1)), (.int 97), (.int (-14)), (.int 0), (.int 21), (.int (-83))] (.int 0) := (V596.keep q597_0 nin0)
  obtain ⟨cl611, Ar611, cq611, cS611, cN611, cH611, cG611⟩ := id f610
  refine own_go (B := T597.setTop (mkF m 434 #[.val (.long q1), .second, .val (.int p2), .val (.int nn), .val (.ref b491), .val (.ref b493), .val (.ref b494), .val (.ref b499), .val (.ref bn_557), .val (.ref bn_574), .val (.ref bn_586), .val (.ref bn_597)] [(.ref bn_597)])) (fun tg kt => ?_) ?_
  · refine X597.arraylength hx (by exact Ar611.1) (State.isArrayOf_alike hZ.alike Ar611.2.1) (g := (mkF m 426 #[.val (.long q1), .second, .val (.int p2), .val (.int nn), .val (.ref b491), .val (.ref b493), .val (.ref b494), .val (.ref b499), .val (.ref bn_557), .val (.ref bn_574), .val (.ref bn_586), .val (.ref bn_597)] [(.ref bn_586)])) rfl rfl (hb hby at_426) _ ?_
    rw [len_of cS611 cN611]
    refine XS.bipush X597.here hx rfl (hb hby at_427) ?_
    refine XS.icmpNo X597.here hx rfl (hb hby at_429) rfl (teq (by decide : (32 : Int32) = (32 : Int32))).2 ?_
    refine XS.aload X597.here hx rfl (hb hby at_432) rfl rfl ?_
    exact kt
  obtain ⟨cl612, Ar612, cq612, cS612, cN612, cH612, cG612⟩ := id V605
  refine own_go (B := T597.setTop (mkF m 444 #[.val (.long q1), .second, .val (.int p2), .val (.int nn), .val (.ref b491), .val (.ref b493), .val (.ref b494), .val (.ref b499), .val (.ref bn_557), .val (.ref bn_574), .val (.ref bn_586), .val (.ref bn_597)] [(.ref b491)])) (fun tg kt => ?_) ?_
  · refine X597.arraylength hx (by exact Ar612.1) (State.isArrayOf_alike hZ.alike Ar612.2.1) (g := (mkF m 434 #[.val (.long q1), .second, .val (.int p2), .val (.int nn), .val (.ref b491), .val (.ref b493), .val (.ref b494), .val (.ref b499), .val (.ref bn_557), .val (.ref bn_574), .val (.ref bn_586), .val (.ref bn_597)] [(.ref bn_597)])) rfl rfl (hb hby at_434) _ ?_
    rw [len_of cS612 cN612]
    refine XS.bipush X597.here hx rfl (hb hby at_435) ?_
    refine XS.icmpYes X597.here hx rfl (pc0 := 437) (pc' := 442) rfl (hb hby at_437) rfl (teq (by decide : (32 : Int32) = (32 : Int32))).1 (by decide) (by decide) ?_
    refine XS.aload X597.here hx rfl (hb hby at_442) rfl rfl ?_
    exact kt
  have f613 : Arv Z T597.heap b491 k491 .byte nn [(.int ((q1.toInt32).toInt8.toInt32)), (.int (own_bz q1 8)), (.int (own_bz q1 16)), (.int (own_bz q1 24)), (.int (own_bz q1 32)), (.int (own_bz q1 40)), (.int (own_bz q1 48)), (.int (own_bz q1 56))] (.int 0) := ((((f572.keep q557_0 nin0).keep q574_0 nin0).keep q586_0 nin0).keep q597_0 nin0)
  obtain ⟨cl614, Ar614, cq614, cS614, cN614, cH614, cG614⟩ := id f613
  refine own_go (B := T597.setTop (mkF m 452 #[.val (.long q1), .second, .val (.int p2), .val (.int nn), .val (.ref b491), .val (.ref b493), .val (.ref b494), .val (.ref b499), .val (.ref bn_557), .val (.ref bn_574), .val (.ref bn_586), .val (.ref bn_597)] [(.long q1), (.ref b491)])) (fun tg kt => ?_) ?_
  · refine X597.arraylength hx (by exact Ar614.1) (State.isArrayOf_alike hZ.alike Ar614.2.1) (g := (mkF m 444 #[.val (.long q1), .second, .val (.int p2), .val (.int nn), .val (.ref b491), .val (.ref b493), .val (.ref b494), .val (.ref b499), .val (.ref bn_557), .val (.ref bn_574), .val (.ref bn_586), .val (.ref bn_597)] [(.ref b491)])) rfl rfl (hb hby at_444) _ ?_
    rw [len_of cS614 cN614]
    refine XS.iloadN X597.here hx rfl (hb hby at_445) rfl ?_
    refine XS.icmpNo X597.here hx rfl (hb hby at_446) rfl (teq (rfl : nn = nn)).2 ?_
    refine XS.aload X597.here hx rfl (hb hby at_449) rfl rfl ?_
    refine XS.lloadN X597.here hx rfl (hb hby at_451) rfl ?_
    exact kt
  have le616 : h0.size ≤ T597.heap.size := (Nat.le_trans (Nat.le_trans (Nat.le_trans (Nat.le_trans (Nat.le_trans (Nat.le_trans (Nat.le_trans (Nat.le_trans (Nat.le_trans (Nat.le_trans (Nat.le_trans (Nat.le_trans (Nat.le_trans (Nat.le_trans (Nat.le_trans (Nat.le_trans (Nat.le_trans (Nat.le_trans (Nat.le_trans (Nat.le_trans (Nat.le_trans (Nat.le_trans (Nat.le_trans (Nat.le_trans (Nat.le_trans (Nat.le_trans (Nat.le_trans (Nat.le_trans (Nat.le_trans (Nat.le_trans (Nat.le_trans (Nat.le_trans (Nat.le_trans (Nat.le_trans (Nat.le_trans (Nat.le_trans (Nat.le_trans (Nat.le_trans (Nat.le_trans (Nat.le_trans (Nat.le_trans (Nat.le_trans (Nat.le_trans (Nat.le_trans (Nat.le_trans (Nat.le_trans (Nat.le_trans (Nat.le_trans (Nat.le_trans (Nat.le_trans (Nat.le_trans (Nat.le_trans (Nat.le_trans (Nat.le_trans (Nat.le_trans (Nat.le_trans (Nat.le_trans (Nat.le_trans (Nat.le_trans (Nat.le_trans (Nat.le_trans (Nat.le_trans (Nat.le_trans (Nat.le_trans (Nat.le_trans (Nat.le_trans (Nat.le_trans E491.1 q492_0.1) E493.1) E494.1) (Nat.le_of_eq (Wr.size W495).symm)) (Nat.le_of_eq (Wr.size W497).symm)) (Nat.le_of_eq (Wr.size W498).symm)) E499.1) (Nat.le_of_eq (Wr.size W500).symm)) (Nat.le_of_eq (Wr.size W502).symm)) (Nat.le_of_eq (Wr.size W503).symm)) (Nat.le_of_eq (Wr.size W504).symm)) (Nat.le_of_eq (Wr.size W505).symm)) (Nat.le_of_eq (Wr.size W506).symm)) (Nat.le_of_eq (Wr.size W507).symm)) (Nat.le_of_eq (Wr.size W508).symm)) (Nat.le_of_eq (Wr.size W509).symm)) (Nat.le_of_eq (Wr.size W510).symm)) (Nat.le_of_eq (Wr.size W511).symm)) (Nat.le_of_eq (Wr.size W512).symm)) (Nat.le_of_eq (Wr.size W513).symm)) (Nat.le_of_eq (Wr.size W514).symm)) (Nat.le_of_eq (Wr.size W515).symm)) (Nat.le_of_eq (Wr.size W516).symm)) (Nat.le_of_eq (Wr.size W517).symm)) (Nat.le_of_eq (Wr.size W518).symm)) (Nat.le_of_eq (Wr.size W519).symm)) (Nat.le_of_eq (Wr.size W520).symm)) (Nat.le_of_eq (Wr.size W521).symm)) (Nat.le_of_eq (Wr.size W522).symm)) (Nat.le_of_eq (Wr.size W523).symm)) (Nat.le_of_eq (Wr.size W524).symm)) (Nat.le_of_eq (Wr.size W525).symm)) (Nat.le_of_eq (Wr.size W526).symm)) (Nat.le_of_eq (Wr.size W527).symm)) (Nat.le_of_eq (Wr.size W528).symm)) (Nat.le_of_eq (Wr.size W529).symm)) (Nat.le_of_eq (Wr.size W530).symm)) (Nat.le_of_eq (Wr.size W531).symm)) (Nat.le_of_eq (Wr.size W532).symm)) (Nat.le_of_eq (Wr.size W533).symm)) (Nat.le_of_eq (Wr.size W534).symm)) (Nat.le_of_eq (Wr.size W535).symm)) (Nat.le_of_eq (Wr.size W536).symm)) (Nat.le_of_eq (Wr.size W537).symm)) (Nat.le_of_eq (Wr.size W538).symm)) (Nat.le_of_eq (Wr.size W539).symm)) (Nat.le_of_eq (Wr.size W540).symm)) (Nat.le_of_eq (Wr.size W541).symm)) (Nat.le_of_eq (Wr.size W542).symm)) (Nat.le_of_eq (Wr.size W543).symm)) (Nat.le_of_eq (Wr.size W544).symm)) (Nat.le_of_eq (Wr.size W545).symm)) (Nat.le_of_eq (Wr.size W546).symm)) (Nat.le_of_eq (Wr.size W547).symm)) (Nat.le_of_eq (Wr.size W548).symm)) (Nat.le_of_eq (Wr.size W549).symm)) (Nat.le_of_eq (Wr.size W550).symm)) (Nat.le_of_eq (Wr.size W551).symm)) (Nat.le_of_eq (Wr.size W552).symm)) (Nat.le_of_eq (Wr.size W553).symm)) (Nat.le_of_eq (Wr.size W554).symm)) (Nat.le_of_eq (Wr.size W555).symm)) (Nat.le_of_eq (Wr.size W556).symm)) q557_0.1) q574_0.1) q586_0.1) q597_0.1)
  obtain ⟨_, _, ⟨T615, L615, k615, n615⟩, -, X615, ⟨Lc615, hQ615, l615, y615, z615⟩, st615⟩ := Jvm.LawKit.callS X597 hx (y := (⟨"tributary/DigestsSha256PinLaw", "unchanged", "([BJ)Z"⟩ : MethodName)) hown (mvT hZ (hw _ (List.mem_of_getElem? (i := 36) rfl))) (mvT hZ (hw _ (List.mem_of_getElem? (i := 37) rfl))) (mvT hZ (hw _ (List.mem_of_getElem? (i := 4) rfl))) (mvT hZ (hw _ (List.mem_of_getElem? (i := 38) rfl))) (by decide) (backOf (W := 0) (rm5 l Z a0 hw [] b491 q1 k491 nn T597.heap n0 (Nat.le_trans Z0 le616) f613 ((own_n8 hnn).1) ((own_n8 hnn).2.1)) hZ (hw _ (List.mem_of_getElem? (i := 38) rfl)) (hw _ (List.mem_of_getElem? (i := 4) rfl)) (by decide) (by decide)) (g := (mkF m 452 #[.val (.long q1), .second, .val (.int p2), .val (.int nn), .val (.ref b491), .val (.ref b493), .val (.ref b494), .val (.ref b499), .val (.ref bn_557), .val (.ref bn_574), .val (.ref bn_586), .val (.ref bn_597)] [(.long q1), (.ref b491)])) rfl (by rw [hml]; rfl) (argsL := [(.ref b491), (.long q1)]) (rest := []) (lenOf pd_5 rfl) rfl (by show 2 * 0 + _ ≤ _; exact Nat.le_of_eq rfl) (hb hby at_452) (fun _ _ => ⟨rfl, rfl, (by decide : 20 + 0 ≤ _), (by decide : 803 + 0 ≤ _)⟩)
  dsimp only [Pt.U, Pt.locs, Pt.cells, Pt.slots] at X615 l615 y615 z615 st615 hQ615
  rw [l615, y615, z615] at X615
  obtain ⟨rfl, M615, q615_0⟩ := hQ615
  have N615 := Fr.app N597 M615
  refine own_go st615 ?_
  refine own_go (B := T615.setTop (mkF m 478 #[.val (.long q1), .second, .val (.int p2), .val (.int nn), .val (.ref b491), .val (.ref b493), .val (.ref b494), .val (.ref b499), .val (.ref bn_557), .val (.ref bn_574), .val (.ref bn_586), .val (.ref bn_597)] [(.int 2018687061), (.int (-1533699813)), (.int 1687917388), (.int 665731556), (.int (-1720731356)), (.int (-1694763832)), (.int (-1728308204)), (.int (-474954686)), (.ref bn_574)])) (fun tg kt => ?_) ?_
  · refine XS.ifYes X615.here hx rfl (pc0 := 455) (pc' := 460) rfl (hb hby at_455) rfl ((if0 _ _).trans (feq (by decide : ¬ ((1 : Int32) = (0 : Int32)))).2) (by decide) (by decide) ?_
    refine XS.aload X615.here hx rfl (hb hby at_460) rfl rfl ?_
    refine X615.ldcInt hx hown (mvT hZ (hw _ (List.mem_of_getElem? (i := 39) rfl))) (g := (mkF m 462 #[.val (.long q1), .second, .val (.int p2), .val (.int nn), .val (.ref b491), .val (.ref b493), .val (.ref b494), .val (.ref b499), .val (.ref bn_557), .val (.ref bn_574), .val (.ref bn_586), .val (.ref bn_597)] [(.ref bn_574)])) rfl (hb hby at_462) _ ?_
    refine X615.ldcInt hx hown (mvT hZ (hw _ (List.mem_of_getElem? (i := 40) rfl))) (g := (mkF m 464 #[.val (.long q1), .second, .val (.int p2), .val (.int nn), .val (.ref b491), .val (.ref b493), .val (.ref b494), .val (.ref b499), .val (.ref bn_557), .val (.ref bn_574), .val (.ref bn_586), .val (.ref bn_597)] [(.int (-474954686)), (.ref bn_574)])) rfl (hb hby at_464) _ ?_
    refine X615.ldcInt hx hown (mvT hZ (hw _ (List.mem_of_getElem? (i := 41) rfl))) (g := (mkF m 466 #[.val (.long q1), .second, .val (.int p2), .val (.int nn), .val (.ref b491), .val (.ref b493), .val (.ref b494), .val (.ref b499), .val (.ref bn_557), .val (.ref bn_574), .val (.ref bn_586), .val (.ref bn_597)] [(.int (-1728308204)), (.int (-474954686)), (.ref bn_574)])) rfl (hb hby at_466) _ ?_
    refine X615.ldcInt hx hown (mvT hZ (hw _ (List.mem_of_getElem? (i := 42) rfl))) (g := (mkF m 468 #[.val (.long q1), .second, .val (.int p2), .val (.int nn), .val (.ref b491), .val (.ref b493), .val (.ref b494), .val (.ref b499), .val (.ref bn_557), .val (.ref bn_574), .val (.ref bn_586), .val (.ref bn_597)] [(.int (-1694763832)), (.int (-1728308204)), (.int (-474954686)), (.ref bn_574)])) rfl (hb hby at_468) _ ?_
    refine X615.ldcInt hx hown (mvT hZ (hw _ (List.mem_of_getElem? (i := 43) rfl))) (g := (mkF m 470 #[.val (.long q1), .second, .val (.int p2), .val (.int nn), .val (.ref b491), .val (.ref b493), .val (.ref b494), .val (.ref b499), .val (.ref bn_557), .val (.ref bn_574), .val (.ref bn_586), .val (.ref bn_597)] [(.int (-1720731356)), (.int (-1694763832)), (.int (-1728308204)), (.int (-474954686)), (.ref bn_574)])) rfl (hb hby at_470) _ ?_
    refine X615.ldcInt hx hown (mvT hZ (hw _ (List.mem_of_getElem? (i := 44) rfl))) (g := (mkF m 472 #[.val (.long q1), .second, .val (.int p2), .val (.int nn), .val (.ref b491), .val (.ref b493), .val (.ref b494), .val (.ref b499), .val (.ref bn_557), .val (.ref bn_574), .val (.ref bn_586), .val (.ref bn_597)] [(.int 665731556), (.int (-1720731356)), (.int (-1694763832)), (.int (-1728308204)), (.int (-474954686)), (.ref bn_574)])) rfl (hb hby at_472) _ ?_
    refine X615.ldcInt hx hown (mvT hZ (hw _ (List.mem_of_getElem? (i := 45) rfl))) (g := (mkF m 474 #[.val (.long q1), .second, .val (.int p2), .val (.int nn), .val (.ref b491), .val (.ref b493), .val (.ref b494), .val (.ref b499), .val (.ref bn_557), .val (.ref bn_574), .val (.ref bn_586), .val (.ref bn_597)] [(.int 1687917388), (.int 665731556), (.int (-1720731356)), (.int (-1694763832)), (.int (-1728308204)), (.int (-474954686)), (.ref bn_574)])) rfl (hb hby at_474) _ ?_
    refine X615.ldcInt hx hown (mvT hZ (hw _ (List.mem_of_getElem? (i := 46) rfl))) (g := (mkF m 476 #[.val (.long q1), .second, .val (.int p2), .val (.int nn), .val (.ref b491), .val (.ref b493), .val (.ref b494), .val (.ref b499), .val (.ref bn_557), .val (.ref bn_574), .val (.ref bn_586), .val (.ref bn_597)] [(.int (-1533699813)), (.int 1687917388), (.int 665731556), (.int (-1720731356)), (.int (-1694763832)), (.int (-1728308204)), (.int (-474954686)), (.ref bn_574)])) rfl (hb hby at_476) _ ?_
    exact kt
  obtain ⟨_, _, ⟨T617, L617, k617, n617⟩, -, X617, ⟨Lc617, hQ617, l617, y617, z617⟩, st617⟩ := Jvm.LawKit.callS X615 hx (y := (⟨"tributary/DigestsSha256PinLaw", "is", "([BIIIIIIII)Z"⟩ : MethodName)) hown (mvT hZ (hw _ (List.mem_of_getElem? (i := 47) rfl))) (mvT hZ (hw _ (List.mem_of_getElem? (i := 48) rfl))) (mvT hZ (hw _ (List.mem_of_getElem? (i := 4) rfl))) (mvT hZ (hw _ (List.mem_of_getElem? (i := 49) rfl))) (by decide) (backOf (W := 0) (rm6 l Z a0 hw [] bn_574 (-474954686 : Int32) (-1728308204 : Int32) (-1694763832 : Int32) (-1720731356 : Int32) (665731556 : Int32) (1687917388 : Int32) (-1533699813 : Int32) (2018687061 : Int32) kn_574 ([(.int (-29)), (.int (-80)), (.int (-60)), (.int 66), (.int (-104)), (.int (-4)), (.int 28), (.int 20), (.int (-102)), (.int (-5)), (.int (-12)), (.int (-56)), (.int (-103)), (.int 111), (.int (-71)), (.int 36), (.int 39), (.int (-82)), (.int 65), (.int (-28)), (.int 100), (.int (-101)), (.int (-109)), (.int 76), (.int (-92)), (.int (-107)), (.int (-103)), (.int 27), (.int 120), (.int 82), (.int (-72)), (.int 85)]) T597.heap n0 (Nat.le_trans Z0 le616) f608 (fun i _ => own_allI rfl i) (by decide +kernel) (by decide +kernel) (by decide +kernel) (by decide +kernel) (by decide +kernel) (by decide +kernel) (by decide +kernel) (by decide +kernel)) hZ (hw _ (List.mem_of_getElem? (i := 49) rfl)) (hw _ (List.mem_of_getElem? (i := 4) rfl)) (by decide) (by decide)) (g := (mkF m 478 #[.val (.long q1), .second, .val (.int p2), .val (.int nn), .val (.ref b491), .val (.ref b493), .val (.ref b494), .val (.ref b499), .val (.ref bn_557), .val (.ref bn_574), .val (.ref bn_586), .val (.ref bn_597)] [(.int 2018687061), (.int (-1533699813)), (.int 1687917388), (.int 665731556), (.int (-1720731356)), (.int (-1694763832)), (.int (-1728308204)), (.int (-474954686)), (.ref bn_574)])) rfl (by rw [hml]; rfl) (argsL := [(.ref bn_574), (.int (-474954686)), (.int (-1728308204)), (.int (-1694763832)), (.int (-1720731356)), (.int 665731556), (.int 1687917388), (.int (-1533699813)), (.int 2018687061)]) (rest := []) (lenOf pd_6 rfl) rfl (by show 2 * 0 + _ ≤ _; exact Nat.le_of_eq rfl) (hb hby at_478) (fun _ _ => ⟨rfl, q615_0, (by decide : 20 + 0 ≤ _), (by decide : 803 + 0 ≤ _)⟩)
  dsimp only [Pt.U, Pt.locs, Pt.cells, Pt.slots] at X617 l617 y617 z617 st617 hQ617
  rw [l617, y617, z617] at X617
  obtain ⟨rfl, M617, q617_0⟩ := hQ617
  have N617 := Fr.app N615 M617
  refine own_go st617 ?_
  refine own_go (B := T617.setTop (mkF m 502 #[.val (.long q1), .second, .val (.int p2), .val (.int nn), .val (.ref b491), .val (.ref b493), .val (.ref b494), .val (.ref b499), .val (.ref bn_557), .val (.ref bn_574), .val (.ref bn_586), .val (.ref bn_597)] [(.int (-234875475)), (.int (-1273954463)), (.int (-1776846180)), (.int (-1341955677)), (.int 1571693091), (.int 1094795486), (.int (-1895706646)), (.int (-1166534977)), (.ref bn_586)])) (fun tg kt => ?_) ?_
  · refine XS.ifNo X617.here hx rfl (hb hby at_481) rfl ((if0 _ _).trans (feq (by decide : ¬ ((1 : Int32) = (0 : Int32)))).1) ?_
    refine XS.aload X617.here hx rfl (hb hby at_484) rfl rfl ?_
    refine X617.ldcInt hx hown (mvT hZ (hw _ (List.mem_of_getElem? (i := 53) rfl))) (g := (mkF m 486 #[.val (.long q1), .second, .val (.int p2), .val (.int nn), .val (.ref b491), .val (.ref b493), .val (.ref b494), .val (.ref b499), .val (.ref bn_557), .val (.ref bn_574), .val (.ref bn_586), .val (.ref bn_597)] [(.ref bn_586)])) rfl (hb hby at_486) _ ?_
    refine X617.ldcInt hx hown (mvT hZ (hw _ (List.mem_of_getElem? (i := 54) rfl))) (g := (mkF m 488 #[.val (.long q1), .second, .val (.int p2), .val (.int nn), .val (.ref b491), .val (.ref b493), .val (.ref b494), .val (.ref b499), .val (.ref bn_557), .val (.ref bn_574), .val (.ref bn_586), .val (.ref bn_597)] [(.int (-1166534977)), (.ref bn_586)])) rfl (hb hby at_488) _ ?_
    refine X617.ldcInt hx hown (mvT hZ (hw _ (List.mem_of_getElem? (i := 55) rfl))) (g := (mkF m 490 #[.val (.long q1), .second, .val (.int p2), .val (.int nn), .val (.ref b491), .val (.ref b493), .val (.ref b494), .val (.ref b499), .val (.ref bn_557), .val (.ref bn_574), .val (.ref bn_586), .val (.ref bn_597)] [(.int (-1895706646)), (.int (-1166534977)), (.ref bn_586)])) rfl (hb hby at_490) _ ?_
    refine X617.ldcInt hx hown (mvT hZ (hw _ (List.mem_of_getElem? (i := 56) rfl))) (g := (mkF m 492 #[.val (.long q1), .second, .val (.int p2), .val (.int nn), .val (.ref b491), .val (.ref b493), .val (.ref b494), .val (.ref b499), .val (.ref bn_557), .val (.ref bn_574), .val (.ref bn_586), .val (.ref bn_597)] [(.int 1094795486), (.int (-1895706646)), (.int (-1166534977)), (.ref bn_586)])) rfl (hb hby at_492) _ ?_
    refine X617.ldcInt hx hown (mvT hZ (hw _ (List.mem_of_getElem? (i := 57) rfl))) (g := (mkF m 494 #[.val (.long q1), .second, .val (.int p2), .val (.int nn), .val (.ref b491), .val (.ref b493), .val (.ref b494), .val (.ref b499), .val (.ref bn_557), .val (.ref bn_574), .val (.ref bn_586), .val (.ref bn_597)] [(.int 1571693091), (.int 1094795486), (.int (-1895706646)), (.int (-1166534977)), (.ref bn_586)])) rfl (hb hby at_494) _ ?_
    refine X617.ldcInt hx hown (mvT hZ (hw _ (List.mem_of_getElem? (i := 58) rfl))) (g := (mkF m 496 #[.val (.long q1), .second, .val (.int p2), .val (.int nn), .val (.ref b491), .val (.ref b493), .val (.ref b494), .val (.ref b499), .val (.ref bn_557), .val (.ref bn_574), .val (.ref bn_586), .val (.ref bn_597)] [(.int (-1341955677)), (.int 1571693091), (.int 1094795486), (.int (-1895706646)), (.int (-1166534977)), (.ref bn_586)])) rfl (hb hby at_496) _ ?_
    refine X617.ldcInt hx hown (mvT hZ (hw _ (List.mem_of_getElem? (i := 59) rfl))) (g := (mkF m 498 #[.val (.long q1), .second, .val (.int p2), .val (.int nn), .val (.ref b491), .val (.ref b493), .val (.ref b494), .val (.ref b499), .val (.ref bn_557), .val (.ref bn_574), .val (.ref bn_586), .val (.ref bn_597)] [(.int (-1776846180)), (.int (-1341955677)), (.int 1571693091), (.int 1094795486), (.int (-1895706646)), (.int (-1166534977)), (.ref bn_586)])) rfl (hb hby at_498) _ ?_
    refine X617.ldcInt hx hown (mvT hZ (hw _ (List.mem_of_getElem? (i := 60) rfl))) (g := (mkF m 500 #[.val (.long q1), .second, .val (.int p2), .val (.int nn), .val (.ref b491), .val (.ref b493), .val (.ref b494), .val (.ref b499), .val (.ref bn_557), .val (.ref bn_574), .val (.ref bn_586), .val (.ref bn_597)] [(.int (-1273954463)), (.int (-1776846180)), (.int (-1341955677)), (.int 1571693091), (.int 1094795486), (.int (-1895706646)), (.int (-1166534977)), (.ref bn_586)])) rfl (hb hby at_500) _ ?_
    exact kt
  obtain ⟨_, _, ⟨T618, L618, k618, n618⟩, -, X618, ⟨Lc618, hQ618, l618, y618, z618⟩, st618⟩ := Jvm.LawKit.callS X617 hx (y := (⟨"tributary/DigestsSha256PinLaw", "is", "([BIIIIIIII)Z"⟩ : MethodName)) hown (mvT hZ (hw _ (List.mem_of_getElem? (i := 47) rfl))) (mvT hZ (hw _ (List.mem_of_getElem? (i := 48) rfl))) (mvT hZ (hw _ (List.mem_of_getElem? (i := 4) rfl))) (mvT hZ (hw _ (List.mem_of_getElem? (i := 49) rfl))) (by decide) (backOf (W := 0) (rm6 l Z a0 hw [] bn_586 (-1166534977 : Int32) (-1895706646 : Int32) (1094795486 : Int32) (1571693091 : Int32) (-1341955677 : Int32) (-1776846180 : Int32) (-1273954463 : Int32) (-234875475 : Int32) kn_586 ([(.int (-70)), (.int 120), (.int 22), (.int (-65)), (.int (-113)), (.int 1), (.int (-49)), (.int (-22)), (.int 65), (.int 65), (.int 64), (.int (-34)), (.int 93), (.int (-82)), (.int 34), (.int 35), (.int (-80)), (.int 3), (.int 97), (.int (-93)), (.int (-106)), (.int 23), (.int 122), (.int (-100)), (.int (-76)), (.int 16), (.int (-1)), (.int 97), (.int (-14)), (.int 0), (.int 21), (.int (-83))]) T597.heap n0 (Nat.le_trans Z0 le616) f610 (fun i _ => own_allI rfl i) (by decide +kernel) (by decide +kernel) (by decide +kernel) (by decide +kernel) (by decide +kernel) (by decide +kernel) (by decide +kernel) (by decide +kernel)) hZ (hw _ (List.mem_of_getElem? (i := 49) rfl)) (hw _ (List.mem_of_getElem? (i := 4) rfl)) (by decide) (by decide)) (g := (mkF m 502 #[.val (.long q1), .second, .val (.int p2), .val (.int nn), .val (.ref b491), .val (.ref b493), .val (.ref b494), .val (.ref b499), .val (.ref bn_557), .val (.ref bn_574), .val (.ref bn_586), .val (.ref bn_597)] [(.int (-234875475)), (.int (-1273954463)), (.int (-1776846180)), (.int (-1341955677)), (.int 1571693091), (.int 1094795486), (.int (-1895706646)), (.int (-1166534977)), (.ref bn_586)])) rfl (by rw [hml]; rfl) (argsL := [(.ref bn_586), (.int (-1166534977)), (.int (-1895706646)), (.int 1094795486), (.int 1571693091), (.int (-1341955677)), (.int (-1776846180)), (.int (-1273954463)), (.int (-234875475))]) (rest := []) (lenOf pd_6 rfl) rfl (by show 2 * 0 + _ ≤ _; exact Nat.le_of_eq rfl) (hb hby at_502) (fun _ _ => ⟨rfl, q617_0, (by decide : 20 + 0 ≤ _), (by decide : 803 + 0 ≤ _)⟩)
  dsimp only [Pt.U, Pt.locs, Pt.cells, Pt.slots] at X618 l618 y618 z618 st618 hQ618
  rw [l618, y618, z618] at X618
  obtain ⟨rfl, M618, q618_0⟩ := hQ618
  have N618 := Fr.app N617 M618
  refine own_go st618 ?_
  refine own_go (B := T618.setTop (mkF m 526 #[.val (.long q1), .second, .val (.int p2), .val (.int nn), .val (.ref b491), .val (.ref b493), .val (.ref b494), .val (.ref b499), .val (.ref bn_557), .val (.ref bn_574), .val (.ref bn_586), .val (.ref bn_597)] [(.int 433784513), (.int (-152244780)), (.int 1694441831), (.int (-1556290471)), (.int 205414457), (.int (-440392045)), (.int (-771344200)), (.int 613247585), (.ref bn_597)])) (fun tg kt => ?_) ?_
  · refine XS.ifNo X618.here hx rfl (hb hby at_505) rfl ((if0 _ _).trans (feq (by decide : ¬ ((1 : Int32) = (0 : Int32)))).1) ?_
    refine XS.aload X618.here hx rfl (hb hby at_508) rfl rfl ?_
    refine X618.ldcInt hx hown (mvT hZ (hw _ (List.mem_of_getElem? (i := 61) rfl))) (g := (mkF m 510 #[.val (.long q1), .second, .val (.int p2), .val (.int nn), .val (.ref b491), .val (.ref b493), .val (.ref b494), .val (.ref b499), .val (.ref bn_557), .val (.ref bn_574), .val (.ref bn_586), .val (.ref bn_597)] [(.ref bn_597)])) rfl (hb hby at_510) _ ?_
    refine X618.ldcInt hx hown (mvT hZ (hw _ (List.mem_of_getElem? (i := 62) rfl))) (g := (mkF m 512 #[.val (.long q1), .second, .val (.int p2), .val (.int nn), .val (.ref b491), .val (.ref b493), .val (.ref b494), .val (.ref b499), .val (.ref bn_557), .val (.ref bn_574), .val (.ref bn_586), .val (.ref bn_597)] [(.int 613247585), (.ref bn_597)])) rfl (hb hby at_512) _ ?_
    refine X618.ldcInt hx hown (mvT hZ (hw _ (List.mem_of_getElem? (i := 63) rfl))) (g := (mkF m 514 #[.val (.long q1), .second, .val (.int p2), .val (.int nn), .val (.ref b491), .val (.ref b493), .val (.ref b494), .val (.ref b499), .val (.ref bn_557), .val (.ref bn_574), .val (.ref bn_586), .val (.ref bn_597)] [(.int (-771344200)), (.int 613247585), (.ref bn_597)])) rfl (hb hby at_514) _ ?_
    refine X618.ldcInt hx hown (mvT hZ (hw _ (List.mem_of_getElem? (i := 64) rfl))) (g := (mkF m 516 #[.val (.long q1), .second, .val (.int p2), .val (.int nn), .val (.ref b491), .val (.ref b493), .val (.ref b494), .val (.ref b499), .val (.ref bn_557), .val (.ref bn_574), .val (.ref bn_586), .val (.ref bn_597)] [(.int (-440392045)), (.int (-771344200)), (.int 613247585), (.ref bn_597)])) rfl (hb hby at_516) _ ?_
    refine X618.ldcInt hx hown (mvT hZ (hw _ (List.mem_of_getElem? (i := 65) rfl))) (g := (mkF m 518 #[.val (.long q1), .second, .val (.int p2), .val (.int nn), .val (.ref b491), .val (.ref b493), .val (.ref b494), .val (.ref b499), .val (.ref bn_557), .val (.ref bn_574), .val (.ref bn_586), .val (.ref bn_597)] [(.int 205414457), (.int (-440392045)), (.int (-771344200)), (.int 613247585), (.ref bn_597)])) rfl (hb hby at_518) _ ?_
    refine X618.ldcInt hx hown (mvT hZ (hw _ (List.mem_of_getElem? (i := 66) rfl))) (g := (mkF m 520 #[.val (.long q1), .second, .val (.int p2), .val (.int nn), .val (.ref b491), .val (.ref b493), .val (.ref b494), .val (.ref b499), .val (.ref bn_557), .val (.ref bn_574), .val (.ref bn_586), .val (.ref bn_597)] [(.int (-1556290471)), (.int 205414457), (.int (-440392045)), (.int (-771344200)), (.int 613247585), (.ref bn_597)])) rfl (hb hby at_520) _ ?_
    refine X618.ldcInt hx hown (mvT hZ (hw _ (List.mem_of_getElem? (i := 67) rfl))) (g := (mkF m 522 #[.val (.long q1), .second, .val (.int p2), .val (.int nn), .val (.ref b491), .val (.ref b493), .val (.ref b494), .val (.ref b499), .val (.ref bn_557), .val (.ref bn_574), .val (.ref bn_586), .val (.ref bn_597)] [(.int 1694441831), (.int (-1556290471)), (.int 205414457), (.int (-440392045)), (.int (-771344200)), (.int 613247585), (.ref bn_597)])) rfl (hb hby at_522) _ ?_
    refine X618.ldcInt hx hown (mvT hZ (hw _ (List.mem_of_getElem? (i := 68) rfl))) (g := (mkF m 524 #[.val (.long q1), .second, .val (.int p2), .val (.int nn), .val (.ref b491), .val (.ref b493), .val (.ref b494), .val (.ref b499), .val (.ref bn_557), .val (.ref bn_574), .val (.ref bn_586), .val (.ref bn_597)] [(.int (-152244780)), (.int 1694441831), (.int (-1556290471)), (.int 205414457), (.int (-440392045)), (.int (-771344200)), (.int 613247585), (.ref bn_597)])) rfl (hb hby at_524) _ ?_
    exact kt
  obtain ⟨_, _, ⟨T619, L619, k619, n619⟩, -, X619, ⟨Lc619, hQ619, l619, y619, z619⟩, st619⟩ := Jvm.LawKit.callS X618 hx (y := (⟨"tributary/DigestsSha256PinLaw", "is", "([BIIIIIIII)Z"⟩ : MethodName)) hown (mvT hZ (hw _ (List.mem_of_getElem? (i := 47) rfl))) (mvT hZ (hw _ (List.mem_of_getElem? (i := 48) rfl))) (mvT hZ (hw _ (List.mem_of_getElem? (i := 4) rfl))) (mvT hZ (hw _ (List.mem_of_getElem? (i := 49) rfl))) (by decide) (backOf (W := 0) (rm6 l Z a0 hw [] bn_597 (613247585 : Int32) (-771344200 : Int32) (-440392045 : Int32) (205414457 : Int32) (-1556290471 : Int32) (1694441831 : Int32) (-152244780 : Int32) (433784513 : Int32) kn_597 ([(.int 36), (.int (-115)), (.int 106), (.int 97), (.int (-46)), (.int 6), (.int 56), (.int (-72)), (.int (-27)), (.int (-64)), (.int 38), (.int (-109)), (.int 12), (.int 62), (.int 96), (.int 57), (.int (-93)), (.int 60), (.int (-28)), (.int 89), (.int 100), (.int (-1)), (.int 33), (.int 103), (.int (-10)), (.int (-20)), (.int (-19)), (.int (-44)), (.int 25), (.int (-37)), (.int 6), (.int (-63))]) T597.heap n0 (Nat.le_trans Z0 le616) V605 (fun i _ => own_allI rfl i) (by decide +kernel) (by decide +kernel) (by decide +kernel) (by decide +kernel) (by decide +kernel) (by decide +kernel) (by decide +kernel) (by decide +kernel)) hZ (hw _ (List.mem_of_getElem? (i := 49) rfl)) (hw _ (List.mem_of_getElem? (i := 4) rfl)) (by decide) (by decide)) (g := (mkF m 526 #[.val (.long q1), .second, .val (.int p2), .val (.int nn), .val (.ref b491), .val (.ref b493), .val (.ref b494), .val (.ref b499), .val (.ref bn_557), .val (.ref bn_574), .val (.ref bn_586), .val (.ref bn_597)] [(.int 433784513), (.int (-152244780)), (.int 1694441831), (.int (-1556290471)), (.int 205414457), (.int (-440392045)), (.int (-771344200)), (.int 613247585), (.ref bn_597)])) rfl (by rw [hml]; rfl) (argsL := [(.ref bn_597), (.int 613247585), (.int (-771344200)), (.int (-440392045)), (.int 205414457), (.int (-1556290471)), (.int 1694441831), (.int (-152244780)), (.int 433784513)]) (rest := []) (lenOf pd_6 rfl) rfl (by show 2 * 0 + _ ≤ _; exact Nat.le_of_eq rfl) (hb hby at_526) (fun _ _ => ⟨rfl, q618_0, (by decide : 20 + 0 ≤ _), (by decide : 803 + 0 ≤ _)⟩)
  dsimp only [Pt.U, Pt.locs, Pt.cells, Pt.slots] at X619 l619 y619 z619 st619 hQ619
  rw [l619, y619, z619] at X619
  obtain ⟨rfl, M619, q619_0⟩ := hQ619
  have N619 := Fr.app N618 M619
  refine own_go st619 ?_
  refine own_go (B := T619.setTop (mkF m 537 #[.val (.long q1), .second, .val (.int p2), .val (.int nn), .val (.ref b491), .val (.ref b493), .val (.ref b494), .val (.ref b499), .val (.ref bn_557), .val (.ref bn_574), .val (.ref bn_586), .val (.ref bn_597)] [(.int 1)])) (fun tg kt => ?_) ?_
  · refine XS.ifNo X619.here hx rfl (hb hby at_529) rfl ((if0 _ _).trans (feq (by decide : ¬ ((1 : Int32) = (0 : Int32)))).1) ?_
    refine XS.iconst X619.here hx rfl (hb hby at_532) ?_
    refine XS.goto X619.here hx rfl (pc0 := 533) (pc' := 537) rfl (hb hby at_533) (by decide) (by decide) ?_
    exact kt
  obtain ⟨fs, hr, hrun, hended, hW, hsame⟩ := X619.leave (v := some (.int 1)) (fun h => by rw [Bd.returns] at h; cases h)
  refine ⟨_, _, ?_, hrun, hended, _, _, rfl, ?_, ⟨_, rfl⟩, hW, hsame.mono (by decide) (by decide)⟩
  · exact retN X619 hx (t := .boolean) Bd.returns (by simp) (hb hby at_537) hr
  · show Q0 Z q1 p2 w_ROUND k_ROUND w_INITIAL k_INITIAL h0 n0 _ T619.heap _
    rw [q619_0]
    exact ⟨rfl, N619⟩
set_option maxRecDepth 65536 in
set_option maxHeartbeats 40000000 in
theorem comes_1 {Post : Tables → Env → Array Value → State → Outcome → State → Prop} (hpost : ∀ tb e args s v u, (limb_1_1.after args s (.returned v) u = true ∧ limb_1_2.after args s (.returned v) u = true ∧ True) → FrameEnd s (.returned v) u (Jvm.fieldLocs frame_1_writes args s ++ Jvm.arrayLocs frame_1_arrays args s ++ Jvm.staticLocs frame_1_statics s) 48 1728 → Post tb e args s (.returned v) u) :
    ArmFor flags0 classFile x code maxLocals ret World_1 tables_1 room_1 Calls_1 rest_1 Pre_1 Post := by
  intro l hfl _ _ p e ha hc hk s m args below hf hA hF happ hP
  obtain ⟨hcalls, hrest, hpre⟩ := hP
  obtain ⟨-, -, -, hnamed, -, -, -, hat⟩ := (Spec.applies_iff hf).mp happ
  obtain ⟨hg, hn⟩ := and_e (Cond.before_iff.mp (show (Jvm.Cond.and given_1 narrow_1).before args s = true from hpre))
  obtain ⟨g0, hg0⟩ := and_e hg
  obtain ⟨g1, hg1⟩ := and_e hg0
  obtain ⟨w0, w1, rfl⟩ : ∃ w0 w1 : Value, args = #[w0, w1] := by
    have hs : args.size = 2 := by simpa [Cond.value, given_1] using g0
    obtain ⟨L⟩ := args
    match L, hs with
    | [w0, w1], _ => exact ⟨w0, w1, rfl⟩
  have hw := fun d (hd : d ∈ tables_1) => atoms_spec (ws := Jvm.Cond.code x code maxLocals ret :: tables_1) hat d (List.mem_cons_of_mem _ hd)
  have hfit : Fit s := fun {y c} hc i hi => by
    obtain ⟨ha, rfl⟩ := Array.getElem?_eq_some_iff.mp hc
    have q := List.all_eq_true.mp ((Array.all_eq_true_iff_forall_mem.mp hF) _ (Array.getElem_mem ha)) i (List.mem_range.mpr hi)
    simpa [Array.getElem?_eq_getElem hi] using q
  obtain ⟨i0, ei0⟩ := isL_v g1
  obtain rfl : w0 = (.long i0) := Option.some.inj ei0
  obtain ⟨i1, ei1⟩ := is_v hg1
  obtain rfl : w1 = (.int i1) := Option.some.inj ei1
  obtain ⟨u1a, u1b⟩ := and_e hn
  obtain ⟨u2a, u2b⟩ := and_e u1b
  obtain ⟨u3a, u3b⟩ := and_e u2b
  obtain ⟨u4a, u4b⟩ := and_e u3b
  obtain ⟨u5a, u5b⟩ := and_e u4b
  obtain ⟨u6a, u6b⟩ := and_e u5b
  obtain ⟨u7a, u7b⟩ := and_e u6b
  obtain ⟨u8a, u8b⟩ := and_e u7b
  obtain ⟨u9a, u9b⟩ := and_e u8b
  obtain ⟨u10a, u10b⟩ := and_e u9b
  obtain ⟨u11a, u11b⟩ := and_e u10b
  obtain ⟨u12a, u12b⟩ := and_e u11b
  obtain ⟨u13a, u13b⟩ := and_e u12b
  obtain ⟨u14a, u14b⟩ := and_e u13b
  obtain ⟨u15a, u15b⟩ := and_e u14b
  obtain ⟨u16a, u16b⟩ := and_e u15b
  obtain ⟨u17a, u17b⟩ := and_e u16b
  obtain ⟨u18a, u18b⟩ := and_e u17b
  obtain ⟨u19a, u19b⟩ := and_e u18b
  obtain ⟨u20a, u20b⟩ := and_e u19b
  obtain ⟨u21a, u21b⟩ := and_e u20b
  obtain ⟨u22a, u22b⟩ := and_e u21b
  obtain ⟨u23a, u23b⟩ := and_e u22b
  obtain ⟨u24a, u24b⟩ := and_e u23b
  obtain ⟨u25a, u25b⟩ := and_e u24b
  obtain ⟨u26a, u26b⟩ := and_e u25b
  obtain ⟨u27a, u27b⟩ := and_e u26b
  obtain ⟨u28a, u28b⟩ := and_e u27b
  obtain ⟨u29a, u29b⟩ := and_e u28b
  obtain ⟨u30a, u30b⟩ := and_e u29b
  obtain ⟨u31a, u31b⟩ := and_e u30b
  obtain ⟨u32a, u32b⟩ := and_e u31b
  obtain ⟨u33a, u33b⟩ := and_e u32b
  obtain ⟨u34a, u34b⟩ := and_e u33b
  obtain ⟨u35a, u35b⟩ := and_e u34b
  obtain ⟨u36a, u36b⟩ := and_e u35b
  obtain ⟨u37a, u37b⟩ := and_e u36b
  obtain ⟨u38a, u38b⟩ := and_e u37b
  obtain ⟨u39a, u39b⟩ := and_e u38b
  obtain ⟨u40a, u40b⟩ := and_e u39b
  obtain ⟨u41a, u41b⟩ := and_e u40b
  obtain ⟨u42a, u42b⟩ := and_e u41b
  obtain ⟨u43a, u43b⟩ := and_e u42b
  obtain ⟨u44a, u44b⟩ := and_e u43b
  obtain ⟨u45a, u45b⟩ := and_e u44b
  obtain ⟨u46a, u46b⟩ := and_e u45b
  obtain ⟨u47a, u47b⟩ := and_e u46b
  obtain ⟨u48a, u48b⟩ := and_e u47b
  obtain ⟨u49a, u49b⟩ := and_e u48b
  obtain ⟨u50a, u50b⟩ := and_e u49b
  obtain ⟨u51a, u51b⟩ := and_e u50b
  obtain ⟨u52a, u52b⟩ := and_e u51b
  obtain ⟨u53a, u53b⟩ := and_e u52b
  obtain ⟨u54a, u54b⟩ := and_e u53b
  obtain ⟨u55a, u55b⟩ := and_e u54b
  obtain ⟨u56a, u56b⟩ := and_e u55b
  obtain ⟨u57a, u57b⟩ := and_e u56b
  obtain ⟨u58a, u58b⟩ := and_e u57b
  obtain ⟨u59a, u59b⟩ := and_e u58b
  obtain ⟨u60a, u60b⟩ := and_e u59b
  obtain ⟨u61a, u61b⟩ := and_e u60b
  obtain ⟨u62a, u62b⟩ := and_e u61b
  obtain ⟨u63a, u63b⟩ := and_e u62b
  obtain ⟨u64a, u64b⟩ := and_e u63b
  obtain ⟨u65a, u65b⟩ := and_e u64b
  obtain ⟨u66a, u66b⟩ := and_e u65b
  obtain ⟨u67a, u67b⟩ := and_e u66b
  obtain ⟨u68a, u68b⟩ := and_e u67b
  obtain ⟨u69a, u69b⟩ := and_e u68b
  obtain ⟨u70a, u70b⟩ := and_e u69b
  obtain ⟨u71a, u71b⟩ := and_e u70b
  obtain ⟨u72a, u72b⟩ := and_e u71b
  obtain ⟨u73a, u73b⟩ := and_e u72b
  obtain ⟨u74a, u74b⟩ := and_e u73b
  obtain ⟨u75a, u75b⟩ := and_e u74b
  obtain ⟨u76a, u76b⟩ := and_e u75b
  obtain ⟨w_INITIAL, ev_INITIAL⟩ := arr_v u1a
  have S_INITIAL := Sta.start ev_INITIAL (Or.inr ⟨(hw _ (List.mem_of_getElem? (i := 8) rfl)), (hw _ (List.mem_of_getElem? (i := 16) rfl))⟩)
  obtain ⟨cl_INITIAL, A_INITIAL⟩ := Arr.start ev_INITIAL u1a
  have E_INITIAL := Exa.start ev_INITIAL u2a
  obtain ⟨w_ROUND, ev_ROUND⟩ := arr_v u4a
  have S_ROUND := Sta.start ev_ROUND (Or.inr ⟨(hw _ (List.mem_of_getElem? (i := 8) rfl)), (hw _ (List.mem_of_getElem? (i := 35) rfl))⟩)
  obtain ⟨cl_ROUND, A_ROUND⟩ := Arr.start ev_ROUND u4a
  have L_INITIAL := own_lenStart ev_INITIAL A_INITIAL u3a
  have L_ROUND := own_lenStart ev_ROUND A_ROUND u5a
  have G_INITIAL_0 := own_elemStart ev_INITIAL A_INITIAL (Term.int_eval _) u6a
  have G_INITIAL_1 := own_elemStart ev_INITIAL A_INITIAL (Term.int_eval _) u7a
  have G_INITIAL_2 := own_elemStart ev_INITIAL A_INITIAL (Term.int_eval _) u8a
  have G_INITIAL_3 := own_elemStart ev_INITIAL A_INITIAL (Term.int_eval _) u9a
  have G_INITIAL_4 := own_elemStart ev_INITIAL A_INITIAL (Term.int_eval _) u10a
  have G_INITIAL_5 := own_elemStart ev_INITIAL A_INITIAL (Term.int_eval _) u11a
  have G_INITIAL_6 := own_elemStart ev_INITIAL A_INITIAL (Term.int_eval _) u12a
  have G_INITIAL_7 := own_elemStart ev_INITIAL A_INITIAL (Term.int_eval _) u13a
  have G_ROUND_0 := own_elemStart ev_ROUND A_ROUND (Term.int_eval _) u14a
  have G_ROUND_1 := own_elemStart ev_ROUND A_ROUND (Term.int_eval _) u15a
  have G_ROUND_2 := own_elemStart ev_ROUND A_ROUND (Term.int_eval _) u16a
  have G_ROUND_3 := own_elemStart ev_ROUND A_ROUND (Term.int_eval _) u17a
  have G_ROUND_4 := own_elemStart ev_ROUND A_ROUND (Term.int_eval _) u18a
  have G_ROUND_5 := own_elemStart ev_ROUND A_ROUND (Term.int_eval _) u19a
  have G_ROUND_6 := own_elemStart ev_ROUND A_ROUND (Term.int_eval _) u20a
  have G_ROUND_7 := own_elemStart ev_ROUND A_ROUND (Term.int_eval _) u21a
  have G_ROUND_8 := own_elemStart ev_ROUND A_ROUND (Term.int_eval _) u22a
  have G_ROUND_9 := own_elemStart ev_ROUND A_ROUND (Term.int_eval _) u23a
  have G_ROUND_10 := own_elemStart ev_ROUND A_ROUND (Term.int_eval _) u24a
  have G_ROUND_11 := own_elemStart ev_ROUND A_ROUND (Term.int_eval _) u25a
  have G_ROUND_12 := own_elemStart ev_ROUND A_ROUND (Term.int_eval _) u26a
  have G_ROUND_13 := own_elemStart ev_ROUND A_ROUND (Term.int_eval _) u27a
  have G_ROUND_14 := own_elemStart ev_ROUND A_ROUND (Term.int_eval _) u28a
  have G_ROUND_15 := own_elemStart ev_ROUND A_ROUND (Term.int_eval _) u29a
  have G_ROUND_16 := own_elemStart ev_ROUND A_ROUND (Term.int_eval _) u30a
  have G_ROUND_17 := own_elemStart ev_ROUND A_ROUND (Term.int_eval _) u31a
  have G_ROUND_18 := own_elemStart ev_ROUND A_ROUND (Term.int_eval _) u32a
  have G_ROUND_19 := own_elemStart ev_ROUND A_ROUND (Term.int_eval _) u33a
  have G_ROUND_20 := own_elemStart ev_ROUND A_ROUND (Term.int_eval _) u34a
  have G_ROUND_21 := own_elemStart ev_ROUND A_ROUND (Term.int_eval _) u35a
  have G_ROUND_22 := own_elemStart ev_ROUND A_ROUND (Term.int_eval _) u36a
  have G_ROUND_23 := own_elemStart ev_ROUND A_ROUND (Term.int_eval _) u37a
  have G_ROUND_24 := own_elemStart ev_ROUND A_ROUND (Term.int_eval _) u38a
  have G_ROUND_25 := own_elemStart ev_ROUND A_ROUND (Term.int_eval _) u39a
  have G_ROUND_26 := own_elemStart ev_ROUND A_ROUND (Term.int_eval _) u40a
  have G_ROUND_27 := own_elemStart ev_ROUND A_ROUND (Term.int_eval _) u41a
  have G_ROUND_28 := own_elemStart ev_ROUND A_ROUND (Term.int_eval _) u42a
  have G_ROUND_29 := own_elemStart ev_ROUND A_ROUND (Term.int_eval _) u43a
  have G_ROUND_30 := own_elemStart ev_ROUND A_ROUND (Term.int_eval _) u44a
  have G_ROUND_31 := own_elemStart ev_ROUND A_ROUND (Term.int_eval _) u45a
  have G_ROUND_32 := own_elemStart ev_ROUND A_ROUND (Term.int_eval _) u46a
  have G_ROUND_33 := own_elemStart ev_ROUND A_ROUND (Term.int_eval _) u47a
  have G_ROUND_34 := own_elemStart ev_ROUND A_ROUND (Term.int_eval _) u48a
  have G_ROUND_35 := own_elemStart ev_ROUND A_ROUND (Term.int_eval _) u49a
  have G_ROUND_36 := own_elemStart ev_ROUND A_ROUND (Term.int_eval _) u50a
  have G_ROUND_37 := own_elemStart ev_ROUND A_ROUND (Term.int_eval _) u51a
  have G_ROUND_38 := own_elemStart ev_ROUND A_ROUND (Term.int_eval _) u52a
  have G_ROUND_39 := own_elemStart ev_ROUND A_ROUND (Term.int_eval _) u53a
  have G_ROUND_40 := own_elemStart ev_ROUND A_ROUND (Term.int_eval _) u54a
  have G_ROUND_41 := own_elemStart ev_ROUND A_ROUND (Term.int_eval _) u55a
  have G_ROUND_42 := own_elemStart ev_ROUND A_ROUND (Term.int_eval _) u56a
  have G_ROUND_43 := own_elemStart ev_ROUND A_ROUND (Term.int_eval _) u57a
  have G_ROUND_44 := own_elemStart ev_ROUND A_ROUND (Term.int_eval _) u58a
  have G_ROUND_45 := own_elemStart ev_ROUND A_ROUND (Term.int_eval _) u59a
  have G_ROUND_46 := own_elemStart ev_ROUND A_ROUND (Term.int_eval _) u60a
  have G_ROUND_47 := own_elemStart ev_ROUND A_ROUND (Term.int_eval _) u61a
  have G_ROUND_48 := own_elemStart ev_ROUND A_ROUND (Term.int_eval _) u62a
  have G_ROUND_49 := own_elemStart ev_ROUND A_ROUND (Term.int_eval _) u63a
  have G_ROUND_50 := own_elemStart ev_ROUND A_ROUND (Term.int_eval _) u64a
  have G_ROUND_51 := own_elemStart ev_ROUND A_ROUND (Term.int_eval _) u65a
  have G_ROUND_52 := own_elemStart ev_ROUND A_ROUND (Term.int_eval _) u66a
  have G_ROUND_53 := own_elemStart ev_ROUND A_ROUND (Term.int_eval _) u67a
  have G_ROUND_54 := own_elemStart ev_ROUND A_ROUND (Term.int_eval _) u68a
  have G_ROUND_55 := own_elemStart ev_ROUND A_ROUND (Term.int_eval _) u69a
  have G_ROUND_56 := own_elemStart ev_ROUND A_ROUND (Term.int_eval _) u70a
  have G_ROUND_57 := own_elemStart ev_ROUND A_ROUND (Term.int_eval _) u71a
  have G_ROUND_58 := own_elemStart ev_ROUND A_ROUND (Term.int_eval _) u72a
  have G_ROUND_59 := own_elemStart ev_ROUND A_ROUND (Term.int_eval _) u73a
  have G_ROUND_60 := own_elemStart ev_ROUND A_ROUND (Term.int_eval _) u74a
  have G_ROUND_61 := own_elemStart ev_ROUND A_ROUND (Term.int_eval _) u75a
  have G_ROUND_62 := own_elemStart ev_ROUND A_ROUND (Term.int_eval _) u76a
  have G_ROUND_63 := own_elemStart ev_ROUND A_ROUND (Term.int_eval _) u76b
  have V_INITIAL : Arv s s.heap w_INITIAL cl_INITIAL.cls .int (8 : Int32) [(.int 1779033703), (.int (-1150833019)), (.int 1013904242), (.int (-1521486534)), (.int 1359893119), (.int (-1694144372)), (.int 528734635), (.int 1541459225)] (.int 0) := Arv.start hfit A_INITIAL L_INITIAL.1 L_INITIAL.2 (by decide) rfl ⟨G_INITIAL_0, G_INITIAL_1, G_INITIAL_2, G_INITIAL_3, G_INITIAL_4, G_INITIAL_5, G_INITIAL_6, G_INITIAL_7, trivial⟩
  have V_ROUND : Arv s s.heap w_ROUND cl_ROUND.cls .int (64 : Int32) [(.int 1116352408), (.int 1899447441), (.int (-1245643825)), (.int (-373957723)), (.int 961987163), (.int 1508970993), (.int (-1841331548)), (.int (-1424204075)), (.int (-670586216)), (.int 310598401), (.int 607225278), (.int 1426881987), (.int 1925078388), (.int (-2132889090)), (.int (-1680079193)), (.int (-1046744716)), (.int (-459576895)), (.int (-272742522)), (.int 264347078), (.int 604807628), (.int 770255983), (.int 1249150122), (.int 1555081692), (.int 1996064986), (.int (-1740746414)), (.int (-1473132947)), (.int (-1341970488)), (.int (-1084653625)), (.int (-958395405)), (.int (-710438585)), (.int 113926993), (.int 338241895), (.int 666307205), (.int 773529912), (.int 1294757372), (.int 1396182291), (.int 1695183700), (.int 1986661051), (.int (-2117940946)), (.int (-1838011259)), (.int (-1564481375)), (.int (-1474664885)), (.int (-1035236496)), (.int (-949202525)), (.int (-778901479)), (.int (-694614492)), (.int (-200395387)), (.int 275423344), (.int 430227734), (.int 506948616), (.int 659060556), (.int 883997877), (.int 958139571), (.int 1322822218), (.int 1537002063), (.int 1747873779), (.int 1955562222), (.int 2024104815), (.int (-2067236844)), (.int (-1933114872)), (.int (-1866530822)), (.int (-1538233109)), (.int (-1090935817)), (.int (-965641998))] (.int 0) := Arv.start hfit A_ROUND L_ROUND.1 L_ROUND.2 (by decide) rfl ⟨G_ROUND_0, G_ROUND_1, G_ROUND_2, G_ROUND_3, G_ROUND_4, G_ROUND_5, G_ROUND_6, G_ROUND_7, G_ROUND_8, G_ROUND_9, G_ROUND_10, G_ROUND_11, G_ROUND_12, G_ROUND_13, G_ROUND_14, G_ROUND_15, G_ROUND_16, G_ROUND_17, G_ROUND_18, G_ROUND_19, G_ROUND_20, G_ROUND_21, G_ROUND_22, G_ROUND_23, G_ROUND_24, G_ROUND_25, G_ROUND_26, G_ROUND_27, G_ROUND_28, G_ROUND_29, G_ROUND_30, G_ROUND_31, G_ROUND_32, G_ROUND_33, G_ROUND_34, G_ROUND_35, G_ROUND_36, G_ROUND_37, G_ROUND_38, G_ROUND_39, G_ROUND_40, G_ROUND_41, G_ROUND_42, G_ROUND_43, G_ROUND_44, G_ROUND_45, G_ROUND_46, G_ROUND_47, G_ROUND_48, G_ROUND_49, G_ROUND_50, G_ROUND_51, G_ROUND_52, G_ROUND_53, G_ROUND_54, G_ROUND_55, G_ROUND_56, G_ROUND_57, G_ROUND_58, G_ROUND_59, G_ROUND_60, G_ROUND_61, G_ROUND_62, G_ROUND_63, trivial⟩
  obtain ⟨n, o, h1, h2, h3, _, L, rfl, ⟨rfl, N⟩, hq⟩ := rm0 l s _ hw tables_1 i0 i1 w_ROUND cl_ROUND.cls w_INITIAL cl_INITIAL.cls s.heap s.heap.size (Nat.le_refl _) S_ROUND (show Arv s s.heap w_ROUND cl_ROUND.cls .int (64 : Int32) (own_tab 64 own_K) (.int 0) from V_ROUND) S_INITIAL E_INITIAL V_INITIAL p e ha hc hk s m _ below hf ((Spec.applies_iff_loose hf).mp happ).1 ⟨rfl, State.Warmed39.refl s, rfl⟩ trivial
  refine ⟨n, _, h1, h2, h3, hpost _ _ _ _ _ _ ⟨Cond.after_iff.mpr rfl, Cond.after_iff.mpr (eq_i res_at (Term.int_eval (1)) rfl), trivial⟩ ⟨hq.1, hq.2.1, (hq.2.2.sift fun y hy => Or.inr (N y hy)).mono (by decide) (by decide)⟩⟩
theorem main_1_1 : Claimed_1_1 := comes_1 fun _ _ _ _ _ _ h hF => ⟨h.1, hF⟩
theorem main_1_2 : Claimed_1_2 := comes_1 fun _ _ _ _ _ _ h hF => ⟨h.2.1, hF⟩
end Jvm.Pilot.@@N@@
namespace Jvm.Pilot.@@N@@
open Jvm Jvm.ClassFile Sem Op Lib Jvm.Free Jvm.Stand Jvm.Pilot.@@N@@.Jvm.D
/-! MADE BY PROGRAM (witnessworld.py) out of the Statement's table words and the real class files: 15 classes; the members and pool entries that the words name. The judged class is class 1, her method 1. -/
namespace start1
open Jvm.ClassFile
def u (s : String) : CpInfo := .utf8 (stringToUtf16 s)
/-- a pool by its gaps: so many unusable entries, then the entry; so many at the end -/
def gap : Nat → List CpInfo → List CpInfo
  | 0, r => r
  | n + 1, r => .unusable :: gap n r
def poolList (es : List (Nat × CpInfo)) (last : Nat) : List CpInfo := es.foldr (fun e r => gap e.1 (e.2 :: r)) (gap last [])
def pool (es : List (Nat × CpInfo)) (last : Nat) : Array CpInfo := ⟨poolList es last⟩
def fileOf (pool : Array CpInfo) (this : Nat) (attrs : Array Attribute := #[]) (ms : Array MethodInfo := #[]) (fl : Nat := 33) (sup : Nat := 0) (ifs : Array Nat := #[]) (fds : Array FieldInfo := #[]) : ClassFile where
  minorVersion := 0
  majorVersion := 65
  constantPool := pool
  accessFlags := fl
  thisClass := this
  superClass := sup
  interfaces := ifs
  fields := fds
  methods := ms
  attributes := attrs
def plain (name : String) (sup : Option ClassId) : Class where
  name := name
  kind := .ordinary
  loader := none
  accessFlags := 33
  super := sup
  interfaces := #[]
  cf := none
  fields := #[]
  methods := #[]
  instanceTypes := #[]
  staticTypes := #[]
  resolved := #[]
  callSites := []
  init := .initialized
  statics := none
  mirror := none

def pool0 : Array CpInfo := pool [(5, u "<init>"), (0, u "()V"), (1, .class_ 10), (1, u "java/lang/Object"), (85, u "clone"), (0, u "()Ljava/lang/Object;")] 26

def k0m0 : Method := { name := "<init>", desc := "()V", sig := { parameters := [], returnType := none }, accessFlags := 1, code := none }
def k0m1 : Method := { name := "clone", desc := "()Ljava/lang/Object;", sig := { parameters := [], returnType := some (.object "java/lang/Object") }, accessFlags := 260, code := none }
/-- java/lang/Object -/
def k0 : Class := { plain "java/lang/Object" none with
  accessFlags := 33
  interfaces := #[]
  cf := some (fileOf pool0 8 #[] #[{ accessFlags := 1, nameIndex := 5, descriptorIndex := 6, attributes := #[] }, { accessFlags := 260, nameIndex := 96, descriptorIndex := 97, attributes := #[] }] 33 0 #[] #[])
  fields := #[]
  methods := #[k0m0, k0m1]
  instanceTypes := #[]
  staticTypes := #[]
  resolved := Array.replicate 124 none
  statics := none }

def pool1 : Array CpInfo := pool [(2, .class_ 4), (1, u "java/lang/Object"), (0, u "<init>"), (0, u "()V"), (0, .integer 2147483647), (0, .methodref 9 10), (0, .class_ 11), (0, .nameAndType 12 13), (0, u "tributary/DigestsSha256PinLaw"), (0, u "fill"), (0, u "([BJ)V"), (0, .methodref 15 16), (0, .class_ 17), (0, .nameAndType 18 19), (0, u "tributary/Digests"), (0, u "sha256"), (0, u "([B)[B"), (0, .methodref 9 21), (0, .nameAndType 22 23), (0, u "unchanged"), (0, u "([BJ)Z"), (0, .integer 3820012610), (0, .integer 2566659092), (0, .integer 2600203464), (0, .integer 2574235940), (0, .integer 665731556), (0, .integer 1687917388), (0, .integer 2761267483), (0, .integer 2018687061), (0, .methodref 9 33), (0, .nameAndType 34 35), (0, u "is"), (0, u "([BIIIIIIII)Z"), (0, .integer 3128432319), (0, .integer 2399260650), (0, .integer 1094795486), (0, .integer 1571693091), (0, .integer 2953011619), (0, .integer 2518121116), (0, .integer 3021012833), (0, .integer 4060091821), (0, .integer 613247585), (0, .integer 3523623096), (0, .integer 3854575251), (0, .integer 205414457), (0, .integer 2738676825), (0, .integer 1694441831), (0, .integer 4142722516), (0, .integer 433784513), (0, .methodref 9 53), (0, .nameAndType 54 55), (0, u "word"), (0, u "([BI)I"), (2, u "law"), (0, u "(JI)Z")] 5

def k1m0 : Method := { name := "<init>", desc := "()V", sig := { parameters := [], returnType := none }, accessFlags := 2, code := none }
def k1c1 : Code := { maxStack := 9, maxLocals := 12, code := code, exceptionTable := #[], attributes := #[] }
def k1m1 : Method := { name := "law", desc := "(JI)Z", sig := { parameters := [.long, .int], returnType := some .boolean }, accessFlags := 9, code := some k1c1 }
def k1c2 : Code := { maxStack := 5, maxLocals := 3, code := method_3_code, exceptionTable := #[], attributes := #[] }
def k1m2 : Method := { name := "fill", desc := "([BJ)V", sig := { parameters := [(.array .byte), .long], returnType := none }, accessFlags := 10, code := some k1c2 }
def k1c3 : Code := { maxStack := 4, maxLocals := 3, code := method_4_code, exceptionTable := #[], attributes := #[] }
def k1m3 : Method := { name := "unchanged", desc := "([BJ)Z", sig := { parameters := [(.array .byte), .long], returnType := some .boolean }, accessFlags := 10, code := some k1c3 }
def k1c4 : Code := { maxStack := 4, maxLocals := 2, code := method_5_code, exceptionTable := #[], attributes := #[] }
def k1m4 : Method := { name := "word", desc := "([BI)I", sig := { parameters := [(.array .byte), .int], returnType := some .int }, accessFlags := 10, code := some k1c4 }
def k1c5 : Code := { maxStack := 2, maxLocals := 9, code := method_6_code, exceptionTable := #[], attributes := #[] }
def k1m5 : Method := { name := "is", desc := "([BIIIIIIII)Z", sig := { parameters := [(.array .byte), .int, .int, .int, .int, .int, .int, .int, .int], returnType := some .boolean }, accessFlags := 10, code := some k1c5 }
/-- tributary/DigestsSha256PinLaw -/
def k1 : Class := { plain "tributary/DigestsSha256PinLaw" (some 0) with
  accessFlags := 49
  interfaces := #[]
  cf := some (fileOf pool1 9 #[] #[{ accessFlags := 2, nameIndex := 5, descriptorIndex := 6, attributes := #[] }, { accessFlags := 9, nameIndex := 58, descriptorIndex := 59, attributes := #[] }, { accessFlags := 10, nameIndex := 12, descriptorIndex := 13, attributes := #[] }, { accessFlags := 10, nameIndex := 22, descriptorIndex := 23, attributes := #[] }, { accessFlags := 10, nameIndex := 54, descriptorIndex := 55, attributes := #[] }, { accessFlags := 10, nameIndex := 34, descriptorIndex := 35, attributes := #[] }] 49 2 #[] #[])
  fields := #[]
  methods := #[k1m0, k1m1, k1m2, k1m3, k1m4, k1m5]
  instanceTypes := #[]
  staticTypes := #[]
  resolved := Array.replicate 65 none
  statics := none }

def pool2 : Array CpInfo := pool [(2, .class_ 4), (1, u "java/lang/Object"), (0, u "<init>"), (0, u "()V"), (0, .long 8), (1, .methodref 10 11), (0, .class_ 12), (0, .nameAndType 13 14), (0, u "java/lang/System"), (0, u "arraycopy"), (0, u "(Ljava/lang/Object;ILjava/lang/Object;II)V"), (0, .fieldref 16 17), (0, .class_ 18), (0, .nameAndType 19 20), (0, u "tributary/Digests"), (0, u "INITIAL"), (0, u "[I"), (0, .methodref 22 23), (0, .class_ 20), (0, .nameAndType 24 25), (0, u "clone"), (0, u "()Ljava/lang/Object;"), (0, .methodref 27 28), (0, .class_ 29), (0, .nameAndType 30 31), (0, u "java/lang/Integer"), (0, u "rotateRight"), (0, u "(II)I"), (0, .methodref 16 33), (0, .nameAndType 34 35), (0, u "compress"), (0, u "([I[I)V"), (0, .fieldref 16 37), (0, .nameAndType 38 20), (0, u "ROUND"), (30, u "sha256"), (0, u "([B)[B")] 8

def k2m0 : Method := { name := "<init>", desc := "()V", sig := { parameters := [], returnType := none }, accessFlags := 2, code := none }
def k2c1 : Code := { maxStack := 7, maxLocals := 13, code := prog_4_method_2_code, exceptionTable := #[], attributes := #[] }
def k2m1 : Method := { name := "sha256", desc := "([B)[B", sig := { parameters := [(.array .byte)], returnType := some (.array .byte) }, accessFlags := 8, code := some k2c1 }
def k2c2 : Code := { maxStack := 4, maxLocals := 16, code := prog_4_method_3_code, exceptionTable := #[], attributes := #[] }
def k2m2 : Method := { name := "compress", desc := "([I[I)V", sig := { parameters := [(.array .int), (.array .int)], returnType := none }, accessFlags := 10, code := some k2c2 }
/-- tributary/Digests -/
def k2 : Class := { plain "tributary/Digests" (some 0) with
  accessFlags := 48
  interfaces := #[]
  cf := some (fileOf pool2 16 #[] #[{ accessFlags := 2, nameIndex := 5, descriptorIndex := 6, attributes := #[] }, { accessFlags := 8, nameIndex := 69, descriptorIndex := 70, attributes := #[] }, { accessFlags := 10, nameIndex := 34, descriptorIndex := 35, attributes := #[] }] 48 2 #[] #[{ accessFlags := 26, nameIndex := 19, descriptorIndex := 20, attributes := #[] }, { accessFlags := 26, nameIndex := 38, descriptorIndex := 20, attributes := #[] }])
  fields := #[{ name := "INITIAL", type := (.array .int), accessFlags := 26, slot := 0, constantValue := 0 }, { name := "ROUND", type := (.array .int), accessFlags := 26, slot := 1, constantValue := 0 }]
  methods := #[k2m0, k2m1, k2m2]
  instanceTypes := #[]
  staticTypes := #[(.array .int), (.array .int)]
  resolved := Array.replicate 79 none
  statics := some 0 }

def pool3 : Array CpInfo := pool [(2, .class_ 4), (1, u "java/lang/Object"), (0, u "<init>"), (0, u "()V"), (1, .class_ 10), (1, u "java/lang/System"), (0, u "allowSecurityManager"), (0, u "I"), (16, u "cons"), (0, u "Ljava/io/Console;"), (77, .class_ 110), (1, u "java/lang/System$CallersHolder"), (43, u "initialErrStream"), (0, u "Ljava/io/PrintStream;"), (19, u "security"), (0, u "Ljava/lang/SecurityManager;"), (31, .class_ 209), (0, u "java/lang/System$1"), (7, u "props"), (0, u "Ljava/util/Properties;"), (2, u "lineSeparator"), (0, u "Ljava/lang/String;"), (96, .class_ 321), (1, u "java/lang/System$LoggerFinder"), (5, .class_ 328), (0, u "java/lang/System$Logger"), (67, u "err"), (2, u "out"), (91, u "notSupportedJnuEncoding"), (15, u "in"), (17, u "initialIn"), (0, u "Ljava/io/InputStream;"), (35, u "bootLayer"), (0, u "Ljava/lang/ModuleLayer;"), (99, .class_ 664), (0, u "java/lang/System$2"), (9, u "NEVER"), (2, u "MAYBE"), (49, u "arraycopy"), (0, u "(Ljava/lang/Object;ILjava/lang/Object;II)V"), (72, .class_ 802), (0, u "java/lang/System$Logger$Level")] 31

def k3m0 : Method := { name := "<init>", desc := "()V", sig := { parameters := [], returnType := none }, accessFlags := 2, code := none }
def k3m1 : Method := { name := "arraycopy", desc := "(Ljava/lang/Object;ILjava/lang/Object;II)V", sig := { parameters := [(.object "java/lang/Object"), .int, (.object "java/lang/Object"), .int, .int], returnType := none }, accessFlags := 265, code := none }
/-- java/lang/System -/
def k3 : Class := { plain "java/lang/System" (some 0) with
  accessFlags := 49
  interfaces := #[]
  cf := some (fileOf pool3 8 #[.nestMembers #[319, 327, 801, 108, 663, 208]] #[{ accessFlags := 2, nameIndex := 5, descriptorIndex := 6, attributes := #[] }, { accessFlags := 265, nameIndex := 727, descriptorIndex := 728, attributes := #[] }] 49 2 #[] #[{ accessFlags := 25, nameIndex := 507, descriptorIndex := 526, attributes := #[] }, { accessFlags := 25, nameIndex := 399, descriptorIndex := 155, attributes := #[] }, { accessFlags := 25, nameIndex := 396, descriptorIndex := 155, attributes := #[] }, { accessFlags := 10, nameIndex := 525, descriptorIndex := 526, attributes := #[] }, { accessFlags := 26, nameIndex := 674, descriptorIndex := 12, attributes := #[] }, { accessFlags := 26, nameIndex := 677, descriptorIndex := 12, attributes := #[] }, { accessFlags := 10, nameIndex := 11, descriptorIndex := 12, attributes := #[] }, { accessFlags := 74, nameIndex := 175, descriptorIndex := 176, attributes := #[] }, { accessFlags := 10, nameIndex := 491, descriptorIndex := 222, attributes := #[] }, { accessFlags := 74, nameIndex := 29, descriptorIndex := 30, attributes := #[] }, { accessFlags := 74, nameIndex := 154, descriptorIndex := 155, attributes := #[] }, { accessFlags := 10, nameIndex := 217, descriptorIndex := 218, attributes := #[] }, { accessFlags := 10, nameIndex := 221, descriptorIndex := 222, attributes := #[] }, { accessFlags := 8, nameIndex := 562, descriptorIndex := 563, attributes := #[] }])
  fields := #[{ name := "in", type := (.object "java/io/InputStream"), accessFlags := 25, slot := 0, constantValue := 0 }, { name := "out", type := (.object "java/io/PrintStream"), accessFlags := 25, slot := 1, constantValue := 0 }, { name := "err", type := (.object "java/io/PrintStream"), accessFlags := 25, slot := 2, constantValue := 0 }, { name := "initialIn", type := (.object "java/io/InputStream"), accessFlags := 10, slot := 3, constantValue := 0 }, { name := "NEVER", type := .int, accessFlags := 26, slot := 4, constantValue := 0 }, { name := "MAYBE", type := .int, accessFlags := 26, slot := 5, constantValue := 0 }, { name := "allowSecurityManager", type := .int, accessFlags := 10, slot := 6, constantValue := 0 }, { name := "security", type := (.object "java/lang/SecurityManager"), accessFlags := 74, slot := 7, constantValue := 0 }, { name := "notSupportedJnuEncoding", type := (.object "java/lang/String"), accessFlags := 10, slot := 8, constantValue := 0 }, { name := "cons", type := (.object "java/io/Console"), accessFlags := 74, slot := 9, constantValue := 0 }, { name := "initialErrStream", type := (.object "java/io/PrintStream"), accessFlags := 74, slot := 10, constantValue := 0 }, { name := "props", type := (.object "java/util/Properties"), accessFlags := 10, slot := 11, constantValue := 0 }, { name := "lineSeparator", type := (.object "java/lang/String"), accessFlags := 10, slot := 12, constantValue := 0 }, { name := "bootLayer", type := (.object "java/lang/ModuleLayer"), accessFlags := 8, slot := 13, constantValue := 0 }]
  methods := #[k3m0, k3m1]
  instanceTypes := #[]
  staticTypes := #[(.object "java/io/InputStream"), (.object "java/io/PrintStream"), (.object "java/io/PrintStream"), (.object "java/io/InputStream"), .int, .int, .int, (.object "java/lang/SecurityManager"), (.object "java/lang/String"), (.object "java/io/Console"), (.object "java/io/PrintStream"), (.object "java/util/Properties"), (.object "java/lang/String"), (.object "java/lang/ModuleLayer")]
  resolved := Array.replicate 834 none
  statics := none }

def pool4 : Array CpInfo := pool [(1, .class_ 2), (0, u "java/lang/Cloneable"), (0, .class_ 4), (0, u "java/lang/Object")] 2

/-- java/lang/Cloneable -/
def k4 : Class := { plain "java/lang/Cloneable" (some 0) with
  accessFlags := 1537
  interfaces := #[]
  cf := some (fileOf pool4 1 #[] #[] 1537 3 #[] #[])
  fields := #[]
  methods := #[]
  instanceTypes := #[]
  staticTypes := #[]
  resolved := Array.replicate 7 none
  statics := none }

def pool5 : Array CpInfo := pool [(1, .class_ 2), (0, u "java/io/Serializable"), (0, .class_ 4), (0, u "java/lang/Object")] 2

/-- java/io/Serializable -/
def k5 : Class := { plain "java/io/Serializable" (some 0) with
  accessFlags := 1537
  interfaces := #[]
  cf := some (fileOf pool5 1 #[] #[] 1537 3 #[] #[])
  fields := #[]
  methods := #[]
  instanceTypes := #[]
  staticTypes := #[]
  resolved := Array.replicate 7 none
  statics := none }

def pool6 : Array CpInfo := pool [(2, .class_ 4), (1, u "java/lang/Object"), (0, u "<init>"), (0, u "()V"), (1, .class_ 10), (1, u "java/lang/Number"), (2, .class_ 14), (0, u "java/io/Serializable"), (0, u "serialVersionUID"), (0, u "J")] 20

def k6m0 : Method := { name := "<init>", desc := "()V", sig := { parameters := [], returnType := none }, accessFlags := 1, code := none }
/-- java/lang/Number -/
def k6 : Class := { plain "java/lang/Number" (some 0) with
  accessFlags := 1057
  interfaces := #[5]
  cf := some (fileOf pool6 8 #[] #[{ accessFlags := 1, nameIndex := 5, descriptorIndex := 6, attributes := #[] }] 1057 2 #[13] #[{ accessFlags := 26, nameIndex := 15, descriptorIndex := 16, attributes := #[] }])
  fields := #[{ name := "serialVersionUID", type := .long, accessFlags := 26, slot := 0, constantValue := 0 }]
  methods := #[k6m0]
  instanceTypes := #[]
  staticTypes := #[.long]
  resolved := Array.replicate 37 none
  statics := none }

def pool7 : Array CpInfo := pool [(1, .class_ 2), (0, u "java/lang/Comparable"), (0, .class_ 4), (0, u "java/lang/Object")] 7

/-- java/lang/Comparable -/
def k7 : Class := { plain "java/lang/Comparable" (some 0) with
  accessFlags := 1537
  interfaces := #[]
  cf := some (fileOf pool7 1 #[] #[] 1537 3 #[] #[])
  fields := #[]
  methods := #[]
  instanceTypes := #[]
  staticTypes := #[]
  resolved := Array.replicate 12 none
  statics := none }

def pool8 : Array CpInfo := pool [(1, .class_ 2), (0, u "java/lang/constant/Constable"), (0, .class_ 4), (0, u "java/lang/Object")] 6

/-- java/lang/constant/Constable -/
def k8 : Class := { plain "java/lang/constant/Constable" (some 0) with
  accessFlags := 1537
  interfaces := #[]
  cf := some (fileOf pool8 1 #[] #[] 1537 3 #[] #[])
  fields := #[]
  methods := #[]
  instanceTypes := #[]
  staticTypes := #[]
  resolved := Array.replicate 11 none
  statics := none }

def pool9 : Array CpInfo := pool [(1, .class_ 2), (0, u "java/lang/constant/ConstantDesc"), (0, .class_ 4), (0, u "java/lang/Object")] 32

/-- java/lang/constant/ConstantDesc -/
def k9 : Class := { plain "java/lang/constant/ConstantDesc" (some 0) with
  accessFlags := 1537
  interfaces := #[]
  cf := some (fileOf pool9 1 #[] #[] 1537 3 #[] #[])
  fields := #[]
  methods := #[]
  instanceTypes := #[]
  staticTypes := #[]
  resolved := Array.replicate 37 none
  statics := none }

def pool10 : Array CpInfo := pool [(1, .class_ 2), (0, u "java/lang/Integer"), (16, u "digits"), (0, u "[C"), (39, u "(II)I"), (24, u "DigitOnes"), (0, u "[B"), (2, u "DigitTens"), (99, .class_ 190), (0, u "java/lang/Integer$IntegerCache"), (3, u "I"), (8, .class_ 204), (0, u "java/lang/Number"), (2, u "value"), (94, u "TYPE"), (0, u "Ljava/lang/Class;"), (0, .class_ 305), (0, u "java/lang/Comparable"), (0, .class_ 307), (0, u "java/lang/constant/Constable"), (0, .class_ 309), (0, u "java/lang/constant/ConstantDesc"), (0, u "MIN_VALUE"), (1, u "MAX_VALUE"), (3, u "SIZE"), (1, u "BYTES"), (1, u "serialVersionUID"), (0, u "J"), (88, u "rotateRight")] 42

def k10c0 : Code := { maxStack := 3, maxLocals := 2, code := jdk_33_method_51_code, exceptionTable := #[], attributes := #[] }
def k10m0 : Method := { name := "rotateRight", desc := "(II)I", sig := { parameters := [.int, .int], returnType := some .int }, accessFlags := 9, code := some k10c0 }
/-- java/lang/Integer -/
def k10 : Class := { plain "java/lang/Integer" (some 6) with
  accessFlags := 49
  interfaces := #[7, 8, 9]
  cf := some (fileOf pool10 1 #[.nestMembers #[189]] #[{ accessFlags := 9, nameIndex := 410, descriptorIndex := 60, attributes := #[] }] 49 203 #[304, 306, 308] #[{ accessFlags := 25, nameIndex := 310, descriptorIndex := 194, attributes := #[] }, { accessFlags := 25, nameIndex := 312, descriptorIndex := 194, attributes := #[] }, { accessFlags := 25, nameIndex := 302, descriptorIndex := 303, attributes := #[] }, { accessFlags := 24, nameIndex := 19, descriptorIndex := 20, attributes := #[] }, { accessFlags := 24, nameIndex := 89, descriptorIndex := 86, attributes := #[] }, { accessFlags := 24, nameIndex := 85, descriptorIndex := 86, attributes := #[] }, { accessFlags := 18, nameIndex := 207, descriptorIndex := 194, attributes := #[] }, { accessFlags := 25, nameIndex := 316, descriptorIndex := 194, attributes := #[] }, { accessFlags := 25, nameIndex := 318, descriptorIndex := 194, attributes := #[] }, { accessFlags := 26, nameIndex := 320, descriptorIndex := 321, attributes := #[] }])
  fields := #[{ name := "MIN_VALUE", type := .int, accessFlags := 25, slot := 0, constantValue := 0 }, { name := "MAX_VALUE", type := .int, accessFlags := 25, slot := 1, constantValue := 0 }, { name := "TYPE", type := (.object "java/lang/Class"), accessFlags := 25, slot := 2, constantValue := 0 }, { name := "digits", type := (.array .char), accessFlags := 24, slot := 3, constantValue := 0 }, { name := "DigitTens", type := (.array .byte), accessFlags := 24, slot := 4, constantValue := 0 }, { name := "DigitOnes", type := (.array .byte), accessFlags := 24, slot := 5, constantValue := 0 }, { name := "value", type := .int, accessFlags := 18, slot := 0, constantValue := 0 }, { name := "SIZE", type := .int, accessFlags := 25, slot := 6, constantValue := 0 }, { name := "BYTES", type := .int, accessFlags := 25, slot := 7, constantValue := 0 }, { name := "serialVersionUID", type := .long, accessFlags := 26, slot := 8, constantValue := 0 }]
  methods := #[k10m0]
  instanceTypes := #[.int]
  staticTypes := #[.int, .int, (.object "java/lang/Class"), (.array .char), (.array .byte), (.array .byte), .int, .int, .long]
  resolved := Array.replicate 453 none
  statics := none }

/-- the primitive byte -/
def k11 : Class := { plain "byte" none with kind := .primitive 'B', accessFlags := 0x411 }
/-- [B -/
def k12 : Class := { plain "[B" (some 0) with kind := .array 11 .byte, interfaces := #[4, 5], accessFlags := 1041 }

/-- the primitive int -/
def k13 : Class := { plain "int" none with kind := .primitive 'I', accessFlags := 0x411 }
/-- [I -/
def k14 : Class := { plain "[I" (some 0) with kind := .array 13 .int, interfaces := #[4, 5], accessFlags := 1041 }

def heap : Heap := #[{ cls := 2, slots := #[.ref 1, .ref 2], vm := .statics 2 },
  { cls := 14, slots := #[.int 1779033703, .int (-1150833019), .int 1013904242, .int (-1521486534), .int 1359893119, .int (-1694144372), .int 528734635, .int 1541459225], vm := .none },
  { cls := 14, slots := #[.int 1116352408, .int 1899447441, .int (-1245643825), .int (-373957723), .int 961987163, .int 1508970993, .int (-1841331548), .int (-1424204075), .int (-670586216), .int 310598401, .int 607225278, .int 1426881987, .int 1925078388, .int (-2132889090), .int (-1680079193), .int (-1046744716), .int (-459576895), .int (-272742522), .int 264347078, .int 604807628, .int 770255983, .int 1249150122, .int 1555081692, .int 1996064986, .int (-1740746414), .int (-1473132947), .int (-1341970488), .int (-1084653625), .int (-958395405), .int (-710438585), .int 113926993, .int 338241895, .int 666307205, .int 773529912, .int 1294757372, .int 1396182291, .int 1695183700, .int 1986661051, .int (-2117940946), .int (-1838011259), .int (-1564481375), .int (-1474664885), .int (-1035236496), .int (-949202525), .int (-778901479), .int (-694614492), .int (-200395387), .int 275423344, .int 430227734, .int 506948616, .int 659060556, .int 883997877, .int 958139571, .int 1322822218, .int 1537002063, .int 1747873779, .int 1955562222, .int 2024104815, .int (-2067236844), .int (-1933114872), .int (-1866530822), .int (-1538233109), .int (-1090935817), .int (-965641998)], vm := .none }]
def classes : Array Class := #[k0, k1, k2, k3, k4, k5, k6, k7, k8, k9, k10, k11, k12, k13, k14]
def interned : List (Array UInt16 × Addr) := []
def slotsUsed : Nat := 74
def theMethod : MethodId := ⟨1, 1⟩
def args0 : Array Value := #[.long 5, .int 7]
def aboutOver (below : List Frame) : State where
  vm := { classes := classes, interned := interned.toArray }
  heap := heap
  slotsUsed := slotsUsed
  threads := #[{ frames := .invoking theMethod args0 :: below }]
def below0 : List Frame := [.native { method := ⟨0, 0⟩, args := #[] }]
def about1 : State := aboutOver below0
def p0 : Program := .bare "" "" ""
def e0 : Env := launch0.env 0 0 0
theorem w_frames : about1.frames = Frame.invoking theMethod args0 :: below0 := rfl
set_option maxRecDepth 65536 in
theorem w_args : argsFit about1.vm theMethod args0 = true := by decide +kernel
set_option maxRecDepth 65536 in
theorem w_heap : heapFits about1 = true := by decide +kernel
set_option maxRecDepth 65536 in
theorem w_runnable : about1.curStatus? = some .runnable := by decide +kernel
set_option maxRecDepth 65536 in
theorem w_alone : about1.alone = true := by decide +kernel
set_option maxRecDepth 65536 in
theorem w_named : about1.methodNamed? x = some theMethod := by decide +kernel
set_option maxRecDepth 65536 in
theorem w_hears : about1.hears theMethod below0 = true := by decide +kernel
set_option maxRecDepth 65536 in
theorem w_ripe : about1.ripe theMethod args0 below0 = true := by decide +kernel
theorem w_running : about1.status = .running := rfl
set_option maxRecDepth 65536 in
theorem w_room : about1.hasRoom e0.platform room_1 = true :=
  launch0.hasRoom_least _ room_1 (by decide +kernel) (by decide +kernel) (by decide +kernel) (by decide +kernel) (by decide +kernel) (by decide +kernel)
theorem allAtoms_all (ts : List Jvm.Cond) (a : Array Jvm.Value) (st : Jvm.State) : (allAtoms ts).before a st = ts.all (fun c => c.before a st) := by
  induction ts with
  | nil => rfl
  | cons c t ih =>
    show (Jvm.Cond.and c (allAtoms t)).before a st = _
    rw [Jvm.Cond.before_and, ih, List.all_cons]
def words1 : List Jvm.Cond := Jvm.Cond.code x code maxLocals ret :: tables_1
/-- a 'code' word, met by the world's own term for the bytes: nothing is compared byte by byte -/
theorem code_word {y : MethodName} {bytes : ByteArray} {mx : Nat} {rt : Option FieldType} {a : Array Value} {s : State} {m : MethodId} {meth : Method} {c : Code} (h1 : s.methodNamed? y = some m) (h2 : s.vm.method? m = some meth) (h3 : meth.code = some c) (h4 : c.code = bytes)
    (h5 : (c.maxLocals == mx && c.exceptionTable.isEmpty && decide (c.maxStack ≤ mostOperands) && decide (meth.sig.returnType = rt) && !meth.locks && decide (parseMethodDescriptor y.desc = some meth.sig)) = true) : (Jvm.Cond.code y bytes mx rt).before a s = true := by
  simp only [Bool.and_eq_true, beq_iff_eq, Bool.not_eq_true', decide_eq_true_eq] at h5
  obtain ⟨⟨⟨⟨⟨g1, g2⟩, g3⟩, g4⟩, g5⟩, g6⟩ := h5
  simp [Cond.before, Cond.holds, Cond.value, h1, h2, h3, h4, g1, g2, g3, g4, g5, g6]
def isCode : Jvm.Cond → Bool
  | .code _ _ _ _ => true
  | _ => false
theorem all_split {L : List Jvm.Cond} {P : Jvm.Cond → Bool} (h1 : L.all (fun c => isCode c || P c) = true) (h2 : ∀ c ∈ L.filter isCode, P c = true) : L.all P = true := by
  refine List.all_eq_true.mpr fun c hc => ?_
  have h := List.all_eq_true.mp h1 c hc
  rcases Bool.eq_false_or_eq_true (isCode c) with hi | hi
  · exact h2 c (List.mem_filter.mpr ⟨hc, hi⟩)
  · simpa [hi] using h
set_option maxRecDepth 65536 in
theorem w_c0 : (Jvm.Cond.code x code maxLocals ret).before args0 about1 = true := code_word (m := ⟨1, 1⟩) (meth := k1m1) (c := k1c1) (by decide +kernel) rfl rfl rfl (by decide +kernel)
set_option maxRecDepth 65536 in
theorem w_c1 : (Jvm.Cond.code ({ cls := "tributary/DigestsSha256PinLaw", name := "fill", desc := "([BJ)V" } : Jvm.MethodName) method_3_code (3 : Nat) (Option.none : Option Jvm.ClassFile.FieldType)).before args0 about1 = true := code_word (m := ⟨1, 2⟩) (meth := k1m2) (c := k1c2) (by decide +kernel) rfl rfl rfl (by decide +kernel)
set_option maxRecDepth 65536 in
theorem w_c2 : (Jvm.Cond.code ({ cls := "tributary/Digests", name := "sha256", desc := "([B)[B" } : Jvm.MethodName) prog_4_method_2_code (13 : Nat) (Option.some (Jvm.ClassFile.FieldType.array Jvm.ClassFile.FieldType.byte))).before args0 about1 = true := code_word (m := ⟨2, 1⟩) (meth := k2m1) (c := k2c1) (by decide +kernel) rfl rfl rfl (by decide +kernel)
set_option maxRecDepth 65536 in
theorem w_c3 : (Jvm.Cond.code ({ cls := "java/lang/Integer", name := "rotateRight", desc := "(II)I" } : Jvm.MethodName) jdk_33_method_51_code (2 : Nat) (Option.some Jvm.ClassFile.FieldType.int)).before args0 about1 = true := code_word (m := ⟨10, 0⟩) (meth := k10m0) (c := k10c0) (by decide +kernel) rfl rfl rfl (by decide +kernel)
set_option maxRecDepth 65536 in
theorem w_c4 : (Jvm.Cond.code ({ cls := "tributary/Digests", name := "compress", desc := "([I[I)V" } : Jvm.MethodName) prog_4_method_3_code (16 : Nat) (Option.none : Option Jvm.ClassFile.FieldType)).before args0 about1 = true := code_word (m := ⟨2, 2⟩) (meth := k2m2) (c := k2c2) (by decide +kernel) rfl rfl rfl (by decide +kernel)
set_option maxRecDepth 65536 in
theorem w_c5 : (Jvm.Cond.code ({ cls := "tributary/DigestsSha256PinLaw", name := "unchanged", desc := "([BJ)Z" } : Jvm.MethodName) method_4_code (3 : Nat) (Option.some Jvm.ClassFile.FieldType.boolean)).before args0 about1 = true := code_word (m := ⟨1, 3⟩) (meth := k1m3) (c := k1c3) (by decide +kernel) rfl rfl rfl (by decide +kernel)
set_option maxRecDepth 65536 in
theorem w_c6 : (Jvm.Cond.code ({ cls := "tributary/DigestsSha256PinLaw", name := "is", desc := "([BIIIIIIII)Z" } : Jvm.MethodName) method_6_code (9 : Nat) (Option.some Jvm.ClassFile.FieldType.boolean)).before args0 about1 = true := code_word (m := ⟨1, 5⟩) (meth := k1m5) (c := k1c5) (by decide +kernel) rfl rfl rfl (by decide +kernel)
set_option maxRecDepth 65536 in
theorem w_c7 : (Jvm.Cond.code ({ cls := "tributary/DigestsSha256PinLaw", name := "word", desc := "([BI)I" } : Jvm.MethodName) method_5_code (2 : Nat) (Option.some Jvm.ClassFile.FieldType.int)).before args0 about1 = true := code_word (m := ⟨1, 4⟩) (meth := k1m4) (c := k1c4) (by decide +kernel) rfl rfl rfl (by decide +kernel)
def codes1 : List Jvm.Cond := [Jvm.Cond.code x code maxLocals ret, Jvm.Cond.code ({ cls := "tributary/DigestsSha256PinLaw", name := "fill", desc := "([BJ)V" } : Jvm.MethodName) method_3_code (3 : Nat) (Option.none : Option Jvm.ClassFile.FieldType), Jvm.Cond.code ({ cls := "tributary/Digests", name := "sha256", desc := "([B)[B" } : Jvm.MethodName) prog_4_method_2_code (13 : Nat) (Option.some (Jvm.ClassFile.FieldType.array Jvm.ClassFile.FieldType.byte)), Jvm.Cond.code ({ cls := "java/lang/Integer", name := "rotateRight", desc := "(II)I" } : Jvm.MethodName) jdk_33_method_51_code (2 : Nat) (Option.some Jvm.ClassFile.FieldType.int), Jvm.Cond.code ({ cls := "tributary/Digests", name := "compress", desc := "([I[I)V" } : Jvm.MethodName) prog_4_method_3_code (16 : Nat) (Option.none : Option Jvm.ClassFile.FieldType), Jvm.Cond.code ({ cls := "tributary/DigestsSha256PinLaw", name := "unchanged", desc := "([BJ)Z" } : Jvm.MethodName) method_4_code (3 : Nat) (Option.some Jvm.ClassFile.FieldType.boolean), Jvm.Cond.code ({ cls := "tributary/DigestsSha256PinLaw", name := "is", desc := "([BIIIIIIII)Z" } : Jvm.MethodName) method_6_code (9 : Nat) (Option.some Jvm.ClassFile.FieldType.boolean), Jvm.Cond.code ({ cls := "tributary/DigestsSha256PinLaw", name := "word", desc := "([BI)I" } : Jvm.MethodName) method_5_code (2 : Nat) (Option.some Jvm.ClassFile.FieldType.int)]
set_option maxRecDepth 65536 in
theorem codes_eq : words1.filter isCode = codes1 := rfl
theorem w_codes : ∀ c ∈ words1.filter isCode, c.before args0 about1 = true := by
  rw [codes_eq]
  intro c hc
  simp only [codes1, List.mem_cons, List.not_mem_nil, or_false] at hc
  rcases hc with rfl | rfl | rfl | rfl | rfl | rfl | rfl | rfl
  · exact w_c0
  · exact w_c1
  · exact w_c2
  · exact w_c3
  · exact w_c4
  · exact w_c5
  · exact w_c6
  · exact w_c7
set_option maxRecDepth 65536 in
theorem w_t1 : (words1.take 24).all (fun c => isCode c || c.before args0 about1) = true := by decide +kernel
set_option maxRecDepth 65536 in
theorem w_t2 : ((words1.drop 24).take 24).all (fun c => isCode c || c.before args0 about1) = true := by decide +kernel
set_option maxRecDepth 65536 in
theorem w_t3 : ((words1.drop 24).drop 24).all (fun c => isCode c || c.before args0 about1) = true := by decide +kernel
theorem w_tables : (allAtoms (Jvm.Cond.code x code maxLocals ret :: tables_1)).before args0 about1 = true := by
  rw [allAtoms_all]
  show words1.all (fun c => c.before args0 about1) = true
  refine all_split ?_ w_codes
  rw [← List.take_append_drop 24 words1, List.all_append, w_t1, ← List.take_append_drop 24 (words1.drop 24), List.all_append, w_t2, w_t3]
  rfl
set_option maxRecDepth 65536 in
theorem w_case : (Jvm.Cond.and given_1 narrow_1).before args0 about1 = true := by decide +kernel
theorem w_applies : (headSpec (Jvm.Cond.code x code maxLocals ret :: tables_1) room_1).applies x e0.platform about1 = true :=
  (Spec.applies_iff w_frames).mpr ⟨w_running, w_runnable, w_alone, w_named, w_hears, w_ripe, w_room, w_tables⟩
theorem atStart : AtStart classFile x code maxLocals ret World_1 tables_1 room_1 Calls_1 rest_1 Pre_1 launch0 p0 e0 about1 theMethod args0 below0 :=
  ⟨lists_1, trivial, launch0.admits_env _ _ _, launch0.least_env, fairChoices_fair.cas, fairChoices_fair.clock, w_frames, w_args, w_heap, w_applies, trivial, trivial, w_case⟩
end start1
theorem witness_1 : WitnessClaimed_1 := ⟨start1.p0, start1.e0, start1.about1, start1.theMethod, start1.args0, start1.below0, start1.atStart⟩
end Jvm.Pilot.@@N@@
