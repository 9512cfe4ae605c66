import JvmDerived
import JvmDerived.Pilot.@@N@@Statement
import JvmDerived.Pilot.@@N@@Code
set_option linter.unusedVariables false
set_option linter.unusedSimpArgs false
namespace Jvm.RoadKit
open Sem ClassFile Op Lib Jvm.Stand Jvm.Free Jvm.LawKit
/-- from S the run goes on and returns; what it leaves is said by Q -/
def GoesW (tb : Tables) (e : Env) (below : List Frame) (s : State) (Q : Option Value → Heap → List Loc → Prop) (kc ks : Nat) (S : State) : Prop :=
  ∃ t o, Steps tb e below S t ∧ t.status = .running ∧ Ended t below o ∧ ∃ v L, o = .returned v ∧ Q v t.heap L ∧ FrameEnd s o t L kc ks
theorem GoesW.step {tb : Tables} {e : Env} {below : List Frame} {s : State} {Q : Option Value → Heap → List Loc → Prop} {kc ks : Nat} {S S' : State} (f : ∀ t, Steps tb e below S' t → Steps tb e below S t) (h : GoesW tb e below s Q kc ks S') : GoesW tb e below s Q kc ks S := by
  obtain ⟨t, o, h1, h2⟩ := h
  exact ⟨t, o, f t h1, h2⟩
/-- 0 where the branch is taken, 1 where it isn't: what 'if<c> +7; iconst_1; goto +4; iconst_0' leaves -/
def nb (b : Bool) : Int32 := if b then 0 else 1
theorem nb_01 (b : Bool) : nb b = 0 ∨ nb b = 1 := by cases b <;> simp [nb]
theorem nar_nb (b : Bool) : narrow .boolean (.int (nb b)) = .int (nb b) := by cases b <;> rfl
theorem fits_nb (b : Bool) : fits .boolean (.int (nb b)) = true := by cases b <;> rfl
theorem diam0 {tb : Tables} [Ours tb] {e : Env} {below : List Frame} {T target : State} {m : MethodId} {c : Code} {g : JFrame} (h : At T m c below) (hx : tb.exec = Jvm.exec) (hg : g.method = m) {cd : ClassFile.Cond} {x : Int32} {rest : List Value} {pc0 : Nat} (hpc : g.pc = pc0)
    (hd : decode c.code pc0 = .ok (.ifCond cd 7, 3)) (hs : g.stack = .int x :: rest) (hd1 : decode c.code (pc0 + 3) = .ok (.iconst 1, 1)) (hd2 : decode c.code (pc0 + 4) = .ok (.goto 4, 3)) (hd3 : decode c.code (pc0 + 7) = .ok (.iconst 0, 1))
    (hr : Steps tb e below (T.setTop { g with pc := pc0 + 8, stack := .int (nb (ifCond.holds cd x)) :: rest }) target) : Steps tb e below (T.setTop g) target := by
  subst hpc
  cases hb : ifCond.holds cd x with
  | true =>
    rw [hb] at hr
    refine XS.ifYes h hx hg (pc0 := g.pc) (pc' := g.pc + 7) rfl hd hs hb (by omega) (by omega) ?_
    exact XS.iconst (g := { g with pc := g.pc + 7, stack := rest }) h hx hg hd3 hr
  | false =>
    rw [hb] at hr
    refine XS.ifNo h hx hg hd hs hb ?_
    refine XS.iconst (g := { g with pc := g.pc + 3, stack := rest }) h hx hg hd1 ?_
    exact XS.goto (g := { g with pc := g.pc + 4, stack := .int 1 :: rest }) h hx hg (pc0 := g.pc + 4) (pc' := g.pc + 8) rfl hd2 (by omega) (by omega) hr
theorem diam2 {tb : Tables} [Ours tb] {e : Env} {below : List Frame} {T target : State} {m : MethodId} {c : Code} {g : JFrame} (h : At T m c below) (hx : tb.exec = Jvm.exec) (hg : g.method = m) {cd : ClassFile.Cond} {x y : Int32} {rest : List Value} {pc0 : Nat} (hpc : g.pc = pc0)
    (hd : decode c.code pc0 = .ok (.if_icmp cd 7, 3)) (hs : g.stack = .int y :: .int x :: rest) (hd1 : decode c.code (pc0 + 3) = .ok (.iconst 1, 1)) (hd2 : decode c.code (pc0 + 4) = .ok (.goto 4, 3)) (hd3 : decode c.code (pc0 + 7) = .ok (.iconst 0, 1))
    (hr : Steps tb e below (T.setTop { g with pc := pc0 + 8, stack := .int (nb (if_icmp.holds cd x y)) :: rest }) target) : Steps tb e below (T.setTop g) target := by
  subst hpc
  cases hb : if_icmp.holds cd x y with
  | true =>
    rw [hb] at hr
    refine XS.icmpYes h hx hg (pc0 := g.pc) (pc' := g.pc + 7) rfl hd hs hb (by omega) (by omega) ?_
    exact XS.iconst (g := { g with pc := g.pc + 7, stack := rest }) h hx hg hd3 hr
  | false =>
    rw [hb] at hr
    refine XS.icmpNo h hx hg hd hs hb ?_
    refine XS.iconst (g := { g with pc := g.pc + 3, stack := rest }) h hx hg hd1 ?_
    exact XS.goto (g := { g with pc := g.pc + 4, stack := .int 1 :: rest }) h hx hg (pc0 := g.pc + 4) (pc' := g.pc + 8) rfl hd2 (by omega) (by omega) hr
section New
variable {p : Program} {l : Launch} {e : Env} {R : Room} {s : State} {m : MethodId} {args : Array Value} {below : List Frame} {meth : Method} {c : Code} {T : State} {locs : List Loc} {cells slots : Nat} {Q : Option Value → Heap → List Loc → Prop} {kc ks : Nat}
theorem upS (X : Stand p l e R s m args below meth c T locs cells slots) {k n : Nat} (hc : cells ≤ k) (hn : slots ≤ n) : Stand p l e R s m args below meth c T locs k n := { X with same := X.same.mono hc hn }
theorem GoesW.out (X : Stand p l e R s m args below meth c T locs cells slots) {v : Option Value} {S : State} (hlk : meth.locks = false) (hv : meth.sig.returnType = none → v = none)
    (hst : ∀ fs, (∀ (f : JFrame) (acts : List Action), f.method = m → f.locked = none → f.entered = [] → (doReturn e (T.setTop f) acts v).1 = T.setFrames fs) → Steps p.tables e below S (T.setFrames fs)) (hq : Q v T.heap locs) (hc : cells ≤ kc) (hs : slots ≤ ks) : GoesW p.tables e below s Q kc ks S := by
  obtain ⟨fs, hr, hrun, hended, hW, hsame⟩ := X.leave (v := v) hv hlk
  exact ⟨_, _, hst fs hr, hrun, hended, _, _, rfl, hq, ⟨_, rfl⟩, hW, hsame.mono hc hs⟩
theorem GoesW.retI (X : Stand p l e R s m args below meth c T locs cells slots) (hx : p.tables.exec = Jvm.exec) (hlk : meth.locks = false) {pc : Nat} {Ls : Array Slot} {z : Int32} {rest : List Value} (hret : meth.sig.returnType = some .int) (hd : decode c.code pc = .ok (.ireturn, 1)) (hq : Q (some (.int z)) T.heap locs) (hc : cells ≤ kc) (hs : slots ≤ ks) :
    GoesW p.tables e below s Q kc ks (T.setTop (mkF m pc Ls (.int z :: rest))) :=
  GoesW.out X hlk (fun h => by rw [hret] at h; cases h) (fun fs hr => retOut X hx hret rfl (Or.inl ⟨rfl, Or.inl rfl, _, rfl⟩) hd hr) hq hc hs
theorem GoesW.retZ (X : Stand p l e R s m args below meth c T locs cells slots) (hx : p.tables.exec = Jvm.exec) (hlk : meth.locks = false) {pc : Nat} {Ls : Array Slot} {z : Int32} {t : FieldType} {rest : List Value} (hret : meth.sig.returnType = some t) (ht : t = .int ∨ t = .boolean ∨ t = .byte ∨ t = .char ∨ t = .short) (hn : narrow t (.int z) = .int z) (hd : decode c.code pc = .ok (.ireturn, 1)) (hq : Q (some (.int z)) T.heap locs) (hc : cells ≤ kc) (hs : slots ≤ ks) :
    GoesW p.tables e below s Q kc ks (T.setTop (mkF m pc Ls (.int z :: rest))) :=
  GoesW.out X hlk (fun h => by rw [hret] at h; cases h) (fun fs hr => retOut X hx hret hn (Or.inl ⟨rfl, ht, _, rfl⟩) hd hr) hq hc hs
theorem GoesW.retJ (X : Stand p l e R s m args below meth c T locs cells slots) (hx : p.tables.exec = Jvm.exec) (hlk : meth.locks = false) {pc : Nat} {Ls : Array Slot} {z : Int64} {rest : List Value} (hret : meth.sig.returnType = some .long) (hd : decode c.code pc = .ok (.lreturn, 1)) (hq : Q (some (.long z)) T.heap locs) (hc : cells ≤ kc) (hs : slots ≤ ks) :
    GoesW p.tables e below s Q kc ks (T.setTop (mkF m pc Ls (.long z :: rest))) :=
  GoesW.out X hlk (fun h => by rw [hret] at h; cases h) (fun fs hr => retOut X hx hret rfl (Or.inr (Or.inl ⟨rfl, rfl, _, rfl⟩)) hd hr) hq hc hs
theorem GoesW.retA (X : Stand p l e R s m args below meth c T locs cells slots) (hx : p.tables.exec = Jvm.exec) (hlk : meth.locks = false) {pc : Nat} {Ls : Array Slot} {w : Value} {t : FieldType} {rest : List Value} (hret : meth.sig.returnType = some t) (ht : t.isReference = true) (hw : w.isRef = true) (hd : decode c.code pc = .ok (.areturn, 1)) (hq : Q (some w) T.heap locs) (hc : cells ≤ kc) (hs : slots ≤ ks) :
    GoesW p.tables e below s Q kc ks (T.setTop (mkF m pc Ls (w :: rest))) :=
  GoesW.out X hlk (fun h => by rw [hret] at h; cases h) (fun fs hr => retOut X hx hret (by cases t <;> first | (cases ht; done) | rfl) (Or.inr (Or.inr (Or.inr (Or.inr ⟨rfl, ht, hw⟩)))) hd hr) hq hc hs
theorem GoesW.retV (X : Stand p l e R s m args below meth c T locs cells slots) (hx : p.tables.exec = Jvm.exec) (hlk : meth.locks = false) {pc : Nat} {Ls : Array Slot} (hret : meth.sig.returnType = none) (hd : decode c.code pc = .ok (.return_, 1)) (hq : Q none T.heap locs) (hc : cells ≤ kc) (hs : slots ≤ ks) :
    GoesW p.tables e below s Q kc ks (T.setTop (mkF m pc Ls [])) :=
  GoesW.out X hlk (fun _ => rfl) (fun fs hr => X.returnOut hx hret hd hr) hq hc hs
end New
end Jvm.RoadKit
namespace Jvm.Pilot.@@N@@
open Jvm Jvm.ClassFile Sem Op Lib Jvm.Free Jvm.Stand Jvm.LawKit Jvm.RoadKit Bundle Jvm.Pilot.@@N@@.Jvm.D
def own_held (v : Int64) : Int32 := if v = 0 then 0 else if v = 1 then 0 else 1
def own_cnt (xs : List Int64) : Int32 := xs.foldl (fun a x => a + own_held x) 0
theorem own_cnt_step (xs : List Int64) (j : Nat) (hj : j < xs.length) : own_cnt (xs.take (j + 1)) = own_cnt (xs.take j) + own_held (xs.getD j 0) := by
  unfold own_cnt
  rw [List.take_succ_eq_append_getElem hj, List.foldl_append, List.getD_eq_getElem?_getD, List.getElem?_eq_getElem hj]
  rfl
theorem own_cnt5 (a b c d e : Int64) : own_cnt [a, b, c, d, e] = ((((own_held a + own_held b) + own_held c) + own_held d) + own_held e) := by
  show (((((0 + own_held a) + own_held b) + own_held c) + own_held d) + own_held e) = _
  rw [Int32.zero_add]
theorem own_at (xs : List Int64) (dv : Value) (j : Nat) (hj : j < xs.length) : (xs.map Value.long).getD j dv = .long (xs.getD j 0) := by
  simp [List.getD_eq_getElem?_getD, List.getElem?_eq_getElem hj]
theorem own_clamp {i : Int32} {j : Nat} (h : i.toInt = (j : Int)) : i.toNatClampNeg = j := by
  show i.toInt.toNat = j
  omega
theorem own_len {n : Int32} {k : Nat} (h : n.toNatClampNeg = k) (h0 : ¬ n < 0) : n.toInt = (k : Int) := by
  have h1 : n.toInt.toNat = k := h
  rw [Int32.lt_iff_toInt_lt] at h0
  have e0 : (0 : Int32).toInt = 0 := rfl
  omega
theorem own_inc {i : Int32} {j : Nat} {n : Int32} (h : i.toInt = (j : Int)) (hn : i.toInt < n.toInt) : (i + (1 : Int32)).toInt = ((j + 1 : Nat) : Int) := by
  have e1 : (1 : Int32).toInt = 1 := rfl
  have r := rng32 n
  have r2 := rng32 (i + 1)
  have s := c_iadd i 1
  omega
theorem own_pn0 : plainName "com/example/forehold/forehold/state/PlanIdsCountPinLaw" = true := by first | (simp [plainName, overriddenIn]; done) | decide +kernel
theorem d1_0 : decode method_2_code 0 = .ok (.iload_n 0, 1) := by decide +kernel
theorem d1_1 : decode method_2_code 1 = .ok (.iconst 2, 1) := by decide +kernel
theorem d1_2 : decode method_2_code 2 = .ok (.iload_n 1, 1) := by decide +kernel
theorem d1_3 : decode method_2_code 3 = .ok (.imul, 1) := by decide +kernel
theorem d1_4 : decode method_2_code 4 = .ok (.iushr, 1) := by decide +kernel
theorem d1_5 : decode method_2_code 5 = .ok (.iconst 3, 1) := by decide +kernel
theorem d1_6 : decode method_2_code 6 = .ok (.iand, 1) := by decide +kernel
theorem d1_7 : decode method_2_code 7 = .ok (.istore 4, 2) := by decide +kernel
theorem d1_9 : decode method_2_code 9 = .ok (.iload 4, 2) := by decide +kernel
theorem d1_11 : decode method_2_code 11 = .ok (.ifCond .ne 5, 3) := by decide +kernel
theorem d1_14 : decode method_2_code 14 = .ok (.lconst 0, 1) := by decide +kernel
theorem d1_15 : decode method_2_code 15 = .ok (.lreturn, 1) := by decide +kernel
theorem d1_16 : decode method_2_code 16 = .ok (.iload 4, 2) := by decide +kernel
theorem d1_18 : decode method_2_code 18 = .ok (.iconst 1, 1) := by decide +kernel
theorem d1_19 : decode method_2_code 19 = .ok (.if_icmp .ne 5, 3) := by decide +kernel
theorem d1_22 : decode method_2_code 22 = .ok (.lconst 1, 1) := by decide +kernel
theorem d1_23 : decode method_2_code 23 = .ok (.lreturn, 1) := by decide +kernel
theorem d1_24 : decode method_2_code 24 = .ok (.lload_n 2, 1) := by decide +kernel
theorem d1_25 : decode method_2_code 25 = .ok (.lreturn, 1) := by decide +kernel
theorem ef_rm1 (m : MethodId) (x0 : Int32) (x1 : Int32) (x2 : Int64) : entryFrame m #[(.int x0), (.int x1), (.long x2)] 5 = mkF m 0 #[.val (.int x0), .val (.int x1), .val (.long x2), .second, .unset] [] := by first | (simp [entryFrame, mkF, argsToLocals, Value.category]; done) | rfl
def Q1 (Z : State) (p0 : Int32) (p1 : Int32) (q2 : Int64) (h0 : Heap) (n0 : Nat) (v : Option Value) (h : Heap) (L : List Loc) : Prop := (∃ z : Int64, v = some (.long z)) ∧ Fr n0 L ∧ h = h0
set_option maxRecDepth 65536 in
set_option maxHeartbeats 40000000 in
theorem rm1 (l : Launch) (Z : State) (a0 : Array Value) (hw : ∀ d ∈ tables_1, d.before a0 Z = true) (ws : List Jvm.Cond) (p0 : Int32) (p1 : Int32) (q2 : Int64) (h0 : Heap) (n0 : Nat) (Z0 : n0 ≤ h0.size)  :
    MetFree l (⟨"com/example/forehold/forehold/state/PlanIdsCountPinLaw", "pick", "(IIJ)J"⟩ : MethodName) (head1 (Jvm.Cond.code (⟨"com/example/forehold/forehold/state/PlanIdsCountPinLaw", "pick", "(IIJ)J"⟩ : MethodName) method_2_code 5 (some .long) :: ws) ({ frames := 0, cells := 0, slots := 0, locals := 0 } : Room)) (fun a U => a = #[(.int p0), (.int p1), (.long q2)] ∧ Z.Warmed39 U.vm ∧ U.heap = h0) (fun _ _ _ _ _ => True) (fun _ U o U' => ∃ v L, o = .returned v ∧ Q1 Z p0 p1 q2 h0 n0 v U'.heap L ∧ FrameEnd U o U' L ({ frames := 0, cells := 0, slots := 0, locals := 0 } : Room).cells ({ frames := 0, cells := 0, slots := 0, locals := 0 } : Room).slots) := by
  refine MetFree.of_bodySF (plainFor_of_name own_pn0) hisR ?_
  intro p e s m args below meth c s₁ Bd hml0 hP hK
  obtain ⟨rfl, hZ, hh⟩ := hP
  have hx := Bd.exec
  have hby := Bd.bytes
  have hml : c.maxLocals = 5 := hml0
  have hown : s.vm.findClass "com/example/forehold/forehold/state/PlanIdsCountPinLaw" = some m.cls := findClass_of_methodNamed Bd.named
  have hnm := (name_of_methodNamed Bd.named Bd.method).1
  have hlk : meth.locks = false := BodyLoose.notSynchronized Bd
  have X0 : Stand p l e ({ frames := 0, cells := 0, slots := 0, locals := 0 } : Room) s m #[(.int p0), (.int p1), (.long q2)] below meth c s₁ [] 0 0 := Stand.of_body Bd
  have e0 : s₁.heap = h0 := by rw [← hh, Bd.state]; rfl
  have N0 := Fr.nil n0
  show GoesW p.tables e below s (Q1 Z p0 p1 q2 h0 n0) 0 0 (s₁.setTop (entryFrame m #[(.int p0), (.int p1), (.long q2)] 5))
  rw [ef_rm1 m p0 p1 q2]
  show GoesW p.tables e below s (Q1 Z p0 p1 q2 h0 n0) 0 0 (s₁.setTop (mkF m 0 #[.val (.int p0), .val (.int p1), .val (.long q2), .second, .unset] []))
  refine GoesW.step (fun _ k => XS.iloadN X0.here hx rfl (hb hby d1_0) rfl k) ?_
  show GoesW p.tables e below s (Q1 Z p0 p1 q2 h0 n0) 0 0 (s₁.setTop (mkF m 1 #[.val (.int p0), .val (.int p1), .val (.long q2), .second, .unset] [(.int p0)]))
  refine GoesW.step (fun _ k => XS.iconst X0.here hx rfl (hb hby d1_1) k) ?_
  show GoesW p.tables e below s (Q1 Z p0 p1 q2 h0 n0) 0 0 (s₁.setTop (mkF m 2 #[.val (.int p0), .val (.int p1), .val (.long q2), .second, .unset] [(.int (2 : Int32)), (.int p0)]))
  refine GoesW.step (fun _ k => XS.iloadN X0.here hx rfl (hb hby d1_2) rfl k) ?_
  show GoesW p.tables e below s (Q1 Z p0 p1 q2 h0 n0) 0 0 (s₁.setTop (mkF m 3 #[.val (.int p0), .val (.int p1), .val (.long q2), .second, .unset] [(.int p1), (.int (2 : Int32)), (.int p0)]))
  refine GoesW.step (fun _ k => XS.imul X0.here hx rfl (hb hby d1_3) rfl k) ?_
  show GoesW p.tables e below s (Q1 Z p0 p1 q2 h0 n0) 0 0 (s₁.setTop (mkF m 4 #[.val (.int p0), .val (.int p1), .val (.long q2), .second, .unset] [(.int ((2 : Int32) * p1)), (.int p0)]))
  refine GoesW.step (fun _ k => XS.iushr X0.here hx rfl (hb hby d1_4) rfl k) ?_
  show GoesW p.tables e below s (Q1 Z p0 p1 q2 h0 n0) 0 0 (s₁.setTop (mkF m 5 #[.val (.int p0), .val (.int p1), .val (.long q2), .second, .unset] [(.int ((p0.toUInt32 >>> (((2 : Int32) * p1) &&& 31).toUInt32).toInt32))]))
  refine GoesW.step (fun _ k => XS.iconst X0.here hx rfl (hb hby d1_5) k) ?_
  show GoesW p.tables e below s (Q1 Z p0 p1 q2 h0 n0) 0 0 (s₁.setTop (mkF m 6 #[.val (.int p0), .val (.int p1), .val (.long q2), .second, .unset] [(.int (3 : Int32)), (.int ((p0.toUInt32 >>> (((2 : Int32) * p1) &&& 31).toUInt32).toInt32))]))
  refine GoesW.step (fun _ k => XS.iand X0.here hx rfl (hb hby d1_6) rfl k) ?_
  show GoesW p.tables e below s (Q1 Z p0 p1 q2 h0 n0) 0 0 (s₁.setTop (mkF m 7 #[.val (.int p0), .val (.int p1), .val (.long q2), .second, .unset] [(.int (((p0.toUInt32 >>> (((2 : Int32) * p1) &&& 31).toUInt32).toInt32) &&& (3 : Int32)))]))
  generalize hmm : (((p0.toUInt32 >>> (((2 : Int32) * p1) &&& 31).toUInt32).toInt32) &&& (3 : Int32)) = mm
  show GoesW p.tables e below s (Q1 Z p0 p1 q2 h0 n0) 0 0 (s₁.setTop (mkF m 7 #[.val (.int p0), .val (.int p1), .val (.long q2), .second, .unset] [(.int mm)]))
  refine GoesW.step (fun _ k => XS.istore X0.here hx rfl (hb hby d1_7) rfl (l' := #[.val (.int p0), .val (.int p1), .val (.long q2), .second, .val (.int mm)]) rfl k) ?_
  show GoesW p.tables e below s (Q1 Z p0 p1 q2 h0 n0) 0 0 (s₁.setTop (mkF m 9 #[.val (.int p0), .val (.int p1), .val (.long q2), .second, .val (.int mm)] []))
  refine GoesW.step (fun _ k => XS.iload X0.here hx rfl (hb hby d1_9) rfl k) ?_
  show GoesW p.tables e below s (Q1 Z p0 p1 q2 h0 n0) 0 0 (s₁.setTop (mkF m 11 #[.val (.int p0), .val (.int p1), .val (.long q2), .second, .val (.int mm)] [(.int mm)]))
  by_cases h11 : mm = (0 : Int32)
  · skip
    refine GoesW.step (fun _ k => XS.ifNo X0.here hx rfl (hb hby d1_11) rfl ((if0 _ _).trans (teq h11).2) k) ?_
    show GoesW p.tables e below s (Q1 Z p0 p1 q2 h0 n0) 0 0 (s₁.setTop (mkF m 14 #[.val (.int p0), .val (.int p1), .val (.long q2), .second, .val (.int mm)] []))
    refine GoesW.step (fun _ k => XS.lconst X0.here hx rfl (hb hby d1_14) k) ?_
    show GoesW p.tables e below s (Q1 Z p0 p1 q2 h0 n0) 0 0 (s₁.setTop (mkF m 15 #[.val (.int p0), .val (.int p1), .val (.long q2), .second, .val (.int mm)] [(.long (0 : Int64))]))
    exact GoesW.retJ X0 hx hlk Bd.returns (hb hby d1_15) (by show Q1 Z p0 p1 q2 h0 n0 _ s₁.heap _; rw [e0]; exact ⟨⟨_, rfl⟩, N0, rfl⟩) (by decide) (by decide)
  · skip
    refine GoesW.step (fun _ k => XS.ifYes X0.here hx rfl (pc0 := 11) (pc' := 16) rfl (hb hby d1_11) rfl ((if0 _ _).trans (feq h11).2) (by decide) (by decide) k) ?_
    show GoesW p.tables e below s (Q1 Z p0 p1 q2 h0 n0) 0 0 (s₁.setTop (mkF m 16 #[.val (.int p0), .val (.int p1), .val (.long q2), .second, .val (.int mm)] []))
    refine GoesW.step (fun _ k => XS.iload X0.here hx rfl (hb hby d1_16) rfl k) ?_
    show GoesW p.tables e below s (Q1 Z p0 p1 q2 h0 n0) 0 0 (s₁.setTop (mkF m 18 #[.val (.int p0), .val (.int p1), .val (.long q2), .second, .val (.int mm)] [(.int mm)]))
    refine GoesW.step (fun _ k => XS.iconst X0.here hx rfl (hb hby d1_18) k) ?_
    show GoesW p.tables e below s (Q1 Z p0 p1 q2 h0 n0) 0 0 (s₁.setTop (mkF m 19 #[.val (.int p0), .val (.int p1), .val (.long q2), .second, .val (.int mm)] [(.int (1 : Int32)), (.int mm)]))
    by_cases h19 : mm = (1 : Int32)
    · skip
      refine GoesW.step (fun _ k => XS.icmpNo X0.here hx rfl (hb hby d1_19) rfl (teq h19).2 k) ?_
      show GoesW p.tables e below s (Q1 Z p0 p1 q2 h0 n0) 0 0 (s₁.setTop (mkF m 22 #[.val (.int p0), .val (.int p1), .val (.long q2), .second, .val (.int mm)] []))
      refine GoesW.step (fun _ k => XS.lconst X0.here hx rfl (hb hby d1_22) k) ?_
      show GoesW p.tables e below s (Q1 Z p0 p1 q2 h0 n0) 0 0 (s₁.setTop (mkF m 23 #[.val (.int p0), .val (.int p1), .val (.long q2), .second, .val (.int mm)] [(.long (1 : Int64))]))
      exact GoesW.retJ X0 hx hlk Bd.returns (hb hby d1_23) (by show Q1 Z p0 p1 q2 h0 n0 _ s₁.heap _; rw [e0]; exact ⟨⟨_, rfl⟩, N0, rfl⟩) (by decide) (by decide)
    · skip
      refine GoesW.step (fun _ k => XS.icmpYes X0.here hx rfl (pc0 := 19) (pc' := 24) rfl (hb hby d1_19) rfl (feq h19).2 (by decide) (by decide) k) ?_
      show GoesW p.tables e below s (Q1 Z p0 p1 q2 h0 n0) 0 0 (s₁.setTop (mkF m 24 #[.val (.int p0), .val (.int p1), .val (.long q2), .second, .val (.int mm)] []))
      refine GoesW.step (fun _ k => XS.lloadN X0.here hx rfl (hb hby d1_24) rfl k) ?_
      show GoesW p.tables e below s (Q1 Z p0 p1 q2 h0 n0) 0 0 (s₁.setTop (mkF m 25 #[.val (.int p0), .val (.int p1), .val (.long q2), .second, .val (.int mm)] [(.long q2)]))
      exact GoesW.retJ X0 hx hlk Bd.returns (hb hby d1_25) (by show Q1 Z p0 p1 q2 h0 n0 _ s₁.heap _; rw [e0]; exact ⟨⟨_, rfl⟩, N0, rfl⟩) (by decide) (by decide)
theorem d2_0 : decode method_3_code 0 = .ok (.lload_n 0, 1) := by decide +kernel
theorem d2_1 : decode method_3_code 1 = .ok (.lconst 0, 1) := by decide +kernel
theorem d2_2 : decode method_3_code 2 = .ok (.lcmp, 1) := by decide +kernel
theorem d2_3 : decode method_3_code 3 = .ok (.ifCond .ne 5, 3) := by decide +kernel
theorem d2_6 : decode method_3_code 6 = .ok (.iconst 0, 1) := by decide +kernel
theorem d2_7 : decode method_3_code 7 = .ok (.ireturn, 1) := by decide +kernel
theorem d2_8 : decode method_3_code 8 = .ok (.lload_n 0, 1) := by decide +kernel
theorem d2_9 : decode method_3_code 9 = .ok (.lconst 1, 1) := by decide +kernel
theorem d2_10 : decode method_3_code 10 = .ok (.lcmp, 1) := by decide +kernel
theorem d2_11 : decode method_3_code 11 = .ok (.ifCond .ne 5, 3) := by decide +kernel
theorem d2_14 : decode method_3_code 14 = .ok (.iconst 0, 1) := by decide +kernel
theorem d2_15 : decode method_3_code 15 = .ok (.ireturn, 1) := by decide +kernel
theorem d2_16 : decode method_3_code 16 = .ok (.iconst 1, 1) := by decide +kernel
theorem d2_17 : decode method_3_code 17 = .ok (.ireturn, 1) := by decide +kernel
theorem ef_rm2 (m : MethodId) (x0 : Int64) : entryFrame m #[(.long x0)] 2 = mkF m 0 #[.val (.long x0), .second] [] := by first | (simp [entryFrame, mkF, argsToLocals, Value.category]; done) | rfl
def Q2 (Z : State) (q0 : Int64) (h0 : Heap) (n0 : Nat) (v : Option Value) (h : Heap) (L : List Loc) : Prop := v = some (.int (own_held q0)) ∧ Fr n0 L ∧ h = h0
set_option maxRecDepth 65536 in
set_option maxHeartbeats 40000000 in
theorem rm2 (l : Launch) (Z : State) (a0 : Array Value) (hw : ∀ d ∈ tables_1, d.before a0 Z = true) (ws : List Jvm.Cond) (q0 : Int64) (h0 : Heap) (n0 : Nat) (Z0 : n0 ≤ h0.size)  :
    MetFree l (⟨"com/example/forehold/forehold/state/PlanIdsCountPinLaw", "held", "(J)I"⟩ : MethodName) (head1 (Jvm.Cond.code (⟨"com/example/forehold/forehold/state/PlanIdsCountPinLaw", "held", "(J)I"⟩ : MethodName) method_3_code 2 (some .int) :: ws) ({ frames := 0, cells := 0, slots := 0, locals := 0 } : Room)) (fun a U => a = #[(.long q0)] ∧ Z.Warmed39 U.vm ∧ U.heap = h0) (fun _ _ _ _ _ => True) (fun _ U o U' => ∃ v L, o = .returned v ∧ Q2 Z q0 h0 n0 v U'.heap L ∧ FrameEnd U o U' L ({ frames := 0, cells := 0, slots := 0, locals := 0 } : Room).cells ({ frames := 0, cells := 0, slots := 0, locals := 0 } : Room).slots) := by
  refine MetFree.of_bodySF (plainFor_of_name own_pn0) hisR ?_
  intro p e s m args below meth c s₁ Bd hml0 hP hK
  obtain ⟨rfl, hZ, hh⟩ := hP
  have hx := Bd.exec
  have hby := Bd.bytes
  have hml : c.maxLocals = 2 := hml0
  have hown : s.vm.findClass "com/example/forehold/forehold/state/PlanIdsCountPinLaw" = some m.cls := findClass_of_methodNamed Bd.named
  have hnm := (name_of_methodNamed Bd.named Bd.method).1
  have hlk : meth.locks = false := BodyLoose.notSynchronized Bd
  have X0 : Stand p l e ({ frames := 0, cells := 0, slots := 0, locals := 0 } : Room) s m #[(.long q0)] below meth c s₁ [] 0 0 := Stand.of_body Bd
  have e0 : s₁.heap = h0 := by rw [← hh, Bd.state]; rfl
  have N0 := Fr.nil n0
  show GoesW p.tables e below s (Q2 Z q0 h0 n0) 0 0 (s₁.setTop (entryFrame m #[(.long q0)] 2))
  rw [ef_rm2 m q0]
  show GoesW p.tables e below s (Q2 Z q0 h0 n0) 0 0 (s₁.setTop (mkF m 0 #[.val (.long q0), .second] []))
  refine GoesW.step (fun _ k => XS.lloadN X0.here hx rfl (hb hby d2_0) rfl k) ?_
  show GoesW p.tables e below s (Q2 Z q0 h0 n0) 0 0 (s₁.setTop (mkF m 1 #[.val (.long q0), .second] [(.long q0)]))
  refine GoesW.step (fun _ k => XS.lconst X0.here hx rfl (hb hby d2_1) k) ?_
  show GoesW p.tables e below s (Q2 Z q0 h0 n0) 0 0 (s₁.setTop (mkF m 2 #[.val (.long q0), .second] [(.long (0 : Int64)), (.long q0)]))
  refine GoesW.step (fun _ k => XS.lcmp X0.here hx rfl (hb hby d2_2) rfl k) ?_
  show GoesW p.tables e below s (Q2 Z q0 h0 n0) 0 0 (s₁.setTop (mkF m 3 #[.val (.long q0), .second] [(.int (lcmpW q0 (0 : Int64)))]))
  by_cases h3 : (lcmpW q0 (0 : Int64)) = (0 : Int32)
  · skip
    refine GoesW.step (fun _ k => XS.ifNo X0.here hx rfl (hb hby d2_3) rfl ((if0 _ _).trans (teq h3).2) k) ?_
    show GoesW p.tables e below s (Q2 Z q0 h0 n0) 0 0 (s₁.setTop (mkF m 6 #[.val (.long q0), .second] []))
    refine GoesW.step (fun _ k => XS.iconst X0.here hx rfl (hb hby d2_6) k) ?_
    show GoesW p.tables e below s (Q2 Z q0 h0 n0) 0 0 (s₁.setTop (mkF m 7 #[.val (.long q0), .second] [(.int (0 : Int32))]))
    exact GoesW.retI X0 hx hlk Bd.returns (hb hby d2_7) (by show Q2 Z q0 h0 n0 _ s₁.heap _; rw [e0]; exact ⟨by rw [own_held, if_pos ((lw_eq _ _).mp h3)], N0, rfl⟩) (by decide) (by decide)
  · skip
    refine GoesW.step (fun _ k => XS.ifYes X0.here hx rfl (pc0 := 3) (pc' := 8) rfl (hb hby d2_3) rfl ((if0 _ _).trans (feq h3).2) (by decide) (by decide) k) ?_
    show GoesW p.tables e below s (Q2 Z q0 h0 n0) 0 0 (s₁.setTop (mkF m 8 #[.val (.long q0), .second] []))
    refine GoesW.step (fun _ k => XS.lloadN X0.here hx rfl (hb hby d2_8) rfl k) ?_
    show GoesW p.tables e below s (Q2 Z q0 h0 n0) 0 0 (s₁.setTop (mkF m 9 #[.val (.long q0), .second] [(.long q0)]))
    refine GoesW.step (fun _ k => XS.lconst X0.here hx rfl (hb hby d2_9) k) ?_
    show GoesW p.tables e below s (Q2 Z q0 h0 n0) 0 0 (s₁.setTop (mkF m 10 #[.val (.long q0), .second] [(.long (1 : Int64)), (.long q0)]))
    refine GoesW.step (fun _ k => XS.lcmp X0.here hx rfl (hb hby d2_10) rfl k) ?_
    show GoesW p.tables e below s (Q2 Z q0 h0 n0) 0 0 (s₁.setTop (mkF m 11 #[.val (.long q0), .second] [(.int (lcmpW q0 (1 : Int64)))]))
    by_cases h11 : (lcmpW q0 (1 : Int64)) = (0 : Int32)
    · skip
      refine GoesW.step (fun _ k => XS.ifNo X0.here hx rfl (hb hby d2_11) rfl ((if0 _ _).trans (teq h11).2) k) ?_
      show GoesW p.tables e below s (Q2 Z q0 h0 n0) 0 0 (s₁.setTop (mkF m 14 #[.val (.long q0), .second] []))
      refine GoesW.step (fun _ k => XS.iconst X0.here hx rfl (hb hby d2_14) k) ?_
      show GoesW p.tables e below s (Q2 Z q0 h0 n0) 0 0 (s₁.setTop (mkF m 15 #[.val (.long q0), .second] [(.int (0 : Int32))]))
      exact GoesW.retI X0 hx hlk Bd.returns (hb hby d2_15) (by show Q2 Z q0 h0 n0 _ s₁.heap _; rw [e0]; exact ⟨by rw [own_held, if_neg (fun q => h3 ((lw_eq _ _).mpr q)), if_pos ((lw_eq _ _).mp h11)], N0, rfl⟩) (by decide) (by decide)
    · skip
      refine GoesW.step (fun _ k => XS.ifYes X0.here hx rfl (pc0 := 11) (pc' := 16) rfl (hb hby d2_11) rfl ((if0 _ _).trans (feq h11).2) (by decide) (by decide) k) ?_
      show GoesW p.tables e below s (Q2 Z q0 h0 n0) 0 0 (s₁.setTop (mkF m 16 #[.val (.long q0), .second] []))
      refine GoesW.step (fun _ k => XS.iconst X0.here hx rfl (hb hby d2_16) k) ?_
      show GoesW p.tables e below s (Q2 Z q0 h0 n0) 0 0 (s₁.setTop (mkF m 17 #[.val (.long q0), .second] [(.int (1 : Int32))]))
      exact GoesW.retI X0 hx hlk Bd.returns (hb hby d2_17) (by show Q2 Z q0 h0 n0 _ s₁.heap _; rw [e0]; exact ⟨by rw [own_held, if_neg (fun q => h3 ((lw_eq _ _).mpr q)), if_neg (fun q => h11 ((lw_eq _ _).mpr q))], N0, rfl⟩) (by decide) (by decide)
theorem own_pn1 : plainName "com/example/forehold/forehold/state/PlanIds" = true := by first | (simp [plainName, overriddenIn]; done) | decide +kernel
theorem d3_0 : decode prog_254_method_6_code 0 = .ok (.iconst 0, 1) := by decide +kernel
theorem d3_1 : decode prog_254_method_6_code 1 = .ok (.istore_n 1, 1) := by decide +kernel
theorem d3_2 : decode prog_254_method_6_code 2 = .ok (.aload_n 0, 1) := by decide +kernel
theorem d3_3 : decode prog_254_method_6_code 3 = .ok (.astore_n 2, 1) := by decide +kernel
theorem d3_4 : decode prog_254_method_6_code 4 = .ok (.aload_n 2, 1) := by decide +kernel
theorem d3_5 : decode prog_254_method_6_code 5 = .ok (.arraylength, 1) := by decide +kernel
theorem d3_6 : decode prog_254_method_6_code 6 = .ok (.istore_n 3, 1) := by decide +kernel
theorem d3_7 : decode prog_254_method_6_code 7 = .ok (.iconst 0, 1) := by decide +kernel
theorem d3_8 : decode prog_254_method_6_code 8 = .ok (.istore 4, 2) := by decide +kernel
theorem d3_10 : decode prog_254_method_6_code 10 = .ok (.iload 4, 2) := by decide +kernel
theorem d3_12 : decode prog_254_method_6_code 12 = .ok (.iload_n 3, 1) := by decide +kernel
theorem d3_13 : decode prog_254_method_6_code 13 = .ok (.if_icmp .ge 37, 3) := by decide +kernel
theorem d3_16 : decode prog_254_method_6_code 16 = .ok (.aload_n 2, 1) := by decide +kernel
theorem d3_17 : decode prog_254_method_6_code 17 = .ok (.iload 4, 2) := by decide +kernel
theorem d3_19 : decode prog_254_method_6_code 19 = .ok (.laload, 1) := by decide +kernel
theorem d3_20 : decode prog_254_method_6_code 20 = .ok (.lstore 5, 2) := by decide +kernel
theorem d3_22 : decode prog_254_method_6_code 22 = .ok (.iload_n 1, 1) := by decide +kernel
theorem d3_23 : decode prog_254_method_6_code 23 = .ok (.lload 5, 2) := by decide +kernel
theorem d3_25 : decode prog_254_method_6_code 25 = .ok (.lconst 0, 1) := by decide +kernel
theorem d3_26 : decode prog_254_method_6_code 26 = .ok (.lcmp, 1) := by decide +kernel
theorem d3_27 : decode prog_254_method_6_code 27 = .ok (.ifCond .eq 14, 3) := by decide +kernel
theorem d3_30 : decode prog_254_method_6_code 30 = .ok (.lload 5, 2) := by decide +kernel
theorem d3_32 : decode prog_254_method_6_code 32 = .ok (.lconst 1, 1) := by decide +kernel
theorem d3_33 : decode prog_254_method_6_code 33 = .ok (.lcmp, 1) := by decide +kernel
theorem d3_34 : decode prog_254_method_6_code 34 = .ok (.ifCond .eq 7, 3) := by decide +kernel
theorem d3_37 : decode prog_254_method_6_code 37 = .ok (.iconst 1, 1) := by decide +kernel
theorem d3_38 : decode prog_254_method_6_code 38 = .ok (.goto 4, 3) := by decide +kernel
theorem d3_41 : decode prog_254_method_6_code 41 = .ok (.iconst 0, 1) := by decide +kernel
theorem d3_42 : decode prog_254_method_6_code 42 = .ok (.iadd, 1) := by decide +kernel
theorem d3_43 : decode prog_254_method_6_code 43 = .ok (.istore_n 1, 1) := by decide +kernel
theorem d3_44 : decode prog_254_method_6_code 44 = .ok (.iinc 4 1, 3) := by decide +kernel
theorem d3_47 : decode prog_254_method_6_code 47 = .ok (.goto (-37), 3) := by decide +kernel
theorem d3_50 : decode prog_254_method_6_code 50 = .ok (.iload_n 1, 1) := by decide +kernel
theorem d3_51 : decode prog_254_method_6_code 51 = .ok (.ireturn, 1) := by decide +kernel
theorem ef_rm3 (m : MethodId) (x0 : Addr) : entryFrame m #[(.ref x0)] 7 = mkF m 0 #[.val (.ref x0), .unset, .unset, .unset, .unset, .unset, .unset] [] := by first | (simp [entryFrame, mkF, argsToLocals, Value.category]; done) | rfl
def Q3 (Z : State) (r0 : Addr) (kk : ClassId) (n : Int32) (xs : List Int64) (dv : Value) (h0 : Heap) (n0 : Nat) (v : Option Value) (h : Heap) (L : List Loc) : Prop := v = some (.int (own_cnt xs)) ∧ Fr n0 L ∧ h = h0
set_option maxRecDepth 65536 in
set_option maxHeartbeats 40000000 in
theorem rm3 (l : Launch) (Z : State) (a0 : Array Value) (hw : ∀ d ∈ tables_1, d.before a0 Z = true) (ws : List Jvm.Cond) (r0 : Addr) (kk : ClassId) (n : Int32) (xs : List Int64) (dv : Value) (h0 : Heap) (n0 : Nat) (Z0 : n0 ≤ h0.size) (V0 : Arv Z h0 r0 kk .long n (xs.map Value.long) dv) (hn : n.toNatClampNeg = xs.length) :
    MetFree l (⟨"com/example/forehold/forehold/state/PlanIds", "count", "([J)I"⟩ : MethodName) (head1 (Jvm.Cond.code (⟨"com/example/forehold/forehold/state/PlanIds", "count", "([J)I"⟩ : MethodName) prog_254_method_6_code 7 (some .int) :: ws) ({ frames := 0, cells := 0, slots := 0, locals := 0 } : Room)) (fun a U => a = #[(.ref r0)] ∧ Z.Warmed39 U.vm ∧ U.heap = h0) (fun _ _ _ _ _ => True) (fun _ U o U' => ∃ v L, o = .returned v ∧ Q3 Z r0 kk n xs dv h0 n0 v U'.heap L ∧ FrameEnd U o U' L ({ frames := 0, cells := 0, slots := 0, locals := 0 } : Room).cells ({ frames := 0, cells := 0, slots := 0, locals := 0 } : Room).slots) := by
  refine MetFree.of_bodySF (plainFor_of_name own_pn1) hisR ?_
  intro p e s m args below meth c s₁ Bd hml0 hP hK
  obtain ⟨rfl, hZ, hh⟩ := hP
  have hx := Bd.exec
  have hby := Bd.bytes
  have hml : c.maxLocals = 7 := hml0
  have hown : s.vm.findClass "com/example/forehold/forehold/state/PlanIds" = some m.cls := findClass_of_methodNamed Bd.named
  have hnm := (name_of_methodNamed Bd.named Bd.method).1
  have hlk : meth.locks = false := BodyLoose.notSynchronized Bd
  have X0 : Stand p l e ({ frames := 0, cells := 0, slots := 0, locals := 0 } : Room) s m #[(.ref r0)] below meth c s₁ [] 0 0 := Stand.of_body Bd
  have e0 : s₁.heap = h0 := by rw [← hh, Bd.state]; rfl
  have N0 := Fr.nil n0
  show GoesW p.tables e below s (Q3 Z r0 kk n xs dv h0 n0) 0 0 (s₁.setTop (entryFrame m #[(.ref r0)] 7))
  rw [ef_rm3 m r0]
  show GoesW p.tables e below s (Q3 Z r0 kk n xs dv h0 n0) 0 0 (s₁.setTop (mkF m 0 #[.val (.ref r0), .unset, .unset, .unset, .unset, .unset, .unset] []))
  refine GoesW.step (fun _ k => XS.iconst X0.here hx rfl (hb hby d3_0) k) ?_
  show GoesW p.tables e below s (Q3 Z r0 kk n xs dv h0 n0) 0 0 (s₁.setTop (mkF m 1 #[.val (.ref r0), .unset, .unset, .unset, .unset, .unset, .unset] [(.int (0 : Int32))]))
  refine GoesW.step (fun _ k => XS.istoreN X0.here hx rfl (hb hby d3_1) rfl (l' := #[.val (.ref r0), .val (.int (0 : Int32)), .unset, .unset, .unset, .unset, .unset]) rfl k) ?_
  show GoesW p.tables e below s (Q3 Z r0 kk n xs dv h0 n0) 0 0 (s₁.setTop (mkF m 2 #[.val (.ref r0), .val (.int (0 : Int32)), .unset, .unset, .unset, .unset, .unset] []))
  refine GoesW.step (fun _ k => XS.aloadN X0.here hx rfl (hb hby d3_2) rfl rfl k) ?_
  show GoesW p.tables e below s (Q3 Z r0 kk n xs dv h0 n0) 0 0 (s₁.setTop (mkF m 3 #[.val (.ref r0), .val (.int (0 : Int32)), .unset, .unset, .unset, .unset, .unset] [(.ref r0)]))
  refine GoesW.step (fun _ k => XS.astoreN X0.here hx rfl (hb hby d3_3) rfl rfl (l' := #[.val (.ref r0), .val (.int (0 : Int32)), .val (.ref r0), .unset, .unset, .unset, .unset]) rfl k) ?_
  show GoesW p.tables e below s (Q3 Z r0 kk n xs dv h0 n0) 0 0 (s₁.setTop (mkF m 4 #[.val (.ref r0), .val (.int (0 : Int32)), .val (.ref r0), .unset, .unset, .unset, .unset] []))
  refine GoesW.step (fun _ k => XS.aloadN X0.here hx rfl (hb hby d3_4) rfl rfl k) ?_
  show GoesW p.tables e below s (Q3 Z r0 kk n xs dv h0 n0) 0 0 (s₁.setTop (mkF m 5 #[.val (.ref r0), .val (.int (0 : Int32)), .val (.ref r0), .unset, .unset, .unset, .unset] [(.ref r0)]))
  have vv1 := V0
  obtain ⟨cl1, Ar1, aq1, aS1, aN1, aH1, aG1⟩ := vv1
  refine GoesW.step (fun _ k => X0.arraylength hx (cell := cl1) (by rw [e0]; exact Ar1.1) (State.isArrayOf_alike hZ.alike Ar1.2.1) (g := (mkF m 5 #[.val (.ref r0), .val (.int (0 : Int32)), .val (.ref r0), .unset, .unset, .unset, .unset] [(.ref r0)])) rfl rfl (hb hby d3_5) _ k) ?_
  rw [len_of aS1 aN1]
  show GoesW p.tables e below s (Q3 Z r0 kk n xs dv h0 n0) 0 0 (s₁.setTop (mkF m 6 #[.val (.ref r0), .val (.int (0 : Int32)), .val (.ref r0), .unset, .unset, .unset, .unset] [(.int n)]))
  refine GoesW.step (fun _ k => XS.istoreN X0.here hx rfl (hb hby d3_6) rfl (l' := #[.val (.ref r0), .val (.int (0 : Int32)), .val (.ref r0), .val (.int n), .unset, .unset, .unset]) rfl k) ?_
  show GoesW p.tables e below s (Q3 Z r0 kk n xs dv h0 n0) 0 0 (s₁.setTop (mkF m 7 #[.val (.ref r0), .val (.int (0 : Int32)), .val (.ref r0), .val (.int n), .unset, .unset, .unset] []))
  refine GoesW.step (fun _ k => XS.iconst X0.here hx rfl (hb hby d3_7) k) ?_
  show GoesW p.tables e below s (Q3 Z r0 kk n xs dv h0 n0) 0 0 (s₁.setTop (mkF m 8 #[.val (.ref r0), .val (.int (0 : Int32)), .val (.ref r0), .val (.int n), .unset, .unset, .unset] [(.int (0 : Int32))]))
  refine GoesW.step (fun _ k => XS.istore X0.here hx rfl (hb hby d3_8) rfl (l' := #[.val (.ref r0), .val (.int (0 : Int32)), .val (.ref r0), .val (.int n), .val (.int (0 : Int32)), .unset, .unset]) rfl k) ?_
  show GoesW p.tables e below s (Q3 Z r0 kk n xs dv h0 n0) 0 0 (s₁.setTop (mkF m 10 #[.val (.ref r0), .val (.int (0 : Int32)), .val (.ref r0), .val (.int n), .val (.int (0 : Int32)), .unset, .unset] []))
  have vvA := V0
  obtain ⟨clA, ArA, aqA, aSA, aNA, aHA, aGA⟩ := vvA
  have hnI : n.toInt = (xs.length : Int) := own_len hn aNA
  have e00 : (0 : Int32).toInt = 0 := rfl
  have loop : ∀ (k j : Nat) (i acc : Int32) (s5 s6 : Slot) (TL : State) (LL : List Loc), Stand p l e ({ frames := 0, cells := 0, slots := 0, locals := 0 } : Room) s m #[(.ref r0)] below meth c TL LL 0 0 → TL.heap = h0 → Fr n0 LL → j + k = xs.length → i.toInt = (j : Int) → acc = own_cnt (xs.take j) → ((s5 = .unset ∧ s6 = .unset) ∨ ∃ x0 : Int64, s5 = .val (.long x0) ∧ s6 = .second) → GoesW p.tables e below s (Q3 Z r0 kk n xs dv h0 n0) 0 0 (TL.setTop (mkF m 10 #[.val (.ref r0), .val (.int acc), .val (.ref r0), .val (.int n), .val (.int i), s5, s6] [])) := by
    intro k
    induction k with
    | zero =>
      intro j i acc s5 s6 TL LL XL eL NL hk hi hacc hs
      have hge : ¬ i < n := by rw [Int32.lt_iff_toInt_lt]; omega
      show GoesW p.tables e below s (Q3 Z r0 kk n xs dv h0 n0) 0 0 (TL.setTop (mkF m 10 #[.val (.ref r0), .val (.int acc), .val (.ref r0), .val (.int n), .val (.int i), s5, s6] []))
      refine GoesW.step (fun _ k => XS.iload XL.here hx rfl (hb hby d3_10) rfl k) ?_
      show GoesW p.tables e below s (Q3 Z r0 kk n xs dv h0 n0) 0 0 (TL.setTop (mkF m 12 #[.val (.ref r0), .val (.int acc), .val (.ref r0), .val (.int n), .val (.int i), s5, s6] [(.int i)]))
      refine GoesW.step (fun _ k => XS.iloadN XL.here hx rfl (hb hby d3_12) rfl k) ?_
      show GoesW p.tables e below s (Q3 Z r0 kk n xs dv h0 n0) 0 0 (TL.setTop (mkF m 13 #[.val (.ref r0), .val (.int acc), .val (.ref r0), .val (.int n), .val (.int i), s5, s6] [(.int n), (.int i)]))
      refine GoesW.step (fun _ k => XS.icmpYes XL.here hx rfl (pc0 := 13) (pc' := 50) rfl (hb hby d3_13) rfl (flt hge).2.1 (by decide) (by decide) k) ?_
      show GoesW p.tables e below s (Q3 Z r0 kk n xs dv h0 n0) 0 0 (TL.setTop (mkF m 50 #[.val (.ref r0), .val (.int acc), .val (.ref r0), .val (.int n), .val (.int i), s5, s6] []))
      refine GoesW.step (fun _ k => XS.iloadN XL.here hx rfl (hb hby d3_50) rfl k) ?_
      show GoesW p.tables e below s (Q3 Z r0 kk n xs dv h0 n0) 0 0 (TL.setTop (mkF m 51 #[.val (.ref r0), .val (.int acc), .val (.ref r0), .val (.int n), .val (.int i), s5, s6] [(.int acc)]))
      exact GoesW.retI XL hx hlk Bd.returns (hb hby d3_51) (by show Q3 Z r0 kk n xs dv h0 n0 _ TL.heap _; rw [eL]; exact ⟨by rw [hacc, show j = xs.length by omega, List.take_length], NL, rfl⟩) (by decide) (by decide)
    | succ k ih =>
      intro j i acc s5 s6 TL LL XL eL NL hk hi hacc hs
      have hlt : i < n := by rw [Int32.lt_iff_toInt_lt]; omega
      have hi0 : ¬ i < 0 := by rw [Int32.lt_iff_toInt_lt]; omega
      have hj : j < xs.length := by omega
      show GoesW p.tables e below s (Q3 Z r0 kk n xs dv h0 n0) 0 0 (TL.setTop (mkF m 10 #[.val (.ref r0), .val (.int acc), .val (.ref r0), .val (.int n), .val (.int i), s5, s6] []))
      refine GoesW.step (fun _ k => XS.iload XL.here hx rfl (hb hby d3_10) rfl k) ?_
      show GoesW p.tables e below s (Q3 Z r0 kk n xs dv h0 n0) 0 0 (TL.setTop (mkF m 12 #[.val (.ref r0), .val (.int acc), .val (.ref r0), .val (.int n), .val (.int i), s5, s6] [(.int i)]))
      refine GoesW.step (fun _ k => XS.iloadN XL.here hx rfl (hb hby d3_12) rfl k) ?_
      show GoesW p.tables e below s (Q3 Z r0 kk n xs dv h0 n0) 0 0 (TL.setTop (mkF m 13 #[.val (.ref r0), .val (.int acc), .val (.ref r0), .val (.int n), .val (.int i), s5, s6] [(.int n), (.int i)]))
      refine GoesW.step (fun _ k => XS.icmpNo XL.here hx rfl (hb hby d3_13) rfl (tlt hlt).2.1 k) ?_
      show GoesW p.tables e below s (Q3 Z r0 kk n xs dv h0 n0) 0 0 (TL.setTop (mkF m 16 #[.val (.ref r0), .val (.int acc), .val (.ref r0), .val (.int n), .val (.int i), s5, s6] []))
      refine GoesW.step (fun _ k => XS.aloadN XL.here hx rfl (hb hby d3_16) rfl rfl k) ?_
      show GoesW p.tables e below s (Q3 Z r0 kk n xs dv h0 n0) 0 0 (TL.setTop (mkF m 17 #[.val (.ref r0), .val (.int acc), .val (.ref r0), .val (.int n), .val (.int i), s5, s6] [(.ref r0)]))
      refine GoesW.step (fun _ k => XS.iload XL.here hx rfl (hb hby d3_17) rfl k) ?_
      show GoesW p.tables e below s (Q3 Z r0 kk n xs dv h0 n0) 0 0 (TL.setTop (mkF m 19 #[.val (.ref r0), .val (.int acc), .val (.ref r0), .val (.int n), .val (.int i), s5, s6] [(.int i), (.ref r0)]))
      obtain ⟨x, hxj⟩ : ∃ x, x = xs.getD j 0 := ⟨_, rfl⟩
      have hgx : (xs.map Value.long).getD i.toNatClampNeg dv = .long x := by rw [own_clamp hi, hxj]; exact own_at xs dv j hj
      have vv2 := V0
      obtain ⟨cl2, Ar2, aq2, aS2, aN2, aH2, aG2⟩ := vv2
      have hin2 : ¬ (i < 0 ∨ cl2.slots.size ≤ (i).toNatClampNeg) := inb_of aS2 ⟨hi0, hlt⟩
      refine GoesW.step (fun _ k => XL.laload hx (j := i) (v := (.long x)) (by rw [eL]; exact Ar2.1) (State.isArrayOf_alike hZ.alike Ar2.2.1) Ar2.2.2 hin2 (Has.at aH2 hin2 hgx) (g := (mkF m 19 #[.val (.ref r0), .val (.int acc), .val (.ref r0), .val (.int n), .val (.int i), s5, s6] [(.int i), (.ref r0)])) rfl rfl (hb hby d3_19) _ k) ?_
      show GoesW p.tables e below s (Q3 Z r0 kk n xs dv h0 n0) 0 0 (TL.setTop (mkF m 20 #[.val (.ref r0), .val (.int acc), .val (.ref r0), .val (.int n), .val (.int i), s5, s6] [(.long x)]))
      have hst : storeLocals #[.val (.ref r0), .val (.int acc), .val (.ref r0), .val (.int n), .val (.int i), s5, s6] 5 (.long x) = some #[.val (.ref r0), .val (.int acc), .val (.ref r0), .val (.int n), .val (.int i), .val (.long x), .second] := by rcases hs with ⟨rfl, rfl⟩ | ⟨x0, rfl, rfl⟩ <;> rfl
      refine GoesW.step (fun _ k => XS.lstore XL.here hx rfl (hb hby d3_20) rfl (l' := #[.val (.ref r0), .val (.int acc), .val (.ref r0), .val (.int n), .val (.int i), .val (.long x), .second]) hst k) ?_
      show GoesW p.tables e below s (Q3 Z r0 kk n xs dv h0 n0) 0 0 (TL.setTop (mkF m 22 #[.val (.ref r0), .val (.int acc), .val (.ref r0), .val (.int n), .val (.int i), .val (.long x), .second] []))
      refine GoesW.step (fun _ k => XS.iloadN XL.here hx rfl (hb hby d3_22) rfl k) ?_
      show GoesW p.tables e below s (Q3 Z r0 kk n xs dv h0 n0) 0 0 (TL.setTop (mkF m 23 #[.val (.ref r0), .val (.int acc), .val (.ref r0), .val (.int n), .val (.int i), .val (.long x), .second] [(.int acc)]))
      refine GoesW.step (fun _ k => XS.lload XL.here hx rfl (hb hby d3_23) rfl k) ?_
      show GoesW p.tables e below s (Q3 Z r0 kk n xs dv h0 n0) 0 0 (TL.setTop (mkF m 25 #[.val (.ref r0), .val (.int acc), .val (.ref r0), .val (.int n), .val (.int i), .val (.long x), .second] [(.long x), (.int acc)]))
      refine GoesW.step (fun _ k => XS.lconst XL.here hx rfl (hb hby d3_25) k) ?_
      show GoesW p.tables e below s (Q3 Z r0 kk n xs dv h0 n0) 0 0 (TL.setTop (mkF m 26 #[.val (.ref r0), .val (.int acc), .val (.ref r0), .val (.int n), .val (.int i), .val (.long x), .second] [(.long (0 : Int64)), (.long x), (.int acc)]))
      refine GoesW.step (fun _ k => XS.lcmp XL.here hx rfl (hb hby d3_26) rfl k) ?_
      show GoesW p.tables e below s (Q3 Z r0 kk n xs dv h0 n0) 0 0 (TL.setTop (mkF m 27 #[.val (.ref r0), .val (.int acc), .val (.ref r0), .val (.int n), .val (.int i), .val (.long x), .second] [(.int (lcmpW x (0 : Int64))), (.int acc)]))
      have J42 : ∀ (TJ3 : State) (LJ3 : List Loc), Stand p l e ({ frames := 0, cells := 0, slots := 0, locals := 0 } : Room) s m #[(.ref r0)] below meth c TJ3 LJ3 0 0 → TJ3.heap = h0 → Fr n0 LJ3 → GoesW p.tables e below s (Q3 Z r0 kk n xs dv h0 n0) 0 0 (TJ3.setTop (mkF m 42 #[.val (.ref r0), .val (.int acc), .val (.ref r0), .val (.int n), .val (.int i), .val (.long x), .second] [(.int (own_held x)), (.int acc)])) := by
        intro TJ3 LJ3  XJ3 eJ3 NJ3 
        show GoesW p.tables e below s (Q3 Z r0 kk n xs dv h0 n0) 0 0 (TJ3.setTop (mkF m 42 #[.val (.ref r0), .val (.int acc), .val (.ref r0), .val (.int n), .val (.int i), .val (.long x), .second] [(.int (own_held x)), (.int acc)]))
        refine GoesW.step (fun _ k => XS.iadd XJ3.here hx rfl (hb hby d3_42) rfl k) ?_
        show GoesW p.tables e below s (Q3 Z r0 kk n xs dv h0 n0) 0 0 (TJ3.setTop (mkF m 43 #[.val (.ref r0), .val (.int acc), .val (.ref r0), .val (.int n), .val (.int i), .val (.long x), .second] [(.int (acc + (own_held x)))]))
        refine GoesW.step (fun _ k => XS.istoreN XJ3.here hx rfl (hb hby d3_43) rfl (l' := #[.val (.ref r0), .val (.int (acc + (own_held x))), .val (.ref r0), .val (.int n), .val (.int i), .val (.long x), .second]) rfl k) ?_
        show GoesW p.tables e below s (Q3 Z r0 kk n xs dv h0 n0) 0 0 (TJ3.setTop (mkF m 44 #[.val (.ref r0), .val (.int (acc + (own_held x))), .val (.ref r0), .val (.int n), .val (.int i), .val (.long x), .second] []))
        refine GoesW.step (fun _ k => XS.iinc XJ3.here hx rfl (hb hby d3_44) rfl (l' := #[.val (.ref r0), .val (.int (acc + (own_held x))), .val (.ref r0), .val (.int n), .val (.int (i + (1 : Int32))), .val (.long x), .second]) rfl k) ?_
        show GoesW p.tables e below s (Q3 Z r0 kk n xs dv h0 n0) 0 0 (TJ3.setTop (mkF m 47 #[.val (.ref r0), .val (.int (acc + (own_held x))), .val (.ref r0), .val (.int n), .val (.int (i + (1 : Int32))), .val (.long x), .second] []))
        refine GoesW.step (fun _ k => XS.goto XJ3.here hx rfl (pc0 := 47) (pc' := 10) rfl (hb hby d3_47) (by decide) (by decide) k) ?_
        show GoesW p.tables e below s (Q3 Z r0 kk n xs dv h0 n0) 0 0 (TJ3.setTop (mkF m 10 #[.val (.ref r0), .val (.int (acc + (own_held x))), .val (.ref r0), .val (.int n), .val (.int (i + (1 : Int32))), .val (.long x), .second] []))
        exact ih (j + 1) _ _ _ _ _ _ XJ3 eJ3 NJ3 (by omega) (own_inc hi (by rw [← Int32.lt_iff_toInt_lt]; exact hlt)) (by rw [own_cnt_step xs j hj, ← hacc, ← hxj]) (Or.inr ⟨_, rfl, rfl⟩)
      by_cases h27 : (lcmpW x (0 : Int64)) = (0 : Int32)
      · skip
        refine GoesW.step (fun _ k => XS.ifYes XL.here hx rfl (pc0 := 27) (pc' := 41) rfl (hb hby d3_27) rfl ((if0 _ _).trans (teq h27).1) (by decide) (by decide) k) ?_
        show GoesW p.tables e below s (Q3 Z r0 kk n xs dv h0 n0) 0 0 (TL.setTop (mkF m 41 #[.val (.ref r0), .val (.int acc), .val (.ref r0), .val (.int n), .val (.int i), .val (.long x), .second] [(.int acc)]))
        refine GoesW.step (fun _ k => XS.iconst XL.here hx rfl (hb hby d3_41) k) ?_
        show GoesW p.tables e below s (Q3 Z r0 kk n xs dv h0 n0) 0 0 (TL.setTop (mkF m 42 #[.val (.ref r0), .val (.int acc), .val (.ref r0), .val (.int n), .val (.int i), .val (.long x), .second] [(.int (0 : Int32)), (.int acc)]))
        rw [show (0 : Int32) = (own_held x) from (by rw [own_held, if_pos ((lw_eq _ _).mp h27)])]
        show GoesW p.tables e below s (Q3 Z r0 kk n xs dv h0 n0) 0 0 (TL.setTop (mkF m 42 #[.val (.ref r0), .val (.int acc), .val (.ref r0), .val (.int n), .val (.int i), .val (.long x), .second] [(.int (own_held x)), (.int acc)]))
        exact J42 _ _  XL eL NL 
      · skip
        refine GoesW.step (fun _ k => XS.ifNo XL.here hx rfl (hb hby d3_27) rfl ((if0 _ _).trans (feq h27).1) k) ?_
        show GoesW p.tables e below s (Q3 Z r0 kk n xs dv h0 n0) 0 0 (TL.setTop (mkF m 30 #[.val (.ref r0), .val (.int acc), .val (.ref r0), .val (.int n), .val (.int i), .val (.long x), .second] [(.int acc)]))
        refine GoesW.step (fun _ k => XS.lload XL.here hx rfl (hb hby d3_30) rfl k) ?_
        show GoesW p.tables e below s (Q3 Z r0 kk n xs dv h0 n0) 0 0 (TL.setTop (mkF m 32 #[.val (.ref r0), .val (.int acc), .val (.ref r0), .val (.int n), .val (.int i), .val (.long x), .second] [(.long x), (.int acc)]))
        refine GoesW.step (fun _ k => XS.lconst XL.here hx rfl (hb hby d3_32) k) ?_
        show GoesW p.tables e below s (Q3 Z r0 kk n xs dv h0 n0) 0 0 (TL.setTop (mkF m 33 #[.val (.ref r0), .val (.int acc), .val (.ref r0), .val (.int n), .val (.int i), .val (.long x), .second] [(.long (1 : Int64)), (.long x), (.int acc)]))
        refine GoesW.step (fun _ k => XS.lcmp XL.here hx rfl (hb hby d3_33) rfl k) ?_
        show GoesW p.tables e below s (Q3 Z r0 kk n xs dv h0 n0) 0 0 (TL.setTop (mkF m 34 #[.val (.ref r0), .val (.int acc), .val (.ref r0), .val (.int n), .val (.int i), .val (.long x), .second] [(.int (lcmpW x (1 : Int64))), (.int acc)]))
        by_cases h34 : (lcmpW x (1 : Int64)) = (0 : Int32)
        · skip
          refine GoesW.step (fun _ k => XS.ifYes XL.here hx rfl (pc0 := 34) (pc' := 41) rfl (hb hby d3_34) rfl ((if0 _ _).trans (teq h34).1) (by decide) (by decide) k) ?_
          show GoesW p.tables e below s (Q3 Z r0 kk n xs dv h0 n0) 0 0 (TL.setTop (mkF m 41 #[.val (.ref r0), .val (.int acc), .val (.ref r0), .val (.int n), .val (.int i), .val (.long x), .second] [(.int acc)]))
          refine GoesW.step (fun _ k => XS.iconst XL.here hx rfl (hb hby d3_41) k) ?_
          show GoesW p.tables e below s (Q3 Z r0 kk n xs dv h0 n0) 0 0 (TL.setTop (mkF m 42 #[.val (.ref r0), .val (.int acc), .val (.ref r0), .val (.int n), .val (.int i), .val (.long x), .second] [(.int (0 : Int32)), (.int acc)]))
          rw [show (0 : Int32) = (own_held x) from (by rw [own_held, if_neg (fun q => h27 ((lw_eq _ _).mpr q)), if_pos ((lw_eq _ _).mp h34)])]
          show GoesW p.tables e below s (Q3 Z r0 kk n xs dv h0 n0) 0 0 (TL.setTop (mkF m 42 #[.val (.ref r0), .val (.int acc), .val (.ref r0), .val (.int n), .val (.int i), .val (.long x), .second] [(.int (own_held x)), (.int acc)]))
          exact J42 _ _  XL eL NL 
        · skip
          refine GoesW.step (fun _ k => XS.ifNo XL.here hx rfl (hb hby d3_34) rfl ((if0 _ _).trans (feq h34).1) k) ?_
          show GoesW p.tables e below s (Q3 Z r0 kk n xs dv h0 n0) 0 0 (TL.setTop (mkF m 37 #[.val (.ref r0), .val (.int acc), .val (.ref r0), .val (.int n), .val (.int i), .val (.long x), .second] [(.int acc)]))
          refine GoesW.step (fun _ k => XS.iconst XL.here hx rfl (hb hby d3_37) k) ?_
          show GoesW p.tables e below s (Q3 Z r0 kk n xs dv h0 n0) 0 0 (TL.setTop (mkF m 38 #[.val (.ref r0), .val (.int acc), .val (.ref r0), .val (.int n), .val (.int i), .val (.long x), .second] [(.int (1 : Int32)), (.int acc)]))
          refine GoesW.step (fun _ k => XS.goto XL.here hx rfl (pc0 := 38) (pc' := 42) rfl (hb hby d3_38) (by decide) (by decide) k) ?_
          show GoesW p.tables e below s (Q3 Z r0 kk n xs dv h0 n0) 0 0 (TL.setTop (mkF m 42 #[.val (.ref r0), .val (.int acc), .val (.ref r0), .val (.int n), .val (.int i), .val (.long x), .second] [(.int (1 : Int32)), (.int acc)]))
          rw [show (1 : Int32) = (own_held x) from (by rw [own_held, if_neg (fun q => h27 ((lw_eq _ _).mpr q)), if_neg (fun q => h34 ((lw_eq _ _).mpr q))])]
          show GoesW p.tables e below s (Q3 Z r0 kk n xs dv h0 n0) 0 0 (TL.setTop (mkF m 42 #[.val (.ref r0), .val (.int acc), .val (.ref r0), .val (.int n), .val (.int i), .val (.long x), .second] [(.int (own_held x)), (.int acc)]))
          exact J42 _ _  XL eL NL 
  exact loop xs.length 0 _ _ _ _ _ _ X0 e0 N0 (by omega) rfl rfl (Or.inl ⟨rfl, rfl⟩)
theorem own_pd0 : parseMethodDescriptor "(IIJ)J" = some ⟨[.int, .int, .long], some .long⟩ := by decide +kernel
theorem own_pd1 : parseMethodDescriptor "(J)I" = some ⟨[.long], some .int⟩ := by decide +kernel
theorem own_pd2 : parseMethodDescriptor "([J)I" = some ⟨[(.array .long)], some .int⟩ := by decide +kernel
theorem ef_rm0 (m : MethodId) (x0 : Int32) (x1 : Int64) (x2 : Int64) (x3 : Int64) (x4 : Int64) (x5 : Int64) : entryFrame m #[(.int x0), (.long x1), (.long x2), (.long x3), (.long x4), (.long x5)] maxLocals = mkF m 0 #[.val (.int x0), .val (.long x1), .second, .val (.long x2), .second, .val (.long x3), .second, .val (.long x4), .second, .val (.long x5), .second, .unset, .unset, .unset] [] := by first | (simp [entryFrame, mkF, argsToLocals, Value.category, maxLocals]; done) | rfl
def Q0 (Z : State) (p0 : Int32) (q1 : Int64) (q2 : Int64) (q3 : Int64) (q4 : Int64) (q5 : Int64) (h0 : Heap) (n0 : Nat) (v : Option Value) (h : Heap) (L : List Loc) : Prop := v = some (.int (1 : Int32)) ∧ Fr n0 L
set_option maxRecDepth 65536 in
set_option maxHeartbeats 40000000 in
theorem rm0 (l : Launch) (Z : State) (a0 : Array Value) (hw : ∀ d ∈ tables_1, d.before a0 Z = true) (ws : List Jvm.Cond) (p0 : Int32) (q1 : Int64) (q2 : Int64) (q3 : Int64) (q4 : Int64) (q5 : Int64) (h0 : Heap) (n0 : Nat) (Z0 : n0 ≤ h0.size)  :
    MetFree l x (head1 (Jvm.Cond.code x code maxLocals ret :: ws) room_1) (fun a U => a = #[(.int p0), (.long q1), (.long q2), (.long q3), (.long q4), (.long q5)] ∧ Z.Warmed39 U.vm ∧ U.heap = h0) (fun _ _ _ _ _ => True) (fun _ U o U' => ∃ v L, o = .returned v ∧ Q0 Z p0 q1 q2 q3 q4 q5 h0 n0 v U'.heap L ∧ FrameEnd U o U' L room_1.cells room_1.slots) := by
  refine MetFree.of_bodySF (plainFor_of_name own_pn0) hisR ?_
  intro p e s m args below meth c s₁ Bd hml0 hP hK
  obtain ⟨rfl, hZ, hh⟩ := hP
  have hx := Bd.exec
  have hby := Bd.bytes
  have hml : c.maxLocals = 14 := hml0
  have hown : s.vm.findClass "com/example/forehold/forehold/state/PlanIdsCountPinLaw" = some m.cls := findClass_of_methodNamed Bd.named
  have hnm := (name_of_methodNamed Bd.named Bd.method).1
  have hlk : meth.locks = false := BodyLoose.notSynchronized Bd
  have X0 : Stand p l e room_1 s m #[(.int p0), (.long q1), (.long q2), (.long q3), (.long q4), (.long q5)] below meth c s₁ [] 0 0 := Stand.of_body Bd
  have e0 : s₁.heap = h0 := by rw [← hh, Bd.state]; rfl
  have N0 := Fr.nil n0
  show GoesW p.tables e below s (Q0 Z p0 q1 q2 q3 q4 q5 h0 n0) room_1.cells room_1.slots (s₁.setTop (entryFrame m #[(.int p0), (.long q1), (.long q2), (.long q3), (.long q4), (.long q5)] maxLocals))
  rw [ef_rm0 m p0 q1 q2 q3 q4 q5]
  show GoesW p.tables e below s (Q0 Z p0 q1 q2 q3 q4 q5 h0 n0) room_1.cells room_1.slots (s₁.setTop (mkF m 0 #[.val (.int p0), .val (.long q1), .second, .val (.long q2), .second, .val (.long q3), .second, .val (.long q4), .second, .val (.long q5), .second, .unset, .unset, .unset] []))
  refine GoesW.step (fun _ k => XS.iconst X0.here hx rfl (hb hby at_0) k) ?_
  show GoesW p.tables e below s (Q0 Z p0 q1 q2 q3 q4 q5 h0 n0) room_1.cells room_1.slots (s₁.setTop (mkF m 1 #[.val (.int p0), .val (.long q1), .second, .val (.long q2), .second, .val (.long q3), .second, .val (.long q4), .second, .val (.long q5), .second, .unset, .unset, .unset] [(.int (5 : Int32))]))
  obtain ⟨T1, h1, k1, X1, e1, E1, A1, st1⟩ := newP X0 hx hZ (hw _ (List.mem_of_getElem? (i := 0) rfl)) e0 (g := (mkF m 1 #[.val (.int p0), .val (.long q1), .second, .val (.long q2), .second, .val (.long q3), .second, .val (.long q4), .second, .val (.long q5), .second, .unset, .unset, .unset] [(.int (5 : Int32))])) rfl (hb hby at_1) rfl (by decide) (cap := 5) (by decide) (by decide) (by decide) (by decide)
  obtain ⟨ks, gs1⟩ : ∃ z, z = h0.size := ⟨_, rfl⟩
  rw [← gs1] at A1 st1
  have g_ks : n0 ≤ ks := Nat.le_trans Z0 (Nat.le_of_eq gs1.symm)
  have Z1 : n0 ≤ h1.size := Nat.le_trans Z0 E1.1
  have V_ks : Arv Z h1 ks k1 .long (5 : Int32) [(.long (0 : Int64)), (.long (0 : Int64)), (.long (0 : Int64)), (.long (0 : Int64)), (.long (0 : Int64))] (.long (0 : Int64)) := (Arv.new A1 (by decide)).pad (pad_rep [] (.long (0 : Int64)) 5)
  refine GoesW.step st1 ?_
  show GoesW p.tables e below s (Q0 Z p0 q1 q2 q3 q4 q5 h0 n0) room_1.cells room_1.slots (T1.setTop (mkF m 3 #[.val (.int p0), .val (.long q1), .second, .val (.long q2), .second, .val (.long q3), .second, .val (.long q4), .second, .val (.long q5), .second, .unset, .unset, .unset] [(.ref ks)]))
  refine GoesW.step (fun _ k => XS.astore X1.here hx rfl (hb hby at_3) rfl rfl (l' := #[.val (.int p0), .val (.long q1), .second, .val (.long q2), .second, .val (.long q3), .second, .val (.long q4), .second, .val (.long q5), .second, .val (.ref ks), .unset, .unset]) rfl k) ?_
  show GoesW p.tables e below s (Q0 Z p0 q1 q2 q3 q4 q5 h0 n0) room_1.cells room_1.slots (T1.setTop (mkF m 5 #[.val (.int p0), .val (.long q1), .second, .val (.long q2), .second, .val (.long q3), .second, .val (.long q4), .second, .val (.long q5), .second, .val (.ref ks), .unset, .unset] []))
  refine GoesW.step (fun _ k => XS.aload X1.here hx rfl (hb hby at_5) rfl rfl k) ?_
  show GoesW p.tables e below s (Q0 Z p0 q1 q2 q3 q4 q5 h0 n0) room_1.cells room_1.slots (T1.setTop (mkF m 7 #[.val (.int p0), .val (.long q1), .second, .val (.long q2), .second, .val (.long q3), .second, .val (.long q4), .second, .val (.long q5), .second, .val (.ref ks), .unset, .unset] [(.ref ks)]))
  refine GoesW.step (fun _ k => XS.iconst X1.here hx rfl (hb hby at_7) k) ?_
  show GoesW p.tables e below s (Q0 Z p0 q1 q2 q3 q4 q5 h0 n0) room_1.cells room_1.slots (T1.setTop (mkF m 8 #[.val (.int p0), .val (.long q1), .second, .val (.long q2), .second, .val (.long q3), .second, .val (.long q4), .second, .val (.long q5), .second, .val (.ref ks), .unset, .unset] [(.int (0 : Int32)), (.ref ks)]))
  refine GoesW.step (fun _ k => XS.iloadN X1.here hx rfl (hb hby at_8) rfl k) ?_
  show GoesW p.tables e below s (Q0 Z p0 q1 q2 q3 q4 q5 h0 n0) room_1.cells room_1.slots (T1.setTop (mkF m 9 #[.val (.int p0), .val (.long q1), .second, .val (.long q2), .second, .val (.long q3), .second, .val (.long q4), .second, .val (.long q5), .second, .val (.ref ks), .unset, .unset] [(.int p0), (.int (0 : Int32)), (.ref ks)]))
  refine GoesW.step (fun _ k => XS.iconst X1.here hx rfl (hb hby at_9) k) ?_
  show GoesW p.tables e below s (Q0 Z p0 q1 q2 q3 q4 q5 h0 n0) room_1.cells room_1.slots (T1.setTop (mkF m 10 #[.val (.int p0), .val (.long q1), .second, .val (.long q2), .second, .val (.long q3), .second, .val (.long q4), .second, .val (.long q5), .second, .val (.ref ks), .unset, .unset] [(.int (0 : Int32)), (.int p0), (.int (0 : Int32)), (.ref ks)]))
  refine GoesW.step (fun _ k => XS.lloadN X1.here hx rfl (hb hby at_10) rfl k) ?_
  show GoesW p.tables e below s (Q0 Z p0 q1 q2 q3 q4 q5 h0 n0) room_1.cells room_1.slots (T1.setTop (mkF m 11 #[.val (.int p0), .val (.long q1), .second, .val (.long q2), .second, .val (.long q3), .second, .val (.long q4), .second, .val (.long q5), .second, .val (.ref ks), .unset, .unset] [(.long q1), (.int (0 : Int32)), (.int p0), (.int (0 : Int32)), (.ref ks)]))
  obtain ⟨_, _, ⟨T2, L2, k2, n2⟩, -, X2, ⟨Lc2, hQ2, l2, y2, z2⟩, st2⟩ := Jvm.LawKit.callS X1 hx (y := (⟨"com/example/forehold/forehold/state/PlanIdsCountPinLaw", "pick", "(IIJ)J"⟩ : MethodName)) hown (mvT hZ (hw _ (List.mem_of_getElem? (i := 1) rfl))) (mvT hZ (hw _ (List.mem_of_getElem? (i := 2) rfl))) (mvT hZ (hw _ (List.mem_of_getElem? (i := 3) rfl))) (mvT hZ (hw _ (List.mem_of_getElem? (i := 4) rfl))) (by decide) (backOf (W := 2) (rm1 l Z a0 hw [] p0 (0 : Int32) q1  h1 n0 Z1 ) hZ (hw _ (List.mem_of_getElem? (i := 4) rfl)) (hw _ (List.mem_of_getElem? (i := 3) rfl)) (by decide) (by decide)) (g := (mkF m 11 #[.val (.int p0), .val (.long q1), .second, .val (.long q2), .second, .val (.long q3), .second, .val (.long q4), .second, .val (.long q5), .second, .val (.ref ks), .unset, .unset] [(.long q1), (.int (0 : Int32)), (.int p0), (.int (0 : Int32)), (.ref ks)])) rfl (by rw [hml]; rfl) (argsL := [(.int p0), (.int (0 : Int32)), (.long q1)]) (rest := [(.int (0 : Int32)), (.ref ks)]) (lenOf own_pd0 rfl) rfl (by show 2 * 0 + _ ≤ _; exact Nat.le_of_eq rfl) (hb hby at_11) (fun _ _ => ⟨rfl, e1, (by decide : 1 + 0 ≤ _), (by decide : 5 + 0 ≤ _)⟩)
  dsimp only [Pt.U, Pt.locs, Pt.cells, Pt.slots] at X2 l2 y2 z2 st2 hQ2
  subst l2 y2 z2
  obtain ⟨⟨z2, rfl⟩, N2q, eq2⟩ := hQ2
  have N2 := Fr.app N0 N2q
  refine GoesW.step st2 ?_
  show GoesW p.tables e below s (Q0 Z p0 q1 q2 q3 q4 q5 h0 n0) room_1.cells room_1.slots (T2.setTop (mkF m 14 #[.val (.int p0), .val (.long q1), .second, .val (.long q2), .second, .val (.long q3), .second, .val (.long q4), .second, .val (.long q5), .second, .val (.ref ks), .unset, .unset] [(.long z2), (.int (0 : Int32)), (.ref ks)]))
  have vv3 := V_ks
  obtain ⟨cl3, Ar3, aq3, aS3, aN3, aH3, aG3⟩ := vv3
  have hin3 : ¬ ((0 : Int32) < 0 ∨ cl3.slots.size ≤ ((0 : Int32)).toNatClampNeg) := inb_of aS3 ⟨by decide, by decide⟩
  obtain ⟨T4, h4, X4, e4, W4, st4⟩ := stJ X2 hx hZ eq2 Ar3 (j := (0 : Int32)) hin3 (g := (mkF m 14 #[.val (.int p0), .val (.long q1), .second, .val (.long q2), .second, .val (.long q3), .second, .val (.long q4), .second, .val (.long q5), .second, .val (.ref ks), .unset, .unset] [(.long z2), (.int (0 : Int32)), (.ref ks)])) rfl rfl (hb hby at_14)
  have V4 : Arv Z h4 ks k1 .long (5 : Int32) [(.long z2), (.long (0 : Int64)), (.long (0 : Int64)), (.long (0 : Int64)), (.long (0 : Int64))] (.long (0 : Int64)) := Arv.set Ar3 aq3 aS3 aN3 aH3 aG3 rfl W4 0 rfl (Nat.le_of_ble_eq_true rfl)
  have N4 := Fr.snoc X4 N2 g_ks
  have Z4 : n0 ≤ h4.size := Nat.le_trans Z1 (Keep.of_wr W4).1
  refine GoesW.step st4 ?_
  show GoesW p.tables e below s (Q0 Z p0 q1 q2 q3 q4 q5 h0 n0) room_1.cells room_1.slots (T4.setTop (mkF m 15 #[.val (.int p0), .val (.long q1), .second, .val (.long q2), .second, .val (.long q3), .second, .val (.long q4), .second, .val (.long q5), .second, .val (.ref ks), .unset, .unset] []))
  refine GoesW.step (fun _ k => XS.aload X4.here hx rfl (hb hby at_15) rfl rfl k) ?_
  show GoesW p.tables e below s (Q0 Z p0 q1 q2 q3 q4 q5 h0 n0) room_1.cells room_1.slots (T4.setTop (mkF m 17 #[.val (.int p0), .val (.long q1), .second, .val (.long q2), .second, .val (.long q3), .second, .val (.long q4), .second, .val (.long q5), .second, .val (.ref ks), .unset, .unset] [(.ref ks)]))
  refine GoesW.step (fun _ k => XS.iconst X4.here hx rfl (hb hby at_17) k) ?_
  show GoesW p.tables e below s (Q0 Z p0 q1 q2 q3 q4 q5 h0 n0) room_1.cells room_1.slots (T4.setTop (mkF m 18 #[.val (.int p0), .val (.long q1), .second, .val (.long q2), .second, .val (.long q3), .second, .val (.long q4), .second, .val (.long q5), .second, .val (.ref ks), .unset, .unset] [(.int (1 : Int32)), (.ref ks)]))
  refine GoesW.step (fun _ k => XS.iloadN X4.here hx rfl (hb hby at_18) rfl k) ?_
  show GoesW p.tables e below s (Q0 Z p0 q1 q2 q3 q4 q5 h0 n0) room_1.cells room_1.slots (T4.setTop (mkF m 19 #[.val (.int p0), .val (.long q1), .second, .val (.long q2), .second, .val (.long q3), .second, .val (.long q4), .second, .val (.long q5), .second, .val (.ref ks), .unset, .unset] [(.int p0), (.int (1 : Int32)), (.ref ks)]))
  refine GoesW.step (fun _ k => XS.iconst X4.here hx rfl (hb hby at_19) k) ?_
  show GoesW p.tables e below s (Q0 Z p0 q1 q2 q3 q4 q5 h0 n0) room_1.cells room_1.slots (T4.setTop (mkF m 20 #[.val (.int p0), .val (.long q1), .second, .val (.long q2), .second, .val (.long q3), .second, .val (.long q4), .second, .val (.long q5), .second, .val (.ref ks), .unset, .unset] [(.int (1 : Int32)), (.int p0), (.int (1 : Int32)), (.ref ks)]))
  refine GoesW.step (fun _ k => XS.lloadN X4.here hx rfl (hb hby at_20) rfl k) ?_
  show GoesW p.tables e below s (Q0 Z p0 q1 q2 q3 q4 q5 h0 n0) room_1.cells room_1.slots (T4.setTop (mkF m 21 #[.val (.int p0), .val (.long q1), .second, .val (.long q2), .second, .val (.long q3), .second, .val (.long q4), .second, .val (.long q5), .second, .val (.ref ks), .unset, .unset] [(.long q2), (.int (1 : Int32)), (.int p0), (.int (1 : Int32)), (.ref ks)]))
  obtain ⟨_, _, ⟨T5, L5, k5, n5⟩, -, X5, ⟨Lc5, hQ5, l5, y5, z5⟩, st5⟩ := Jvm.LawKit.callS X4 hx (y := (⟨"com/example/forehold/forehold/state/PlanIdsCountPinLaw", "pick", "(IIJ)J"⟩ : MethodName)) hown (mvT hZ (hw _ (List.mem_of_getElem? (i := 1) rfl))) (mvT hZ (hw _ (List.mem_of_getElem? (i := 2) rfl))) (mvT hZ (hw _ (List.mem_of_getElem? (i := 3) rfl))) (mvT hZ (hw _ (List.mem_of_getElem? (i := 4) rfl))) (by decide) (backOf (W := 2) (rm1 l Z a0 hw [] p0 (1 : Int32) q2  h4 n0 Z4 ) hZ (hw _ (List.mem_of_getElem? (i := 4) rfl)) (hw _ (List.mem_of_getElem? (i := 3) rfl)) (by decide) (by decide)) (g := (mkF m 21 #[.val (.int p0), .val (.long q1), .second, .val (.long q2), .second, .val (.long q3), .second, .val (.long q4), .second, .val (.long q5), .second, .val (.ref ks), .unset, .unset] [(.long q2), (.int (1 : Int32)), (.int p0), (.int (1 : Int32)), (.ref ks)])) rfl (by rw [hml]; rfl) (argsL := [(.int p0), (.int (1 : Int32)), (.long q2)]) (rest := [(.int (1 : Int32)), (.ref ks)]) (lenOf own_pd0 rfl) rfl (by show 2 * 0 + _ ≤ _; exact Nat.le_of_eq rfl) (hb hby at_21) (fun _ _ => ⟨rfl, e4, (by decide : 1 + 0 ≤ _), (by decide : 5 + 0 ≤ _)⟩)
  dsimp only [Pt.U, Pt.locs, Pt.cells, Pt.slots] at X5 l5 y5 z5 st5 hQ5
  subst l5 y5 z5
  obtain ⟨⟨z5, rfl⟩, N5q, eq5⟩ := hQ5
  have N5 := Fr.app N4 N5q
  refine GoesW.step st5 ?_
  show GoesW p.tables e below s (Q0 Z p0 q1 q2 q3 q4 q5 h0 n0) room_1.cells room_1.slots (T5.setTop (mkF m 24 #[.val (.int p0), .val (.long q1), .second, .val (.long q2), .second, .val (.long q3), .second, .val (.long q4), .second, .val (.long q5), .second, .val (.ref ks), .unset, .unset] [(.long z5), (.int (1 : Int32)), (.ref ks)]))
  have vv6 := V4
  obtain ⟨cl6, Ar6, aq6, aS6, aN6, aH6, aG6⟩ := vv6
  have hin6 : ¬ ((1 : Int32) < 0 ∨ cl6.slots.size ≤ ((1 : Int32)).toNatClampNeg) := inb_of aS6 ⟨by decide, by decide⟩
  obtain ⟨T7, h7, X7, e7, W7, st7⟩ := stJ X5 hx hZ eq5 Ar6 (j := (1 : Int32)) hin6 (g := (mkF m 24 #[.val (.int p0), .val (.long q1), .second, .val (.long q2), .second, .val (.long q3), .second, .val (.long q4), .second, .val (.long q5), .second, .val (.ref ks), .unset, .unset] [(.long z5), (.int (1 : Int32)), (.ref ks)])) rfl rfl (hb hby at_24)
  have V7 : Arv Z h7 ks k1 .long (5 : Int32) [(.long z2), (.long z5), (.long (0 : Int64)), (.long (0 : Int64)), (.long (0 : Int64))] (.long (0 : Int64)) := Arv.set Ar6 aq6 aS6 aN6 aH6 aG6 rfl W7 1 rfl (Nat.le_of_ble_eq_true rfl)
  have N7 := Fr.snoc X7 N5 g_ks
  have Z7 : n0 ≤ h7.size := Nat.le_trans Z4 (Keep.of_wr W7).1
  refine GoesW.step st7 ?_
  show GoesW p.tables e below s (Q0 Z p0 q1 q2 q3 q4 q5 h0 n0) room_1.cells room_1.slots (T7.setTop (mkF m 25 #[.val (.int p0), .val (.long q1), .second, .val (.long q2), .second, .val (.long q3), .second, .val (.long q4), .second, .val (.long q5), .second, .val (.ref ks), .unset, .unset] []))
  refine GoesW.step (fun _ k => XS.aload X7.here hx rfl (hb hby at_25) rfl rfl k) ?_
  show GoesW p.tables e below s (Q0 Z p0 q1 q2 q3 q4 q5 h0 n0) room_1.cells room_1.slots (T7.setTop (mkF m 27 #[.val (.int p0), .val (.long q1), .second, .val (.long q2), .second, .val (.long q3), .second, .val (.long q4), .second, .val (.long q5), .second, .val (.ref ks), .unset, .unset] [(.ref ks)]))
  refine GoesW.step (fun _ k => XS.iconst X7.here hx rfl (hb hby at_27) k) ?_
  show GoesW p.tables e below s (Q0 Z p0 q1 q2 q3 q4 q5 h0 n0) room_1.cells room_1.slots (T7.setTop (mkF m 28 #[.val (.int p0), .val (.long q1), .second, .val (.long q2), .second, .val (.long q3), .second, .val (.long q4), .second, .val (.long q5), .second, .val (.ref ks), .unset, .unset] [(.int (2 : Int32)), (.ref ks)]))
  refine GoesW.step (fun _ k => XS.iloadN X7.here hx rfl (hb hby at_28) rfl k) ?_
  show GoesW p.tables e below s (Q0 Z p0 q1 q2 q3 q4 q5 h0 n0) room_1.cells room_1.slots (T7.setTop (mkF m 29 #[.val (.int p0), .val (.long q1), .second, .val (.long q2), .second, .val (.long q3), .second, .val (.long q4), .second, .val (.long q5), .second, .val (.ref ks), .unset, .unset] [(.int p0), (.int (2 : Int32)), (.ref ks)]))
  refine GoesW.step (fun _ k => XS.iconst X7.here hx rfl (hb hby at_29) k) ?_
  show GoesW p.tables e below s (Q0 Z p0 q1 q2 q3 q4 q5 h0 n0) room_1.cells room_1.slots (T7.setTop (mkF m 30 #[.val (.int p0), .val (.long q1), .second, .val (.long q2), .second, .val (.long q3), .second, .val (.long q4), .second, .val (.long q5), .second, .val (.ref ks), .unset, .unset] [(.int (2 : Int32)), (.int p0), (.int (2 : Int32)), (.ref ks)]))
  refine GoesW.step (fun _ k => XS.lload X7.here hx rfl (hb hby at_30) rfl k) ?_
  show GoesW p.tables e below s (Q0 Z p0 q1 q2 q3 q4 q5 h0 n0) room_1.cells room_1.slots (T7.setTop (mkF m 32 #[.val (.int p0), .val (.long q1), .second, .val (.long q2), .second, .val (.long q3), .second, .val (.long q4), .second, .val (.long q5), .second, .val (.ref ks), .unset, .unset] [(.long q3), (.int (2 : Int32)), (.int p0), (.int (2 : Int32)), (.ref ks)]))
  obtain ⟨_, _, ⟨T8, L8, k8, n8⟩, -, X8, ⟨Lc8, hQ8, l8, y8, z8⟩, st8⟩ := Jvm.LawKit.callS X7 hx (y := (⟨"com/example/forehold/forehold/state/PlanIdsCountPinLaw", "pick", "(IIJ)J"⟩ : MethodName)) hown (mvT hZ (hw _ (List.mem_of_getElem? (i := 1) rfl))) (mvT hZ (hw _ (List.mem_of_getElem? (i := 2) rfl))) (mvT hZ (hw _ (List.mem_of_getElem? (i := 3) rfl))) (mvT hZ (hw _ (List.mem_of_getElem? (i := 4) rfl))) (by decide) (backOf (W := 2) (rm1 l Z a0 hw [] p0 (2 : Int32) q3  h7 n0 Z7 ) hZ (hw _ (List.mem_of_getElem? (i := 4) rfl)) (hw _ (List.mem_of_getElem? (i := 3) rfl)) (by decide) (by decide)) (g := (mkF m 32 #[.val (.int p0), .val (.long q1), .second, .val (.long q2), .second, .val (.long q3), .second, .val (.long q4), .second, .val (.long q5), .second, .val (.ref ks), .unset, .unset] [(.long q3), (.int (2 : Int32)), (.int p0), (.int (2 : Int32)), (.ref ks)])) rfl (by rw [hml]; rfl) (argsL := [(.int p0), (.int (2 : Int32)), (.long q3)]) (rest := [(.int (2 : Int32)), (.ref ks)]) (lenOf own_pd0 rfl) rfl (by show 2 * 0 + _ ≤ _; exact Nat.le_of_eq rfl) (hb hby at_32) (fun _ _ => ⟨rfl, e7, (by decide : 1 + 0 ≤ _), (by decide : 5 + 0 ≤ _)⟩)
  dsimp only [Pt.U, Pt.locs, Pt.cells, Pt.slots] at X8 l8 y8 z8 st8 hQ8
  subst l8 y8 z8
  obtain ⟨⟨z8, rfl⟩, N8q, eq8⟩ := hQ8
  have N8 := Fr.app N7 N8q
  refine GoesW.step st8 ?_
  show GoesW p.tables e below s (Q0 Z p0 q1 q2 q3 q4 q5 h0 n0) room_1.cells room_1.slots (T8.setTop (mkF m 35 #[.val (.int p0), .val (.long q1), .second, .val (.long q2), .second, .val (.long q3), .second, .val (.long q4), .second, .val (.long q5), .second, .val (.ref ks), .unset, .unset] [(.long z8), (.int (2 : Int32)), (.ref ks)]))
  have vv9 := V7
  obtain ⟨cl9, Ar9, aq9, aS9, aN9, aH9, aG9⟩ := vv9
  have hin9 : ¬ ((2 : Int32) < 0 ∨ cl9.slots.size ≤ ((2 : Int32)).toNatClampNeg) := inb_of aS9 ⟨by decide, by decide⟩
  obtain ⟨T10, h10, X10, e10, W10, st10⟩ := stJ X8 hx hZ eq8 Ar9 (j := (2 : Int32)) hin9 (g := (mkF m 35 #[.val (.int p0), .val (.long q1), .second, .val (.long q2), .second, .val (.long q3), .second, .val (.long q4), .second, .val (.long q5), .second, .val (.ref ks), .unset, .unset] [(.long z8), (.int (2 : Int32)), (.ref ks)])) rfl rfl (hb hby at_35)
  have V10 : Arv Z h10 ks k1 .long (5 : Int32) [(.long z2), (.long z5), (.long z8), (.long (0 : Int64)), (.long (0 : Int64))] (.long (0 : Int64)) := Arv.set Ar9 aq9 aS9 aN9 aH9 aG9 rfl W10 2 rfl (Nat.le_of_ble_eq_true rfl)
  have N10 := Fr.snoc X10 N8 g_ks
  have Z10 : n0 ≤ h10.size := Nat.le_trans Z7 (Keep.of_wr W10).1
  refine GoesW.step st10 ?_
  show GoesW p.tables e below s (Q0 Z p0 q1 q2 q3 q4 q5 h0 n0) room_1.cells room_1.slots (T10.setTop (mkF m 36 #[.val (.int p0), .val (.long q1), .second, .val (.long q2), .second, .val (.long q3), .second, .val (.long q4), .second, .val (.long q5), .second, .val (.ref ks), .unset, .unset] []))
  refine GoesW.step (fun _ k => XS.aload X10.here hx rfl (hb hby at_36) rfl rfl k) ?_
  show GoesW p.tables e below s (Q0 Z p0 q1 q2 q3 q4 q5 h0 n0) room_1.cells room_1.slots (T10.setTop (mkF m 38 #[.val (.int p0), .val (.long q1), .second, .val (.long q2), .second, .val (.long q3), .second, .val (.long q4), .second, .val (.long q5), .second, .val (.ref ks), .unset, .unset] [(.ref ks)]))
  refine GoesW.step (fun _ k => XS.iconst X10.here hx rfl (hb hby at_38) k) ?_
  show GoesW p.tables e below s (Q0 Z p0 q1 q2 q3 q4 q5 h0 n0) room_1.cells room_1.slots (T10.setTop (mkF m 39 #[.val (.int p0), .val (.long q1), .second, .val (.long q2), .second, .val (.long q3), .second, .val (.long q4), .second, .val (.long q5), .second, .val (.ref ks), .unset, .unset] [(.int (3 : Int32)), (.ref ks)]))
  refine GoesW.step (fun _ k => XS.iloadN X10.here hx rfl (hb hby at_39) rfl k) ?_
  show GoesW p.tables e below s (Q0 Z p0 q1 q2 q3 q4 q5 h0 n0) room_1.cells room_1.slots (T10.setTop (mkF m 40 #[.val (.int p0), .val (.long q1), .second, .val (.long q2), .second, .val (.long q3), .second, .val (.long q4), .second, .val (.long q5), .second, .val (.ref ks), .unset, .unset] [(.int p0), (.int (3 : Int32)), (.ref ks)]))
  refine GoesW.step (fun _ k => XS.iconst X10.here hx rfl (hb hby at_40) k) ?_
  show GoesW p.tables e below s (Q0 Z p0 q1 q2 q3 q4 q5 h0 n0) room_1.cells room_1.slots (T10.setTop (mkF m 41 #[.val (.int p0), .val (.long q1), .second, .val (.long q2), .second, .val (.long q3), .second, .val (.long q4), .second, .val (.long q5), .second, .val (.ref ks), .unset, .unset] [(.int (3 : Int32)), (.int p0), (.int (3 : Int32)), (.ref ks)]))
  refine GoesW.step (fun _ k => XS.lload X10.here hx rfl (hb hby at_41) rfl k) ?_
  show GoesW p.tables e below s (Q0 Z p0 q1 q2 q3 q4 q5 h0 n0) room_1.cells room_1.slots (T10.setTop (mkF m 43 #[.val (.int p0), .val (.long q1), .second, .val (.long q2), .second, .val (.long q3), .second, .val (.long q4), .second, .val (.long q5), .second, .val (.ref ks), .unset, .unset] [(.long q4), (.int (3 : Int32)), (.int p0), (.int (3 : Int32)), (.ref ks)]))
  obtain ⟨_, _, ⟨T11, L11, k11, n11⟩, -, X11, ⟨Lc11, hQ11, l11, y11, z11⟩, st11⟩ := Jvm.LawKit.callS X10 hx (y := (⟨"com/example/forehold/forehold/state/PlanIdsCountPinLaw", "pick", "(IIJ)J"⟩ : MethodName)) hown (mvT hZ (hw _ (List.mem_of_getElem? (i := 1) rfl))) (mvT hZ (hw _ (List.mem_of_getElem? (i := 2) rfl))) (mvT hZ (hw _ (List.mem_of_getElem? (i := 3) rfl))) (mvT hZ (hw _ (List.mem_of_getElem? (i := 4) rfl))) (by decide) (backOf (W := 2) (rm1 l Z a0 hw [] p0 (3 : Int32) q4  h10 n0 Z10 ) hZ (hw _ (List.mem_of_getElem? (i := 4) rfl)) (hw _ (List.mem_of_getElem? (i := 3) rfl)) (by decide) (by decide)) (g := (mkF m 43 #[.val (.int p0), .val (.long q1), .second, .val (.long q2), .second, .val (.long q3), .second, .val (.long q4), .second, .val (.long q5), .second, .val (.ref ks), .unset, .unset] [(.long q4), (.int (3 : Int32)), (.int p0), (.int (3 : Int32)), (.ref ks)])) rfl (by rw [hml]; rfl) (argsL := [(.int p0), (.int (3 : Int32)), (.long q4)]) (rest := [(.int (3 : Int32)), (.ref ks)]) (lenOf own_pd0 rfl) rfl (by show 2 * 0 + _ ≤ _; exact Nat.le_of_eq rfl) (hb hby at_43) (fun _ _ => ⟨rfl, e10, (by decide : 1 + 0 ≤ _), (by decide : 5 + 0 ≤ _)⟩)
  dsimp only [Pt.U, Pt.locs, Pt.cells, Pt.slots] at X11 l11 y11 z11 st11 hQ11
  subst l11 y11 z11
  obtain ⟨⟨z11, rfl⟩, N11q, eq11⟩ := hQ11
  have N11 := Fr.app N10 N11q
  refine GoesW.step st11 ?_
  show GoesW p.tables e below s (Q0 Z p0 q1 q2 q3 q4 q5 h0 n0) room_1.cells room_1.slots (T11.setTop (mkF m 46 #[.val (.int p0), .val (.long q1), .second, .val (.long q2), .second, .val (.long q3), .second, .val (.long q4), .second, .val (.long q5), .second, .val (.ref ks), .unset, .unset] [(.long z11), (.int (3 : Int32)), (.ref ks)]))
  have vv12 := V10
  obtain ⟨cl12, Ar12, aq12, aS12, aN12, aH12, aG12⟩ := vv12
  have hin12 : ¬ ((3 : Int32) < 0 ∨ cl12.slots.size ≤ ((3 : Int32)).toNatClampNeg) := inb_of aS12 ⟨by decide, by decide⟩
  obtain ⟨T13, h13, X13, e13, W13, st13⟩ := stJ X11 hx hZ eq11 Ar12 (j := (3 : Int32)) hin12 (g := (mkF m 46 #[.val (.int p0), .val (.long q1), .second, .val (.long q2), .second, .val (.long q3), .second, .val (.long q4), .second, .val (.long q5), .second, .val (.ref ks), .unset, .unset] [(.long z11), (.int (3 : Int32)), (.ref ks)])) rfl rfl (hb hby at_46)
  have V13 : Arv Z h13 ks k1 .long (5 : Int32) [(.long z2), (.long z5), (.long z8), (.long z11), (.long (0 : Int64))] (.long (0 : Int64)) := Arv.set Ar12 aq12 aS12 aN12 aH12 aG12 rfl W13 3 rfl (Nat.le_of_ble_eq_true rfl)
  have N13 := Fr.snoc X13 N11 g_ks
  have Z13 : n0 ≤ h13.size := Nat.le_trans Z10 (Keep.of_wr W13).1
  refine GoesW.step st13 ?_
  show GoesW p.tables e below s (Q0 Z p0 q1 q2 q3 q4 q5 h0 n0) room_1.cells room_1.slots (T13.setTop (mkF m 47 #[.val (.int p0), .val (.long q1), .second, .val (.long q2), .second, .val (.long q3), .second, .val (.long q4), .second, .val (.long q5), .second, .val (.ref ks), .unset, .unset] []))
  refine GoesW.step (fun _ k => XS.aload X13.here hx rfl (hb hby at_47) rfl rfl k) ?_
  show GoesW p.tables e below s (Q0 Z p0 q1 q2 q3 q4 q5 h0 n0) room_1.cells room_1.slots (T13.setTop (mkF m 49 #[.val (.int p0), .val (.long q1), .second, .val (.long q2), .second, .val (.long q3), .second, .val (.long q4), .second, .val (.long q5), .second, .val (.ref ks), .unset, .unset] [(.ref ks)]))
  refine GoesW.step (fun _ k => XS.iconst X13.here hx rfl (hb hby at_49) k) ?_
  show GoesW p.tables e below s (Q0 Z p0 q1 q2 q3 q4 q5 h0 n0) room_1.cells room_1.slots (T13.setTop (mkF m 50 #[.val (.int p0), .val (.long q1), .second, .val (.long q2), .second, .val (.long q3), .second, .val (.long q4), .second, .val (.long q5), .second, .val (.ref ks), .unset, .unset] [(.int (4 : Int32)), (.ref ks)]))
  refine GoesW.step (fun _ k => XS.iloadN X13.here hx rfl (hb hby at_50) rfl k) ?_
  show GoesW p.tables e below s (Q0 Z p0 q1 q2 q3 q4 q5 h0 n0) room_1.cells room_1.slots (T13.setTop (mkF m 51 #[.val (.int p0), .val (.long q1), .second, .val (.long q2), .second, .val (.long q3), .second, .val (.long q4), .second, .val (.long q5), .second, .val (.ref ks), .unset, .unset] [(.int p0), (.int (4 : Int32)), (.ref ks)]))
  refine GoesW.step (fun _ k => XS.iconst X13.here hx rfl (hb hby at_51) k) ?_
  show GoesW p.tables e below s (Q0 Z p0 q1 q2 q3 q4 q5 h0 n0) room_1.cells room_1.slots (T13.setTop (mkF m 52 #[.val (.int p0), .val (.long q1), .second, .val (.long q2), .second, .val (.long q3), .second, .val (.long q4), .second, .val (.long q5), .second, .val (.ref ks), .unset, .unset] [(.int (4 : Int32)), (.int p0), (.int (4 : Int32)), (.ref ks)]))
  refine GoesW.step (fun _ k => XS.lload X13.here hx rfl (hb hby at_52) rfl k) ?_
  show GoesW p.tables e below s (Q0 Z p0 q1 q2 q3 q4 q5 h0 n0) room_1.cells room_1.slots (T13.setTop (mkF m 54 #[.val (.int p0), .val (.long q1), .second, .val (.long q2), .second, .val (.long q3), .second, .val (.long q4), .second, .val (.long q5), .second, .val (.ref ks), .unset, .unset] [(.long q5), (.int (4 : Int32)), (.int p0), (.int (4 : Int32)), (.ref ks)]))
  obtain ⟨_, _, ⟨T14, L14, k14, n14⟩, -, X14, ⟨Lc14, hQ14, l14, y14, z14⟩, st14⟩ := Jvm.LawKit.callS X13 hx (y := (⟨"com/example/forehold/forehold/state/PlanIdsCountPinLaw", "pick", "(IIJ)J"⟩ : MethodName)) hown (mvT hZ (hw _ (List.mem_of_getElem? (i := 1) rfl))) (mvT hZ (hw _ (List.mem_of_getElem? (i := 2) rfl))) (mvT hZ (hw _ (List.mem_of_getElem? (i := 3) rfl))) (mvT hZ (hw _ (List.mem_of_getElem? (i := 4) rfl))) (by decide) (backOf (W := 2) (rm1 l Z a0 hw [] p0 (4 : Int32) q5  h13 n0 Z13 ) hZ (hw _ (List.mem_of_getElem? (i := 4) rfl)) (hw _ (List.mem_of_getElem? (i := 3) rfl)) (by decide) (by decide)) (g := (mkF m 54 #[.val (.int p0), .val (.long q1), .second, .val (.long q2), .second, .val (.long q3), .second, .val (.long q4), .second, .val (.long q5), .second, .val (.ref ks), .unset, .unset] [(.long q5), (.int (4 : Int32)), (.int p0), (.int (4 : Int32)), (.ref ks)])) rfl (by rw [hml]; rfl) (argsL := [(.int p0), (.int (4 : Int32)), (.long q5)]) (rest := [(.int (4 : Int32)), (.ref ks)]) (lenOf own_pd0 rfl) rfl (by show 2 * 0 + _ ≤ _; exact Nat.le_of_eq rfl) (hb hby at_54) (fun _ _ => ⟨rfl, e13, (by decide : 1 + 0 ≤ _), (by decide : 5 + 0 ≤ _)⟩)
  dsimp only [Pt.U, Pt.locs, Pt.cells, Pt.slots] at X14 l14 y14 z14 st14 hQ14
  subst l14 y14 z14
  obtain ⟨⟨z14, rfl⟩, N14q, eq14⟩ := hQ14
  have N14 := Fr.app N13 N14q
  refine GoesW.step st14 ?_
  show GoesW p.tables e below s (Q0 Z p0 q1 q2 q3 q4 q5 h0 n0) room_1.cells room_1.slots (T14.setTop (mkF m 57 #[.val (.int p0), .val (.long q1), .second, .val (.long q2), .second, .val (.long q3), .second, .val (.long q4), .second, .val (.long q5), .second, .val (.ref ks), .unset, .unset] [(.long z14), (.int (4 : Int32)), (.ref ks)]))
  have vv15 := V13
  obtain ⟨cl15, Ar15, aq15, aS15, aN15, aH15, aG15⟩ := vv15
  have hin15 : ¬ ((4 : Int32) < 0 ∨ cl15.slots.size ≤ ((4 : Int32)).toNatClampNeg) := inb_of aS15 ⟨by decide, by decide⟩
  obtain ⟨T16, h16, X16, e16, W16, st16⟩ := stJ X14 hx hZ eq14 Ar15 (j := (4 : Int32)) hin15 (g := (mkF m 57 #[.val (.int p0), .val (.long q1), .second, .val (.long q2), .second, .val (.long q3), .second, .val (.long q4), .second, .val (.long q5), .second, .val (.ref ks), .unset, .unset] [(.long z14), (.int (4 : Int32)), (.ref ks)])) rfl rfl (hb hby at_57)
  have V16 : Arv Z h16 ks k1 .long (5 : Int32) [(.long z2), (.long z5), (.long z8), (.long z11), (.long z14)] (.long (0 : Int64)) := Arv.set Ar15 aq15 aS15 aN15 aH15 aG15 rfl W16 4 rfl (Nat.le_of_ble_eq_true rfl)
  have N16 := Fr.snoc X16 N14 g_ks
  have Z16 : n0 ≤ h16.size := Nat.le_trans Z13 (Keep.of_wr W16).1
  refine GoesW.step st16 ?_
  show GoesW p.tables e below s (Q0 Z p0 q1 q2 q3 q4 q5 h0 n0) room_1.cells room_1.slots (T16.setTop (mkF m 58 #[.val (.int p0), .val (.long q1), .second, .val (.long q2), .second, .val (.long q3), .second, .val (.long q4), .second, .val (.long q5), .second, .val (.ref ks), .unset, .unset] []))
  refine GoesW.step (fun _ k => XS.aload X16.here hx rfl (hb hby at_58) rfl rfl k) ?_
  show GoesW p.tables e below s (Q0 Z p0 q1 q2 q3 q4 q5 h0 n0) room_1.cells room_1.slots (T16.setTop (mkF m 60 #[.val (.int p0), .val (.long q1), .second, .val (.long q2), .second, .val (.long q3), .second, .val (.long q4), .second, .val (.long q5), .second, .val (.ref ks), .unset, .unset] [(.ref ks)]))
  refine GoesW.step (fun _ k => XS.iconst X16.here hx rfl (hb hby at_60) k) ?_
  show GoesW p.tables e below s (Q0 Z p0 q1 q2 q3 q4 q5 h0 n0) room_1.cells room_1.slots (T16.setTop (mkF m 61 #[.val (.int p0), .val (.long q1), .second, .val (.long q2), .second, .val (.long q3), .second, .val (.long q4), .second, .val (.long q5), .second, .val (.ref ks), .unset, .unset] [(.int (0 : Int32)), (.ref ks)]))
  have vv17 := V16
  obtain ⟨cl17, Ar17, aq17, aS17, aN17, aH17, aG17⟩ := vv17
  have hin17 : ¬ ((0 : Int32) < 0 ∨ cl17.slots.size ≤ ((0 : Int32)).toNatClampNeg) := inb_of aS17 ⟨by decide, by decide⟩
  refine GoesW.step (fun _ k => X16.laload hx (j := (0 : Int32)) (v := (.long z2)) (by rw [e16]; exact Ar17.1) (State.isArrayOf_alike hZ.alike Ar17.2.1) Ar17.2.2 hin17 (Has.at aH17 hin17 rfl) (g := (mkF m 61 #[.val (.int p0), .val (.long q1), .second, .val (.long q2), .second, .val (.long q3), .second, .val (.long q4), .second, .val (.long q5), .second, .val (.ref ks), .unset, .unset] [(.int (0 : Int32)), (.ref ks)])) rfl rfl (hb hby at_61) _ k) ?_
  show GoesW p.tables e below s (Q0 Z p0 q1 q2 q3 q4 q5 h0 n0) room_1.cells room_1.slots (T16.setTop (mkF m 62 #[.val (.int p0), .val (.long q1), .second, .val (.long q2), .second, .val (.long q3), .second, .val (.long q4), .second, .val (.long q5), .second, .val (.ref ks), .unset, .unset] [(.long z2)]))
  obtain ⟨_, _, ⟨T18, L18, k18, n18⟩, -, X18, ⟨Lc18, hQ18, l18, y18, z18⟩, st18⟩ := Jvm.LawKit.callS X16 hx (y := (⟨"com/example/forehold/forehold/state/PlanIdsCountPinLaw", "held", "(J)I"⟩ : MethodName)) hown (mvT hZ (hw _ (List.mem_of_getElem? (i := 5) rfl))) (mvT hZ (hw _ (List.mem_of_getElem? (i := 6) rfl))) (mvT hZ (hw _ (List.mem_of_getElem? (i := 3) rfl))) (mvT hZ (hw _ (List.mem_of_getElem? (i := 7) rfl))) (by decide) (backOf (W := 0) (rm2 l Z a0 hw [] z2  h16 n0 Z16 ) hZ (hw _ (List.mem_of_getElem? (i := 7) rfl)) (hw _ (List.mem_of_getElem? (i := 3) rfl)) (by decide) (by decide)) (g := (mkF m 62 #[.val (.int p0), .val (.long q1), .second, .val (.long q2), .second, .val (.long q3), .second, .val (.long q4), .second, .val (.long q5), .second, .val (.ref ks), .unset, .unset] [(.long z2)])) rfl (by rw [hml]; rfl) (argsL := [(.long z2)]) (rest := []) (lenOf own_pd1 rfl) rfl (by show 2 * 0 + _ ≤ _; exact Nat.le_of_eq rfl) (hb hby at_62) (fun _ _ => ⟨rfl, e16, (by decide : 1 + 0 ≤ _), (by decide : 5 + 0 ≤ _)⟩)
  dsimp only [Pt.U, Pt.locs, Pt.cells, Pt.slots] at X18 l18 y18 z18 st18 hQ18
  subst l18 y18 z18
  obtain ⟨rfl, N18q, eq18⟩ := hQ18
  have N18 := Fr.app N16 N18q
  refine GoesW.step st18 ?_
  show GoesW p.tables e below s (Q0 Z p0 q1 q2 q3 q4 q5 h0 n0) room_1.cells room_1.slots (T18.setTop (mkF m 65 #[.val (.int p0), .val (.long q1), .second, .val (.long q2), .second, .val (.long q3), .second, .val (.long q4), .second, .val (.long q5), .second, .val (.ref ks), .unset, .unset] [(.int (own_held z2))]))
  refine GoesW.step (fun _ k => XS.aload X18.here hx rfl (hb hby at_65) rfl rfl k) ?_
  show GoesW p.tables e below s (Q0 Z p0 q1 q2 q3 q4 q5 h0 n0) room_1.cells room_1.slots (T18.setTop (mkF m 67 #[.val (.int p0), .val (.long q1), .second, .val (.long q2), .second, .val (.long q3), .second, .val (.long q4), .second, .val (.long q5), .second, .val (.ref ks), .unset, .unset] [(.ref ks), (.int (own_held z2))]))
  refine GoesW.step (fun _ k => XS.iconst X18.here hx rfl (hb hby at_67) k) ?_
  show GoesW p.tables e below s (Q0 Z p0 q1 q2 q3 q4 q5 h0 n0) room_1.cells room_1.slots (T18.setTop (mkF m 68 #[.val (.int p0), .val (.long q1), .second, .val (.long q2), .second, .val (.long q3), .second, .val (.long q4), .second, .val (.long q5), .second, .val (.ref ks), .unset, .unset] [(.int (1 : Int32)), (.ref ks), (.int (own_held z2))]))
  have vv19 := V16
  obtain ⟨cl19, Ar19, aq19, aS19, aN19, aH19, aG19⟩ := vv19
  have hin19 : ¬ ((1 : Int32) < 0 ∨ cl19.slots.size ≤ ((1 : Int32)).toNatClampNeg) := inb_of aS19 ⟨by decide, by decide⟩
  refine GoesW.step (fun _ k => X18.laload hx (j := (1 : Int32)) (v := (.long z5)) (by rw [eq18]; exact Ar19.1) (State.isArrayOf_alike hZ.alike Ar19.2.1) Ar19.2.2 hin19 (Has.at aH19 hin19 rfl) (g := (mkF m 68 #[.val (.int p0), .val (.long q1), .second, .val (.long q2), .second, .val (.long q3), .second, .val (.long q4), .second, .val (.long q5), .second, .val (.ref ks), .unset, .unset] [(.int (1 : Int32)), (.ref ks), (.int (own_held z2))])) rfl rfl (hb hby at_68) _ k) ?_
  show GoesW p.tables e below s (Q0 Z p0 q1 q2 q3 q4 q5 h0 n0) room_1.cells room_1.slots (T18.setTop (mkF m 69 #[.val (.int p0), .val (.long q1), .second, .val (.long q2), .second, .val (.long q3), .second, .val (.long q4), .second, .val (.long q5), .second, .val (.ref ks), .unset, .unset] [(.long z5), (.int (own_held z2))]))
  obtain ⟨_, _, ⟨T20, L20, k20, n20⟩, -, X20, ⟨Lc20, hQ20, l20, y20, z20⟩, st20⟩ := Jvm.LawKit.callS X18 hx (y := (⟨"com/example/forehold/forehold/state/PlanIdsCountPinLaw", "held", "(J)I"⟩ : MethodName)) hown (mvT hZ (hw _ (List.mem_of_getElem? (i := 5) rfl))) (mvT hZ (hw _ (List.mem_of_getElem? (i := 6) rfl))) (mvT hZ (hw _ (List.mem_of_getElem? (i := 3) rfl))) (mvT hZ (hw _ (List.mem_of_getElem? (i := 7) rfl))) (by decide) (backOf (W := 1) (rm2 l Z a0 hw [] z5  h16 n0 Z16 ) hZ (hw _ (List.mem_of_getElem? (i := 7) rfl)) (hw _ (List.mem_of_getElem? (i := 3) rfl)) (by decide) (by decide)) (g := (mkF m 69 #[.val (.int p0), .val (.long q1), .second, .val (.long q2), .second, .val (.long q3), .second, .val (.long q4), .second, .val (.long q5), .second, .val (.ref ks), .unset, .unset] [(.long z5), (.int (own_held z2))])) rfl (by rw [hml]; rfl) (argsL := [(.long z5)]) (rest := [(.int (own_held z2))]) (lenOf own_pd1 rfl) rfl (by show 2 * 0 + _ ≤ _; exact Nat.le_of_eq rfl) (hb hby at_69) (fun _ _ => ⟨rfl, eq18, (by decide : 1 + 0 ≤ _), (by decide : 5 + 0 ≤ _)⟩)
  dsimp only [Pt.U, Pt.locs, Pt.cells, Pt.slots] at X20 l20 y20 z20 st20 hQ20
  subst l20 y20 z20
  obtain ⟨rfl, N20q, eq20⟩ := hQ20
  have N20 := Fr.app N18 N20q
  refine GoesW.step st20 ?_
  show GoesW p.tables e below s (Q0 Z p0 q1 q2 q3 q4 q5 h0 n0) room_1.cells room_1.slots (T20.setTop (mkF m 72 #[.val (.int p0), .val (.long q1), .second, .val (.long q2), .second, .val (.long q3), .second, .val (.long q4), .second, .val (.long q5), .second, .val (.ref ks), .unset, .unset] [(.int (own_held z5)), (.int (own_held z2))]))
  refine GoesW.step (fun _ k => XS.iadd X20.here hx rfl (hb hby at_72) rfl k) ?_
  show GoesW p.tables e below s (Q0 Z p0 q1 q2 q3 q4 q5 h0 n0) room_1.cells room_1.slots (T20.setTop (mkF m 73 #[.val (.int p0), .val (.long q1), .second, .val (.long q2), .second, .val (.long q3), .second, .val (.long q4), .second, .val (.long q5), .second, .val (.ref ks), .unset, .unset] [(.int ((own_held z2) + (own_held z5)))]))
  refine GoesW.step (fun _ k => XS.aload X20.here hx rfl (hb hby at_73) rfl rfl k) ?_
  show GoesW p.tables e below s (Q0 Z p0 q1 q2 q3 q4 q5 h0 n0) room_1.cells room_1.slots (T20.setTop (mkF m 75 #[.val (.int p0), .val (.long q1), .second, .val (.long q2), .second, .val (.long q3), .second, .val (.long q4), .second, .val (.long q5), .second, .val (.ref ks), .unset, .unset] [(.ref ks), (.int ((own_held z2) + (own_held z5)))]))
  refine GoesW.step (fun _ k => XS.iconst X20.here hx rfl (hb hby at_75) k) ?_
  show GoesW p.tables e below s (Q0 Z p0 q1 q2 q3 q4 q5 h0 n0) room_1.cells room_1.slots (T20.setTop (mkF m 76 #[.val (.int p0), .val (.long q1), .second, .val (.long q2), .second, .val (.long q3), .second, .val (.long q4), .second, .val (.long q5), .second, .val (.ref ks), .unset, .unset] [(.int (2 : Int32)), (.ref ks), (.int ((own_held z2) + (own_held z5)))]))
  have vv21 := V16
  obtain ⟨cl21, Ar21, aq21, aS21, aN21, aH21, aG21⟩ := vv21
  have hin21 : ¬ ((2 : Int32) < 0 ∨ cl21.slots.size ≤ ((2 : Int32)).toNatClampNeg) := inb_of aS21 ⟨by decide, by decide⟩
  refine GoesW.step (fun _ k => X20.laload hx (j := (2 : Int32)) (v := (.long z8)) (by rw [eq20]; exact Ar21.1) (State.isArrayOf_alike hZ.alike Ar21.2.1) Ar21.2.2 hin21 (Has.at aH21 hin21 rfl) (g := (mkF m 76 #[.val (.int p0), .val (.long q1), .second, .val (.long q2), .second, .val (.long q3), .second, .val (.long q4), .second, .val (.long q5), .second, .val (.ref ks), .unset, .unset] [(.int (2 : Int32)), (.ref ks), (.int ((own_held z2) + (own_held z5)))])) rfl rfl (hb hby at_76) _ k) ?_
  show GoesW p.tables e below s (Q0 Z p0 q1 q2 q3 q4 q5 h0 n0) room_1.cells room_1.slots (T20.setTop (mkF m 77 #[.val (.int p0), .val (.long q1), .second, .val (.long q2), .second, .val (.long q3), .second, .val (.long q4), .second, .val (.long q5), .second, .val (.ref ks), .unset, .unset] [(.long z8), (.int ((own_held z2) + (own_held z5)))]))
  obtain ⟨_, _, ⟨T22, L22, k22, n22⟩, -, X22, ⟨Lc22, hQ22, l22, y22, z22⟩, st22⟩ := Jvm.LawKit.callS X20 hx (y := (⟨"com/example/forehold/forehold/state/PlanIdsCountPinLaw", "held", "(J)I"⟩ : MethodName)) hown (mvT hZ (hw _ (List.mem_of_getElem? (i := 5) rfl))) (mvT hZ (hw _ (List.mem_of_getElem? (i := 6) rfl))) (mvT hZ (hw _ (List.mem_of_getElem? (i := 3) rfl))) (mvT hZ (hw _ (List.mem_of_getElem? (i := 7) rfl))) (by decide) (backOf (W := 1) (rm2 l Z a0 hw [] z8  h16 n0 Z16 ) hZ (hw _ (List.mem_of_getElem? (i := 7) rfl)) (hw _ (List.mem_of_getElem? (i := 3) rfl)) (by decide) (by decide)) (g := (mkF m 77 #[.val (.int p0), .val (.long q1), .second, .val (.long q2), .second, .val (.long q3), .second, .val (.long q4), .second, .val (.long q5), .second, .val (.ref ks), .unset, .unset] [(.long z8), (.int ((own_held z2) + (own_held z5)))])) rfl (by rw [hml]; rfl) (argsL := [(.long z8)]) (rest := [(.int ((own_held z2) + (own_held z5)))]) (lenOf own_pd1 rfl) rfl (by show 2 * 0 + _ ≤ _; exact Nat.le_of_eq rfl) (hb hby at_77) (fun _ _ => ⟨rfl, eq20, (by decide : 1 + 0 ≤ _), (by decide : 5 + 0 ≤ _)⟩)
  dsimp only [Pt.U, Pt.locs, Pt.cells, Pt.slots] at X22 l22 y22 z22 st22 hQ22
  subst l22 y22 z22
  obtain ⟨rfl, N22q, eq22⟩ := hQ22
  have N22 := Fr.app N20 N22q
  refine GoesW.step st22 ?_
  show GoesW p.tables e below s (Q0 Z p0 q1 q2 q3 q4 q5 h0 n0) room_1.cells room_1.slots (T22.setTop (mkF m 80 #[.val (.int p0), .val (.long q1), .second, .val (.long q2), .second, .val (.long q3), .second, .val (.long q4), .second, .val (.long q5), .second, .val (.ref ks), .unset, .unset] [(.int (own_held z8)), (.int ((own_held z2) + (own_held z5)))]))
  refine GoesW.step (fun _ k => XS.iadd X22.here hx rfl (hb hby at_80) rfl k) ?_
  show GoesW p.tables e below s (Q0 Z p0 q1 q2 q3 q4 q5 h0 n0) room_1.cells room_1.slots (T22.setTop (mkF m 81 #[.val (.int p0), .val (.long q1), .second, .val (.long q2), .second, .val (.long q3), .second, .val (.long q4), .second, .val (.long q5), .second, .val (.ref ks), .unset, .unset] [(.int (((own_held z2) + (own_held z5)) + (own_held z8)))]))
  refine GoesW.step (fun _ k => XS.aload X22.here hx rfl (hb hby at_81) rfl rfl k) ?_
  show GoesW p.tables e below s (Q0 Z p0 q1 q2 q3 q4 q5 h0 n0) room_1.cells room_1.slots (T22.setTop (mkF m 83 #[.val (.int p0), .val (.long q1), .second, .val (.long q2), .second, .val (.long q3), .second, .val (.long q4), .second, .val (.long q5), .second, .val (.ref ks), .unset, .unset] [(.ref ks), (.int (((own_held z2) + (own_held z5)) + (own_held z8)))]))
  refine GoesW.step (fun _ k => XS.iconst X22.here hx rfl (hb hby at_83) k) ?_
  show GoesW p.tables e below s (Q0 Z p0 q1 q2 q3 q4 q5 h0 n0) room_1.cells room_1.slots (T22.setTop (mkF m 84 #[.val (.int p0), .val (.long q1), .second, .val (.long q2), .second, .val (.long q3), .second, .val (.long q4), .second, .val (.long q5), .second, .val (.ref ks), .unset, .unset] [(.int (3 : Int32)), (.ref ks), (.int (((own_held z2) + (own_held z5)) + (own_held z8)))]))
  have vv23 := V16
  obtain ⟨cl23, Ar23, aq23, aS23, aN23, aH23, aG23⟩ := vv23
  have hin23 : ¬ ((3 : Int32) < 0 ∨ cl23.slots.size ≤ ((3 : Int32)).toNatClampNeg) := inb_of aS23 ⟨by decide, by decide⟩
  refine GoesW.step (fun _ k => X22.laload hx (j := (3 : Int32)) (v := (.long z11)) (by rw [eq22]; exact Ar23.1) (State.isArrayOf_alike hZ.alike Ar23.2.1) Ar23.2.2 hin23 (Has.at aH23 hin23 rfl) (g := (mkF m 84 #[.val (.int p0), .val (.long q1), .second, .val (.long q2), .second, .val (.long q3), .second, .val (.long q4), .second, .val (.long q5), .second, .val (.ref ks), .unset, .unset] [(.int (3 : Int32)), (.ref ks), (.int (((own_held z2) + (own_held z5)) + (own_held z8)))])) rfl rfl (hb hby at_84) _ k) ?_
  show GoesW p.tables e below s (Q0 Z p0 q1 q2 q3 q4 q5 h0 n0) room_1.cells room_1.slots (T22.setTop (mkF m 85 #[.val (.int p0), .val (.long q1), .second, .val (.long q2), .second, .val (.long q3), .second, .val (.long q4), .second, .val (.long q5), .second, .val (.ref ks), .unset, .unset] [(.long z11), (.int (((own_held z2) + (own_held z5)) + (own_held z8)))]))
  obtain ⟨_, _, ⟨T24, L24, k24, n24⟩, -, X24, ⟨Lc24, hQ24, l24, y24, z24⟩, st24⟩ := Jvm.LawKit.callS X22 hx (y := (⟨"com/example/forehold/forehold/state/PlanIdsCountPinLaw", "held", "(J)I"⟩ : MethodName)) hown (mvT hZ (hw _ (List.mem_of_getElem? (i := 5) rfl))) (mvT hZ (hw _ (List.mem_of_getElem? (i := 6) rfl))) (mvT hZ (hw _ (List.mem_of_getElem? (i := 3) rfl))) (mvT hZ (hw _ (List.mem_of_getElem? (i := 7) rfl))) (by decide) (backOf (W := 1) (rm2 l Z a0 hw [] z11  h16 n0 Z16 ) hZ (hw _ (List.mem_of_getElem? (i := 7) rfl)) (hw _ (List.mem_of_getElem? (i := 3) rfl)) (by decide) (by decide)) (g := (mkF m 85 #[.val (.int p0), .val (.long q1), .second, .val (.long q2), .second, .val (.long q3), .second, .val (.long q4), .second, .val (.long q5), .second, .val (.ref ks), .unset, .unset] [(.long z11), (.int (((own_held z2) + (own_held z5)) + (own_held z8)))])) rfl (by rw [hml]; rfl) (argsL := [(.long z11)]) (rest := [(.int (((own_held z2) + (own_held z5)) + (own_held z8)))]) (lenOf own_pd1 rfl) rfl (by show 2 * 0 + _ ≤ _; exact Nat.le_of_eq rfl) (hb hby at_85) (fun _ _ => ⟨rfl, eq22, (by decide : 1 + 0 ≤ _), (by decide : 5 + 0 ≤ _)⟩)
  dsimp only [Pt.U, Pt.locs, Pt.cells, Pt.slots] at X24 l24 y24 z24 st24 hQ24
  subst l24 y24 z24
  obtain ⟨rfl, N24q, eq24⟩ := hQ24
  have N24 := Fr.app N22 N24q
  refine GoesW.step st24 ?_
  show GoesW p.tables e below s (Q0 Z p0 q1 q2 q3 q4 q5 h0 n0) room_1.cells room_1.slots (T24.setTop (mkF m 88 #[.val (.int p0), .val (.long q1), .second, .val (.long q2), .second, .val (.long q3), .second, .val (.long q4), .second, .val (.long q5), .second, .val (.ref ks), .unset, .unset] [(.int (own_held z11)), (.int (((own_held z2) + (own_held z5)) + (own_held z8)))]))
  refine GoesW.step (fun _ k => XS.iadd X24.here hx rfl (hb hby at_88) rfl k) ?_
  show GoesW p.tables e below s (Q0 Z p0 q1 q2 q3 q4 q5 h0 n0) room_1.cells room_1.slots (T24.setTop (mkF m 89 #[.val (.int p0), .val (.long q1), .second, .val (.long q2), .second, .val (.long q3), .second, .val (.long q4), .second, .val (.long q5), .second, .val (.ref ks), .unset, .unset] [(.int ((((own_held z2) + (own_held z5)) + (own_held z8)) + (own_held z11)))]))
  refine GoesW.step (fun _ k => XS.aload X24.here hx rfl (hb hby at_89) rfl rfl k) ?_
  show GoesW p.tables e below s (Q0 Z p0 q1 q2 q3 q4 q5 h0 n0) room_1.cells room_1.slots (T24.setTop (mkF m 91 #[.val (.int p0), .val (.long q1), .second, .val (.long q2), .second, .val (.long q3), .second, .val (.long q4), .second, .val (.long q5), .second, .val (.ref ks), .unset, .unset] [(.ref ks), (.int ((((own_held z2) + (own_held z5)) + (own_held z8)) + (own_held z11)))]))
  refine GoesW.step (fun _ k => XS.iconst X24.here hx rfl (hb hby at_91) k) ?_
  show GoesW p.tables e below s (Q0 Z p0 q1 q2 q3 q4 q5 h0 n0) room_1.cells room_1.slots (T24.setTop (mkF m 92 #[.val (.int p0), .val (.long q1), .second, .val (.long q2), .second, .val (.long q3), .second, .val (.long q4), .second, .val (.long q5), .second, .val (.ref ks), .unset, .unset] [(.int (4 : Int32)), (.ref ks), (.int ((((own_held z2) + (own_held z5)) + (own_held z8)) + (own_held z11)))]))
  have vv25 := V16
  obtain ⟨cl25, Ar25, aq25, aS25, aN25, aH25, aG25⟩ := vv25
  have hin25 : ¬ ((4 : Int32) < 0 ∨ cl25.slots.size ≤ ((4 : Int32)).toNatClampNeg) := inb_of aS25 ⟨by decide, by decide⟩
  refine GoesW.step (fun _ k => X24.laload hx (j := (4 : Int32)) (v := (.long z14)) (by rw [eq24]; exact Ar25.1) (State.isArrayOf_alike hZ.alike Ar25.2.1) Ar25.2.2 hin25 (Has.at aH25 hin25 rfl) (g := (mkF m 92 #[.val (.int p0), .val (.long q1), .second, .val (.long q2), .second, .val (.long q3), .second, .val (.long q4), .second, .val (.long q5), .second, .val (.ref ks), .unset, .unset] [(.int (4 : Int32)), (.ref ks), (.int ((((own_held z2) + (own_held z5)) + (own_held z8)) + (own_held z11)))])) rfl rfl (hb hby at_92) _ k) ?_
  show GoesW p.tables e below s (Q0 Z p0 q1 q2 q3 q4 q5 h0 n0) room_1.cells room_1.slots (T24.setTop (mkF m 93 #[.val (.int p0), .val (.long q1), .second, .val (.long q2), .second, .val (.long q3), .second, .val (.long q4), .second, .val (.long q5), .second, .val (.ref ks), .unset, .unset] [(.long z14), (.int ((((own_held z2) + (own_held z5)) + (own_held z8)) + (own_held z11)))]))
  obtain ⟨_, _, ⟨T26, L26, k26, n26⟩, -, X26, ⟨Lc26, hQ26, l26, y26, z26⟩, st26⟩ := Jvm.LawKit.callS X24 hx (y := (⟨"com/example/forehold/forehold/state/PlanIdsCountPinLaw", "held", "(J)I"⟩ : MethodName)) hown (mvT hZ (hw _ (List.mem_of_getElem? (i := 5) rfl))) (mvT hZ (hw _ (List.mem_of_getElem? (i := 6) rfl))) (mvT hZ (hw _ (List.mem_of_getElem? (i := 3) rfl))) (mvT hZ (hw _ (List.mem_of_getElem? (i := 7) rfl))) (by decide) (backOf (W := 1) (rm2 l Z a0 hw [] z14  h16 n0 Z16 ) hZ (hw _ (List.mem_of_getElem? (i := 7) rfl)) (hw _ (List.mem_of_getElem? (i := 3) rfl)) (by decide) (by decide)) (g := (mkF m 93 #[.val (.int p0), .val (.long q1), .second, .val (.long q2), .second, .val (.long q3), .second, .val (.long q4), .second, .val (.long q5), .second, .val (.ref ks), .unset, .unset] [(.long z14), (.int ((((own_held z2) + (own_held z5)) + (own_held z8)) + (own_held z11)))])) rfl (by rw [hml]; rfl) (argsL := [(.long z14)]) (rest := [(.int ((((own_held z2) + (own_held z5)) + (own_held z8)) + (own_held z11)))]) (lenOf own_pd1 rfl) rfl (by show 2 * 0 + _ ≤ _; exact Nat.le_of_eq rfl) (hb hby at_93) (fun _ _ => ⟨rfl, eq24, (by decide : 1 + 0 ≤ _), (by decide : 5 + 0 ≤ _)⟩)
  dsimp only [Pt.U, Pt.locs, Pt.cells, Pt.slots] at X26 l26 y26 z26 st26 hQ26
  subst l26 y26 z26
  obtain ⟨rfl, N26q, eq26⟩ := hQ26
  have N26 := Fr.app N24 N26q
  refine GoesW.step st26 ?_
  show GoesW p.tables e below s (Q0 Z p0 q1 q2 q3 q4 q5 h0 n0) room_1.cells room_1.slots (T26.setTop (mkF m 96 #[.val (.int p0), .val (.long q1), .second, .val (.long q2), .second, .val (.long q3), .second, .val (.long q4), .second, .val (.long q5), .second, .val (.ref ks), .unset, .unset] [(.int (own_held z14)), (.int ((((own_held z2) + (own_held z5)) + (own_held z8)) + (own_held z11)))]))
  refine GoesW.step (fun _ k => XS.iadd X26.here hx rfl (hb hby at_96) rfl k) ?_
  show GoesW p.tables e below s (Q0 Z p0 q1 q2 q3 q4 q5 h0 n0) room_1.cells room_1.slots (T26.setTop (mkF m 97 #[.val (.int p0), .val (.long q1), .second, .val (.long q2), .second, .val (.long q3), .second, .val (.long q4), .second, .val (.long q5), .second, .val (.ref ks), .unset, .unset] [(.int (((((own_held z2) + (own_held z5)) + (own_held z8)) + (own_held z11)) + (own_held z14)))]))
  refine GoesW.step (fun _ k => XS.istore X26.here hx rfl (hb hby at_97) rfl (l' := #[.val (.int p0), .val (.long q1), .second, .val (.long q2), .second, .val (.long q3), .second, .val (.long q4), .second, .val (.long q5), .second, .val (.ref ks), .val (.int (((((own_held z2) + (own_held z5)) + (own_held z8)) + (own_held z11)) + (own_held z14))), .unset]) rfl k) ?_
  show GoesW p.tables e below s (Q0 Z p0 q1 q2 q3 q4 q5 h0 n0) room_1.cells room_1.slots (T26.setTop (mkF m 99 #[.val (.int p0), .val (.long q1), .second, .val (.long q2), .second, .val (.long q3), .second, .val (.long q4), .second, .val (.long q5), .second, .val (.ref ks), .val (.int (((((own_held z2) + (own_held z5)) + (own_held z8)) + (own_held z11)) + (own_held z14))), .unset] []))
  refine GoesW.step (fun _ k => XS.iconst X26.here hx rfl (hb hby at_99) k) ?_
  show GoesW p.tables e below s (Q0 Z p0 q1 q2 q3 q4 q5 h0 n0) room_1.cells room_1.slots (T26.setTop (mkF m 100 #[.val (.int p0), .val (.long q1), .second, .val (.long q2), .second, .val (.long q3), .second, .val (.long q4), .second, .val (.long q5), .second, .val (.ref ks), .val (.int (((((own_held z2) + (own_held z5)) + (own_held z8)) + (own_held z11)) + (own_held z14))), .unset] [(.int (0 : Int32))]))
  obtain ⟨T27, h27, k27, X27, e27, E27, A27, st27⟩ := newP X26 hx hZ (hw _ (List.mem_of_getElem? (i := 0) rfl)) eq26 (g := (mkF m 100 #[.val (.int p0), .val (.long q1), .second, .val (.long q2), .second, .val (.long q3), .second, .val (.long q4), .second, .val (.long q5), .second, .val (.ref ks), .val (.int (((((own_held z2) + (own_held z5)) + (own_held z8)) + (own_held z11)) + (own_held z14))), .unset] [(.int (0 : Int32))])) rfl (hb hby at_100) rfl (by decide) (cap := 0) (by decide) (by decide) (by decide) (by decide)
  obtain ⟨no, gs27⟩ : ∃ z, z = h16.size := ⟨_, rfl⟩
  rw [← gs27] at A27 st27
  have g_no : n0 ≤ no := Nat.le_trans Z16 (Nat.le_of_eq gs27.symm)
  have ne_ks_no : ks ≠ no := Nat.ne_of_lt (Nat.lt_of_lt_of_le V16.lt (Nat.le_of_eq gs27.symm))
  have Z27 : n0 ≤ h27.size := Nat.le_trans Z16 E27.1
  have V_no : Arv Z h27 no k27 .long (0 : Int32) [] (.long (0 : Int64)) := (Arv.new A27 (by decide))
  refine GoesW.step st27 ?_
  show GoesW p.tables e below s (Q0 Z p0 q1 q2 q3 q4 q5 h0 n0) room_1.cells room_1.slots (T27.setTop (mkF m 102 #[.val (.int p0), .val (.long q1), .second, .val (.long q2), .second, .val (.long q3), .second, .val (.long q4), .second, .val (.long q5), .second, .val (.ref ks), .val (.int (((((own_held z2) + (own_held z5)) + (own_held z8)) + (own_held z11)) + (own_held z14))), .unset] [(.ref no)]))
  refine GoesW.step (fun _ k => XS.astore X27.here hx rfl (hb hby at_102) rfl rfl (l' := #[.val (.int p0), .val (.long q1), .second, .val (.long q2), .second, .val (.long q3), .second, .val (.long q4), .second, .val (.long q5), .second, .val (.ref ks), .val (.int (((((own_held z2) + (own_held z5)) + (own_held z8)) + (own_held z11)) + (own_held z14))), .val (.ref no)]) rfl k) ?_
  show GoesW p.tables e below s (Q0 Z p0 q1 q2 q3 q4 q5 h0 n0) room_1.cells room_1.slots (T27.setTop (mkF m 104 #[.val (.int p0), .val (.long q1), .second, .val (.long q2), .second, .val (.long q3), .second, .val (.long q4), .second, .val (.long q5), .second, .val (.ref ks), .val (.int (((((own_held z2) + (own_held z5)) + (own_held z8)) + (own_held z11)) + (own_held z14))), .val (.ref no)] []))
  refine GoesW.step (fun _ k => XS.aload X27.here hx rfl (hb hby at_104) rfl rfl k) ?_
  show GoesW p.tables e below s (Q0 Z p0 q1 q2 q3 q4 q5 h0 n0) room_1.cells room_1.slots (T27.setTop (mkF m 106 #[.val (.int p0), .val (.long q1), .second, .val (.long q2), .second, .val (.long q3), .second, .val (.long q4), .second, .val (.long q5), .second, .val (.ref ks), .val (.int (((((own_held z2) + (own_held z5)) + (own_held z8)) + (own_held z11)) + (own_held z14))), .val (.ref no)] [(.ref ks)]))
  have Arv_ks_28 := (V16.ext E27)
  obtain ⟨_, _, ⟨T29, L29, k29, n29⟩, -, X29, ⟨Lc29, hQ29, l29, y29, z29⟩, st29⟩ := Jvm.LawKit.callS X27 hx (y := (⟨"com/example/forehold/forehold/state/PlanIds", "count", "([J)I"⟩ : MethodName)) hown (mvT hZ (hw _ (List.mem_of_getElem? (i := 8) rfl))) (mvT hZ (hw _ (List.mem_of_getElem? (i := 9) rfl))) (mvT hZ (hw _ (List.mem_of_getElem? (i := 10) rfl))) (mvT hZ (hw _ (List.mem_of_getElem? (i := 11) rfl))) (by decide) (backOf (W := 0) (rm3 l Z a0 hw [] ks k1 (5 : Int32) [z2, z5, z8, z11, z14] (.long (0 : Int64)) h27 n0 Z27 Arv_ks_28 rfl) hZ (hw _ (List.mem_of_getElem? (i := 11) rfl)) (hw _ (List.mem_of_getElem? (i := 10) rfl)) (by decide) (by decide)) (g := (mkF m 106 #[.val (.int p0), .val (.long q1), .second, .val (.long q2), .second, .val (.long q3), .second, .val (.long q4), .second, .val (.long q5), .second, .val (.ref ks), .val (.int (((((own_held z2) + (own_held z5)) + (own_held z8)) + (own_held z11)) + (own_held z14))), .val (.ref no)] [(.ref ks)])) rfl (by rw [hml]; rfl) (argsL := [(.ref ks)]) (rest := []) (lenOf own_pd2 rfl) rfl (by show 2 * 0 + _ ≤ _; exact Nat.le_of_eq rfl) (hb hby at_106) (fun _ _ => ⟨rfl, e27, (by decide : 2 + 0 ≤ _), (by decide : 5 + 0 ≤ _)⟩)
  dsimp only [Pt.U, Pt.locs, Pt.cells, Pt.slots] at X29 l29 y29 z29 st29 hQ29
  subst l29 y29 z29
  obtain ⟨rfl, N29q, eq29⟩ := hQ29
  have N29 := Fr.app N26 N29q
  refine GoesW.step st29 ?_
  show GoesW p.tables e below s (Q0 Z p0 q1 q2 q3 q4 q5 h0 n0) room_1.cells room_1.slots (T29.setTop (mkF m 109 #[.val (.int p0), .val (.long q1), .second, .val (.long q2), .second, .val (.long q3), .second, .val (.long q4), .second, .val (.long q5), .second, .val (.ref ks), .val (.int (((((own_held z2) + (own_held z5)) + (own_held z8)) + (own_held z11)) + (own_held z14))), .val (.ref no)] [(.int (own_cnt [z2, z5, z8, z11, z14]))]))
  refine GoesW.step (fun _ k => XS.iload X29.here hx rfl (hb hby at_109) rfl k) ?_
  show GoesW p.tables e below s (Q0 Z p0 q1 q2 q3 q4 q5 h0 n0) room_1.cells room_1.slots (T29.setTop (mkF m 111 #[.val (.int p0), .val (.long q1), .second, .val (.long q2), .second, .val (.long q3), .second, .val (.long q4), .second, .val (.long q5), .second, .val (.ref ks), .val (.int (((((own_held z2) + (own_held z5)) + (own_held z8)) + (own_held z11)) + (own_held z14))), .val (.ref no)] [(.int (((((own_held z2) + (own_held z5)) + (own_held z8)) + (own_held z11)) + (own_held z14))), (.int (own_cnt [z2, z5, z8, z11, z14]))]))
  refine GoesW.step (fun _ k => XS.icmpNo X29.here hx rfl (hb hby at_111) rfl (teq (own_cnt5 z2 z5 z8 z11 z14)).2 k) ?_
  show GoesW p.tables e below s (Q0 Z p0 q1 q2 q3 q4 q5 h0 n0) room_1.cells room_1.slots (T29.setTop (mkF m 114 #[.val (.int p0), .val (.long q1), .second, .val (.long q2), .second, .val (.long q3), .second, .val (.long q4), .second, .val (.long q5), .second, .val (.ref ks), .val (.int (((((own_held z2) + (own_held z5)) + (own_held z8)) + (own_held z11)) + (own_held z14))), .val (.ref no)] []))
  refine GoesW.step (fun _ k => XS.aload X29.here hx rfl (hb hby at_114) rfl rfl k) ?_
  show GoesW p.tables e below s (Q0 Z p0 q1 q2 q3 q4 q5 h0 n0) room_1.cells room_1.slots (T29.setTop (mkF m 116 #[.val (.int p0), .val (.long q1), .second, .val (.long q2), .second, .val (.long q3), .second, .val (.long q4), .second, .val (.long q5), .second, .val (.ref ks), .val (.int (((((own_held z2) + (own_held z5)) + (own_held z8)) + (own_held z11)) + (own_held z14))), .val (.ref no)] [(.ref no)]))
  obtain ⟨_, _, ⟨T30, L30, k30, n30⟩, -, X30, ⟨Lc30, hQ30, l30, y30, z30⟩, st30⟩ := Jvm.LawKit.callS X29 hx (y := (⟨"com/example/forehold/forehold/state/PlanIds", "count", "([J)I"⟩ : MethodName)) hown (mvT hZ (hw _ (List.mem_of_getElem? (i := 8) rfl))) (mvT hZ (hw _ (List.mem_of_getElem? (i := 9) rfl))) (mvT hZ (hw _ (List.mem_of_getElem? (i := 10) rfl))) (mvT hZ (hw _ (List.mem_of_getElem? (i := 11) rfl))) (by decide) (backOf (W := 0) (rm3 l Z a0 hw [] no k27 (0 : Int32) [] (.long (0 : Int64)) h27 n0 Z27 V_no rfl) hZ (hw _ (List.mem_of_getElem? (i := 11) rfl)) (hw _ (List.mem_of_getElem? (i := 10) rfl)) (by decide) (by decide)) (g := (mkF m 116 #[.val (.int p0), .val (.long q1), .second, .val (.long q2), .second, .val (.long q3), .second, .val (.long q4), .second, .val (.long q5), .second, .val (.ref ks), .val (.int (((((own_held z2) + (own_held z5)) + (own_held z8)) + (own_held z11)) + (own_held z14))), .val (.ref no)] [(.ref no)])) rfl (by rw [hml]; rfl) (argsL := [(.ref no)]) (rest := []) (lenOf own_pd2 rfl) rfl (by show 2 * 0 + _ ≤ _; exact Nat.le_of_eq rfl) (hb hby at_116) (fun _ _ => ⟨rfl, eq29, (by decide : 2 + 0 ≤ _), (by decide : 5 + 0 ≤ _)⟩)
  dsimp only [Pt.U, Pt.locs, Pt.cells, Pt.slots] at X30 l30 y30 z30 st30 hQ30
  subst l30 y30 z30
  obtain ⟨rfl, N30q, eq30⟩ := hQ30
  have N30 := Fr.app N29 N30q
  refine GoesW.step st30 ?_
  show GoesW p.tables e below s (Q0 Z p0 q1 q2 q3 q4 q5 h0 n0) room_1.cells room_1.slots (T30.setTop (mkF m 119 #[.val (.int p0), .val (.long q1), .second, .val (.long q2), .second, .val (.long q3), .second, .val (.long q4), .second, .val (.long q5), .second, .val (.ref ks), .val (.int (((((own_held z2) + (own_held z5)) + (own_held z8)) + (own_held z11)) + (own_held z14))), .val (.ref no)] [(.int (own_cnt []))]))
  rw [show (own_cnt []) = (0 : Int32) from rfl]
  show GoesW p.tables e below s (Q0 Z p0 q1 q2 q3 q4 q5 h0 n0) room_1.cells room_1.slots (T30.setTop (mkF m 119 #[.val (.int p0), .val (.long q1), .second, .val (.long q2), .second, .val (.long q3), .second, .val (.long q4), .second, .val (.long q5), .second, .val (.ref ks), .val (.int (((((own_held z2) + (own_held z5)) + (own_held z8)) + (own_held z11)) + (own_held z14))), .val (.ref no)] [(.int (0 : Int32))]))
  refine GoesW.step (fun _ k => XS.ifNo X30.here hx rfl (hb hby at_119) rfl ((if0 _ _).trans (teq (rfl : (0 : Int32) = (0 : Int32))).2) k) ?_
  show GoesW p.tables e below s (Q0 Z p0 q1 q2 q3 q4 q5 h0 n0) room_1.cells room_1.slots (T30.setTop (mkF m 122 #[.val (.int p0), .val (.long q1), .second, .val (.long q2), .second, .val (.long q3), .second, .val (.long q4), .second, .val (.long q5), .second, .val (.ref ks), .val (.int (((((own_held z2) + (own_held z5)) + (own_held z8)) + (own_held z11)) + (own_held z14))), .val (.ref no)] []))
  refine GoesW.step (fun _ k => XS.iconst X30.here hx rfl (hb hby at_122) k) ?_
  show GoesW p.tables e below s (Q0 Z p0 q1 q2 q3 q4 q5 h0 n0) room_1.cells room_1.slots (T30.setTop (mkF m 123 #[.val (.int p0), .val (.long q1), .second, .val (.long q2), .second, .val (.long q3), .second, .val (.long q4), .second, .val (.long q5), .second, .val (.ref ks), .val (.int (((((own_held z2) + (own_held z5)) + (own_held z8)) + (own_held z11)) + (own_held z14))), .val (.ref no)] [(.int (1 : Int32))]))
  refine GoesW.step (fun _ k => XS.goto X30.here hx rfl (pc0 := 123) (pc' := 127) rfl (hb hby at_123) (by decide) (by decide) k) ?_
  show GoesW p.tables e below s (Q0 Z p0 q1 q2 q3 q4 q5 h0 n0) room_1.cells room_1.slots (T30.setTop (mkF m 127 #[.val (.int p0), .val (.long q1), .second, .val (.long q2), .second, .val (.long q3), .second, .val (.long q4), .second, .val (.long q5), .second, .val (.ref ks), .val (.int (((((own_held z2) + (own_held z5)) + (own_held z8)) + (own_held z11)) + (own_held z14))), .val (.ref no)] [(.int (1 : Int32))]))
  exact GoesW.retZ X30 hx hlk (t := .boolean) Bd.returns (by simp) rfl (hb hby at_127) (by show Q0 Z p0 q1 q2 q3 q4 q5 h0 n0 _ T30.heap _; rw [eq30]; exact ⟨rfl, N30⟩) (by decide) (by decide)
set_option maxRecDepth 65536 in
set_option maxHeartbeats 40000000 in
theorem comes_1 {Post : Tables → Env → Array Value → State → Outcome → State → Prop} (hpost : ∀ tb e args s v u, (limb_1_1.after args s (.returned v) u = true ∧ limb_1_2.after args s (.returned v) u = true ∧ True) → FrameEnd s (.returned v) u (Jvm.fieldLocs frame_1_writes args s ++ Jvm.arrayLocs frame_1_arrays args s ++ Jvm.staticLocs frame_1_statics s) 16 128 → Post tb e args s (.returned v) u) :
    ArmFor flags0 classFile x code maxLocals ret World_1 tables_1 room_1 Calls_1 rest_1 Pre_1 Post := by
  intro l hfl _ _ p e ha hc hk s m args below hf hA hF happ hP
  obtain ⟨hcalls, hrest, hpre⟩ := hP
  obtain ⟨-, -, -, hnamed, -, -, -, hat⟩ := (Spec.applies_iff hf).mp happ
  obtain ⟨hg, hn⟩ := and_e (Cond.before_iff.mp (show (Jvm.Cond.and given_1 narrow_1).before args s = true from hpre))
  obtain ⟨gc, gr0⟩ := and_e hg
  obtain ⟨w0, w1, w2, w3, w4, w5, rfl⟩ : ∃ w0 w1 w2 w3 w4 w5 : Value, args = #[w0, w1, w2, w3, w4, w5] := by
    have hs : args.size = 6 := by simpa [Cond.value, given_1] using gc
    obtain ⟨L⟩ := args
    match L, hs with
    | [w0, w1, w2, w3, w4, w5], _ => exact ⟨w0, w1, w2, w3, w4, w5, rfl⟩
  have hw := fun d (hd : d ∈ tables_1) => atoms_spec (ws := Jvm.Cond.code x code maxLocals ret :: tables_1) hat d (List.mem_cons_of_mem _ hd)
  have hfit : Fit s := fun {y c} hc i hi => by
    obtain ⟨ha, rfl⟩ := Array.getElem?_eq_some_iff.mp hc
    have q := List.all_eq_true.mp ((Array.all_eq_true_iff_forall_mem.mp hF) _ (Array.getElem_mem ha)) i (List.mem_range.mpr hi)
    simpa [Array.getElem?_eq_getElem hi] using q
  obtain ⟨ga0, gr1⟩ := and_e gr0
  obtain ⟨i0, ei0⟩ := is_v ga0
  obtain rfl : w0 = (.int i0) := Option.some.inj ei0
  obtain ⟨ga1, gr2⟩ := and_e gr1
  obtain ⟨i1, ei1⟩ := isL_v ga1
  obtain rfl : w1 = (.long i1) := Option.some.inj ei1
  obtain ⟨ga2, gr3⟩ := and_e gr2
  obtain ⟨i2, ei2⟩ := isL_v ga2
  obtain rfl : w2 = (.long i2) := Option.some.inj ei2
  obtain ⟨ga3, gr4⟩ := and_e gr3
  obtain ⟨i3, ei3⟩ := isL_v ga3
  obtain rfl : w3 = (.long i3) := Option.some.inj ei3
  obtain ⟨ga4, gr5⟩ := and_e gr4
  obtain ⟨i4, ei4⟩ := isL_v ga4
  obtain rfl : w4 = (.long i4) := Option.some.inj ei4
  obtain ⟨i5, ei5⟩ := isL_v gr5
  obtain rfl : w5 = (.long i5) := Option.some.inj ei5
  obtain ⟨n, o, h1, h2, h3, _, L, rfl, ⟨rfl, N⟩, hq⟩ := rm0 l s _ hw tables_1 i0 i1 i2 i3 i4 i5 s.heap s.heap.size (Nat.le_refl _) p e ha hc hk s m _ below hf ((Spec.applies_iff_loose hf).mp happ).1 ⟨rfl, State.Warmed39.refl s, rfl⟩ trivial
  refine ⟨n, _, h1, h2, h3, hpost _ _ _ _ _ _ ⟨Cond.after_iff.mpr rfl, Cond.after_iff.mpr (eq_i res_at (Term.int_eval (1)) rfl), trivial⟩ ⟨hq.1, hq.2.1, (hq.2.2.sift fun y hy => Or.inr (N y hy)).mono (by decide) (by decide)⟩⟩
theorem main_1_1 : Claimed_1_1 := comes_1 fun _ _ _ _ _ _ h hF => ⟨h.1, hF⟩
theorem main_1_2 : Claimed_1_2 := comes_1 fun _ _ _ _ _ _ h hF => ⟨h.2.1, hF⟩
end Jvm.Pilot.@@N@@
namespace Jvm.Pilot.@@N@@
open Jvm Jvm.ClassFile Sem Op Lib Jvm.Free Jvm.Stand Jvm.Pilot.@@N@@.Jvm.D
/-! MADE BY PROGRAM (witnessworld.py) out of the Statement's table words and the real class files: 12 classes; the members and pool entries that the words name. The judged class is class 1, her method 3. -/
namespace start1
open Jvm.ClassFile
def u (s : String) : CpInfo := .utf8 (stringToUtf16 s)
/-- a pool by its gaps: so many unusable entries, then the entry; so many at the end -/
def gap : Nat → List CpInfo → List CpInfo
  | 0, r => r
  | n + 1, r => .unusable :: gap n r
def poolList (es : List (Nat × CpInfo)) (last : Nat) : List CpInfo := es.foldr (fun e r => gap e.1 (e.2 :: r)) (gap last [])
def pool (es : List (Nat × CpInfo)) (last : Nat) : Array CpInfo := ⟨poolList es last⟩
def fileOf (pool : Array CpInfo) (this : Nat) (attrs : Array Attribute := #[]) (ms : Array MethodInfo := #[]) (fl : Nat := 33) (sup : Nat := 0) (ifs : Array Nat := #[]) (fds : Array FieldInfo := #[]) : ClassFile where
  minorVersion := 0
  majorVersion := 65
  constantPool := pool
  accessFlags := fl
  thisClass := this
  superClass := sup
  interfaces := ifs
  fields := fds
  methods := ms
  attributes := attrs
def plain (name : String) (sup : Option ClassId) : Class where
  name := name
  kind := .ordinary
  loader := none
  accessFlags := 33
  super := sup
  interfaces := #[]
  cf := none
  fields := #[]
  methods := #[]
  instanceTypes := #[]
  staticTypes := #[]
  resolved := #[]
  callSites := []
  init := .initialized
  statics := none
  mirror := none

def pool0 : Array CpInfo := pool [(5, u "<init>"), (0, u "()V"), (1, .class_ 10), (1, u "java/lang/Object")] 113

def k0m0 : Method := { name := "<init>", desc := "()V", sig := { parameters := [], returnType := none }, accessFlags := 1, code := none }
/-- java/lang/Object -/
def k0 : Class := { plain "java/lang/Object" none with
  accessFlags := 33
  interfaces := #[]
  cf := some (fileOf pool0 8 #[] #[{ accessFlags := 1, nameIndex := 5, descriptorIndex := 6, attributes := #[] }] 33 0 #[] #[])
  fields := #[]
  methods := #[k0m0]
  instanceTypes := #[]
  staticTypes := #[]
  resolved := Array.replicate 124 none
  statics := none }

def pool1 : Array CpInfo := pool [(2, .class_ 4), (1, u "java/lang/Object"), (0, u "<init>"), (0, u "()V"), (0, .methodref 8 9), (0, .class_ 10), (0, .nameAndType 11 12), (0, u "com/example/forehold/forehold/state/PlanIdsCountPinLaw"), (0, u "pick"), (0, u "(IIJ)J"), (0, .methodref 8 14), (0, .nameAndType 15 16), (0, u "held"), (0, u "(J)I"), (0, .methodref 18 19), (0, .class_ 20), (0, .nameAndType 21 22), (0, u "com/example/forehold/forehold/state/PlanIds"), (0, u "count"), (0, u "([J)I"), (3, u "law"), (0, u "(IJJJJJ)Z")] 4

def k1m0 : Method := { name := "<init>", desc := "()V", sig := { parameters := [], returnType := none }, accessFlags := 1, code := none }
def k1c1 : Code := { maxStack := 3, maxLocals := 5, code := method_2_code, exceptionTable := #[], attributes := #[] }
def k1m1 : Method := { name := "pick", desc := "(IIJ)J", sig := { parameters := [.int, .int, .long], returnType := some .long }, accessFlags := 10, code := some k1c1 }
def k1c2 : Code := { maxStack := 4, maxLocals := 2, code := method_3_code, exceptionTable := #[], attributes := #[] }
def k1m2 : Method := { name := "held", desc := "(J)I", sig := { parameters := [.long], returnType := some .int }, accessFlags := 10, code := some k1c2 }
def k1c3 : Code := { maxStack := 6, maxLocals := 14, code := code, exceptionTable := #[], attributes := #[] }
def k1m3 : Method := { name := "law", desc := "(IJJJJJ)Z", sig := { parameters := [.int, .long, .long, .long, .long, .long], returnType := some .boolean }, accessFlags := 9, code := some k1c3 }
/-- com/example/forehold/forehold/state/PlanIdsCountPinLaw -/
def k1 : Class := { plain "com/example/forehold/forehold/state/PlanIdsCountPinLaw" (some 0) with
  accessFlags := 49
  interfaces := #[]
  cf := some (fileOf pool1 8 #[] #[{ accessFlags := 1, nameIndex := 5, descriptorIndex := 6, attributes := #[] }, { accessFlags := 10, nameIndex := 11, descriptorIndex := 12, attributes := #[] }, { accessFlags := 10, nameIndex := 15, descriptorIndex := 16, attributes := #[] }, { accessFlags := 9, nameIndex := 26, descriptorIndex := 27, attributes := #[] }] 49 2 #[] #[])
  fields := #[]
  methods := #[k1m0, k1m1, k1m2, k1m3]
  instanceTypes := #[]
  staticTypes := #[]
  resolved := Array.replicate 32 none
  statics := none }

def pool2 : Array CpInfo := pool [(1, .class_ 2), (0, u "com/example/forehold/forehold/state/CheckedBlocks$Entries"), (0, .class_ 4), (0, u "java/lang/Object"), (5, .class_ 11), (0, u "com/example/forehold/forehold/state/CheckedBlocks")] 2

/-- com/example/forehold/forehold/state/CheckedBlocks$Entries -/
def k2 : Class := { plain "com/example/forehold/forehold/state/CheckedBlocks$Entries" (some 0) with
  accessFlags := 1536
  interfaces := #[]
  cf := some (fileOf pool2 1 #[.nestHost 10] #[] 1536 3 #[] #[])
  fields := #[]
  methods := #[]
  instanceTypes := #[]
  staticTypes := #[]
  resolved := Array.replicate 14 none
  statics := none }

def pool3 : Array CpInfo := pool [(4, .class_ 6), (1, u "java/lang/Object"), (3, .class_ 12), (1, u "com/example/forehold/forehold/state/PlanIds"), (0, u "keys"), (0, u "[J"), (7, u "region"), (0, u "Lcom/example/forehold/forehold/state/CheckedBlocks;"), (5, u "changed"), (0, u "Ljava/util/BitSet;"), (2, u "used"), (0, u "I"), (2, u "size"), (140, .class_ 179), (0, u "com/example/forehold/forehold/state/CheckedBlocks$Entries"), (0, u "EMPTY"), (0, u "J"), (3, u "REMOVED"), (2, u "ENTRY"), (1, u "LEAST"), (14, u "count"), (0, u "([J)I")] 11

def k3c0 : Code := { maxStack := 5, maxLocals := 7, code := prog_254_method_6_code, exceptionTable := #[], attributes := #[] }
def k3m0 : Method := { name := "count", desc := "([J)I", sig := { parameters := [(.array .long)], returnType := some .int }, accessFlags := 8, code := some k3c0 }
/-- com/example/forehold/forehold/state/PlanIds -/
def k3 : Class := { plain "com/example/forehold/forehold/state/PlanIds" (some 0) with
  accessFlags := 48
  interfaces := #[2]
  cf := some (fileOf pool3 10 #[] #[{ accessFlags := 8, nameIndex := 205, descriptorIndex := 206, attributes := #[] }] 48 4 #[178] #[{ accessFlags := 26, nameIndex := 180, descriptorIndex := 181, attributes := #[] }, { accessFlags := 26, nameIndex := 185, descriptorIndex := 181, attributes := #[] }, { accessFlags := 26, nameIndex := 188, descriptorIndex := 34, attributes := #[] }, { accessFlags := 26, nameIndex := 190, descriptorIndex := 34, attributes := #[] }, { accessFlags := 2, nameIndex := 13, descriptorIndex := 14, attributes := #[] }, { accessFlags := 2, nameIndex := 33, descriptorIndex := 34, attributes := #[] }, { accessFlags := 2, nameIndex := 37, descriptorIndex := 34, attributes := #[] }, { accessFlags := 2, nameIndex := 22, descriptorIndex := 23, attributes := #[] }, { accessFlags := 2, nameIndex := 29, descriptorIndex := 30, attributes := #[] }])
  fields := #[{ name := "EMPTY", type := .long, accessFlags := 26, slot := 0, constantValue := 0 }, { name := "REMOVED", type := .long, accessFlags := 26, slot := 1, constantValue := 0 }, { name := "ENTRY", type := .int, accessFlags := 26, slot := 2, constantValue := 0 }, { name := "LEAST", type := .int, accessFlags := 26, slot := 3, constantValue := 0 }, { name := "keys", type := (.array .long), accessFlags := 2, slot := 0, constantValue := 0 }, { name := "used", type := .int, accessFlags := 2, slot := 1, constantValue := 0 }, { name := "size", type := .int, accessFlags := 2, slot := 2, constantValue := 0 }, { name := "region", type := (.object "com/example/forehold/forehold/state/CheckedBlocks"), accessFlags := 2, slot := 3, constantValue := 0 }, { name := "changed", type := (.object "java/util/BitSet"), accessFlags := 2, slot := 4, constantValue := 0 }]
  methods := #[k3m0]
  instanceTypes := #[(.array .long), .int, .int, (.object "com/example/forehold/forehold/state/CheckedBlocks"), (.object "java/util/BitSet")]
  staticTypes := #[.long, .long, .int, .int]
  resolved := Array.replicate 218 none
  statics := none }

def pool4 : Array CpInfo := pool [(1, u "java/lang/Cloneable"), (0, .class_ 1), (0, u "java/lang/Object"), (0, .class_ 3)] 3

/-- java/lang/Cloneable -/
def k4 : Class := { plain "java/lang/Cloneable" (some 0) with
  accessFlags := 1537
  interfaces := #[]
  cf := some (fileOf pool4 2 #[] #[] 1537 4 #[] #[])
  fields := #[]
  methods := #[]
  instanceTypes := #[]
  staticTypes := #[]
  resolved := Array.replicate 8 none
  statics := none }

def pool5 : Array CpInfo := pool [(1, u "java/io/Serializable"), (0, .class_ 1), (0, u "java/lang/Object"), (0, .class_ 3)] 3

/-- java/io/Serializable -/
def k5 : Class := { plain "java/io/Serializable" (some 0) with
  accessFlags := 1537
  interfaces := #[]
  cf := some (fileOf pool5 2 #[] #[] 1537 4 #[] #[])
  fields := #[]
  methods := #[]
  instanceTypes := #[]
  staticTypes := #[]
  resolved := Array.replicate 8 none
  statics := none }

/-- the primitive byte -/
def k6 : Class := { plain "byte" none with kind := .primitive 'B', accessFlags := 0x411 }
/-- [B -/
def k7 : Class := { plain "[B" (some 0) with kind := .array 6 .byte, interfaces := #[4, 5], accessFlags := 1041 }

/-- the primitive int -/
def k8 : Class := { plain "int" none with kind := .primitive 'I', accessFlags := 0x411 }
/-- [I -/
def k9 : Class := { plain "[I" (some 0) with kind := .array 8 .int, interfaces := #[4, 5], accessFlags := 1041 }

/-- the primitive long -/
def k10 : Class := { plain "long" none with kind := .primitive 'J', accessFlags := 0x411 }
/-- [J -/
def k11 : Class := { plain "[J" (some 0) with kind := .array 10 .long, interfaces := #[4, 5], accessFlags := 1041 }

def heap : Heap := #[]
def classes : Array Class := #[k0, k1, k2, k3, k4, k5, k6, k7, k8, k9, k10, k11]
def interned : List (Array UInt16 × Addr) := []
def slotsUsed : Nat := 0
def theMethod : MethodId := ⟨1, 3⟩
def args0 : Array Value := #[.int 5, .long 3, .long 7, .long 2, .long 1, .long 1]
def aboutOver (below : List Frame) : State where
  vm := { classes := classes, interned := interned.toArray }
  heap := heap
  slotsUsed := slotsUsed
  threads := #[{ frames := .invoking theMethod args0 :: below }]
def below0 : List Frame := [.native { method := ⟨0, 0⟩, args := #[] }]
def about1 : State := aboutOver below0
def p0 : Program := .bare "" "" ""
def e0 : Env := launch0.env 0 0 0
theorem w_frames : about1.frames = Frame.invoking theMethod args0 :: below0 := rfl
set_option maxRecDepth 65536 in
theorem w_args : argsFit about1.vm theMethod args0 = true := by decide +kernel
set_option maxRecDepth 65536 in
theorem w_heap : heapFits about1 = true := by decide +kernel
set_option maxRecDepth 65536 in
theorem w_runnable : about1.curStatus? = some .runnable := by decide +kernel
set_option maxRecDepth 65536 in
theorem w_alone : about1.alone = true := by decide +kernel
set_option maxRecDepth 65536 in
theorem w_named : about1.methodNamed? x = some theMethod := by decide +kernel
set_option maxRecDepth 65536 in
theorem w_hears : about1.hears theMethod below0 = true := by decide +kernel
set_option maxRecDepth 65536 in
theorem w_ripe : about1.ripe theMethod args0 below0 = true := by decide +kernel
theorem w_running : about1.status = .running := rfl
set_option maxRecDepth 65536 in
theorem w_room : about1.hasRoom e0.platform room_1 = true :=
  launch0.hasRoom_least _ room_1 (by decide +kernel) (by decide +kernel) (by decide +kernel) (by decide +kernel) (by decide +kernel) (by decide +kernel)
theorem allAtoms_all (ts : List Jvm.Cond) (a : Array Jvm.Value) (st : Jvm.State) : (allAtoms ts).before a st = ts.all (fun c => c.before a st) := by
  induction ts with
  | nil => rfl
  | cons c t ih =>
    show (Jvm.Cond.and c (allAtoms t)).before a st = _
    rw [Jvm.Cond.before_and, ih, List.all_cons]
def words1 : List Jvm.Cond := Jvm.Cond.code x code maxLocals ret :: tables_1
/-- a 'code' word, met by the world's own term for the bytes: nothing is compared byte by byte -/
theorem code_word {y : MethodName} {bytes : ByteArray} {mx : Nat} {rt : Option FieldType} {a : Array Value} {s : State} {m : MethodId} {meth : Method} {c : Code} (h1 : s.methodNamed? y = some m) (h2 : s.vm.method? m = some meth) (h3 : meth.code = some c) (h4 : c.code = bytes)
    (h5 : (c.maxLocals == mx && c.exceptionTable.isEmpty && decide (c.maxStack ≤ mostOperands) && decide (meth.sig.returnType = rt) && !meth.locks && decide (parseMethodDescriptor y.desc = some meth.sig)) = true) : (Jvm.Cond.code y bytes mx rt).before a s = true := by
  simp only [Bool.and_eq_true, beq_iff_eq, Bool.not_eq_true', decide_eq_true_eq] at h5
  obtain ⟨⟨⟨⟨⟨g1, g2⟩, g3⟩, g4⟩, g5⟩, g6⟩ := h5
  simp [Cond.before, Cond.holds, Cond.value, h1, h2, h3, h4, g1, g2, g3, g4, g5, g6]
def isCode : Jvm.Cond → Bool
  | .code _ _ _ _ => true
  | _ => false
theorem all_split {L : List Jvm.Cond} {P : Jvm.Cond → Bool} (h1 : L.all (fun c => isCode c || P c) = true) (h2 : ∀ c ∈ L.filter isCode, P c = true) : L.all P = true := by
  refine List.all_eq_true.mpr fun c hc => ?_
  have h := List.all_eq_true.mp h1 c hc
  rcases Bool.eq_false_or_eq_true (isCode c) with hi | hi
  · exact h2 c (List.mem_filter.mpr ⟨hc, hi⟩)
  · simpa [hi] using h
set_option maxRecDepth 65536 in
theorem w_c0 : (Jvm.Cond.code x code maxLocals ret).before args0 about1 = true := code_word (m := ⟨1, 3⟩) (meth := k1m3) (c := k1c3) (by decide +kernel) rfl rfl rfl (by decide +kernel)
set_option maxRecDepth 65536 in
theorem w_c1 : (Jvm.Cond.code ({ cls := "com/example/forehold/forehold/state/PlanIdsCountPinLaw", name := "pick", desc := "(IIJ)J" } : Jvm.MethodName) method_2_code (5 : Nat) (Option.some Jvm.ClassFile.FieldType.long)).before args0 about1 = true := code_word (m := ⟨1, 1⟩) (meth := k1m1) (c := k1c1) (by decide +kernel) rfl rfl rfl (by decide +kernel)
set_option maxRecDepth 65536 in
theorem w_c2 : (Jvm.Cond.code ({ cls := "com/example/forehold/forehold/state/PlanIdsCountPinLaw", name := "held", desc := "(J)I" } : Jvm.MethodName) method_3_code (2 : Nat) (Option.some Jvm.ClassFile.FieldType.int)).before args0 about1 = true := code_word (m := ⟨1, 2⟩) (meth := k1m2) (c := k1c2) (by decide +kernel) rfl rfl rfl (by decide +kernel)
set_option maxRecDepth 65536 in
theorem w_c3 : (Jvm.Cond.code ({ cls := "com/example/forehold/forehold/state/PlanIds", name := "count", desc := "([J)I" } : Jvm.MethodName) prog_254_method_6_code (7 : Nat) (Option.some Jvm.ClassFile.FieldType.int)).before args0 about1 = true := code_word (m := ⟨3, 0⟩) (meth := k3m0) (c := k3c0) (by decide +kernel) rfl rfl rfl (by decide +kernel)
def codes1 : List Jvm.Cond := [Jvm.Cond.code x code maxLocals ret, Jvm.Cond.code ({ cls := "com/example/forehold/forehold/state/PlanIdsCountPinLaw", name := "pick", desc := "(IIJ)J" } : Jvm.MethodName) method_2_code (5 : Nat) (Option.some Jvm.ClassFile.FieldType.long), Jvm.Cond.code ({ cls := "com/example/forehold/forehold/state/PlanIdsCountPinLaw", name := "held", desc := "(J)I" } : Jvm.MethodName) method_3_code (2 : Nat) (Option.some Jvm.ClassFile.FieldType.int), Jvm.Cond.code ({ cls := "com/example/forehold/forehold/state/PlanIds", name := "count", desc := "([J)I" } : Jvm.MethodName) prog_254_method_6_code (7 : Nat) (Option.some Jvm.ClassFile.FieldType.int)]
set_option maxRecDepth 65536 in
theorem codes_eq : words1.filter isCode = codes1 := rfl
theorem w_codes : ∀ c ∈ words1.filter isCode, c.before args0 about1 = true := by
  rw [codes_eq]
  intro c hc
  simp only [codes1, List.mem_cons, List.not_mem_nil, or_false] at hc
  rcases hc with rfl | rfl | rfl | rfl
  · exact w_c0
  · exact w_c1
  · exact w_c2
  · exact w_c3
set_option maxRecDepth 65536 in
theorem w_t1 : words1.all (fun c => isCode c || c.before args0 about1) = true := by decide +kernel
theorem w_tables : (allAtoms (Jvm.Cond.code x code maxLocals ret :: tables_1)).before args0 about1 = true := by
  rw [allAtoms_all]
  show words1.all (fun c => c.before args0 about1) = true
  refine all_split ?_ w_codes
  rw [w_t1]
set_option maxRecDepth 65536 in
theorem w_case : (Jvm.Cond.and given_1 narrow_1).before args0 about1 = true := by decide +kernel
theorem w_applies : (headSpec (Jvm.Cond.code x code maxLocals ret :: tables_1) room_1).applies x e0.platform about1 = true :=
  (Spec.applies_iff w_frames).mpr ⟨w_running, w_runnable, w_alone, w_named, w_hears, w_ripe, w_room, w_tables⟩
theorem atStart : AtStart classFile x code maxLocals ret World_1 tables_1 room_1 Calls_1 rest_1 Pre_1 launch0 p0 e0 about1 theMethod args0 below0 :=
  ⟨lists_1, trivial, launch0.admits_env _ _ _, launch0.least_env, fairChoices_fair.cas, fairChoices_fair.clock, w_frames, w_args, w_heap, w_applies, trivial, trivial, w_case⟩
end start1
theorem witness_1 : WitnessClaimed_1 := ⟨start1.p0, start1.e0, start1.about1, start1.theMethod, start1.args0, start1.below0, start1.atStart⟩
end Jvm.Pilot.@@N@@
