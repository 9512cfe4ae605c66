import JvmDerived
import JvmDerived.Pilot.@@N@@Statement
import JvmDerived.Pilot.@@N@@Code
set_option linter.unusedVariables false
set_option linter.unusedSimpArgs false
namespace Jvm.RoadKit
open Sem ClassFile Op Lib Jvm.Stand Jvm.Free Jvm.LawKit
/-- from S the run goes on and returns; what it leaves is said by Q -/
def GoesW (tb : Tables) (e : Env) (below : List Frame) (s : State) (Q : Option Value → Heap → List Loc → Prop) (kc ks : Nat) (S : State) : Prop :=
  ∃ t o, Steps tb e below S t ∧ t.status = .running ∧ Ended t below o ∧ ∃ v L, o = .returned v ∧ Q v t.heap L ∧ FrameEnd s o t L kc ks
theorem GoesW.step {tb : Tables} {e : Env} {below : List Frame} {s : State} {Q : Option Value → Heap → List Loc → Prop} {kc ks : Nat} {S S' : State} (f : ∀ t, Steps tb e below S' t → Steps tb e below S t) (h : GoesW tb e below s Q kc ks S') : GoesW tb e below s Q kc ks S := by
  obtain ⟨t, o, h1, h2⟩ := h
  exact ⟨t, o, f t h1, h2⟩
/-- 0 where the branch is taken, 1 where it isn't: what 'if<c> +7; iconst_1; goto +4; iconst_0' leaves -/
def nb (b : Bool) : Int32 := if b then 0 else 1
theorem nb_01 (b : Bool) : nb b = 0 ∨ nb b = 1 := by cases b <;> simp [nb]
theorem nar_nb (b : Bool) : narrow .boolean (.int (nb b)) = .int (nb b) := by cases b <;> rfl
theorem fits_nb (b : Bool) : fits .boolean (.int (nb b)) = true := by cases b <;> rfl
theorem diam0 {tb : Tables} [Ours tb] {e : Env} {below : List Frame} {T target : State} {m : MethodId} {c : Code} {g : JFrame} (h : At T m c below) (hx : tb.exec = Jvm.exec) (hg : g.method = m) {cd : ClassFile.Cond} {x : Int32} {rest : List Value} {pc0 : Nat} (hpc : g.pc = pc0)
    (hd : decode c.code pc0 = .ok (.ifCond cd 7, 3)) (hs : g.stack = .int x :: rest) (hd1 : decode c.code (pc0 + 3) = .ok (.iconst 1, 1)) (hd2 : decode c.code (pc0 + 4) = .ok (.goto 4, 3)) (hd3 : decode c.code (pc0 + 7) = .ok (.iconst 0, 1))
    (hr : Steps tb e below (T.setTop { g with pc := pc0 + 8, stack := .int (nb (ifCond.holds cd x)) :: rest }) target) : Steps tb e below (T.setTop g) target := by
  subst hpc
  cases hb : ifCond.holds cd x with
  | true =>
    rw [hb] at hr
    refine XS.ifYes h hx hg (pc0 := g.pc) (pc' := g.pc + 7) rfl hd hs hb (by omega) (by omega) ?_
    exact XS.iconst (g := { g with pc := g.pc + 7, stack := rest }) h hx hg hd3 hr
  | false =>
    rw [hb] at hr
    refine XS.ifNo h hx hg hd hs hb ?_
    refine XS.iconst (g := { g with pc := g.pc + 3, stack := rest }) h hx hg hd1 ?_
    exact XS.goto (g := { g with pc := g.pc + 4, stack := .int 1 :: rest }) h hx hg (pc0 := g.pc + 4) (pc' := g.pc + 8) rfl hd2 (by omega) (by omega) hr
theorem diam2 {tb : Tables} [Ours tb] {e : Env} {below : List Frame} {T target : State} {m : MethodId} {c : Code} {g : JFrame} (h : At T m c below) (hx : tb.exec = Jvm.exec) (hg : g.method = m) {cd : ClassFile.Cond} {x y : Int32} {rest : List Value} {pc0 : Nat} (hpc : g.pc = pc0)
    (hd : decode c.code pc0 = .ok (.if_icmp cd 7, 3)) (hs : g.stack = .int y :: .int x :: rest) (hd1 : decode c.code (pc0 + 3) = .ok (.iconst 1, 1)) (hd2 : decode c.code (pc0 + 4) = .ok (.goto 4, 3)) (hd3 : decode c.code (pc0 + 7) = .ok (.iconst 0, 1))
    (hr : Steps tb e below (T.setTop { g with pc := pc0 + 8, stack := .int (nb (if_icmp.holds cd x y)) :: rest }) target) : Steps tb e below (T.setTop g) target := by
  subst hpc
  cases hb : if_icmp.holds cd x y with
  | true =>
    rw [hb] at hr
    refine XS.icmpYes h hx hg (pc0 := g.pc) (pc' := g.pc + 7) rfl hd hs hb (by omega) (by omega) ?_
    exact XS.iconst (g := { g with pc := g.pc + 7, stack := rest }) h hx hg hd3 hr
  | false =>
    rw [hb] at hr
    refine XS.icmpNo h hx hg hd hs hb ?_
    refine XS.iconst (g := { g with pc := g.pc + 3, stack := rest }) h hx hg hd1 ?_
    exact XS.goto (g := { g with pc := g.pc + 4, stack := .int 1 :: rest }) h hx hg (pc0 := g.pc + 4) (pc' := g.pc + 8) rfl hd2 (by omega) (by omega) hr
section New
variable {p : Program} {l : Launch} {e : Env} {R : Room} {s : State} {m : MethodId} {args : Array Value} {below : List Frame} {meth : Method} {c : Code} {T : State} {locs : List Loc} {cells slots : Nat} {Q : Option Value → Heap → List Loc → Prop} {kc ks : Nat}
theorem upS (X : Stand p l e R s m args below meth c T locs cells slots) {k n : Nat} (hc : cells ≤ k) (hn : slots ≤ n) : Stand p l e R s m args below meth c T locs k n := { X with same := X.same.mono hc hn }
theorem GoesW.out (X : Stand p l e R s m args below meth c T locs cells slots) {v : Option Value} {S : State} (hlk : meth.locks = false) (hv : meth.sig.returnType = none → v = none)
    (hst : ∀ fs, (∀ (f : JFrame) (acts : List Action), f.method = m → f.locked = none → f.entered = [] → (doReturn e (T.setTop f) acts v).1 = T.setFrames fs) → Steps p.tables e below S (T.setFrames fs)) (hq : Q v T.heap locs) (hc : cells ≤ kc) (hs : slots ≤ ks) : GoesW p.tables e below s Q kc ks S := by
  obtain ⟨fs, hr, hrun, hended, hW, hsame⟩ := X.leave (v := v) hv hlk
  exact ⟨_, _, hst fs hr, hrun, hended, _, _, rfl, hq, ⟨_, rfl⟩, hW, hsame.mono hc hs⟩
theorem GoesW.retI (X : Stand p l e R s m args below meth c T locs cells slots) (hx : p.tables.exec = Jvm.exec) (hlk : meth.locks = false) {pc : Nat} {Ls : Array Slot} {z : Int32} {rest : List Value} (hret : meth.sig.returnType = some .int) (hd : decode c.code pc = .ok (.ireturn, 1)) (hq : Q (some (.int z)) T.heap locs) (hc : cells ≤ kc) (hs : slots ≤ ks) :
    GoesW p.tables e below s Q kc ks (T.setTop (mkF m pc Ls (.int z :: rest))) :=
  GoesW.out X hlk (fun h => by rw [hret] at h; cases h) (fun fs hr => retOut X hx hret rfl (Or.inl ⟨rfl, Or.inl rfl, _, rfl⟩) hd hr) hq hc hs
theorem GoesW.retZ (X : Stand p l e R s m args below meth c T locs cells slots) (hx : p.tables.exec = Jvm.exec) (hlk : meth.locks = false) {pc : Nat} {Ls : Array Slot} {z : Int32} {t : FieldType} {rest : List Value} (hret : meth.sig.returnType = some t) (ht : t = .int ∨ t = .boolean ∨ t = .byte ∨ t = .char ∨ t = .short) (hn : narrow t (.int z) = .int z) (hd : decode c.code pc = .ok (.ireturn, 1)) (hq : Q (some (.int z)) T.heap locs) (hc : cells ≤ kc) (hs : slots ≤ ks) :
    GoesW p.tables e below s Q kc ks (T.setTop (mkF m pc Ls (.int z :: rest))) :=
  GoesW.out X hlk (fun h => by rw [hret] at h; cases h) (fun fs hr => retOut X hx hret hn (Or.inl ⟨rfl, ht, _, rfl⟩) hd hr) hq hc hs
theorem GoesW.retJ (X : Stand p l e R s m args below meth c T locs cells slots) (hx : p.tables.exec = Jvm.exec) (hlk : meth.locks = false) {pc : Nat} {Ls : Array Slot} {z : Int64} {rest : List Value} (hret : meth.sig.returnType = some .long) (hd : decode c.code pc = .ok (.lreturn, 1)) (hq : Q (some (.long z)) T.heap locs) (hc : cells ≤ kc) (hs : slots ≤ ks) :
    GoesW p.tables e below s Q kc ks (T.setTop (mkF m pc Ls (.long z :: rest))) :=
  GoesW.out X hlk (fun h => by rw [hret] at h; cases h) (fun fs hr => retOut X hx hret rfl (Or.inr (Or.inl ⟨rfl, rfl, _, rfl⟩)) hd hr) hq hc hs
theorem GoesW.retA (X : Stand p l e R s m args below meth c T locs cells slots) (hx : p.tables.exec = Jvm.exec) (hlk : meth.locks = false) {pc : Nat} {Ls : Array Slot} {w : Value} {t : FieldType} {rest : List Value} (hret : meth.sig.returnType = some t) (ht : t.isReference = true) (hw : w.isRef = true) (hd : decode c.code pc = .ok (.areturn, 1)) (hq : Q (some w) T.heap locs) (hc : cells ≤ kc) (hs : slots ≤ ks) :
    GoesW p.tables e below s Q kc ks (T.setTop (mkF m pc Ls (w :: rest))) :=
  GoesW.out X hlk (fun h => by rw [hret] at h; cases h) (fun fs hr => retOut X hx hret (by cases t <;> first | (cases ht; done) | rfl) (Or.inr (Or.inr (Or.inr (Or.inr ⟨rfl, ht, hw⟩)))) hd hr) hq hc hs
theorem GoesW.retV (X : Stand p l e R s m args below meth c T locs cells slots) (hx : p.tables.exec = Jvm.exec) (hlk : meth.locks = false) {pc : Nat} {Ls : Array Slot} (hret : meth.sig.returnType = none) (hd : decode c.code pc = .ok (.return_, 1)) (hq : Q none T.heap locs) (hc : cells ≤ kc) (hs : slots ≤ ks) :
    GoesW p.tables e below s Q kc ks (T.setTop (mkF m pc Ls [])) :=
  GoesW.out X hlk (fun _ => rfl) (fun fs hr => X.returnOut hx hret hd hr) hq hc hs
end New
end Jvm.RoadKit
namespace Jvm.Pilot.@@N@@
open Jvm Jvm.ClassFile Sem Op Lib Jvm.Free Jvm.Stand Jvm.LawKit Jvm.RoadKit Bundle Jvm.Pilot.@@N@@.Jvm.D
def own_go (x hp : Int32) : Int32 := nb (if_icmp.holds .gt x hp)
theorem own_go1 {x hp : Int32} (h : ¬ hp < x) : own_go x hp = 1 := by
  show nb (if_icmp.holds .gt x hp) = 1
  rw [(flt h).2.2.1]; rfl
theorem own_go0 {x hp : Int32} (h : hp < x) : own_go x hp = 0 := by
  show nb (if_icmp.holds .gt x hp) = 0
  rw [(tlt h).2.2.1]; rfl
theorem own_self (x : Int32) : own_go x x = 1 := own_go1 (by rw [Int32.lt_iff_toInt_lt]; omega)
theorem own_next {x : Int32} (h : ¬ x = (2147483647 : Int32)) : own_go (x + (1 : Int32)) x = 0 := by
  refine own_go0 ?_
  have h1 : ¬ x.toInt = (2147483647 : Int32).toInt := fun q => h (Int32.toInt_inj.mp q)
  have e1 : (2147483647 : Int32).toInt = 2147483647 := by decide
  have e2 : (1 : Int32).toInt = 1 := by decide
  have r := rng32 x
  have r2 := rng32 (x + 1)
  have s := c_iadd x 1
  rw [Int32.lt_iff_toInt_lt]
  omega
def own_min (x y : Int32) : Int32 := if y < x then y else x
def own_max (x y : Int32) : Int32 := if x < y then y else x
theorem own_mono {x y hp : Int32} (h : ¬ own_go (own_max x y) hp = 0) : own_go (own_min x y) hp = 1 := by
  refine own_go1 fun q => h (own_go0 ?_)
  rw [Int32.lt_iff_toInt_lt] at q ⊢
  unfold own_min at q
  unfold own_max
  by_cases a : x < y <;> by_cases c : y < x <;> simp only [a, c, if_true, if_false] at q ⊢ <;> simp only [Int32.lt_iff_toInt_lt] at a c <;> omega
theorem d4_0 : decode jdk_29_method_69_code 0 = .ok (.iload_n 0, 1) := by decide +kernel
theorem d4_1 : decode jdk_29_method_69_code 1 = .ok (.iload_n 1, 1) := by decide +kernel
theorem d4_2 : decode jdk_29_method_69_code 2 = .ok (.if_icmp .gt 7, 3) := by decide +kernel
theorem d4_5 : decode jdk_29_method_69_code 5 = .ok (.iload_n 0, 1) := by decide +kernel
theorem d4_6 : decode jdk_29_method_69_code 6 = .ok (.goto 4, 3) := by decide +kernel
theorem d4_9 : decode jdk_29_method_69_code 9 = .ok (.iload_n 1, 1) := by decide +kernel
theorem d4_10 : decode jdk_29_method_69_code 10 = .ok (.ireturn, 1) := by decide +kernel
theorem pf_rm4 : plainFor (⟨"java/lang/Math", "min", "(II)I"⟩ : MethodName) = true := Jvm.Free.JP.mathPlain rfl (by decide)
theorem ef_rm4 (m : MethodId) (x0 : Int32) (x1 : Int32) : entryFrame m #[(.int x0), (.int x1)] 2 = mkF m 0 #[.val (.int x0), .val (.int x1)] [] := by first | (simp [entryFrame, mkF, argsToLocals, Value.category]; done) | rfl
def Q4 (Z : State) (p0 : Int32) (p1 : Int32) (h0 : Heap) (n0 : Nat) (v : Option Value) (h : Heap) (L : List Loc) : Prop := v = some (.int (own_min p0 p1)) ∧ Fr n0 L ∧ h = h0
set_option maxRecDepth 65536 in
set_option maxHeartbeats 40000000 in
theorem rm4 (l : Launch) (Z : State) (a0 : Array Value) (hw : ∀ d ∈ tables_1, d.before a0 Z = true) (ws : List Jvm.Cond) (p0 : Int32) (p1 : Int32) (h0 : Heap) (n0 : Nat) (Z0 : n0 ≤ h0.size)  :
    MetFree l (⟨"java/lang/Math", "min", "(II)I"⟩ : MethodName) (head1 (Jvm.Cond.code (⟨"java/lang/Math", "min", "(II)I"⟩ : MethodName) jdk_29_method_69_code 2 (some .int) :: ws) ({ frames := 0, cells := 0, slots := 0, locals := 0 } : Room)) (fun a U => a = #[(.int p0), (.int p1)] ∧ Z.Warmed39 U.vm ∧ U.heap = h0) (fun _ _ _ _ _ => True) (fun _ U o U' => ∃ v L, o = .returned v ∧ Q4 Z p0 p1 h0 n0 v U'.heap L ∧ FrameEnd U o U' L ({ frames := 0, cells := 0, slots := 0, locals := 0 } : Room).cells ({ frames := 0, cells := 0, slots := 0, locals := 0 } : Room).slots) := by
  refine MetFree.of_bodySF pf_rm4 hisR ?_
  intro p e s m args below meth c s₁ Bd hml0 hP hK
  obtain ⟨rfl, hZ, hh⟩ := hP
  have hx := Bd.exec
  have hby := Bd.bytes
  have hml : c.maxLocals = 2 := hml0
  have hown : s.vm.findClass "java/lang/Math" = some m.cls := findClass_of_methodNamed Bd.named
  have hnm := (name_of_methodNamed Bd.named Bd.method).1
  have hlk : meth.locks = false := BodyLoose.notSynchronized Bd
  have X0 : Stand p l e ({ frames := 0, cells := 0, slots := 0, locals := 0 } : Room) s m #[(.int p0), (.int p1)] below meth c s₁ [] 0 0 := Stand.of_body Bd
  have e0 : s₁.heap = h0 := by rw [← hh, Bd.state]; rfl
  have N0 := Fr.nil n0
  show GoesW p.tables e below s (Q4 Z p0 p1 h0 n0) 0 0 (s₁.setTop (entryFrame m #[(.int p0), (.int p1)] 2))
  rw [ef_rm4 m p0 p1]
  show GoesW p.tables e below s (Q4 Z p0 p1 h0 n0) 0 0 (s₁.setTop (mkF m 0 #[.val (.int p0), .val (.int p1)] []))
  refine GoesW.step (fun _ k => XS.iloadN X0.here hx rfl (hb hby d4_0) rfl k) ?_
  show GoesW p.tables e below s (Q4 Z p0 p1 h0 n0) 0 0 (s₁.setTop (mkF m 1 #[.val (.int p0), .val (.int p1)] [(.int p0)]))
  refine GoesW.step (fun _ k => XS.iloadN X0.here hx rfl (hb hby d4_1) rfl k) ?_
  show GoesW p.tables e below s (Q4 Z p0 p1 h0 n0) 0 0 (s₁.setTop (mkF m 2 #[.val (.int p0), .val (.int p1)] [(.int p1), (.int p0)]))
  by_cases h2 : p1 < p0
  · skip
    refine GoesW.step (fun _ k => XS.icmpYes X0.here hx rfl (pc0 := 2) (pc' := 9) rfl (hb hby d4_2) rfl (tlt h2).2.2.1 (by decide) (by decide) k) ?_
    show GoesW p.tables e below s (Q4 Z p0 p1 h0 n0) 0 0 (s₁.setTop (mkF m 9 #[.val (.int p0), .val (.int p1)] []))
    refine GoesW.step (fun _ k => XS.iloadN X0.here hx rfl (hb hby d4_9) rfl k) ?_
    show GoesW p.tables e below s (Q4 Z p0 p1 h0 n0) 0 0 (s₁.setTop (mkF m 10 #[.val (.int p0), .val (.int p1)] [(.int p1)]))
    exact GoesW.retI X0 hx hlk Bd.returns (hb hby d4_10) (by show Q4 Z p0 p1 h0 n0 _ s₁.heap _; rw [e0]; exact ⟨by rw [own_min, if_pos h2], N0, rfl⟩) (by decide) (by decide)
  · skip
    refine GoesW.step (fun _ k => XS.icmpNo X0.here hx rfl (hb hby d4_2) rfl (flt h2).2.2.1 k) ?_
    show GoesW p.tables e below s (Q4 Z p0 p1 h0 n0) 0 0 (s₁.setTop (mkF m 5 #[.val (.int p0), .val (.int p1)] []))
    refine GoesW.step (fun _ k => XS.iloadN X0.here hx rfl (hb hby d4_5) rfl k) ?_
    show GoesW p.tables e below s (Q4 Z p0 p1 h0 n0) 0 0 (s₁.setTop (mkF m 6 #[.val (.int p0), .val (.int p1)] [(.int p0)]))
    refine GoesW.step (fun _ k => XS.goto X0.here hx rfl (pc0 := 6) (pc' := 10) rfl (hb hby d4_6) (by decide) (by decide) k) ?_
    show GoesW p.tables e below s (Q4 Z p0 p1 h0 n0) 0 0 (s₁.setTop (mkF m 10 #[.val (.int p0), .val (.int p1)] [(.int p0)]))
    exact GoesW.retI X0 hx hlk Bd.returns (hb hby d4_10) (by show Q4 Z p0 p1 h0 n0 _ s₁.heap _; rw [e0]; exact ⟨by rw [own_min, if_neg h2], N0, rfl⟩) (by decide) (by decide)
theorem d5_0 : decode jdk_29_method_65_code 0 = .ok (.iload_n 0, 1) := by decide +kernel
theorem d5_1 : decode jdk_29_method_65_code 1 = .ok (.iload_n 1, 1) := by decide +kernel
theorem d5_2 : decode jdk_29_method_65_code 2 = .ok (.if_icmp .lt 7, 3) := by decide +kernel
theorem d5_5 : decode jdk_29_method_65_code 5 = .ok (.iload_n 0, 1) := by decide +kernel
theorem d5_6 : decode jdk_29_method_65_code 6 = .ok (.goto 4, 3) := by decide +kernel
theorem d5_9 : decode jdk_29_method_65_code 9 = .ok (.iload_n 1, 1) := by decide +kernel
theorem d5_10 : decode jdk_29_method_65_code 10 = .ok (.ireturn, 1) := by decide +kernel
theorem pf_rm5 : plainFor (⟨"java/lang/Math", "max", "(II)I"⟩ : MethodName) = true := Jvm.Free.JP.mathPlain rfl (by decide)
theorem ef_rm5 (m : MethodId) (x0 : Int32) (x1 : Int32) : entryFrame m #[(.int x0), (.int x1)] 2 = mkF m 0 #[.val (.int x0), .val (.int x1)] [] := by first | (simp [entryFrame, mkF, argsToLocals, Value.category]; done) | rfl
def Q5 (Z : State) (p0 : Int32) (p1 : Int32) (h0 : Heap) (n0 : Nat) (v : Option Value) (h : Heap) (L : List Loc) : Prop := v = some (.int (own_max p0 p1)) ∧ Fr n0 L ∧ h = h0
set_option maxRecDepth 65536 in
set_option maxHeartbeats 40000000 in
theorem rm5 (l : Launch) (Z : State) (a0 : Array Value) (hw : ∀ d ∈ tables_1, d.before a0 Z = true) (ws : List Jvm.Cond) (p0 : Int32) (p1 : Int32) (h0 : Heap) (n0 : Nat) (Z0 : n0 ≤ h0.size)  :
    MetFree l (⟨"java/lang/Math", "max", "(II)I"⟩ : MethodName) (head1 (Jvm.Cond.code (⟨"java/lang/Math", "max", "(II)I"⟩ : MethodName) jdk_29_method_65_code 2 (some .int) :: ws) ({ frames := 0, cells := 0, slots := 0, locals := 0 } : Room)) (fun a U => a = #[(.int p0), (.int p1)] ∧ Z.Warmed39 U.vm ∧ U.heap = h0) (fun _ _ _ _ _ => True) (fun _ U o U' => ∃ v L, o = .returned v ∧ Q5 Z p0 p1 h0 n0 v U'.heap L ∧ FrameEnd U o U' L ({ frames := 0, cells := 0, slots := 0, locals := 0 } : Room).cells ({ frames := 0, cells := 0, slots := 0, locals := 0 } : Room).slots) := by
  refine MetFree.of_bodySF pf_rm5 hisR ?_
  intro p e s m args below meth c s₁ Bd hml0 hP hK
  obtain ⟨rfl, hZ, hh⟩ := hP
  have hx := Bd.exec
  have hby := Bd.bytes
  have hml : c.maxLocals = 2 := hml0
  have hown : s.vm.findClass "java/lang/Math" = some m.cls := findClass_of_methodNamed Bd.named
  have hnm := (name_of_methodNamed Bd.named Bd.method).1
  have hlk : meth.locks = false := BodyLoose.notSynchronized Bd
  have X0 : Stand p l e ({ frames := 0, cells := 0, slots := 0, locals := 0 } : Room) s m #[(.int p0), (.int p1)] below meth c s₁ [] 0 0 := Stand.of_body Bd
  have e0 : s₁.heap = h0 := by rw [← hh, Bd.state]; rfl
  have N0 := Fr.nil n0
  show GoesW p.tables e below s (Q5 Z p0 p1 h0 n0) 0 0 (s₁.setTop (entryFrame m #[(.int p0), (.int p1)] 2))
  rw [ef_rm5 m p0 p1]
  show GoesW p.tables e below s (Q5 Z p0 p1 h0 n0) 0 0 (s₁.setTop (mkF m 0 #[.val (.int p0), .val (.int p1)] []))
  refine GoesW.step (fun _ k => XS.iloadN X0.here hx rfl (hb hby d5_0) rfl k) ?_
  show GoesW p.tables e below s (Q5 Z p0 p1 h0 n0) 0 0 (s₁.setTop (mkF m 1 #[.val (.int p0), .val (.int p1)] [(.int p0)]))
  refine GoesW.step (fun _ k => XS.iloadN X0.here hx rfl (hb hby d5_1) rfl k) ?_
  show GoesW p.tables e below s (Q5 Z p0 p1 h0 n0) 0 0 (s₁.setTop (mkF m 2 #[.val (.int p0), .val (.int p1)] [(.int p1), (.int p0)]))
  by_cases h2 : p0 < p1
  · skip
    refine GoesW.step (fun _ k => XS.icmpYes X0.here hx rfl (pc0 := 2) (pc' := 9) rfl (hb hby d5_2) rfl (tlt h2).1 (by decide) (by decide) k) ?_
    show GoesW p.tables e below s (Q5 Z p0 p1 h0 n0) 0 0 (s₁.setTop (mkF m 9 #[.val (.int p0), .val (.int p1)] []))
    refine GoesW.step (fun _ k => XS.iloadN X0.here hx rfl (hb hby d5_9) rfl k) ?_
    show GoesW p.tables e below s (Q5 Z p0 p1 h0 n0) 0 0 (s₁.setTop (mkF m 10 #[.val (.int p0), .val (.int p1)] [(.int p1)]))
    exact GoesW.retI X0 hx hlk Bd.returns (hb hby d5_10) (by show Q5 Z p0 p1 h0 n0 _ s₁.heap _; rw [e0]; exact ⟨by rw [own_max, if_pos h2], N0, rfl⟩) (by decide) (by decide)
  · skip
    refine GoesW.step (fun _ k => XS.icmpNo X0.here hx rfl (hb hby d5_2) rfl (flt h2).1 k) ?_
    show GoesW p.tables e below s (Q5 Z p0 p1 h0 n0) 0 0 (s₁.setTop (mkF m 5 #[.val (.int p0), .val (.int p1)] []))
    refine GoesW.step (fun _ k => XS.iloadN X0.here hx rfl (hb hby d5_5) rfl k) ?_
    show GoesW p.tables e below s (Q5 Z p0 p1 h0 n0) 0 0 (s₁.setTop (mkF m 6 #[.val (.int p0), .val (.int p1)] [(.int p0)]))
    refine GoesW.step (fun _ k => XS.goto X0.here hx rfl (pc0 := 6) (pc' := 10) rfl (hb hby d5_6) (by decide) (by decide) k) ?_
    show GoesW p.tables e below s (Q5 Z p0 p1 h0 n0) 0 0 (s₁.setTop (mkF m 10 #[.val (.int p0), .val (.int p1)] [(.int p0)]))
    exact GoesW.retI X0 hx hlk Bd.returns (hb hby d5_10) (by show Q5 Z p0 p1 h0 n0 _ s₁.heap _; rw [e0]; exact ⟨by rw [own_max, if_neg h2], N0, rfl⟩) (by decide) (by decide)
theorem own_pn0 : plainName "com/example/rhadamanth/rhadamanth/engine/DocumentMatch" = true := by first | (simp [plainName, overriddenIn]; done) | decide +kernel
theorem d3_0 : decode prog_2_method_4_code 0 = .ok (.iload_n 1, 1) := by decide +kernel
theorem d3_1 : decode prog_2_method_4_code 1 = .ok (.aload_n 0, 1) := by decide +kernel
theorem d3_2 : decode prog_2_method_4_code 2 = .ok (.getfield 34, 3) := by decide +kernel
theorem d3_5 : decode prog_2_method_4_code 5 = .ok (.if_icmp .gt 7, 3) := by decide +kernel
theorem d3_8 : decode prog_2_method_4_code 8 = .ok (.iconst 1, 1) := by decide +kernel
theorem d3_9 : decode prog_2_method_4_code 9 = .ok (.goto 4, 3) := by decide +kernel
theorem d3_12 : decode prog_2_method_4_code 12 = .ok (.iconst 0, 1) := by decide +kernel
theorem d3_13 : decode prog_2_method_4_code 13 = .ok (.ireturn, 1) := by decide +kernel
theorem ef_rm3 (m : MethodId) (x0 : Addr) (x1 : Int32) : entryFrame m #[(.ref x0), (.int x1)] 2 = mkF m 0 #[.val (.ref x0), .val (.int x1)] [] := by first | (simp [entryFrame, mkF, argsToLocals, Value.category]; done) | rfl
def Q3 (Z : State) (r0 : Addr) (p1 : Int32) (hp : Int32) (h0 : Heap) (n0 : Nat) (v : Option Value) (h : Heap) (L : List Loc) : Prop := v = some (.int (own_go p1 hp)) ∧ Fr n0 L ∧ h = h0
set_option maxRecDepth 65536 in
set_option maxHeartbeats 40000000 in
theorem rm3 (l : Launch) (Z : State) (a0 : Array Value) (hw : ∀ d ∈ tables_1, d.before a0 Z = true) (ws : List Jvm.Cond) (r0 : Addr) (p1 : Int32) (hp : Int32) (h0 : Heap) (n0 : Nat) (Z0 : n0 ≤ h0.size) (F_hp : Fld Z h0 r0 "com/example/rhadamanth/rhadamanth/engine/DocumentMatch" "highestPosition" "I" (.int hp)) :
    MetFree l (⟨"com/example/rhadamanth/rhadamanth/engine/DocumentMatch", "givesOffset", "(I)Z"⟩ : MethodName) (head1 (Jvm.Cond.code (⟨"com/example/rhadamanth/rhadamanth/engine/DocumentMatch", "givesOffset", "(I)Z"⟩ : MethodName) prog_2_method_4_code 2 (some .boolean) :: ws) ({ frames := 0, cells := 0, slots := 0, locals := 0 } : Room)) (fun a U => a = #[(.ref r0), (.int p1)] ∧ Z.Warmed39 U.vm ∧ U.heap = h0) (fun _ _ _ _ _ => True) (fun _ U o U' => ∃ v L, o = .returned v ∧ Q3 Z r0 p1 hp h0 n0 v U'.heap L ∧ FrameEnd U o U' L ({ frames := 0, cells := 0, slots := 0, locals := 0 } : Room).cells ({ frames := 0, cells := 0, slots := 0, locals := 0 } : Room).slots) := by
  refine MetFree.of_bodySF (plainFor_of_name own_pn0) hisR ?_
  intro p e s m args below meth c s₁ Bd hml0 hP hK
  obtain ⟨rfl, hZ, hh⟩ := hP
  have hx := Bd.exec
  have hby := Bd.bytes
  have hml : c.maxLocals = 2 := hml0
  have hown : s.vm.findClass "com/example/rhadamanth/rhadamanth/engine/DocumentMatch" = some m.cls := findClass_of_methodNamed Bd.named
  have hnm := (name_of_methodNamed Bd.named Bd.method).1
  have hlk : meth.locks = false := BodyLoose.notSynchronized Bd
  have X0 : Stand p l e ({ frames := 0, cells := 0, slots := 0, locals := 0 } : Room) s m #[(.ref r0), (.int p1)] below meth c s₁ [] 0 0 := Stand.of_body Bd
  have e0 : s₁.heap = h0 := by rw [← hh, Bd.state]; rfl
  have N0 := Fr.nil n0
  show GoesW p.tables e below s (Q3 Z r0 p1 hp h0 n0) 0 0 (s₁.setTop (entryFrame m #[(.ref r0), (.int p1)] 2))
  rw [ef_rm3 m r0 p1]
  show GoesW p.tables e below s (Q3 Z r0 p1 hp h0 n0) 0 0 (s₁.setTop (mkF m 0 #[.val (.ref r0), .val (.int p1)] []))
  refine GoesW.step (fun _ k => XS.iloadN X0.here hx rfl (hb hby d3_0) rfl k) ?_
  show GoesW p.tables e below s (Q3 Z r0 p1 hp h0 n0) 0 0 (s₁.setTop (mkF m 1 #[.val (.ref r0), .val (.int p1)] [(.int p1)]))
  refine GoesW.step (fun _ k => XS.aloadN X0.here hx rfl (hb hby d3_1) rfl rfl k) ?_
  show GoesW p.tables e below s (Q3 Z r0 p1 hp h0 n0) 0 0 (s₁.setTop (mkF m 2 #[.val (.ref r0), .val (.int p1)] [(.ref r0), (.int p1)]))
  obtain ⟨T1, X1, e1, st1⟩ := getF X0 hx hZ hown (host := "") (Or.inl (hw _ (List.mem_of_getElem? (i := 26) rfl))) Via.refl e0 F_hp (g := (mkF m 2 #[.val (.ref r0), .val (.int p1)] [(.ref r0), (.int p1)])) rfl rfl (hb hby d3_2)
  refine GoesW.step st1 ?_
  show GoesW p.tables e below s (Q3 Z r0 p1 hp h0 n0) 0 0 (T1.setTop (mkF m 5 #[.val (.ref r0), .val (.int p1)] [(.int hp), (.int p1)]))
  refine GoesW.step (fun _ k => diam2 X1.here hx rfl (pc0 := 5) rfl (hb hby d3_5) rfl (hb hby d3_8) (hb hby d3_9) (hb hby d3_12) k) ?_
  show GoesW p.tables e below s (Q3 Z r0 p1 hp h0 n0) 0 0 (T1.setTop (mkF m 13 #[.val (.ref r0), .val (.int p1)] [(.int (nb (if_icmp.holds .gt p1 hp)))]))
  exact GoesW.retZ X1 hx hlk (t := .boolean) Bd.returns (by simp) (nar_nb _) (hb hby d3_13) (by show Q3 Z r0 p1 hp h0 n0 _ T1.heap _; rw [e1]; exact ⟨rfl, N0, rfl⟩) (by decide) (by decide)
theorem d1_0 : decode prog_2_method_1_code 0 = .ok (.aload_n 0, 1) := by decide +kernel
theorem d1_1 : decode prog_2_method_1_code 1 = .ok (.invokespecial 1, 3) := by decide +kernel
theorem d1_4 : decode prog_2_method_1_code 4 = .ok (.aload_n 0, 1) := by decide +kernel
theorem d1_5 : decode prog_2_method_1_code 5 = .ok (.iconst 4, 1) := by decide +kernel
theorem d1_6 : decode prog_2_method_1_code 6 = .ok (.newarray .int, 2) := by decide +kernel
theorem d1_8 : decode prog_2_method_1_code 8 = .ok (.putfield 9, 3) := by decide +kernel
theorem d1_11 : decode prog_2_method_1_code 11 = .ok (.aload_n 0, 1) := by decide +kernel
theorem d1_12 : decode prog_2_method_1_code 12 = .ok (.iconst 4, 1) := by decide +kernel
theorem d1_13 : decode prog_2_method_1_code 13 = .ok (.anewarray 13, 3) := by decide +kernel
theorem d1_16 : decode prog_2_method_1_code 16 = .ok (.putfield 15, 3) := by decide +kernel
theorem d1_19 : decode prog_2_method_1_code 19 = .ok (.aload_n 0, 1) := by decide +kernel
theorem d1_20 : decode prog_2_method_1_code 20 = .ok (.iconst 4, 1) := by decide +kernel
theorem d1_21 : decode prog_2_method_1_code 21 = .ok (.newarray .boolean, 2) := by decide +kernel
theorem d1_23 : decode prog_2_method_1_code 23 = .ok (.putfield 19, 3) := by decide +kernel
theorem d1_26 : decode prog_2_method_1_code 26 = .ok (.aload_n 0, 1) := by decide +kernel
theorem d1_27 : decode prog_2_method_1_code 27 = .ok (.iconst 4, 1) := by decide +kernel
theorem d1_28 : decode prog_2_method_1_code 28 = .ok (.newarray .int, 2) := by decide +kernel
theorem d1_30 : decode prog_2_method_1_code 30 = .ok (.putfield 23, 3) := by decide +kernel
theorem d1_33 : decode prog_2_method_1_code 33 = .ok (.aload_n 0, 1) := by decide +kernel
theorem d1_34 : decode prog_2_method_1_code 34 = .ok (.iconst 4, 1) := by decide +kernel
theorem d1_35 : decode prog_2_method_1_code 35 = .ok (.newarray .long, 2) := by decide +kernel
theorem d1_37 : decode prog_2_method_1_code 37 = .ok (.putfield 26, 3) := by decide +kernel
theorem d1_40 : decode prog_2_method_1_code 40 = .ok (.aload_n 0, 1) := by decide +kernel
theorem d1_41 : decode prog_2_method_1_code 41 = .ok (.lload_n 1, 1) := by decide +kernel
theorem d1_42 : decode prog_2_method_1_code 42 = .ok (.putfield 30, 3) := by decide +kernel
theorem d1_45 : decode prog_2_method_1_code 45 = .ok (.aload_n 0, 1) := by decide +kernel
theorem d1_46 : decode prog_2_method_1_code 46 = .ok (.iload_n 3, 1) := by decide +kernel
theorem d1_47 : decode prog_2_method_1_code 47 = .ok (.putfield 34, 3) := by decide +kernel
theorem d1_50 : decode prog_2_method_1_code 50 = .ok (.aload_n 0, 1) := by decide +kernel
theorem d1_51 : decode prog_2_method_1_code 51 = .ok (.iload 4, 2) := by decide +kernel
theorem d1_53 : decode prog_2_method_1_code 53 = .ok (.putfield 38, 3) := by decide +kernel
theorem d1_56 : decode prog_2_method_1_code 56 = .ok (.return_, 1) := by decide +kernel
theorem ef_rm1 (m : MethodId) (x0 : Addr) (x1 : Int64) (x2 : Int32) (x3 : Int32) : entryFrame m #[(.ref x0), (.long x1), (.int x2), (.int x3)] 5 = mkF m 0 #[.val (.ref x0), .val (.long x1), .second, .val (.int x2), .val (.int x3)] [] := by first | (simp [entryFrame, mkF, argsToLocals, Value.category]; done) | rfl
def Q1 (Z : State) (r0 : Addr) (q1 : Int64) (p2 : Int32) (p3 : Int32) (h0 : Heap) (n0 : Nat) (v : Option Value) (h : Heap) (L : List Loc) : Prop := v = none ∧ Fr n0 L ∧ Keep h0 h [r0] ∧ Fld Z h r0 "com/example/rhadamanth/rhadamanth/engine/DocumentMatch" "highestPosition" "I" (.int p2)
set_option maxRecDepth 65536 in
set_option maxHeartbeats 40000000 in
theorem rm1 (l : Launch) (Z : State) (a0 : Array Value) (hw : ∀ d ∈ tables_1, d.before a0 Z = true) (ws : List Jvm.Cond) (r0 : Addr) (q1 : Int64) (p2 : Int32) (p3 : Int32) (h0 : Heap) (n0 : Nat) (Z0 : n0 ≤ h0.size) (A0 : Exa Z h0 r0 "com/example/rhadamanth/rhadamanth/engine/DocumentMatch") (g_r0 : n0 ≤ r0) (b3 : narrow .boolean (.int p3) = .int p3) (c3 : fits .boolean (.int p3) = true) (F_words : Fld Z h0 r0 "com/example/rhadamanth/rhadamanth/engine/DocumentMatch" "words" "[I" .null) (F_postings : Fld Z h0 r0 "com/example/rhadamanth/rhadamanth/engine/DocumentMatch" "postings" "[Lcom/example/rhadamanth/rhadamanth/engine/Posting;" .null) (F_taken : Fld Z h0 r0 "com/example/rhadamanth/rhadamanth/engine/DocumentMatch" "taken" "[Z" .null) (F_positionlessFields : Fld Z h0 r0 "com/example/rhadamanth/rhadamanth/engine/DocumentMatch" "positionlessFields" "[I" .null) (F_hits : Fld Z h0 r0 "com/example/rhadamanth/rhadamanth/engine/DocumentMatch" "hits" "[J" .null) (F_documentId : Fld Z h0 r0 "com/example/rhadamanth/rhadamanth/engine/DocumentMatch" "documentId" "J" (.long (0 : Int64))) (F_highestPosition : Fld Z h0 r0 "com/example/rhadamanth/rhadamanth/engine/DocumentMatch" "highestPosition" "I" (.int (0 : Int32))) (F_takesBarred : Fld Z h0 r0 "com/example/rhadamanth/rhadamanth/engine/DocumentMatch" "takesBarred" "Z" (.int (0 : Int32))) :
    MetFree l (⟨"com/example/rhadamanth/rhadamanth/engine/DocumentMatch", "<init>", "(JIZ)V"⟩ : MethodName) (head1 (Jvm.Cond.code (⟨"com/example/rhadamanth/rhadamanth/engine/DocumentMatch", "<init>", "(JIZ)V"⟩ : MethodName) prog_2_method_1_code 5 none :: ws) ({ frames := 1, cells := 5, slots := 20, locals := 12 } : Room)) (fun a U => a = #[(.ref r0), (.long q1), (.int p2), (.int p3)] ∧ Z.Warmed39 U.vm ∧ U.heap = h0) (fun _ _ _ _ _ => True) (fun _ U o U' => ∃ v L, o = .returned v ∧ Q1 Z r0 q1 p2 p3 h0 n0 v U'.heap L ∧ FrameEnd U o U' L ({ frames := 1, cells := 5, slots := 20, locals := 12 } : Room).cells ({ frames := 1, cells := 5, slots := 20, locals := 12 } : Room).slots) := by
  refine MetFree.of_bodySF (plainFor_of_name own_pn0) hisR ?_
  intro p e s m args below meth c s₁ Bd hml0 hP hK
  obtain ⟨rfl, hZ, hh⟩ := hP
  have hx := Bd.exec
  have hby := Bd.bytes
  have hml : c.maxLocals = 5 := hml0
  have hown : s.vm.findClass "com/example/rhadamanth/rhadamanth/engine/DocumentMatch" = some m.cls := findClass_of_methodNamed Bd.named
  have hnm := (name_of_methodNamed Bd.named Bd.method).1
  have hlk : meth.locks = false := BodyLoose.notSynchronized Bd
  have X0 : Stand p l e ({ frames := 1, cells := 5, slots := 20, locals := 12 } : Room) s m #[(.ref r0), (.long q1), (.int p2), (.int p3)] below meth c s₁ [] 0 0 := Stand.of_body Bd
  have e0 : s₁.heap = h0 := by rw [← hh, Bd.state]; rfl
  have N0 := Fr.nil n0
  show GoesW p.tables e below s (Q1 Z r0 q1 p2 p3 h0 n0) 5 20 (s₁.setTop (entryFrame m #[(.ref r0), (.long q1), (.int p2), (.int p3)] 5))
  rw [ef_rm1 m r0 q1 p2 p3]
  show GoesW p.tables e below s (Q1 Z r0 q1 p2 p3 h0 n0) 5 20 (s₁.setTop (mkF m 0 #[.val (.ref r0), .val (.long q1), .second, .val (.int p2), .val (.int p3)] []))
  refine GoesW.step (fun _ k => XS.aloadN X0.here hx rfl (hb hby d1_0) rfl rfl k) ?_
  show GoesW p.tables e below s (Q1 Z r0 q1 p2 p3 h0 n0) 5 20 (s₁.setTop (mkF m 1 #[.val (.ref r0), .val (.long q1), .second, .val (.int p2), .val (.int p3)] [(.ref r0)]))
  obtain ⟨T1, X1, e1, st1⟩ := initO X0 hx hZ hown (hw _ (List.mem_of_getElem? (i := 6) rfl)) (hw _ (List.mem_of_getElem? (i := 7) rfl)) (hw _ (List.mem_of_getElem? (i := 8) rfl)) e0 (g := (mkF m 1 #[.val (.ref r0), .val (.long q1), .second, .val (.int p2), .val (.int p3)] [(.ref r0)])) rfl (by rw [hml]; rfl) rfl (hb hby d1_1) (by decide) (W := 0) (by show 2 * 0 + _ ≤ _; exact Nat.le_of_eq rfl) (by decide)
  refine GoesW.step st1 ?_
  show GoesW p.tables e below s (Q1 Z r0 q1 p2 p3 h0 n0) 5 20 (T1.setTop (mkF m 4 #[.val (.ref r0), .val (.long q1), .second, .val (.int p2), .val (.int p3)] []))
  refine GoesW.step (fun _ k => XS.aloadN X1.here hx rfl (hb hby d1_4) rfl rfl k) ?_
  show GoesW p.tables e below s (Q1 Z r0 q1 p2 p3 h0 n0) 5 20 (T1.setTop (mkF m 5 #[.val (.ref r0), .val (.long q1), .second, .val (.int p2), .val (.int p3)] [(.ref r0)]))
  refine GoesW.step (fun _ k => XS.iconst X1.here hx rfl (hb hby d1_5) k) ?_
  show GoesW p.tables e below s (Q1 Z r0 q1 p2 p3 h0 n0) 5 20 (T1.setTop (mkF m 6 #[.val (.ref r0), .val (.long q1), .second, .val (.int p2), .val (.int p3)] [(.int (4 : Int32)), (.ref r0)]))
  obtain ⟨T2, h2, k2, X2, e2, E2, A2, st2⟩ := newP X1 hx hZ (hw _ (List.mem_of_getElem? (i := 9) rfl)) e1 (g := (mkF m 6 #[.val (.ref r0), .val (.long q1), .second, .val (.int p2), .val (.int p3)] [(.int (4 : Int32)), (.ref r0)])) rfl (hb hby d1_6) rfl (by decide) (cap := 4) (by decide) (by decide) (by decide) (by decide)
  obtain ⟨b2, gs2⟩ : ∃ z, z = h0.size := ⟨_, rfl⟩
  rw [← gs2] at A2 st2
  have g_b2 : n0 ≤ b2 := Nat.le_trans Z0 (Nat.le_of_eq gs2.symm)
  have sz_b2 : h0.size ≤ b2 := Nat.le_trans (Keep.refl h0 [r0]).1 (Nat.le_of_eq gs2.symm)
  have ne_r0_b2 : r0 ≠ b2 := Nat.ne_of_lt (Nat.lt_of_lt_of_le A0.lt (Nat.le_of_eq gs2.symm))
  have Z2 : n0 ≤ h2.size := Nat.le_trans Z0 E2.1
  have K2 : Keep h0 h2 [r0] := (Keep.refl h0 [r0]).ext E2
  have V_b2 : Arv Z h2 b2 k2 .int (4 : Int32) [(.int (0 : Int32)), (.int (0 : Int32)), (.int (0 : Int32)), (.int (0 : Int32))] (.int (0 : Int32)) := (Arv.new A2 (by decide)).pad (pad_rep [] (.int (0 : Int32)) 4)
  refine GoesW.step st2 ?_
  show GoesW p.tables e below s (Q1 Z r0 q1 p2 p3 h0 n0) 5 20 (T2.setTop (mkF m 8 #[.val (.ref r0), .val (.long q1), .second, .val (.int p2), .val (.int p3)] [(.ref b2), (.ref r0)]))
  have Exa_r0_3 := (A0.ext E2)
  have Fld_r0_words_4 := (F_words.ext E2)
  obtain ⟨T5, h5, X5, e5, W5, st5⟩ := putF X2 hx hZ hown (host := "") (Or.inl (hw _ (List.mem_of_getElem? (i := 10) rfl))) Via.refl e2 Fld_r0_words_4 Exa_r0_3 (Or.inl (hw _ (List.mem_of_getElem? (i := 11) rfl))) (hw _ (List.mem_of_getElem? (i := 1) rfl)) (ty := (.array .int)) (by decide) rfl rfl (g := (mkF m 8 #[.val (.ref r0), .val (.long q1), .second, .val (.int p2), .val (.int p3)] [(.ref b2), (.ref r0)])) rfl rfl (hb hby d1_8)
  have F5 := Fld_r0_words_4.same W5
  have N5 := Fr.snoc X5 N0 g_r0
  have Z5 : n0 ≤ h5.size := Nat.le_trans Z2 (Keep.of_wr W5).1
  have K5 : Keep h0 h5 [r0] := K2.wr W5 (Or.inl (List.mem_of_getElem? (i := 0) rfl))
  refine GoesW.step st5 ?_
  show GoesW p.tables e below s (Q1 Z r0 q1 p2 p3 h0 n0) 5 20 (T5.setTop (mkF m 11 #[.val (.ref r0), .val (.long q1), .second, .val (.int p2), .val (.int p3)] []))
  refine GoesW.step (fun _ k => XS.aloadN X5.here hx rfl (hb hby d1_11) rfl rfl k) ?_
  show GoesW p.tables e below s (Q1 Z r0 q1 p2 p3 h0 n0) 5 20 (T5.setTop (mkF m 12 #[.val (.ref r0), .val (.long q1), .second, .val (.int p2), .val (.int p3)] [(.ref r0)]))
  refine GoesW.step (fun _ k => XS.iconst X5.here hx rfl (hb hby d1_12) k) ?_
  show GoesW p.tables e below s (Q1 Z r0 q1 p2 p3 h0 n0) 5 20 (T5.setTop (mkF m 13 #[.val (.ref r0), .val (.long q1), .second, .val (.int p2), .val (.int p3)] [(.int (4 : Int32)), (.ref r0)]))
  obtain ⟨T6, h6, k6, X6, e6, E6, A6, O6, st6⟩ := newR X5 hx hZ hown (hw _ (List.mem_of_getElem? (i := 12) rfl)) (hw _ (List.mem_of_getElem? (i := 13) rfl)) e5 (g := (mkF m 13 #[.val (.ref r0), .val (.long q1), .second, .val (.int p2), .val (.int p3)] [(.int (4 : Int32)), (.ref r0)])) rfl (hb hby d1_13) rfl (by decide) (cap := 4) (by decide) (by decide) (by decide) (by decide)
  obtain ⟨b6, gs6⟩ : ∃ z, z = h5.size := ⟨_, rfl⟩
  rw [← gs6] at A6 st6
  have g_b6 : n0 ≤ b6 := Nat.le_trans Z5 (Nat.le_of_eq gs6.symm)
  have sz_b6 : h0.size ≤ b6 := Nat.le_trans K5.1 (Nat.le_of_eq gs6.symm)
  have ne_r0_b6 : r0 ≠ b6 := Nat.ne_of_lt (Nat.lt_of_lt_of_le (Exa_r0_3.wr W5).lt (Nat.le_of_eq gs6.symm))
  have ne_b2_b6 : b2 ≠ b6 := Nat.ne_of_lt (Nat.lt_of_lt_of_le (V_b2.other W5 (Ne.symm ne_r0_b2)).lt (Nat.le_of_eq gs6.symm))
  have Z6 : n0 ≤ h6.size := Nat.le_trans Z5 E6.1
  have K6 : Keep h0 h6 [r0] := K5.ext E6
  have V_b6 : Arv Z h6 b6 k6 (.object "com/example/rhadamanth/rhadamanth/engine/Posting") (4 : Int32) [.null, .null, .null, .null] .null := (Arv.new A6 (by decide)).pad (pad_rep [] .null 4)
  refine GoesW.step st6 ?_
  show GoesW p.tables e below s (Q1 Z r0 q1 p2 p3 h0 n0) 5 20 (T6.setTop (mkF m 16 #[.val (.ref r0), .val (.long q1), .second, .val (.int p2), .val (.int p3)] [(.ref b6), (.ref r0)]))
  have Exa_r0_7 := ((Exa_r0_3.wr W5).ext E6)
  have Fld_r0_postings_8 := (((F_postings.ext E2).other W5 (Or.inr (slot_ne (Or.inl (hw _ (List.mem_of_getElem? (i := 15) rfl))) (Or.inl (hw _ (List.mem_of_getElem? (i := 11) rfl))) (by decide) (t := (.array (.object "com/example/rhadamanth/rhadamanth/engine/Posting"))) (t' := (.array .int)) (by decide) (by decide)))).ext E6)
  obtain ⟨T9, h9, X9, e9, W9, st9⟩ := putF X6 hx hZ hown (host := "") (Or.inl (hw _ (List.mem_of_getElem? (i := 14) rfl))) Via.refl e6 Fld_r0_postings_8 Exa_r0_7 (Or.inl (hw _ (List.mem_of_getElem? (i := 15) rfl))) (hw _ (List.mem_of_getElem? (i := 1) rfl)) (ty := (.array (.object "com/example/rhadamanth/rhadamanth/engine/Posting"))) (by decide) rfl rfl (g := (mkF m 16 #[.val (.ref r0), .val (.long q1), .second, .val (.int p2), .val (.int p3)] [(.ref b6), (.ref r0)])) rfl rfl (hb hby d1_16)
  have F9 := Fld_r0_postings_8.same W9
  have N9 := Fr.snoc X9 N5 g_r0
  have Z9 : n0 ≤ h9.size := Nat.le_trans Z6 (Keep.of_wr W9).1
  have K9 : Keep h0 h9 [r0] := K6.wr W9 (Or.inl (List.mem_of_getElem? (i := 0) rfl))
  refine GoesW.step st9 ?_
  show GoesW p.tables e below s (Q1 Z r0 q1 p2 p3 h0 n0) 5 20 (T9.setTop (mkF m 19 #[.val (.ref r0), .val (.long q1), .second, .val (.int p2), .val (.int p3)] []))
  refine GoesW.step (fun _ k => XS.aloadN X9.here hx rfl (hb hby d1_19) rfl rfl k) ?_
  show GoesW p.tables e below s (Q1 Z r0 q1 p2 p3 h0 n0) 5 20 (T9.setTop (mkF m 20 #[.val (.ref r0), .val (.long q1), .second, .val (.int p2), .val (.int p3)] [(.ref r0)]))
  refine GoesW.step (fun _ k => XS.iconst X9.here hx rfl (hb hby d1_20) k) ?_
  show GoesW p.tables e below s (Q1 Z r0 q1 p2 p3 h0 n0) 5 20 (T9.setTop (mkF m 21 #[.val (.ref r0), .val (.long q1), .second, .val (.int p2), .val (.int p3)] [(.int (4 : Int32)), (.ref r0)]))
  obtain ⟨T10, h10, k10, X10, e10, E10, A10, st10⟩ := newP X9 hx hZ (hw _ (List.mem_of_getElem? (i := 16) rfl)) e9 (g := (mkF m 21 #[.val (.ref r0), .val (.long q1), .second, .val (.int p2), .val (.int p3)] [(.int (4 : Int32)), (.ref r0)])) rfl (hb hby d1_21) rfl (by decide) (cap := 4) (by decide) (by decide) (by decide) (by decide)
  obtain ⟨b10, gs10⟩ : ∃ z, z = h9.size := ⟨_, rfl⟩
  rw [← gs10] at A10 st10
  have g_b10 : n0 ≤ b10 := Nat.le_trans Z9 (Nat.le_of_eq gs10.symm)
  have sz_b10 : h0.size ≤ b10 := Nat.le_trans K9.1 (Nat.le_of_eq gs10.symm)
  have ne_r0_b10 : r0 ≠ b10 := Nat.ne_of_lt (Nat.lt_of_lt_of_le (Exa_r0_7.wr W9).lt (Nat.le_of_eq gs10.symm))
  have ne_b2_b10 : b2 ≠ b10 := Nat.ne_of_lt (Nat.lt_of_lt_of_le (((V_b2.other W5 (Ne.symm ne_r0_b2)).ext E6).other W9 (Ne.symm ne_r0_b2)).lt (Nat.le_of_eq gs10.symm))
  have ne_b6_b10 : b6 ≠ b10 := Nat.ne_of_lt (Nat.lt_of_lt_of_le (V_b6.other W9 (Ne.symm ne_r0_b6)).lt (Nat.le_of_eq gs10.symm))
  have Z10 : n0 ≤ h10.size := Nat.le_trans Z9 E10.1
  have K10 : Keep h0 h10 [r0] := K9.ext E10
  have V_b10 : Arv Z h10 b10 k10 .boolean (4 : Int32) [(.int (0 : Int32)), (.int (0 : Int32)), (.int (0 : Int32)), (.int (0 : Int32))] (.int (0 : Int32)) := (Arv.new A10 (by decide)).pad (pad_rep [] (.int (0 : Int32)) 4)
  refine GoesW.step st10 ?_
  show GoesW p.tables e below s (Q1 Z r0 q1 p2 p3 h0 n0) 5 20 (T10.setTop (mkF m 23 #[.val (.ref r0), .val (.long q1), .second, .val (.int p2), .val (.int p3)] [(.ref b10), (.ref r0)]))
  have Exa_r0_11 := ((Exa_r0_7.wr W9).ext E10)
  have Fld_r0_taken_12 := (((((F_taken.ext E2).other W5 (Or.inr (slot_ne (Or.inl (hw _ (List.mem_of_getElem? (i := 18) rfl))) (Or.inl (hw _ (List.mem_of_getElem? (i := 11) rfl))) (by decide) (t := (.array .boolean)) (t' := (.array .int)) (by decide) (by decide)))).ext E6).other W9 (Or.inr (slot_ne (Or.inl (hw _ (List.mem_of_getElem? (i := 18) rfl))) (Or.inl (hw _ (List.mem_of_getElem? (i := 15) rfl))) (by decide) (t := (.array .boolean)) (t' := (.array (.object "com/example/rhadamanth/rhadamanth/engine/Posting"))) (by decide) (by decide)))).ext E10)
  obtain ⟨T13, h13, X13, e13, W13, st13⟩ := putF X10 hx hZ hown (host := "") (Or.inl (hw _ (List.mem_of_getElem? (i := 17) rfl))) Via.refl e10 Fld_r0_taken_12 Exa_r0_11 (Or.inl (hw _ (List.mem_of_getElem? (i := 18) rfl))) (hw _ (List.mem_of_getElem? (i := 1) rfl)) (ty := (.array .boolean)) (by decide) rfl rfl (g := (mkF m 23 #[.val (.ref r0), .val (.long q1), .second, .val (.int p2), .val (.int p3)] [(.ref b10), (.ref r0)])) rfl rfl (hb hby d1_23)
  have F13 := Fld_r0_taken_12.same W13
  have N13 := Fr.snoc X13 N9 g_r0
  have Z13 : n0 ≤ h13.size := Nat.le_trans Z10 (Keep.of_wr W13).1
  have K13 : Keep h0 h13 [r0] := K10.wr W13 (Or.inl (List.mem_of_getElem? (i := 0) rfl))
  refine GoesW.step st13 ?_
  show GoesW p.tables e below s (Q1 Z r0 q1 p2 p3 h0 n0) 5 20 (T13.setTop (mkF m 26 #[.val (.ref r0), .val (.long q1), .second, .val (.int p2), .val (.int p3)] []))
  refine GoesW.step (fun _ k => XS.aloadN X13.here hx rfl (hb hby d1_26) rfl rfl k) ?_
  show GoesW p.tables e below s (Q1 Z r0 q1 p2 p3 h0 n0) 5 20 (T13.setTop (mkF m 27 #[.val (.ref r0), .val (.long q1), .second, .val (.int p2), .val (.int p3)] [(.ref r0)]))
  refine GoesW.step (fun _ k => XS.iconst X13.here hx rfl (hb hby d1_27) k) ?_
  show GoesW p.tables e below s (Q1 Z r0 q1 p2 p3 h0 n0) 5 20 (T13.setTop (mkF m 28 #[.val (.ref r0), .val (.long q1), .second, .val (.int p2), .val (.int p3)] [(.int (4 : Int32)), (.ref r0)]))
  obtain ⟨T14, h14, k14, X14, e14, E14, A14, st14⟩ := newP X13 hx hZ (hw _ (List.mem_of_getElem? (i := 9) rfl)) e13 (g := (mkF m 28 #[.val (.ref r0), .val (.long q1), .second, .val (.int p2), .val (.int p3)] [(.int (4 : Int32)), (.ref r0)])) rfl (hb hby d1_28) rfl (by decide) (cap := 4) (by decide) (by decide) (by decide) (by decide)
  obtain ⟨b14, gs14⟩ : ∃ z, z = h13.size := ⟨_, rfl⟩
  rw [← gs14] at A14 st14
  have g_b14 : n0 ≤ b14 := Nat.le_trans Z13 (Nat.le_of_eq gs14.symm)
  have sz_b14 : h0.size ≤ b14 := Nat.le_trans K13.1 (Nat.le_of_eq gs14.symm)
  have ne_r0_b14 : r0 ≠ b14 := Nat.ne_of_lt (Nat.lt_of_lt_of_le (Exa_r0_11.wr W13).lt (Nat.le_of_eq gs14.symm))
  have ne_b2_b14 : b2 ≠ b14 := Nat.ne_of_lt (Nat.lt_of_lt_of_le (((((V_b2.other W5 (Ne.symm ne_r0_b2)).ext E6).other W9 (Ne.symm ne_r0_b2)).ext E10).other W13 (Ne.symm ne_r0_b2)).lt (Nat.le_of_eq gs14.symm))
  have ne_b6_b14 : b6 ≠ b14 := Nat.ne_of_lt (Nat.lt_of_lt_of_le (((V_b6.other W9 (Ne.symm ne_r0_b6)).ext E10).other W13 (Ne.symm ne_r0_b6)).lt (Nat.le_of_eq gs14.symm))
  have ne_b10_b14 : b10 ≠ b14 := Nat.ne_of_lt (Nat.lt_of_lt_of_le (V_b10.other W13 (Ne.symm ne_r0_b10)).lt (Nat.le_of_eq gs14.symm))
  have Z14 : n0 ≤ h14.size := Nat.le_trans Z13 E14.1
  have K14 : Keep h0 h14 [r0] := K13.ext E14
  have V_b14 : Arv Z h14 b14 k14 .int (4 : Int32) [(.int (0 : Int32)), (.int (0 : Int32)), (.int (0 : Int32)), (.int (0 : Int32))] (.int (0 : Int32)) := (Arv.new A14 (by decide)).pad (pad_rep [] (.int (0 : Int32)) 4)
  refine GoesW.step st14 ?_
  show GoesW p.tables e below s (Q1 Z r0 q1 p2 p3 h0 n0) 5 20 (T14.setTop (mkF m 30 #[.val (.ref r0), .val (.long q1), .second, .val (.int p2), .val (.int p3)] [(.ref b14), (.ref r0)]))
  have Exa_r0_15 := ((Exa_r0_11.wr W13).ext E14)
  have Fld_r0_positionlessFields_16 := (((((((F_positionlessFields.ext E2).other W5 (Or.inr (slot_ne (Or.inl (hw _ (List.mem_of_getElem? (i := 20) rfl))) (Or.inl (hw _ (List.mem_of_getElem? (i := 11) rfl))) (by decide) (t := (.array .int)) (t' := (.array .int)) (by decide) (by decide)))).ext E6).other W9 (Or.inr (slot_ne (Or.inl (hw _ (List.mem_of_getElem? (i := 20) rfl))) (Or.inl (hw _ (List.mem_of_getElem? (i := 15) rfl))) (by decide) (t := (.array .int)) (t' := (.array (.object "com/example/rhadamanth/rhadamanth/engine/Posting"))) (by decide) (by decide)))).ext E10).other W13 (Or.inr (slot_ne (Or.inl (hw _ (List.mem_of_getElem? (i := 20) rfl))) (Or.inl (hw _ (List.mem_of_getElem? (i := 18) rfl))) (by decide) (t := (.array .int)) (t' := (.array .boolean)) (by decide) (by decide)))).ext E14)
  obtain ⟨T17, h17, X17, e17, W17, st17⟩ := putF X14 hx hZ hown (host := "") (Or.inl (hw _ (List.mem_of_getElem? (i := 19) rfl))) Via.refl e14 Fld_r0_positionlessFields_16 Exa_r0_15 (Or.inl (hw _ (List.mem_of_getElem? (i := 20) rfl))) (hw _ (List.mem_of_getElem? (i := 1) rfl)) (ty := (.array .int)) (by decide) rfl rfl (g := (mkF m 30 #[.val (.ref r0), .val (.long q1), .second, .val (.int p2), .val (.int p3)] [(.ref b14), (.ref r0)])) rfl rfl (hb hby d1_30)
  have F17 := Fld_r0_positionlessFields_16.same W17
  have N17 := Fr.snoc X17 N13 g_r0
  have Z17 : n0 ≤ h17.size := Nat.le_trans Z14 (Keep.of_wr W17).1
  have K17 : Keep h0 h17 [r0] := K14.wr W17 (Or.inl (List.mem_of_getElem? (i := 0) rfl))
  refine GoesW.step st17 ?_
  show GoesW p.tables e below s (Q1 Z r0 q1 p2 p3 h0 n0) 5 20 (T17.setTop (mkF m 33 #[.val (.ref r0), .val (.long q1), .second, .val (.int p2), .val (.int p3)] []))
  refine GoesW.step (fun _ k => XS.aloadN X17.here hx rfl (hb hby d1_33) rfl rfl k) ?_
  show GoesW p.tables e below s (Q1 Z r0 q1 p2 p3 h0 n0) 5 20 (T17.setTop (mkF m 34 #[.val (.ref r0), .val (.long q1), .second, .val (.int p2), .val (.int p3)] [(.ref r0)]))
  refine GoesW.step (fun _ k => XS.iconst X17.here hx rfl (hb hby d1_34) k) ?_
  show GoesW p.tables e below s (Q1 Z r0 q1 p2 p3 h0 n0) 5 20 (T17.setTop (mkF m 35 #[.val (.ref r0), .val (.long q1), .second, .val (.int p2), .val (.int p3)] [(.int (4 : Int32)), (.ref r0)]))
  obtain ⟨T18, h18, k18, X18, e18, E18, A18, st18⟩ := newP X17 hx hZ (hw _ (List.mem_of_getElem? (i := 21) rfl)) e17 (g := (mkF m 35 #[.val (.ref r0), .val (.long q1), .second, .val (.int p2), .val (.int p3)] [(.int (4 : Int32)), (.ref r0)])) rfl (hb hby d1_35) rfl (by decide) (cap := 4) (by decide) (by decide) (by decide) (by decide)
  obtain ⟨b18, gs18⟩ : ∃ z, z = h17.size := ⟨_, rfl⟩
  rw [← gs18] at A18 st18
  have g_b18 : n0 ≤ b18 := Nat.le_trans Z17 (Nat.le_of_eq gs18.symm)
  have sz_b18 : h0.size ≤ b18 := Nat.le_trans K17.1 (Nat.le_of_eq gs18.symm)
  have ne_r0_b18 : r0 ≠ b18 := Nat.ne_of_lt (Nat.lt_of_lt_of_le (Exa_r0_15.wr W17).lt (Nat.le_of_eq gs18.symm))
  have ne_b2_b18 : b2 ≠ b18 := Nat.ne_of_lt (Nat.lt_of_lt_of_le (((((((V_b2.other W5 (Ne.symm ne_r0_b2)).ext E6).other W9 (Ne.symm ne_r0_b2)).ext E10).other W13 (Ne.symm ne_r0_b2)).ext E14).other W17 (Ne.symm ne_r0_b2)).lt (Nat.le_of_eq gs18.symm))
  have ne_b6_b18 : b6 ≠ b18 := Nat.ne_of_lt (Nat.lt_of_lt_of_le (((((V_b6.other W9 (Ne.symm ne_r0_b6)).ext E10).other W13 (Ne.symm ne_r0_b6)).ext E14).other W17 (Ne.symm ne_r0_b6)).lt (Nat.le_of_eq gs18.symm))
  have ne_b10_b18 : b10 ≠ b18 := Nat.ne_of_lt (Nat.lt_of_lt_of_le (((V_b10.other W13 (Ne.symm ne_r0_b10)).ext E14).other W17 (Ne.symm ne_r0_b10)).lt (Nat.le_of_eq gs18.symm))
  have ne_b14_b18 : b14 ≠ b18 := Nat.ne_of_lt (Nat.lt_of_lt_of_le (V_b14.other W17 (Ne.symm ne_r0_b14)).lt (Nat.le_of_eq gs18.symm))
  have Z18 : n0 ≤ h18.size := Nat.le_trans Z17 E18.1
  have K18 : Keep h0 h18 [r0] := K17.ext E18
  have V_b18 : Arv Z h18 b18 k18 .long (4 : Int32) [(.long (0 : Int64)), (.long (0 : Int64)), (.long (0 : Int64)), (.long (0 : Int64))] (.long (0 : Int64)) := (Arv.new A18 (by decide)).pad (pad_rep [] (.long (0 : Int64)) 4)
  refine GoesW.step st18 ?_
  show GoesW p.tables e below s (Q1 Z r0 q1 p2 p3 h0 n0) 5 20 (T18.setTop (mkF m 37 #[.val (.ref r0), .val (.long q1), .second, .val (.int p2), .val (.int p3)] [(.ref b18), (.ref r0)]))
  have Exa_r0_19 := ((Exa_r0_15.wr W17).ext E18)
  have Fld_r0_hits_20 := (((((((((F_hits.ext E2).other W5 (Or.inr (slot_ne (Or.inl (hw _ (List.mem_of_getElem? (i := 23) rfl))) (Or.inl (hw _ (List.mem_of_getElem? (i := 11) rfl))) (by decide) (t := (.array .long)) (t' := (.array .int)) (by decide) (by decide)))).ext E6).other W9 (Or.inr (slot_ne (Or.inl (hw _ (List.mem_of_getElem? (i := 23) rfl))) (Or.inl (hw _ (List.mem_of_getElem? (i := 15) rfl))) (by decide) (t := (.array .long)) (t' := (.array (.object "com/example/rhadamanth/rhadamanth/engine/Posting"))) (by decide) (by decide)))).ext E10).other W13 (Or.inr (slot_ne (Or.inl (hw _ (List.mem_of_getElem? (i := 23) rfl))) (Or.inl (hw _ (List.mem_of_getElem? (i := 18) rfl))) (by decide) (t := (.array .long)) (t' := (.array .boolean)) (by decide) (by decide)))).ext E14).other W17 (Or.inr (slot_ne (Or.inl (hw _ (List.mem_of_getElem? (i := 23) rfl))) (Or.inl (hw _ (List.mem_of_getElem? (i := 20) rfl))) (by decide) (t := (.array .long)) (t' := (.array .int)) (by decide) (by decide)))).ext E18)
  obtain ⟨T21, h21, X21, e21, W21, st21⟩ := putF X18 hx hZ hown (host := "") (Or.inl (hw _ (List.mem_of_getElem? (i := 22) rfl))) Via.refl e18 Fld_r0_hits_20 Exa_r0_19 (Or.inl (hw _ (List.mem_of_getElem? (i := 23) rfl))) (hw _ (List.mem_of_getElem? (i := 1) rfl)) (ty := (.array .long)) (by decide) rfl rfl (g := (mkF m 37 #[.val (.ref r0), .val (.long q1), .second, .val (.int p2), .val (.int p3)] [(.ref b18), (.ref r0)])) rfl rfl (hb hby d1_37)
  have F21 := Fld_r0_hits_20.same W21
  have N21 := Fr.snoc X21 N17 g_r0
  have Z21 : n0 ≤ h21.size := Nat.le_trans Z18 (Keep.of_wr W21).1
  have K21 : Keep h0 h21 [r0] := K18.wr W21 (Or.inl (List.mem_of_getElem? (i := 0) rfl))
  refine GoesW.step st21 ?_
  show GoesW p.tables e below s (Q1 Z r0 q1 p2 p3 h0 n0) 5 20 (T21.setTop (mkF m 40 #[.val (.ref r0), .val (.long q1), .second, .val (.int p2), .val (.int p3)] []))
  refine GoesW.step (fun _ k => XS.aloadN X21.here hx rfl (hb hby d1_40) rfl rfl k) ?_
  show GoesW p.tables e below s (Q1 Z r0 q1 p2 p3 h0 n0) 5 20 (T21.setTop (mkF m 41 #[.val (.ref r0), .val (.long q1), .second, .val (.int p2), .val (.int p3)] [(.ref r0)]))
  refine GoesW.step (fun _ k => XS.lloadN X21.here hx rfl (hb hby d1_41) rfl k) ?_
  show GoesW p.tables e below s (Q1 Z r0 q1 p2 p3 h0 n0) 5 20 (T21.setTop (mkF m 42 #[.val (.ref r0), .val (.long q1), .second, .val (.int p2), .val (.int p3)] [(.long q1), (.ref r0)]))
  have Exa_r0_22 := (Exa_r0_19.wr W21)
  have Fld_r0_documentId_23 := ((((((((((F_documentId.ext E2).other W5 (Or.inr (slot_ne (Or.inr (hw _ (List.mem_of_getElem? (i := 25) rfl))) (Or.inl (hw _ (List.mem_of_getElem? (i := 11) rfl))) (by decide) (t := .long) (t' := (.array .int)) (by decide) (by decide)))).ext E6).other W9 (Or.inr (slot_ne (Or.inr (hw _ (List.mem_of_getElem? (i := 25) rfl))) (Or.inl (hw _ (List.mem_of_getElem? (i := 15) rfl))) (by decide) (t := .long) (t' := (.array (.object "com/example/rhadamanth/rhadamanth/engine/Posting"))) (by decide) (by decide)))).ext E10).other W13 (Or.inr (slot_ne (Or.inr (hw _ (List.mem_of_getElem? (i := 25) rfl))) (Or.inl (hw _ (List.mem_of_getElem? (i := 18) rfl))) (by decide) (t := .long) (t' := (.array .boolean)) (by decide) (by decide)))).ext E14).other W17 (Or.inr (slot_ne (Or.inr (hw _ (List.mem_of_getElem? (i := 25) rfl))) (Or.inl (hw _ (List.mem_of_getElem? (i := 20) rfl))) (by decide) (t := .long) (t' := (.array .int)) (by decide) (by decide)))).ext E18).other W21 (Or.inr (slot_ne (Or.inr (hw _ (List.mem_of_getElem? (i := 25) rfl))) (Or.inl (hw _ (List.mem_of_getElem? (i := 23) rfl))) (by decide) (t := .long) (t' := (.array .long)) (by decide) (by decide))))
  obtain ⟨T24, h24, X24, e24, W24, st24⟩ := putF X21 hx hZ hown (host := "") (Or.inl (hw _ (List.mem_of_getElem? (i := 24) rfl))) Via.refl e21 Fld_r0_documentId_23 Exa_r0_22 (Or.inr ⟨(hw _ (List.mem_of_getElem? (i := 25) rfl)), rfl, hnm⟩) (hw _ (List.mem_of_getElem? (i := 1) rfl)) (ty := .long) (by decide) rfl rfl (g := (mkF m 42 #[.val (.ref r0), .val (.long q1), .second, .val (.int p2), .val (.int p3)] [(.long q1), (.ref r0)])) rfl rfl (hb hby d1_42)
  have F24 := Fld_r0_documentId_23.same W24
  have N24 := Fr.snoc X24 N21 g_r0
  have Z24 : n0 ≤ h24.size := Nat.le_trans Z21 (Keep.of_wr W24).1
  have K24 : Keep h0 h24 [r0] := K21.wr W24 (Or.inl (List.mem_of_getElem? (i := 0) rfl))
  refine GoesW.step st24 ?_
  show GoesW p.tables e below s (Q1 Z r0 q1 p2 p3 h0 n0) 5 20 (T24.setTop (mkF m 45 #[.val (.ref r0), .val (.long q1), .second, .val (.int p2), .val (.int p3)] []))
  refine GoesW.step (fun _ k => XS.aloadN X24.here hx rfl (hb hby d1_45) rfl rfl k) ?_
  show GoesW p.tables e below s (Q1 Z r0 q1 p2 p3 h0 n0) 5 20 (T24.setTop (mkF m 46 #[.val (.ref r0), .val (.long q1), .second, .val (.int p2), .val (.int p3)] [(.ref r0)]))
  refine GoesW.step (fun _ k => XS.iloadN X24.here hx rfl (hb hby d1_46) rfl k) ?_
  show GoesW p.tables e below s (Q1 Z r0 q1 p2 p3 h0 n0) 5 20 (T24.setTop (mkF m 47 #[.val (.ref r0), .val (.long q1), .second, .val (.int p2), .val (.int p3)] [(.int p2), (.ref r0)]))
  have Exa_r0_25 := (Exa_r0_22.wr W24)
  have Fld_r0_highestPosition_26 := (((((((((((F_highestPosition.ext E2).other W5 (Or.inr (slot_ne (Or.inr (hw _ (List.mem_of_getElem? (i := 27) rfl))) (Or.inl (hw _ (List.mem_of_getElem? (i := 11) rfl))) (by decide) (t := .int) (t' := (.array .int)) (by decide) (by decide)))).ext E6).other W9 (Or.inr (slot_ne (Or.inr (hw _ (List.mem_of_getElem? (i := 27) rfl))) (Or.inl (hw _ (List.mem_of_getElem? (i := 15) rfl))) (by decide) (t := .int) (t' := (.array (.object "com/example/rhadamanth/rhadamanth/engine/Posting"))) (by decide) (by decide)))).ext E10).other W13 (Or.inr (slot_ne (Or.inr (hw _ (List.mem_of_getElem? (i := 27) rfl))) (Or.inl (hw _ (List.mem_of_getElem? (i := 18) rfl))) (by decide) (t := .int) (t' := (.array .boolean)) (by decide) (by decide)))).ext E14).other W17 (Or.inr (slot_ne (Or.inr (hw _ (List.mem_of_getElem? (i := 27) rfl))) (Or.inl (hw _ (List.mem_of_getElem? (i := 20) rfl))) (by decide) (t := .int) (t' := (.array .int)) (by decide) (by decide)))).ext E18).other W21 (Or.inr (slot_ne (Or.inr (hw _ (List.mem_of_getElem? (i := 27) rfl))) (Or.inl (hw _ (List.mem_of_getElem? (i := 23) rfl))) (by decide) (t := .int) (t' := (.array .long)) (by decide) (by decide)))).other W24 (Or.inr (slot_ne (Or.inr (hw _ (List.mem_of_getElem? (i := 27) rfl))) (Or.inr (hw _ (List.mem_of_getElem? (i := 25) rfl))) (by decide) (t := .int) (t' := .long) (by decide) (by decide))))
  obtain ⟨T27, h27, X27, e27, W27, st27⟩ := putF X24 hx hZ hown (host := "") (Or.inl (hw _ (List.mem_of_getElem? (i := 26) rfl))) Via.refl e24 Fld_r0_highestPosition_26 Exa_r0_25 (Or.inr ⟨(hw _ (List.mem_of_getElem? (i := 27) rfl)), rfl, hnm⟩) (hw _ (List.mem_of_getElem? (i := 1) rfl)) (ty := .int) (by decide) rfl rfl (g := (mkF m 47 #[.val (.ref r0), .val (.long q1), .second, .val (.int p2), .val (.int p3)] [(.int p2), (.ref r0)])) rfl rfl (hb hby d1_47)
  have F27 := Fld_r0_highestPosition_26.same W27
  have N27 := Fr.snoc X27 N24 g_r0
  have Z27 : n0 ≤ h27.size := Nat.le_trans Z24 (Keep.of_wr W27).1
  have K27 : Keep h0 h27 [r0] := K24.wr W27 (Or.inl (List.mem_of_getElem? (i := 0) rfl))
  refine GoesW.step st27 ?_
  show GoesW p.tables e below s (Q1 Z r0 q1 p2 p3 h0 n0) 5 20 (T27.setTop (mkF m 50 #[.val (.ref r0), .val (.long q1), .second, .val (.int p2), .val (.int p3)] []))
  refine GoesW.step (fun _ k => XS.aloadN X27.here hx rfl (hb hby d1_50) rfl rfl k) ?_
  show GoesW p.tables e below s (Q1 Z r0 q1 p2 p3 h0 n0) 5 20 (T27.setTop (mkF m 51 #[.val (.ref r0), .val (.long q1), .second, .val (.int p2), .val (.int p3)] [(.ref r0)]))
  refine GoesW.step (fun _ k => XS.iload X27.here hx rfl (hb hby d1_51) rfl k) ?_
  show GoesW p.tables e below s (Q1 Z r0 q1 p2 p3 h0 n0) 5 20 (T27.setTop (mkF m 53 #[.val (.ref r0), .val (.long q1), .second, .val (.int p2), .val (.int p3)] [(.int p3), (.ref r0)]))
  have Exa_r0_28 := (Exa_r0_25.wr W27)
  have Fld_r0_takesBarred_29 := ((((((((((((F_takesBarred.ext E2).other W5 (Or.inr (slot_ne (Or.inr (hw _ (List.mem_of_getElem? (i := 29) rfl))) (Or.inl (hw _ (List.mem_of_getElem? (i := 11) rfl))) (by decide) (t := .boolean) (t' := (.array .int)) (by decide) (by decide)))).ext E6).other W9 (Or.inr (slot_ne (Or.inr (hw _ (List.mem_of_getElem? (i := 29) rfl))) (Or.inl (hw _ (List.mem_of_getElem? (i := 15) rfl))) (by decide) (t := .boolean) (t' := (.array (.object "com/example/rhadamanth/rhadamanth/engine/Posting"))) (by decide) (by decide)))).ext E10).other W13 (Or.inr (slot_ne (Or.inr (hw _ (List.mem_of_getElem? (i := 29) rfl))) (Or.inl (hw _ (List.mem_of_getElem? (i := 18) rfl))) (by decide) (t := .boolean) (t' := (.array .boolean)) (by decide) (by decide)))).ext E14).other W17 (Or.inr (slot_ne (Or.inr (hw _ (List.mem_of_getElem? (i := 29) rfl))) (Or.inl (hw _ (List.mem_of_getElem? (i := 20) rfl))) (by decide) (t := .boolean) (t' := (.array .int)) (by decide) (by decide)))).ext E18).other W21 (Or.inr (slot_ne (Or.inr (hw _ (List.mem_of_getElem? (i := 29) rfl))) (Or.inl (hw _ (List.mem_of_getElem? (i := 23) rfl))) (by decide) (t := .boolean) (t' := (.array .long)) (by decide) (by decide)))).other W24 (Or.inr (slot_ne (Or.inr (hw _ (List.mem_of_getElem? (i := 29) rfl))) (Or.inr (hw _ (List.mem_of_getElem? (i := 25) rfl))) (by decide) (t := .boolean) (t' := .long) (by decide) (by decide)))).other W27 (Or.inr (slot_ne (Or.inr (hw _ (List.mem_of_getElem? (i := 29) rfl))) (Or.inr (hw _ (List.mem_of_getElem? (i := 27) rfl))) (by decide) (t := .boolean) (t' := .int) (by decide) (by decide))))
  obtain ⟨T30, h30, X30, e30, W30, st30⟩ := putFN X27 hx hZ hown (hw _ (List.mem_of_getElem? (i := 28) rfl)) Via.refl e27 Fld_r0_takesBarred_29 Exa_r0_28 (Or.inr ⟨(hw _ (List.mem_of_getElem? (i := 29) rfl)), rfl, hnm⟩) (hw _ (List.mem_of_getElem? (i := 1) rfl)) (ty := .boolean) (v' := (.int p3)) (by decide) b3 c3 (g := (mkF m 53 #[.val (.ref r0), .val (.long q1), .second, .val (.int p2), .val (.int p3)] [(.int p3), (.ref r0)])) rfl rfl (hb hby d1_53)
  have F30 := Fld_r0_takesBarred_29.same W30
  have N30 := Fr.snoc X30 N27 g_r0
  have Z30 : n0 ≤ h30.size := Nat.le_trans Z27 (Keep.of_wr W30).1
  have K30 : Keep h0 h30 [r0] := K27.wr W30 (Or.inl (List.mem_of_getElem? (i := 0) rfl))
  refine GoesW.step st30 ?_
  show GoesW p.tables e below s (Q1 Z r0 q1 p2 p3 h0 n0) 5 20 (T30.setTop (mkF m 56 #[.val (.ref r0), .val (.long q1), .second, .val (.int p2), .val (.int p3)] []))
  have Fld_r0_highestPosition_31 := (F27.other W30 (Or.inr (slot_ne (Or.inr (hw _ (List.mem_of_getElem? (i := 27) rfl))) (Or.inr (hw _ (List.mem_of_getElem? (i := 29) rfl))) (by decide) (t := .int) (t' := .boolean) (by decide) (by decide))))
  exact GoesW.retV X30 hx hlk Bd.returns (hb hby d1_56) (by show Q1 Z r0 q1 p2 p3 h0 n0 _ T30.heap _; rw [e30]; exact ⟨rfl, N30, K30, Fld_r0_highestPosition_31⟩) (by decide) (by decide)
theorem own_pd0 : parseMethodDescriptor "(JIZ)V" = some ⟨[.long, .int, .boolean], none⟩ := by decide +kernel
theorem own_pd1 : parseMethodDescriptor "(I)Z" = some ⟨[.int], some .boolean⟩ := by decide +kernel
theorem own_pd2 : parseMethodDescriptor "(II)I" = some ⟨[.int, .int], some .int⟩ := by decide +kernel
theorem own_pn1 : plainName "com/example/rhadamanth/rhadamanth/engine/DocumentMatchGivesOffsetPinLaw" = true := by first | (simp [plainName, overriddenIn]; done) | decide +kernel
theorem ef_rm0 (m : MethodId) (x0 : Int64) (x1 : Int32) (x2 : Int32) (x3 : Int32) (x4 : Int32) : entryFrame m #[(.long x0), (.int x1), (.int x2), (.int x3), (.int x4)] maxLocals = mkF m 0 #[.val (.long x0), .second, .val (.int x1), .val (.int x2), .val (.int x3), .val (.int x4), .unset, .unset, .unset, .unset, .unset, .unset, .unset, .unset] [] := by first | (simp [entryFrame, mkF, argsToLocals, Value.category, maxLocals]; done) | rfl
def Q0 (Z : State) (q0 : Int64) (p1 : Int32) (p2 : Int32) (p3 : Int32) (p4 : Int32) (h0 : Heap) (n0 : Nat) (v : Option Value) (h : Heap) (L : List Loc) : Prop := v = some (.int (1 : Int32)) ∧ Fr n0 L
set_option maxRecDepth 65536 in
set_option maxHeartbeats 40000000 in
theorem rm0 (l : Launch) (Z : State) (a0 : Array Value) (hw : ∀ d ∈ tables_1, d.before a0 Z = true) (ws : List Jvm.Cond) (q0 : Int64) (p1 : Int32) (p2 : Int32) (p3 : Int32) (p4 : Int32) (h0 : Heap) (n0 : Nat) (Z0 : n0 ≤ h0.size)  :
    MetFree l x (head1 (Jvm.Cond.code x code maxLocals ret :: ws) room_1) (fun a U => a = #[(.long q0), (.int p1), (.int p2), (.int p3), (.int p4)] ∧ Z.Warmed39 U.vm ∧ U.heap = h0) (fun _ _ _ _ _ => True) (fun _ U o U' => ∃ v L, o = .returned v ∧ Q0 Z q0 p1 p2 p3 p4 h0 n0 v U'.heap L ∧ FrameEnd U o U' L room_1.cells room_1.slots) := by
  refine MetFree.of_bodySF (plainFor_of_name own_pn1) hisR ?_
  intro p e s m args below meth c s₁ Bd hml0 hP hK
  obtain ⟨rfl, hZ, hh⟩ := hP
  have hx := Bd.exec
  have hby := Bd.bytes
  have hml : c.maxLocals = 14 := hml0
  have hown : s.vm.findClass "com/example/rhadamanth/rhadamanth/engine/DocumentMatchGivesOffsetPinLaw" = some m.cls := findClass_of_methodNamed Bd.named
  have hnm := (name_of_methodNamed Bd.named Bd.method).1
  have hlk : meth.locks = false := BodyLoose.notSynchronized Bd
  have X0 : Stand p l e room_1 s m #[(.long q0), (.int p1), (.int p2), (.int p3), (.int p4)] below meth c s₁ [] 0 0 := Stand.of_body Bd
  have e0 : s₁.heap = h0 := by rw [← hh, Bd.state]; rfl
  have N0 := Fr.nil n0
  show GoesW p.tables e below s (Q0 Z q0 p1 p2 p3 p4 h0 n0) room_1.cells room_1.slots (s₁.setTop (entryFrame m #[(.long q0), (.int p1), (.int p2), (.int p3), (.int p4)] maxLocals))
  rw [ef_rm0 m q0 p1 p2 p3 p4]
  show GoesW p.tables e below s (Q0 Z q0 p1 p2 p3 p4 h0 n0) room_1.cells room_1.slots (s₁.setTop (mkF m 0 #[.val (.long q0), .second, .val (.int p1), .val (.int p2), .val (.int p3), .val (.int p4), .unset, .unset, .unset, .unset, .unset, .unset, .unset, .unset] []))
  refine GoesW.step (fun _ k => XS.iload X0.here hx rfl (hb hby at_0) rfl k) ?_
  show GoesW p.tables e below s (Q0 Z q0 p1 p2 p3 p4 h0 n0) room_1.cells room_1.slots (s₁.setTop (mkF m 2 #[.val (.long q0), .second, .val (.int p1), .val (.int p2), .val (.int p3), .val (.int p4), .unset, .unset, .unset, .unset, .unset, .unset, .unset, .unset] [(.int p4)]))
  refine GoesW.step (fun _ k => XS.iconst X0.here hx rfl (hb hby at_2) k) ?_
  show GoesW p.tables e below s (Q0 Z q0 p1 p2 p3 p4 h0 n0) room_1.cells room_1.slots (s₁.setTop (mkF m 3 #[.val (.long q0), .second, .val (.int p1), .val (.int p2), .val (.int p3), .val (.int p4), .unset, .unset, .unset, .unset, .unset, .unset, .unset, .unset] [(.int (1 : Int32)), (.int p4)]))
  refine GoesW.step (fun _ k => XS.iand X0.here hx rfl (hb hby at_3) rfl k) ?_
  show GoesW p.tables e below s (Q0 Z q0 p1 p2 p3 p4 h0 n0) room_1.cells room_1.slots (s₁.setTop (mkF m 4 #[.val (.long q0), .second, .val (.int p1), .val (.int p2), .val (.int p3), .val (.int p4), .unset, .unset, .unset, .unset, .unset, .unset, .unset, .unset] [(.int (p4 &&& (1 : Int32)))]))
  refine GoesW.step (fun _ k => diam0 X0.here hx rfl (pc0 := 4) rfl (hb hby at_4) rfl (hb hby at_7) (hb hby at_8) (hb hby at_11) k) ?_
  show GoesW p.tables e below s (Q0 Z q0 p1 p2 p3 p4 h0 n0) room_1.cells room_1.slots (s₁.setTop (mkF m 12 #[.val (.long q0), .second, .val (.int p1), .val (.int p2), .val (.int p3), .val (.int p4), .unset, .unset, .unset, .unset, .unset, .unset, .unset, .unset] [(.int (nb (ifCond.holds .eq (p4 &&& (1 : Int32)))))]))
  generalize htb : (nb (ifCond.holds .eq (p4 &&& (1 : Int32)))) = tb
  show GoesW p.tables e below s (Q0 Z q0 p1 p2 p3 p4 h0 n0) room_1.cells room_1.slots (s₁.setTop (mkF m 12 #[.val (.long q0), .second, .val (.int p1), .val (.int p2), .val (.int p3), .val (.int p4), .unset, .unset, .unset, .unset, .unset, .unset, .unset, .unset] [(.int tb)]))
  refine GoesW.step (fun _ k => XS.istore X0.here hx rfl (hb hby at_12) rfl (l' := #[.val (.long q0), .second, .val (.int p1), .val (.int p2), .val (.int p3), .val (.int p4), .val (.int tb), .unset, .unset, .unset, .unset, .unset, .unset, .unset]) rfl k) ?_
  show GoesW p.tables e below s (Q0 Z q0 p1 p2 p3 p4 h0 n0) room_1.cells room_1.slots (s₁.setTop (mkF m 14 #[.val (.long q0), .second, .val (.int p1), .val (.int p2), .val (.int p3), .val (.int p4), .val (.int tb), .unset, .unset, .unset, .unset, .unset, .unset, .unset] []))
  obtain ⟨T1, h1, X1, e1, E1, A1, D1, -, st1⟩ := newO X0 hx hZ hown (hw _ (List.mem_of_getElem? (i := 0) rfl)) (hw _ (List.mem_of_getElem? (i := 1) rfl)) (hw _ (List.mem_of_getElem? (i := 2) rfl)) e0 (g := (mkF m 14 #[.val (.long q0), .second, .val (.int p1), .val (.int p2), .val (.int p3), .val (.int p4), .val (.int tb), .unset, .unset, .unset, .unset, .unset, .unset, .unset] [])) rfl (hb hby at_14) (by decide) (by decide)
  obtain ⟨b1, gs1⟩ : ∃ z, z = h0.size := ⟨_, rfl⟩
  rw [← gs1] at A1 D1 st1
  have g_b1 : n0 ≤ b1 := Nat.le_trans Z0 (Nat.le_of_eq gs1.symm)
  have Z1 : n0 ≤ h1.size := Nat.le_trans Z0 E1.1
  have F_words_b1 : Fld Z h1 b1 "com/example/rhadamanth/rhadamanth/engine/DocumentMatch" "words" "[I" .null := D1 (Or.inl (hw _ (List.mem_of_getElem? (i := 11) rfl))) (ty := (.array .int)) (by decide)
  have F_postings_b1 : Fld Z h1 b1 "com/example/rhadamanth/rhadamanth/engine/DocumentMatch" "postings" "[Lcom/example/rhadamanth/rhadamanth/engine/Posting;" .null := D1 (Or.inl (hw _ (List.mem_of_getElem? (i := 15) rfl))) (ty := (.array (.object "com/example/rhadamanth/rhadamanth/engine/Posting"))) (by decide)
  have F_taken_b1 : Fld Z h1 b1 "com/example/rhadamanth/rhadamanth/engine/DocumentMatch" "taken" "[Z" .null := D1 (Or.inl (hw _ (List.mem_of_getElem? (i := 18) rfl))) (ty := (.array .boolean)) (by decide)
  have F_positionlessFields_b1 : Fld Z h1 b1 "com/example/rhadamanth/rhadamanth/engine/DocumentMatch" "positionlessFields" "[I" .null := D1 (Or.inl (hw _ (List.mem_of_getElem? (i := 20) rfl))) (ty := (.array .int)) (by decide)
  have F_hits_b1 : Fld Z h1 b1 "com/example/rhadamanth/rhadamanth/engine/DocumentMatch" "hits" "[J" .null := D1 (Or.inl (hw _ (List.mem_of_getElem? (i := 23) rfl))) (ty := (.array .long)) (by decide)
  have F_documentId_b1 : Fld Z h1 b1 "com/example/rhadamanth/rhadamanth/engine/DocumentMatch" "documentId" "J" (.long (0 : Int64)) := D1 (Or.inr (hw _ (List.mem_of_getElem? (i := 25) rfl))) (ty := .long) (by decide)
  have F_highestPosition_b1 : Fld Z h1 b1 "com/example/rhadamanth/rhadamanth/engine/DocumentMatch" "highestPosition" "I" (.int (0 : Int32)) := D1 (Or.inr (hw _ (List.mem_of_getElem? (i := 27) rfl))) (ty := .int) (by decide)
  have F_takesBarred_b1 : Fld Z h1 b1 "com/example/rhadamanth/rhadamanth/engine/DocumentMatch" "takesBarred" "Z" (.int (0 : Int32)) := D1 (Or.inr (hw _ (List.mem_of_getElem? (i := 29) rfl))) (ty := .boolean) (by decide)
  refine GoesW.step st1 ?_
  show GoesW p.tables e below s (Q0 Z q0 p1 p2 p3 p4 h0 n0) room_1.cells room_1.slots (T1.setTop (mkF m 17 #[.val (.long q0), .second, .val (.int p1), .val (.int p2), .val (.int p3), .val (.int p4), .val (.int tb), .unset, .unset, .unset, .unset, .unset, .unset, .unset] [(.ref b1)]))
  refine GoesW.step (fun _ k => XS.dup X1.here hx rfl (hb hby at_17) rfl rfl k) ?_
  show GoesW p.tables e below s (Q0 Z q0 p1 p2 p3 p4 h0 n0) room_1.cells room_1.slots (T1.setTop (mkF m 18 #[.val (.long q0), .second, .val (.int p1), .val (.int p2), .val (.int p3), .val (.int p4), .val (.int tb), .unset, .unset, .unset, .unset, .unset, .unset, .unset] [(.ref b1), (.ref b1)]))
  refine GoesW.step (fun _ k => XS.lloadN X1.here hx rfl (hb hby at_18) rfl k) ?_
  show GoesW p.tables e below s (Q0 Z q0 p1 p2 p3 p4 h0 n0) room_1.cells room_1.slots (T1.setTop (mkF m 19 #[.val (.long q0), .second, .val (.int p1), .val (.int p2), .val (.int p3), .val (.int p4), .val (.int tb), .unset, .unset, .unset, .unset, .unset, .unset, .unset] [(.long q0), (.ref b1), (.ref b1)]))
  refine GoesW.step (fun _ k => XS.iloadN X1.here hx rfl (hb hby at_19) rfl k) ?_
  show GoesW p.tables e below s (Q0 Z q0 p1 p2 p3 p4 h0 n0) room_1.cells room_1.slots (T1.setTop (mkF m 20 #[.val (.long q0), .second, .val (.int p1), .val (.int p2), .val (.int p3), .val (.int p4), .val (.int tb), .unset, .unset, .unset, .unset, .unset, .unset, .unset] [(.int p1), (.long q0), (.ref b1), (.ref b1)]))
  refine GoesW.step (fun _ k => XS.iload X1.here hx rfl (hb hby at_20) rfl k) ?_
  show GoesW p.tables e below s (Q0 Z q0 p1 p2 p3 p4 h0 n0) room_1.cells room_1.slots (T1.setTop (mkF m 22 #[.val (.long q0), .second, .val (.int p1), .val (.int p2), .val (.int p3), .val (.int p4), .val (.int tb), .unset, .unset, .unset, .unset, .unset, .unset, .unset] [(.int tb), (.int p1), (.long q0), (.ref b1), (.ref b1)]))
  obtain ⟨_, _, ⟨T2, L2, k2, n2⟩, -, X2, ⟨Lc2, hQ2, l2, y2, z2⟩, st2⟩ := X1.specialBack hx (y := (⟨"com/example/rhadamanth/rhadamanth/engine/DocumentMatch", "<init>", "(JIZ)V"⟩ : MethodName)) rfl hown (mvT hZ (hw _ (List.mem_of_getElem? (i := 3) rfl))) (mvT hZ (hw _ (List.mem_of_getElem? (i := 4) rfl))) (mvT hZ (hw _ (List.mem_of_getElem? (i := 5) rfl))) (by decide) (backOf (W := 1) (rm1 l Z a0 hw [] b1 q0 p1 tb  h1 n0 Z1 A1 g_b1 (by rw [← htb]; exact nar_nb _) (by rw [← htb]; exact fits_nb _) F_words_b1 F_postings_b1 F_taken_b1 F_positionlessFields_b1 F_hits_b1 F_documentId_b1 F_highestPosition_b1 F_takesBarred_b1) hZ (hw _ (List.mem_of_getElem? (i := 5) rfl)) (hw _ (List.mem_of_getElem? (i := 2) rfl)) (by decide) (by decide)) (g := (mkF m 22 #[.val (.long q0), .second, .val (.int p1), .val (.int p2), .val (.int p3), .val (.int p4), .val (.int tb), .unset, .unset, .unset, .unset, .unset, .unset, .unset] [(.int tb), (.int p1), (.long q0), (.ref b1), (.ref b1)])) rfl (by rw [hml]; rfl) (Steps.refl _) (a := b1) (argsL := [(.long q0), (.int p1), (.int tb)]) (rest := [(.ref b1)]) (lenOf own_pd0 rfl) rfl (by show 2 * 0 + _ ≤ _; exact Nat.le_of_eq rfl) (hb hby at_22) (fun _ _ => ⟨rfl, e1, (by decide : 1 + 5 ≤ _), (by decide : 11 + 20 ≤ _)⟩)
  dsimp only [Pt.U, Pt.locs, Pt.cells, Pt.slots] at X2 l2 y2 z2 st2 hQ2
  subst l2 y2 z2
  obtain ⟨rfl, N2q, K2q, Fp2⟩ := hQ2
  have N2 := Fr.app N0 N2q
  have Z2 : n0 ≤ T2.heap.size := Nat.le_trans Z1 K2q.1
  refine GoesW.step (fun _ k => st2.trans k) ?_
  show GoesW p.tables e below s (Q0 Z q0 p1 p2 p3 p4 h0 n0) room_1.cells room_1.slots (T2.setTop (mkF m 25 #[.val (.long q0), .second, .val (.int p1), .val (.int p2), .val (.int p3), .val (.int p4), .val (.int tb), .unset, .unset, .unset, .unset, .unset, .unset, .unset] [(.ref b1)]))
  have Exa_b1_3 := (A1.keep K2q)
  refine GoesW.step (fun _ k => XS.astore X2.here hx rfl (hb hby at_25) rfl rfl (l' := #[.val (.long q0), .second, .val (.int p1), .val (.int p2), .val (.int p3), .val (.int p4), .val (.int tb), .val (.ref b1), .unset, .unset, .unset, .unset, .unset, .unset]) rfl k) ?_
  show GoesW p.tables e below s (Q0 Z q0 p1 p2 p3 p4 h0 n0) room_1.cells room_1.slots (T2.setTop (mkF m 27 #[.val (.long q0), .second, .val (.int p1), .val (.int p2), .val (.int p3), .val (.int p4), .val (.int tb), .val (.ref b1), .unset, .unset, .unset, .unset, .unset, .unset] []))
  refine GoesW.step (fun _ k => XS.aload X2.here hx rfl (hb hby at_27) rfl rfl k) ?_
  show GoesW p.tables e below s (Q0 Z q0 p1 p2 p3 p4 h0 n0) room_1.cells room_1.slots (T2.setTop (mkF m 29 #[.val (.long q0), .second, .val (.int p1), .val (.int p2), .val (.int p3), .val (.int p4), .val (.int tb), .val (.ref b1), .unset, .unset, .unset, .unset, .unset, .unset] [(.ref b1)]))
  refine GoesW.step (fun _ k => XS.iloadN X2.here hx rfl (hb hby at_29) rfl k) ?_
  show GoesW p.tables e below s (Q0 Z q0 p1 p2 p3 p4 h0 n0) room_1.cells room_1.slots (T2.setTop (mkF m 30 #[.val (.long q0), .second, .val (.int p1), .val (.int p2), .val (.int p3), .val (.int p4), .val (.int tb), .val (.ref b1), .unset, .unset, .unset, .unset, .unset, .unset] [(.int p1), (.ref b1)]))
  obtain ⟨cq4, kq4, q4a, q4b, q4c⟩ := isOf hZ rfl Exa_b1_3
  obtain ⟨_, _, ⟨T4, L4, k4, n4⟩, -, X4, ⟨Lc4, hQ4, l4, y4, z4⟩, st4⟩ := X2.virtualBack hx (y := (⟨"com/example/rhadamanth/rhadamanth/engine/DocumentMatch", "givesOffset", "(I)Z"⟩ : MethodName)) (z := (⟨"com/example/rhadamanth/rhadamanth/engine/DocumentMatch", "givesOffset", "(I)Z"⟩ : MethodName)) hown (mvT hZ (hw _ (List.mem_of_getElem? (i := 30) rfl))) (mvT hZ (hw _ (List.mem_of_getElem? (i := 31) rfl))) (notFace_of_selects (args := #[]) (mvT hZ (hw _ (List.mem_of_getElem? (i := 33) rfl)))) (mvT hZ (hw _ (List.mem_of_getElem? (i := 33) rfl))) (mvT hZ (hw _ (List.mem_of_getElem? (i := 32) rfl))) (by decide) (backOf (W := 0) (rm3 l Z a0 hw [] b1 p1 p1 T2.heap n0 Z2 Fp2) hZ (hw _ (List.mem_of_getElem? (i := 34) rfl)) (hw _ (List.mem_of_getElem? (i := 2) rfl)) (by decide) (by decide)) q4a q4c (g := (mkF m 30 #[.val (.long q0), .second, .val (.int p1), .val (.int p2), .val (.int p3), .val (.int p4), .val (.int tb), .val (.ref b1), .unset, .unset, .unset, .unset, .unset, .unset] [(.int p1), (.ref b1)])) rfl (by rw [hml]; rfl) (Steps.refl _) (argsL := [(.int p1)]) (rest := []) (lenOf own_pd1 rfl) rfl (by show 2 * 0 + _ ≤ _; exact Nat.le_of_eq rfl) (hb hby at_30) (fun _ _ => ⟨rfl, rfl, (by decide : 6 + 0 ≤ _), (by decide : 31 + 0 ≤ _)⟩)
  dsimp only [Pt.U, Pt.locs, Pt.cells, Pt.slots] at X4 l4 y4 z4 st4 hQ4
  subst l4 y4 z4
  obtain ⟨rfl, N4q, eq4⟩ := hQ4
  have N4 := Fr.app N2 N4q
  refine GoesW.step (fun _ k => st4.trans k) ?_
  show GoesW p.tables e below s (Q0 Z q0 p1 p2 p3 p4 h0 n0) room_1.cells room_1.slots (T4.setTop (mkF m 33 #[.val (.long q0), .second, .val (.int p1), .val (.int p2), .val (.int p3), .val (.int p4), .val (.int tb), .val (.ref b1), .unset, .unset, .unset, .unset, .unset, .unset] [(.int (own_go p1 p1))]))
  rw [show (own_go p1 p1) = (1 : Int32) from own_self p1]
  show GoesW p.tables e below s (Q0 Z q0 p1 p2 p3 p4 h0 n0) room_1.cells room_1.slots (T4.setTop (mkF m 33 #[.val (.long q0), .second, .val (.int p1), .val (.int p2), .val (.int p3), .val (.int p4), .val (.int tb), .val (.ref b1), .unset, .unset, .unset, .unset, .unset, .unset] [(.int (1 : Int32))]))
  refine GoesW.step (fun _ k => XS.istore X4.here hx rfl (hb hby at_33) rfl (l' := #[.val (.long q0), .second, .val (.int p1), .val (.int p2), .val (.int p3), .val (.int p4), .val (.int tb), .val (.ref b1), .val (.int (1 : Int32)), .unset, .unset, .unset, .unset, .unset]) rfl k) ?_
  show GoesW p.tables e below s (Q0 Z q0 p1 p2 p3 p4 h0 n0) room_1.cells room_1.slots (T4.setTop (mkF m 35 #[.val (.long q0), .second, .val (.int p1), .val (.int p2), .val (.int p3), .val (.int p4), .val (.int tb), .val (.ref b1), .val (.int (1 : Int32)), .unset, .unset, .unset, .unset, .unset] []))
  refine GoesW.step (fun _ k => XS.iloadN X4.here hx rfl (hb hby at_35) rfl k) ?_
  show GoesW p.tables e below s (Q0 Z q0 p1 p2 p3 p4 h0 n0) room_1.cells room_1.slots (T4.setTop (mkF m 36 #[.val (.long q0), .second, .val (.int p1), .val (.int p2), .val (.int p3), .val (.int p4), .val (.int tb), .val (.ref b1), .val (.int (1 : Int32)), .unset, .unset, .unset, .unset, .unset] [(.int p1)]))
  refine GoesW.step (fun _ k => X4.ldcInt hx hown (mvT hZ (hw _ (List.mem_of_getElem? (i := 35) rfl))) (g := (mkF m 36 #[.val (.long q0), .second, .val (.int p1), .val (.int p2), .val (.int p3), .val (.int p4), .val (.int tb), .val (.ref b1), .val (.int (1 : Int32)), .unset, .unset, .unset, .unset, .unset] [(.int p1)])) rfl (hb hby at_36) _ k) ?_
  show GoesW p.tables e below s (Q0 Z q0 p1 p2 p3 p4 h0 n0) room_1.cells room_1.slots (T4.setTop (mkF m 38 #[.val (.long q0), .second, .val (.int p1), .val (.int p2), .val (.int p3), .val (.int p4), .val (.int tb), .val (.ref b1), .val (.int (1 : Int32)), .unset, .unset, .unset, .unset, .unset] [(.int (2147483647 : Int32)), (.int p1)]))
  have J57 : ∀ (TJ5 : State) (LJ5 : List Loc), Stand p l e room_1 s m #[(.long q0), (.int p1), (.int p2), (.int p3), (.int p4)] below meth c TJ5 LJ5 6 31 → TJ5.heap = T2.heap → Fr n0 LJ5 → GoesW p.tables e below s (Q0 Z q0 p1 p2 p3 p4 h0 n0) room_1.cells room_1.slots (TJ5.setTop (mkF m 57 #[.val (.long q0), .second, .val (.int p1), .val (.int p2), .val (.int p3), .val (.int p4), .val (.int tb), .val (.ref b1), .val (.int (1 : Int32)), .unset, .unset, .unset, .unset, .unset] [(.int (1 : Int32))])) := by
    intro TJ5 LJ5  XJ5 eJ5 NJ5 
    show GoesW p.tables e below s (Q0 Z q0 p1 p2 p3 p4 h0 n0) room_1.cells room_1.slots (TJ5.setTop (mkF m 57 #[.val (.long q0), .second, .val (.int p1), .val (.int p2), .val (.int p3), .val (.int p4), .val (.int tb), .val (.ref b1), .val (.int (1 : Int32)), .unset, .unset, .unset, .unset, .unset] [(.int (1 : Int32))]))
    refine GoesW.step (fun _ k => XS.istore XJ5.here hx rfl (hb hby at_57) rfl (l' := #[.val (.long q0), .second, .val (.int p1), .val (.int p2), .val (.int p3), .val (.int p4), .val (.int tb), .val (.ref b1), .val (.int (1 : Int32)), .val (.int (1 : Int32)), .unset, .unset, .unset, .unset]) rfl k) ?_
    show GoesW p.tables e below s (Q0 Z q0 p1 p2 p3 p4 h0 n0) room_1.cells room_1.slots (TJ5.setTop (mkF m 59 #[.val (.long q0), .second, .val (.int p1), .val (.int p2), .val (.int p3), .val (.int p4), .val (.int tb), .val (.ref b1), .val (.int (1 : Int32)), .val (.int (1 : Int32)), .unset, .unset, .unset, .unset] []))
    refine GoesW.step (fun _ k => XS.aload XJ5.here hx rfl (hb hby at_59) rfl rfl k) ?_
    show GoesW p.tables e below s (Q0 Z q0 p1 p2 p3 p4 h0 n0) room_1.cells room_1.slots (TJ5.setTop (mkF m 61 #[.val (.long q0), .second, .val (.int p1), .val (.int p2), .val (.int p3), .val (.int p4), .val (.int tb), .val (.ref b1), .val (.int (1 : Int32)), .val (.int (1 : Int32)), .unset, .unset, .unset, .unset] [(.ref b1)]))
    refine GoesW.step (fun _ k => XS.iloadN XJ5.here hx rfl (hb hby at_61) rfl k) ?_
    show GoesW p.tables e below s (Q0 Z q0 p1 p2 p3 p4 h0 n0) room_1.cells room_1.slots (TJ5.setTop (mkF m 62 #[.val (.long q0), .second, .val (.int p1), .val (.int p2), .val (.int p3), .val (.int p4), .val (.int tb), .val (.ref b1), .val (.int (1 : Int32)), .val (.int (1 : Int32)), .unset, .unset, .unset, .unset] [(.int p2), (.ref b1)]))
    obtain ⟨cq6, kq6, q6a, q6b, q6c⟩ := isOf hZ eJ5 Exa_b1_3
    obtain ⟨_, _, ⟨T6, L6, k6, n6⟩, -, X6, ⟨Lc6, hQ6, l6, y6, z6⟩, st6⟩ := XJ5.virtualBack hx (y := (⟨"com/example/rhadamanth/rhadamanth/engine/DocumentMatch", "givesOffset", "(I)Z"⟩ : MethodName)) (z := (⟨"com/example/rhadamanth/rhadamanth/engine/DocumentMatch", "givesOffset", "(I)Z"⟩ : MethodName)) hown (mvT hZ (hw _ (List.mem_of_getElem? (i := 30) rfl))) (mvT hZ (hw _ (List.mem_of_getElem? (i := 31) rfl))) (notFace_of_selects (args := #[]) (mvT hZ (hw _ (List.mem_of_getElem? (i := 33) rfl)))) (mvT hZ (hw _ (List.mem_of_getElem? (i := 33) rfl))) (mvT hZ (hw _ (List.mem_of_getElem? (i := 32) rfl))) (by decide) (backOf (W := 0) (rm3 l Z a0 hw [] b1 p2 p1 T2.heap n0 Z2 Fp2) hZ (hw _ (List.mem_of_getElem? (i := 34) rfl)) (hw _ (List.mem_of_getElem? (i := 2) rfl)) (by decide) (by decide)) q6a q6c (g := (mkF m 62 #[.val (.long q0), .second, .val (.int p1), .val (.int p2), .val (.int p3), .val (.int p4), .val (.int tb), .val (.ref b1), .val (.int (1 : Int32)), .val (.int (1 : Int32)), .unset, .unset, .unset, .unset] [(.int p2), (.ref b1)])) rfl (by rw [hml]; rfl) (Steps.refl _) (argsL := [(.int p2)]) (rest := []) (lenOf own_pd1 rfl) rfl (by show 2 * 0 + _ ≤ _; exact Nat.le_of_eq rfl) (hb hby at_62) (fun _ _ => ⟨rfl, eJ5, (by decide : 6 + 0 ≤ _), (by decide : 31 + 0 ≤ _)⟩)
    dsimp only [Pt.U, Pt.locs, Pt.cells, Pt.slots] at X6 l6 y6 z6 st6 hQ6
    subst l6 y6 z6
    obtain ⟨rfl, N6q, eq6⟩ := hQ6
    have N6 := Fr.app NJ5 N6q
    refine GoesW.step (fun _ k => st6.trans k) ?_
    show GoesW p.tables e below s (Q0 Z q0 p1 p2 p3 p4 h0 n0) room_1.cells room_1.slots (T6.setTop (mkF m 65 #[.val (.long q0), .second, .val (.int p1), .val (.int p2), .val (.int p3), .val (.int p4), .val (.int tb), .val (.ref b1), .val (.int (1 : Int32)), .val (.int (1 : Int32)), .unset, .unset, .unset, .unset] [(.int (own_go p2 p1))]))
    refine GoesW.step (fun _ k => XS.iloadN X6.here hx rfl (hb hby at_65) rfl k) ?_
    show GoesW p.tables e below s (Q0 Z q0 p1 p2 p3 p4 h0 n0) room_1.cells room_1.slots (T6.setTop (mkF m 66 #[.val (.long q0), .second, .val (.int p1), .val (.int p2), .val (.int p3), .val (.int p4), .val (.int tb), .val (.ref b1), .val (.int (1 : Int32)), .val (.int (1 : Int32)), .unset, .unset, .unset, .unset] [(.int p2), (.int (own_go p2 p1))]))
    refine GoesW.step (fun _ k => XS.iloadN X6.here hx rfl (hb hby at_66) rfl k) ?_
    show GoesW p.tables e below s (Q0 Z q0 p1 p2 p3 p4 h0 n0) room_1.cells room_1.slots (T6.setTop (mkF m 67 #[.val (.long q0), .second, .val (.int p1), .val (.int p2), .val (.int p3), .val (.int p4), .val (.int tb), .val (.ref b1), .val (.int (1 : Int32)), .val (.int (1 : Int32)), .unset, .unset, .unset, .unset] [(.int p1), (.int p2), (.int (own_go p2 p1))]))
    refine GoesW.step (fun _ k => diam2 X6.here hx rfl (pc0 := 67) rfl (hb hby at_67) rfl (hb hby at_70) (hb hby at_71) (hb hby at_74) k) ?_
    show GoesW p.tables e below s (Q0 Z q0 p1 p2 p3 p4 h0 n0) room_1.cells room_1.slots (T6.setTop (mkF m 75 #[.val (.long q0), .second, .val (.int p1), .val (.int p2), .val (.int p3), .val (.int p4), .val (.int tb), .val (.ref b1), .val (.int (1 : Int32)), .val (.int (1 : Int32)), .unset, .unset, .unset, .unset] [(.int (nb (if_icmp.holds .gt p2 p1))), (.int (own_go p2 p1))]))
    refine GoesW.step (fun _ k => XS.icmpNo X6.here hx rfl (hb hby at_75) rfl (teq (rfl : own_go p2 p1 = own_go p2 p1)).2 k) ?_
    show GoesW p.tables e below s (Q0 Z q0 p1 p2 p3 p4 h0 n0) room_1.cells room_1.slots (T6.setTop (mkF m 78 #[.val (.long q0), .second, .val (.int p1), .val (.int p2), .val (.int p3), .val (.int p4), .val (.int tb), .val (.ref b1), .val (.int (1 : Int32)), .val (.int (1 : Int32)), .unset, .unset, .unset, .unset] []))
    refine GoesW.step (fun _ k => XS.iconst X6.here hx rfl (hb hby at_78) k) ?_
    show GoesW p.tables e below s (Q0 Z q0 p1 p2 p3 p4 h0 n0) room_1.cells room_1.slots (T6.setTop (mkF m 79 #[.val (.long q0), .second, .val (.int p1), .val (.int p2), .val (.int p3), .val (.int p4), .val (.int tb), .val (.ref b1), .val (.int (1 : Int32)), .val (.int (1 : Int32)), .unset, .unset, .unset, .unset] [(.int (1 : Int32))]))
    refine GoesW.step (fun _ k => XS.goto X6.here hx rfl (pc0 := 79) (pc' := 83) rfl (hb hby at_79) (by decide) (by decide) k) ?_
    show GoesW p.tables e below s (Q0 Z q0 p1 p2 p3 p4 h0 n0) room_1.cells room_1.slots (T6.setTop (mkF m 83 #[.val (.long q0), .second, .val (.int p1), .val (.int p2), .val (.int p3), .val (.int p4), .val (.int tb), .val (.ref b1), .val (.int (1 : Int32)), .val (.int (1 : Int32)), .unset, .unset, .unset, .unset] [(.int (1 : Int32))]))
    refine GoesW.step (fun _ k => XS.istore X6.here hx rfl (hb hby at_83) rfl (l' := #[.val (.long q0), .second, .val (.int p1), .val (.int p2), .val (.int p3), .val (.int p4), .val (.int tb), .val (.ref b1), .val (.int (1 : Int32)), .val (.int (1 : Int32)), .val (.int (1 : Int32)), .unset, .unset, .unset]) rfl k) ?_
    show GoesW p.tables e below s (Q0 Z q0 p1 p2 p3 p4 h0 n0) room_1.cells room_1.slots (T6.setTop (mkF m 85 #[.val (.long q0), .second, .val (.int p1), .val (.int p2), .val (.int p3), .val (.int p4), .val (.int tb), .val (.ref b1), .val (.int (1 : Int32)), .val (.int (1 : Int32)), .val (.int (1 : Int32)), .unset, .unset, .unset] []))
    refine GoesW.step (fun _ k => XS.iloadN X6.here hx rfl (hb hby at_85) rfl k) ?_
    show GoesW p.tables e below s (Q0 Z q0 p1 p2 p3 p4 h0 n0) room_1.cells room_1.slots (T6.setTop (mkF m 86 #[.val (.long q0), .second, .val (.int p1), .val (.int p2), .val (.int p3), .val (.int p4), .val (.int tb), .val (.ref b1), .val (.int (1 : Int32)), .val (.int (1 : Int32)), .val (.int (1 : Int32)), .unset, .unset, .unset] [(.int p2)]))
    refine GoesW.step (fun _ k => XS.iload X6.here hx rfl (hb hby at_86) rfl k) ?_
    show GoesW p.tables e below s (Q0 Z q0 p1 p2 p3 p4 h0 n0) room_1.cells room_1.slots (T6.setTop (mkF m 88 #[.val (.long q0), .second, .val (.int p1), .val (.int p2), .val (.int p3), .val (.int p4), .val (.int tb), .val (.ref b1), .val (.int (1 : Int32)), .val (.int (1 : Int32)), .val (.int (1 : Int32)), .unset, .unset, .unset] [(.int p3), (.int p2)]))
    obtain ⟨_, _, ⟨T7, L7, k7, n7⟩, -, X7, ⟨Lc7, hQ7, l7, y7, z7⟩, st7⟩ := Jvm.LawKit.callS X6 hx (y := (⟨"java/lang/Math", "min", "(II)I"⟩ : MethodName)) hown (mvT hZ (hw _ (List.mem_of_getElem? (i := 36) rfl))) (mvT hZ (hw _ (List.mem_of_getElem? (i := 37) rfl))) (mvT hZ (hw _ (List.mem_of_getElem? (i := 38) rfl))) (mvT hZ (hw _ (List.mem_of_getElem? (i := 39) rfl))) (by decide) (backOf (W := 0) (rm4 l Z a0 hw [] p2 p3  T2.heap n0 Z2 ) hZ (hw _ (List.mem_of_getElem? (i := 39) rfl)) (hw _ (List.mem_of_getElem? (i := 38) rfl)) (by decide) (by decide)) (g := (mkF m 88 #[.val (.long q0), .second, .val (.int p1), .val (.int p2), .val (.int p3), .val (.int p4), .val (.int tb), .val (.ref b1), .val (.int (1 : Int32)), .val (.int (1 : Int32)), .val (.int (1 : Int32)), .unset, .unset, .unset] [(.int p3), (.int p2)])) rfl (by rw [hml]; rfl) (argsL := [(.int p2), (.int p3)]) (rest := []) (lenOf own_pd2 rfl) rfl (by show 2 * 0 + _ ≤ _; exact Nat.le_of_eq rfl) (hb hby at_88) (fun _ _ => ⟨rfl, eq6, (by decide : 6 + 0 ≤ _), (by decide : 31 + 0 ≤ _)⟩)
    dsimp only [Pt.U, Pt.locs, Pt.cells, Pt.slots] at X7 l7 y7 z7 st7 hQ7
    subst l7 y7 z7
    obtain ⟨rfl, N7q, eq7⟩ := hQ7
    have N7 := Fr.app N6 N7q
    refine GoesW.step st7 ?_
    show GoesW p.tables e below s (Q0 Z q0 p1 p2 p3 p4 h0 n0) room_1.cells room_1.slots (T7.setTop (mkF m 91 #[.val (.long q0), .second, .val (.int p1), .val (.int p2), .val (.int p3), .val (.int p4), .val (.int tb), .val (.ref b1), .val (.int (1 : Int32)), .val (.int (1 : Int32)), .val (.int (1 : Int32)), .unset, .unset, .unset] [(.int (own_min p2 p3))]))
    refine GoesW.step (fun _ k => XS.istore X7.here hx rfl (hb hby at_91) rfl (l' := #[.val (.long q0), .second, .val (.int p1), .val (.int p2), .val (.int p3), .val (.int p4), .val (.int tb), .val (.ref b1), .val (.int (1 : Int32)), .val (.int (1 : Int32)), .val (.int (1 : Int32)), .val (.int (own_min p2 p3)), .unset, .unset]) rfl k) ?_
    show GoesW p.tables e below s (Q0 Z q0 p1 p2 p3 p4 h0 n0) room_1.cells room_1.slots (T7.setTop (mkF m 93 #[.val (.long q0), .second, .val (.int p1), .val (.int p2), .val (.int p3), .val (.int p4), .val (.int tb), .val (.ref b1), .val (.int (1 : Int32)), .val (.int (1 : Int32)), .val (.int (1 : Int32)), .val (.int (own_min p2 p3)), .unset, .unset] []))
    refine GoesW.step (fun _ k => XS.iloadN X7.here hx rfl (hb hby at_93) rfl k) ?_
    show GoesW p.tables e below s (Q0 Z q0 p1 p2 p3 p4 h0 n0) room_1.cells room_1.slots (T7.setTop (mkF m 94 #[.val (.long q0), .second, .val (.int p1), .val (.int p2), .val (.int p3), .val (.int p4), .val (.int tb), .val (.ref b1), .val (.int (1 : Int32)), .val (.int (1 : Int32)), .val (.int (1 : Int32)), .val (.int (own_min p2 p3)), .unset, .unset] [(.int p2)]))
    refine GoesW.step (fun _ k => XS.iload X7.here hx rfl (hb hby at_94) rfl k) ?_
    show GoesW p.tables e below s (Q0 Z q0 p1 p2 p3 p4 h0 n0) room_1.cells room_1.slots (T7.setTop (mkF m 96 #[.val (.long q0), .second, .val (.int p1), .val (.int p2), .val (.int p3), .val (.int p4), .val (.int tb), .val (.ref b1), .val (.int (1 : Int32)), .val (.int (1 : Int32)), .val (.int (1 : Int32)), .val (.int (own_min p2 p3)), .unset, .unset] [(.int p3), (.int p2)]))
    obtain ⟨_, _, ⟨T8, L8, k8, n8⟩, -, X8, ⟨Lc8, hQ8, l8, y8, z8⟩, st8⟩ := Jvm.LawKit.callS X7 hx (y := (⟨"java/lang/Math", "max", "(II)I"⟩ : MethodName)) hown (mvT hZ (hw _ (List.mem_of_getElem? (i := 40) rfl))) (mvT hZ (hw _ (List.mem_of_getElem? (i := 41) rfl))) (mvT hZ (hw _ (List.mem_of_getElem? (i := 38) rfl))) (mvT hZ (hw _ (List.mem_of_getElem? (i := 42) rfl))) (by decide) (backOf (W := 0) (rm5 l Z a0 hw [] p2 p3  T2.heap n0 Z2 ) hZ (hw _ (List.mem_of_getElem? (i := 42) rfl)) (hw _ (List.mem_of_getElem? (i := 38) rfl)) (by decide) (by decide)) (g := (mkF m 96 #[.val (.long q0), .second, .val (.int p1), .val (.int p2), .val (.int p3), .val (.int p4), .val (.int tb), .val (.ref b1), .val (.int (1 : Int32)), .val (.int (1 : Int32)), .val (.int (1 : Int32)), .val (.int (own_min p2 p3)), .unset, .unset] [(.int p3), (.int p2)])) rfl (by rw [hml]; rfl) (argsL := [(.int p2), (.int p3)]) (rest := []) (lenOf own_pd2 rfl) rfl (by show 2 * 0 + _ ≤ _; exact Nat.le_of_eq rfl) (hb hby at_96) (fun _ _ => ⟨rfl, eq7, (by decide : 6 + 0 ≤ _), (by decide : 31 + 0 ≤ _)⟩)
    dsimp only [Pt.U, Pt.locs, Pt.cells, Pt.slots] at X8 l8 y8 z8 st8 hQ8
    subst l8 y8 z8
    obtain ⟨rfl, N8q, eq8⟩ := hQ8
    have N8 := Fr.app N7 N8q
    refine GoesW.step st8 ?_
    show GoesW p.tables e below s (Q0 Z q0 p1 p2 p3 p4 h0 n0) room_1.cells room_1.slots (T8.setTop (mkF m 99 #[.val (.long q0), .second, .val (.int p1), .val (.int p2), .val (.int p3), .val (.int p4), .val (.int tb), .val (.ref b1), .val (.int (1 : Int32)), .val (.int (1 : Int32)), .val (.int (1 : Int32)), .val (.int (own_min p2 p3)), .unset, .unset] [(.int (own_max p2 p3))]))
    refine GoesW.step (fun _ k => XS.istore X8.here hx rfl (hb hby at_99) rfl (l' := #[.val (.long q0), .second, .val (.int p1), .val (.int p2), .val (.int p3), .val (.int p4), .val (.int tb), .val (.ref b1), .val (.int (1 : Int32)), .val (.int (1 : Int32)), .val (.int (1 : Int32)), .val (.int (own_min p2 p3)), .val (.int (own_max p2 p3)), .unset]) rfl k) ?_
    show GoesW p.tables e below s (Q0 Z q0 p1 p2 p3 p4 h0 n0) room_1.cells room_1.slots (T8.setTop (mkF m 101 #[.val (.long q0), .second, .val (.int p1), .val (.int p2), .val (.int p3), .val (.int p4), .val (.int tb), .val (.ref b1), .val (.int (1 : Int32)), .val (.int (1 : Int32)), .val (.int (1 : Int32)), .val (.int (own_min p2 p3)), .val (.int (own_max p2 p3)), .unset] []))
    refine GoesW.step (fun _ k => XS.aload X8.here hx rfl (hb hby at_101) rfl rfl k) ?_
    show GoesW p.tables e below s (Q0 Z q0 p1 p2 p3 p4 h0 n0) room_1.cells room_1.slots (T8.setTop (mkF m 103 #[.val (.long q0), .second, .val (.int p1), .val (.int p2), .val (.int p3), .val (.int p4), .val (.int tb), .val (.ref b1), .val (.int (1 : Int32)), .val (.int (1 : Int32)), .val (.int (1 : Int32)), .val (.int (own_min p2 p3)), .val (.int (own_max p2 p3)), .unset] [(.ref b1)]))
    refine GoesW.step (fun _ k => XS.iload X8.here hx rfl (hb hby at_103) rfl k) ?_
    show GoesW p.tables e below s (Q0 Z q0 p1 p2 p3 p4 h0 n0) room_1.cells room_1.slots (T8.setTop (mkF m 105 #[.val (.long q0), .second, .val (.int p1), .val (.int p2), .val (.int p3), .val (.int p4), .val (.int tb), .val (.ref b1), .val (.int (1 : Int32)), .val (.int (1 : Int32)), .val (.int (1 : Int32)), .val (.int (own_min p2 p3)), .val (.int (own_max p2 p3)), .unset] [(.int (own_max p2 p3)), (.ref b1)]))
    obtain ⟨cq9, kq9, q9a, q9b, q9c⟩ := isOf hZ eq8 Exa_b1_3
    obtain ⟨_, _, ⟨T9, L9, k9, n9⟩, -, X9, ⟨Lc9, hQ9, l9, y9, z9⟩, st9⟩ := X8.virtualBack hx (y := (⟨"com/example/rhadamanth/rhadamanth/engine/DocumentMatch", "givesOffset", "(I)Z"⟩ : MethodName)) (z := (⟨"com/example/rhadamanth/rhadamanth/engine/DocumentMatch", "givesOffset", "(I)Z"⟩ : MethodName)) hown (mvT hZ (hw _ (List.mem_of_getElem? (i := 30) rfl))) (mvT hZ (hw _ (List.mem_of_getElem? (i := 31) rfl))) (notFace_of_selects (args := #[]) (mvT hZ (hw _ (List.mem_of_getElem? (i := 33) rfl)))) (mvT hZ (hw _ (List.mem_of_getElem? (i := 33) rfl))) (mvT hZ (hw _ (List.mem_of_getElem? (i := 32) rfl))) (by decide) (backOf (W := 0) (rm3 l Z a0 hw [] b1 (own_max p2 p3) p1 T2.heap n0 Z2 Fp2) hZ (hw _ (List.mem_of_getElem? (i := 34) rfl)) (hw _ (List.mem_of_getElem? (i := 2) rfl)) (by decide) (by decide)) q9a q9c (g := (mkF m 105 #[.val (.long q0), .second, .val (.int p1), .val (.int p2), .val (.int p3), .val (.int p4), .val (.int tb), .val (.ref b1), .val (.int (1 : Int32)), .val (.int (1 : Int32)), .val (.int (1 : Int32)), .val (.int (own_min p2 p3)), .val (.int (own_max p2 p3)), .unset] [(.int (own_max p2 p3)), (.ref b1)])) rfl (by rw [hml]; rfl) (Steps.refl _) (argsL := [(.int (own_max p2 p3))]) (rest := []) (lenOf own_pd1 rfl) rfl (by show 2 * 0 + _ ≤ _; exact Nat.le_of_eq rfl) (hb hby at_105) (fun _ _ => ⟨rfl, eq8, (by decide : 6 + 0 ≤ _), (by decide : 31 + 0 ≤ _)⟩)
    dsimp only [Pt.U, Pt.locs, Pt.cells, Pt.slots] at X9 l9 y9 z9 st9 hQ9
    subst l9 y9 z9
    obtain ⟨rfl, N9q, eq9⟩ := hQ9
    have N9 := Fr.app N8 N9q
    refine GoesW.step (fun _ k => st9.trans k) ?_
    show GoesW p.tables e below s (Q0 Z q0 p1 p2 p3 p4 h0 n0) room_1.cells room_1.slots (T9.setTop (mkF m 108 #[.val (.long q0), .second, .val (.int p1), .val (.int p2), .val (.int p3), .val (.int p4), .val (.int tb), .val (.ref b1), .val (.int (1 : Int32)), .val (.int (1 : Int32)), .val (.int (1 : Int32)), .val (.int (own_min p2 p3)), .val (.int (own_max p2 p3)), .unset] [(.int (own_go (own_max p2 p3) p1))]))
    have J126 : ∀ (TJ10 : State) (LJ10 : List Loc), Stand p l e room_1 s m #[(.long q0), (.int p1), (.int p2), (.int p3), (.int p4)] below meth c TJ10 LJ10 6 31 → TJ10.heap = T2.heap → Fr n0 LJ10 → GoesW p.tables e below s (Q0 Z q0 p1 p2 p3 p4 h0 n0) room_1.cells room_1.slots (TJ10.setTop (mkF m 126 #[.val (.long q0), .second, .val (.int p1), .val (.int p2), .val (.int p3), .val (.int p4), .val (.int tb), .val (.ref b1), .val (.int (1 : Int32)), .val (.int (1 : Int32)), .val (.int (1 : Int32)), .val (.int (own_min p2 p3)), .val (.int (own_max p2 p3)), .unset] [(.int (1 : Int32))])) := by
      intro TJ10 LJ10  XJ10 eJ10 NJ10 
      show GoesW p.tables e below s (Q0 Z q0 p1 p2 p3 p4 h0 n0) room_1.cells room_1.slots (TJ10.setTop (mkF m 126 #[.val (.long q0), .second, .val (.int p1), .val (.int p2), .val (.int p3), .val (.int p4), .val (.int tb), .val (.ref b1), .val (.int (1 : Int32)), .val (.int (1 : Int32)), .val (.int (1 : Int32)), .val (.int (own_min p2 p3)), .val (.int (own_max p2 p3)), .unset] [(.int (1 : Int32))]))
      refine GoesW.step (fun _ k => XS.istore XJ10.here hx rfl (hb hby at_126) rfl (l' := #[.val (.long q0), .second, .val (.int p1), .val (.int p2), .val (.int p3), .val (.int p4), .val (.int tb), .val (.ref b1), .val (.int (1 : Int32)), .val (.int (1 : Int32)), .val (.int (1 : Int32)), .val (.int (own_min p2 p3)), .val (.int (own_max p2 p3)), .val (.int (1 : Int32))]) rfl k) ?_
      show GoesW p.tables e below s (Q0 Z q0 p1 p2 p3 p4 h0 n0) room_1.cells room_1.slots (TJ10.setTop (mkF m 128 #[.val (.long q0), .second, .val (.int p1), .val (.int p2), .val (.int p3), .val (.int p4), .val (.int tb), .val (.ref b1), .val (.int (1 : Int32)), .val (.int (1 : Int32)), .val (.int (1 : Int32)), .val (.int (own_min p2 p3)), .val (.int (own_max p2 p3)), .val (.int (1 : Int32))] []))
      refine GoesW.step (fun _ k => XS.iload XJ10.here hx rfl (hb hby at_128) rfl k) ?_
      show GoesW p.tables e below s (Q0 Z q0 p1 p2 p3 p4 h0 n0) room_1.cells room_1.slots (TJ10.setTop (mkF m 130 #[.val (.long q0), .second, .val (.int p1), .val (.int p2), .val (.int p3), .val (.int p4), .val (.int tb), .val (.ref b1), .val (.int (1 : Int32)), .val (.int (1 : Int32)), .val (.int (1 : Int32)), .val (.int (own_min p2 p3)), .val (.int (own_max p2 p3)), .val (.int (1 : Int32))] [(.int (1 : Int32))]))
      refine GoesW.step (fun _ k => XS.ifNo XJ10.here hx rfl (hb hby at_130) rfl ((if0 _ _).trans (feq (show ¬ (1 : Int32) = (0 : Int32) by decide)).1) k) ?_
      show GoesW p.tables e below s (Q0 Z q0 p1 p2 p3 p4 h0 n0) room_1.cells room_1.slots (TJ10.setTop (mkF m 133 #[.val (.long q0), .second, .val (.int p1), .val (.int p2), .val (.int p3), .val (.int p4), .val (.int tb), .val (.ref b1), .val (.int (1 : Int32)), .val (.int (1 : Int32)), .val (.int (1 : Int32)), .val (.int (own_min p2 p3)), .val (.int (own_max p2 p3)), .val (.int (1 : Int32))] []))
      refine GoesW.step (fun _ k => XS.iload XJ10.here hx rfl (hb hby at_133) rfl k) ?_
      show GoesW p.tables e below s (Q0 Z q0 p1 p2 p3 p4 h0 n0) room_1.cells room_1.slots (TJ10.setTop (mkF m 135 #[.val (.long q0), .second, .val (.int p1), .val (.int p2), .val (.int p3), .val (.int p4), .val (.int tb), .val (.ref b1), .val (.int (1 : Int32)), .val (.int (1 : Int32)), .val (.int (1 : Int32)), .val (.int (own_min p2 p3)), .val (.int (own_max p2 p3)), .val (.int (1 : Int32))] [(.int (1 : Int32))]))
      refine GoesW.step (fun _ k => XS.ifNo XJ10.here hx rfl (hb hby at_135) rfl ((if0 _ _).trans (feq (show ¬ (1 : Int32) = (0 : Int32) by decide)).1) k) ?_
      show GoesW p.tables e below s (Q0 Z q0 p1 p2 p3 p4 h0 n0) room_1.cells room_1.slots (TJ10.setTop (mkF m 138 #[.val (.long q0), .second, .val (.int p1), .val (.int p2), .val (.int p3), .val (.int p4), .val (.int tb), .val (.ref b1), .val (.int (1 : Int32)), .val (.int (1 : Int32)), .val (.int (1 : Int32)), .val (.int (own_min p2 p3)), .val (.int (own_max p2 p3)), .val (.int (1 : Int32))] []))
      refine GoesW.step (fun _ k => XS.iload XJ10.here hx rfl (hb hby at_138) rfl k) ?_
      show GoesW p.tables e below s (Q0 Z q0 p1 p2 p3 p4 h0 n0) room_1.cells room_1.slots (TJ10.setTop (mkF m 140 #[.val (.long q0), .second, .val (.int p1), .val (.int p2), .val (.int p3), .val (.int p4), .val (.int tb), .val (.ref b1), .val (.int (1 : Int32)), .val (.int (1 : Int32)), .val (.int (1 : Int32)), .val (.int (own_min p2 p3)), .val (.int (own_max p2 p3)), .val (.int (1 : Int32))] [(.int (1 : Int32))]))
      refine GoesW.step (fun _ k => XS.ifNo XJ10.here hx rfl (hb hby at_140) rfl ((if0 _ _).trans (feq (show ¬ (1 : Int32) = (0 : Int32) by decide)).1) k) ?_
      show GoesW p.tables e below s (Q0 Z q0 p1 p2 p3 p4 h0 n0) room_1.cells room_1.slots (TJ10.setTop (mkF m 143 #[.val (.long q0), .second, .val (.int p1), .val (.int p2), .val (.int p3), .val (.int p4), .val (.int tb), .val (.ref b1), .val (.int (1 : Int32)), .val (.int (1 : Int32)), .val (.int (1 : Int32)), .val (.int (own_min p2 p3)), .val (.int (own_max p2 p3)), .val (.int (1 : Int32))] []))
      refine GoesW.step (fun _ k => XS.iload XJ10.here hx rfl (hb hby at_143) rfl k) ?_
      show GoesW p.tables e below s (Q0 Z q0 p1 p2 p3 p4 h0 n0) room_1.cells room_1.slots (TJ10.setTop (mkF m 145 #[.val (.long q0), .second, .val (.int p1), .val (.int p2), .val (.int p3), .val (.int p4), .val (.int tb), .val (.ref b1), .val (.int (1 : Int32)), .val (.int (1 : Int32)), .val (.int (1 : Int32)), .val (.int (own_min p2 p3)), .val (.int (own_max p2 p3)), .val (.int (1 : Int32))] [(.int (1 : Int32))]))
      refine GoesW.step (fun _ k => XS.ifNo XJ10.here hx rfl (hb hby at_145) rfl ((if0 _ _).trans (feq (show ¬ (1 : Int32) = (0 : Int32) by decide)).1) k) ?_
      show GoesW p.tables e below s (Q0 Z q0 p1 p2 p3 p4 h0 n0) room_1.cells room_1.slots (TJ10.setTop (mkF m 148 #[.val (.long q0), .second, .val (.int p1), .val (.int p2), .val (.int p3), .val (.int p4), .val (.int tb), .val (.ref b1), .val (.int (1 : Int32)), .val (.int (1 : Int32)), .val (.int (1 : Int32)), .val (.int (own_min p2 p3)), .val (.int (own_max p2 p3)), .val (.int (1 : Int32))] []))
      refine GoesW.step (fun _ k => XS.iconst XJ10.here hx rfl (hb hby at_148) k) ?_
      show GoesW p.tables e below s (Q0 Z q0 p1 p2 p3 p4 h0 n0) room_1.cells room_1.slots (TJ10.setTop (mkF m 149 #[.val (.long q0), .second, .val (.int p1), .val (.int p2), .val (.int p3), .val (.int p4), .val (.int tb), .val (.ref b1), .val (.int (1 : Int32)), .val (.int (1 : Int32)), .val (.int (1 : Int32)), .val (.int (own_min p2 p3)), .val (.int (own_max p2 p3)), .val (.int (1 : Int32))] [(.int (1 : Int32))]))
      refine GoesW.step (fun _ k => XS.goto XJ10.here hx rfl (pc0 := 149) (pc' := 153) rfl (hb hby at_149) (by decide) (by decide) k) ?_
      show GoesW p.tables e below s (Q0 Z q0 p1 p2 p3 p4 h0 n0) room_1.cells room_1.slots (TJ10.setTop (mkF m 153 #[.val (.long q0), .second, .val (.int p1), .val (.int p2), .val (.int p3), .val (.int p4), .val (.int tb), .val (.ref b1), .val (.int (1 : Int32)), .val (.int (1 : Int32)), .val (.int (1 : Int32)), .val (.int (own_min p2 p3)), .val (.int (own_max p2 p3)), .val (.int (1 : Int32))] [(.int (1 : Int32))]))
      exact GoesW.retZ XJ10 hx hlk (t := .boolean) Bd.returns (by simp) rfl (hb hby at_153) (by show Q0 Z q0 p1 p2 p3 p4 h0 n0 _ TJ10.heap _; rw [eJ10]; exact ⟨rfl, NJ10⟩) (by decide) (by decide)
    by_cases h108 : (own_go (own_max p2 p3) p1) = (0 : Int32)
    · skip
      refine GoesW.step (fun _ k => XS.ifYes X9.here hx rfl (pc0 := 108) (pc' := 121) rfl (hb hby at_108) rfl ((if0 _ _).trans (teq h108).1) (by decide) (by decide) k) ?_
      show GoesW p.tables e below s (Q0 Z q0 p1 p2 p3 p4 h0 n0) room_1.cells room_1.slots (T9.setTop (mkF m 121 #[.val (.long q0), .second, .val (.int p1), .val (.int p2), .val (.int p3), .val (.int p4), .val (.int tb), .val (.ref b1), .val (.int (1 : Int32)), .val (.int (1 : Int32)), .val (.int (1 : Int32)), .val (.int (own_min p2 p3)), .val (.int (own_max p2 p3)), .unset] []))
      refine GoesW.step (fun _ k => XS.iconst X9.here hx rfl (hb hby at_121) k) ?_
      show GoesW p.tables e below s (Q0 Z q0 p1 p2 p3 p4 h0 n0) room_1.cells room_1.slots (T9.setTop (mkF m 122 #[.val (.long q0), .second, .val (.int p1), .val (.int p2), .val (.int p3), .val (.int p4), .val (.int tb), .val (.ref b1), .val (.int (1 : Int32)), .val (.int (1 : Int32)), .val (.int (1 : Int32)), .val (.int (own_min p2 p3)), .val (.int (own_max p2 p3)), .unset] [(.int (1 : Int32))]))
      refine GoesW.step (fun _ k => XS.goto X9.here hx rfl (pc0 := 122) (pc' := 126) rfl (hb hby at_122) (by decide) (by decide) k) ?_
      show GoesW p.tables e below s (Q0 Z q0 p1 p2 p3 p4 h0 n0) room_1.cells room_1.slots (T9.setTop (mkF m 126 #[.val (.long q0), .second, .val (.int p1), .val (.int p2), .val (.int p3), .val (.int p4), .val (.int tb), .val (.ref b1), .val (.int (1 : Int32)), .val (.int (1 : Int32)), .val (.int (1 : Int32)), .val (.int (own_min p2 p3)), .val (.int (own_max p2 p3)), .unset] [(.int (1 : Int32))]))
      exact J126 _ _  X9 eq9 N9 
    · skip
      refine GoesW.step (fun _ k => XS.ifNo X9.here hx rfl (hb hby at_108) rfl ((if0 _ _).trans (feq h108).1) k) ?_
      show GoesW p.tables e below s (Q0 Z q0 p1 p2 p3 p4 h0 n0) room_1.cells room_1.slots (T9.setTop (mkF m 111 #[.val (.long q0), .second, .val (.int p1), .val (.int p2), .val (.int p3), .val (.int p4), .val (.int tb), .val (.ref b1), .val (.int (1 : Int32)), .val (.int (1 : Int32)), .val (.int (1 : Int32)), .val (.int (own_min p2 p3)), .val (.int (own_max p2 p3)), .unset] []))
      refine GoesW.step (fun _ k => XS.aload X9.here hx rfl (hb hby at_111) rfl rfl k) ?_
      show GoesW p.tables e below s (Q0 Z q0 p1 p2 p3 p4 h0 n0) room_1.cells room_1.slots (T9.setTop (mkF m 113 #[.val (.long q0), .second, .val (.int p1), .val (.int p2), .val (.int p3), .val (.int p4), .val (.int tb), .val (.ref b1), .val (.int (1 : Int32)), .val (.int (1 : Int32)), .val (.int (1 : Int32)), .val (.int (own_min p2 p3)), .val (.int (own_max p2 p3)), .unset] [(.ref b1)]))
      refine GoesW.step (fun _ k => XS.iload X9.here hx rfl (hb hby at_113) rfl k) ?_
      show GoesW p.tables e below s (Q0 Z q0 p1 p2 p3 p4 h0 n0) room_1.cells room_1.slots (T9.setTop (mkF m 115 #[.val (.long q0), .second, .val (.int p1), .val (.int p2), .val (.int p3), .val (.int p4), .val (.int tb), .val (.ref b1), .val (.int (1 : Int32)), .val (.int (1 : Int32)), .val (.int (1 : Int32)), .val (.int (own_min p2 p3)), .val (.int (own_max p2 p3)), .unset] [(.int (own_min p2 p3)), (.ref b1)]))
      obtain ⟨cq11, kq11, q11a, q11b, q11c⟩ := isOf hZ eq9 Exa_b1_3
      obtain ⟨_, _, ⟨T11, L11, k11, n11⟩, -, X11, ⟨Lc11, hQ11, l11, y11, z11⟩, st11⟩ := X9.virtualBack hx (y := (⟨"com/example/rhadamanth/rhadamanth/engine/DocumentMatch", "givesOffset", "(I)Z"⟩ : MethodName)) (z := (⟨"com/example/rhadamanth/rhadamanth/engine/DocumentMatch", "givesOffset", "(I)Z"⟩ : MethodName)) hown (mvT hZ (hw _ (List.mem_of_getElem? (i := 30) rfl))) (mvT hZ (hw _ (List.mem_of_getElem? (i := 31) rfl))) (notFace_of_selects (args := #[]) (mvT hZ (hw _ (List.mem_of_getElem? (i := 33) rfl)))) (mvT hZ (hw _ (List.mem_of_getElem? (i := 33) rfl))) (mvT hZ (hw _ (List.mem_of_getElem? (i := 32) rfl))) (by decide) (backOf (W := 0) (rm3 l Z a0 hw [] b1 (own_min p2 p3) p1 T2.heap n0 Z2 Fp2) hZ (hw _ (List.mem_of_getElem? (i := 34) rfl)) (hw _ (List.mem_of_getElem? (i := 2) rfl)) (by decide) (by decide)) q11a q11c (g := (mkF m 115 #[.val (.long q0), .second, .val (.int p1), .val (.int p2), .val (.int p3), .val (.int p4), .val (.int tb), .val (.ref b1), .val (.int (1 : Int32)), .val (.int (1 : Int32)), .val (.int (1 : Int32)), .val (.int (own_min p2 p3)), .val (.int (own_max p2 p3)), .unset] [(.int (own_min p2 p3)), (.ref b1)])) rfl (by rw [hml]; rfl) (Steps.refl _) (argsL := [(.int (own_min p2 p3))]) (rest := []) (lenOf own_pd1 rfl) rfl (by show 2 * 0 + _ ≤ _; exact Nat.le_of_eq rfl) (hb hby at_115) (fun _ _ => ⟨rfl, eq9, (by decide : 6 + 0 ≤ _), (by decide : 31 + 0 ≤ _)⟩)
      dsimp only [Pt.U, Pt.locs, Pt.cells, Pt.slots] at X11 l11 y11 z11 st11 hQ11
      subst l11 y11 z11
      obtain ⟨rfl, N11q, eq11⟩ := hQ11
      have N11 := Fr.app N9 N11q
      refine GoesW.step (fun _ k => st11.trans k) ?_
      show GoesW p.tables e below s (Q0 Z q0 p1 p2 p3 p4 h0 n0) room_1.cells room_1.slots (T11.setTop (mkF m 118 #[.val (.long q0), .second, .val (.int p1), .val (.int p2), .val (.int p3), .val (.int p4), .val (.int tb), .val (.ref b1), .val (.int (1 : Int32)), .val (.int (1 : Int32)), .val (.int (1 : Int32)), .val (.int (own_min p2 p3)), .val (.int (own_max p2 p3)), .unset] [(.int (own_go (own_min p2 p3) p1))]))
      rw [show (own_go (own_min p2 p3) p1) = (1 : Int32) from own_mono h108]
      show GoesW p.tables e below s (Q0 Z q0 p1 p2 p3 p4 h0 n0) room_1.cells room_1.slots (T11.setTop (mkF m 118 #[.val (.long q0), .second, .val (.int p1), .val (.int p2), .val (.int p3), .val (.int p4), .val (.int tb), .val (.ref b1), .val (.int (1 : Int32)), .val (.int (1 : Int32)), .val (.int (1 : Int32)), .val (.int (own_min p2 p3)), .val (.int (own_max p2 p3)), .unset] [(.int (1 : Int32))]))
      refine GoesW.step (fun _ k => XS.ifNo X11.here hx rfl (hb hby at_118) rfl ((if0 _ _).trans (feq (show ¬ (1 : Int32) = (0 : Int32) by decide)).1) k) ?_
      show GoesW p.tables e below s (Q0 Z q0 p1 p2 p3 p4 h0 n0) room_1.cells room_1.slots (T11.setTop (mkF m 121 #[.val (.long q0), .second, .val (.int p1), .val (.int p2), .val (.int p3), .val (.int p4), .val (.int tb), .val (.ref b1), .val (.int (1 : Int32)), .val (.int (1 : Int32)), .val (.int (1 : Int32)), .val (.int (own_min p2 p3)), .val (.int (own_max p2 p3)), .unset] []))
      refine GoesW.step (fun _ k => XS.iconst X11.here hx rfl (hb hby at_121) k) ?_
      show GoesW p.tables e below s (Q0 Z q0 p1 p2 p3 p4 h0 n0) room_1.cells room_1.slots (T11.setTop (mkF m 122 #[.val (.long q0), .second, .val (.int p1), .val (.int p2), .val (.int p3), .val (.int p4), .val (.int tb), .val (.ref b1), .val (.int (1 : Int32)), .val (.int (1 : Int32)), .val (.int (1 : Int32)), .val (.int (own_min p2 p3)), .val (.int (own_max p2 p3)), .unset] [(.int (1 : Int32))]))
      refine GoesW.step (fun _ k => XS.goto X11.here hx rfl (pc0 := 122) (pc' := 126) rfl (hb hby at_122) (by decide) (by decide) k) ?_
      show GoesW p.tables e below s (Q0 Z q0 p1 p2 p3 p4 h0 n0) room_1.cells room_1.slots (T11.setTop (mkF m 126 #[.val (.long q0), .second, .val (.int p1), .val (.int p2), .val (.int p3), .val (.int p4), .val (.int tb), .val (.ref b1), .val (.int (1 : Int32)), .val (.int (1 : Int32)), .val (.int (1 : Int32)), .val (.int (own_min p2 p3)), .val (.int (own_max p2 p3)), .unset] [(.int (1 : Int32))]))
      exact J126 _ _  X11 eq11 N11 
  by_cases h38 : p1 = (2147483647 : Int32)
  · skip
    refine GoesW.step (fun _ k => XS.icmpYes X4.here hx rfl (pc0 := 38) (pc' := 52) rfl (hb hby at_38) rfl (teq h38).1 (by decide) (by decide) k) ?_
    show GoesW p.tables e below s (Q0 Z q0 p1 p2 p3 p4 h0 n0) room_1.cells room_1.slots (T4.setTop (mkF m 52 #[.val (.long q0), .second, .val (.int p1), .val (.int p2), .val (.int p3), .val (.int p4), .val (.int tb), .val (.ref b1), .val (.int (1 : Int32)), .unset, .unset, .unset, .unset, .unset] []))
    refine GoesW.step (fun _ k => XS.iconst X4.here hx rfl (hb hby at_52) k) ?_
    show GoesW p.tables e below s (Q0 Z q0 p1 p2 p3 p4 h0 n0) room_1.cells room_1.slots (T4.setTop (mkF m 53 #[.val (.long q0), .second, .val (.int p1), .val (.int p2), .val (.int p3), .val (.int p4), .val (.int tb), .val (.ref b1), .val (.int (1 : Int32)), .unset, .unset, .unset, .unset, .unset] [(.int (1 : Int32))]))
    refine GoesW.step (fun _ k => XS.goto X4.here hx rfl (pc0 := 53) (pc' := 57) rfl (hb hby at_53) (by decide) (by decide) k) ?_
    show GoesW p.tables e below s (Q0 Z q0 p1 p2 p3 p4 h0 n0) room_1.cells room_1.slots (T4.setTop (mkF m 57 #[.val (.long q0), .second, .val (.int p1), .val (.int p2), .val (.int p3), .val (.int p4), .val (.int tb), .val (.ref b1), .val (.int (1 : Int32)), .unset, .unset, .unset, .unset, .unset] [(.int (1 : Int32))]))
    exact J57 _ _  X4 eq4 N4 
  · skip
    refine GoesW.step (fun _ k => XS.icmpNo X4.here hx rfl (hb hby at_38) rfl (feq h38).1 k) ?_
    show GoesW p.tables e below s (Q0 Z q0 p1 p2 p3 p4 h0 n0) room_1.cells room_1.slots (T4.setTop (mkF m 41 #[.val (.long q0), .second, .val (.int p1), .val (.int p2), .val (.int p3), .val (.int p4), .val (.int tb), .val (.ref b1), .val (.int (1 : Int32)), .unset, .unset, .unset, .unset, .unset] []))
    refine GoesW.step (fun _ k => XS.aload X4.here hx rfl (hb hby at_41) rfl rfl k) ?_
    show GoesW p.tables e below s (Q0 Z q0 p1 p2 p3 p4 h0 n0) room_1.cells room_1.slots (T4.setTop (mkF m 43 #[.val (.long q0), .second, .val (.int p1), .val (.int p2), .val (.int p3), .val (.int p4), .val (.int tb), .val (.ref b1), .val (.int (1 : Int32)), .unset, .unset, .unset, .unset, .unset] [(.ref b1)]))
    refine GoesW.step (fun _ k => XS.iloadN X4.here hx rfl (hb hby at_43) rfl k) ?_
    show GoesW p.tables e below s (Q0 Z q0 p1 p2 p3 p4 h0 n0) room_1.cells room_1.slots (T4.setTop (mkF m 44 #[.val (.long q0), .second, .val (.int p1), .val (.int p2), .val (.int p3), .val (.int p4), .val (.int tb), .val (.ref b1), .val (.int (1 : Int32)), .unset, .unset, .unset, .unset, .unset] [(.int p1), (.ref b1)]))
    refine GoesW.step (fun _ k => XS.iconst X4.here hx rfl (hb hby at_44) k) ?_
    show GoesW p.tables e below s (Q0 Z q0 p1 p2 p3 p4 h0 n0) room_1.cells room_1.slots (T4.setTop (mkF m 45 #[.val (.long q0), .second, .val (.int p1), .val (.int p2), .val (.int p3), .val (.int p4), .val (.int tb), .val (.ref b1), .val (.int (1 : Int32)), .unset, .unset, .unset, .unset, .unset] [(.int (1 : Int32)), (.int p1), (.ref b1)]))
    refine GoesW.step (fun _ k => XS.iadd X4.here hx rfl (hb hby at_45) rfl k) ?_
    show GoesW p.tables e below s (Q0 Z q0 p1 p2 p3 p4 h0 n0) room_1.cells room_1.slots (T4.setTop (mkF m 46 #[.val (.long q0), .second, .val (.int p1), .val (.int p2), .val (.int p3), .val (.int p4), .val (.int tb), .val (.ref b1), .val (.int (1 : Int32)), .unset, .unset, .unset, .unset, .unset] [(.int (p1 + (1 : Int32))), (.ref b1)]))
    obtain ⟨cq12, kq12, q12a, q12b, q12c⟩ := isOf hZ eq4 Exa_b1_3
    obtain ⟨_, _, ⟨T12, L12, k12, n12⟩, -, X12, ⟨Lc12, hQ12, l12, y12, z12⟩, st12⟩ := X4.virtualBack hx (y := (⟨"com/example/rhadamanth/rhadamanth/engine/DocumentMatch", "givesOffset", "(I)Z"⟩ : MethodName)) (z := (⟨"com/example/rhadamanth/rhadamanth/engine/DocumentMatch", "givesOffset", "(I)Z"⟩ : MethodName)) hown (mvT hZ (hw _ (List.mem_of_getElem? (i := 30) rfl))) (mvT hZ (hw _ (List.mem_of_getElem? (i := 31) rfl))) (notFace_of_selects (args := #[]) (mvT hZ (hw _ (List.mem_of_getElem? (i := 33) rfl)))) (mvT hZ (hw _ (List.mem_of_getElem? (i := 33) rfl))) (mvT hZ (hw _ (List.mem_of_getElem? (i := 32) rfl))) (by decide) (backOf (W := 0) (rm3 l Z a0 hw [] b1 (p1 + (1 : Int32)) p1 T2.heap n0 Z2 Fp2) hZ (hw _ (List.mem_of_getElem? (i := 34) rfl)) (hw _ (List.mem_of_getElem? (i := 2) rfl)) (by decide) (by decide)) q12a q12c (g := (mkF m 46 #[.val (.long q0), .second, .val (.int p1), .val (.int p2), .val (.int p3), .val (.int p4), .val (.int tb), .val (.ref b1), .val (.int (1 : Int32)), .unset, .unset, .unset, .unset, .unset] [(.int (p1 + (1 : Int32))), (.ref b1)])) rfl (by rw [hml]; rfl) (Steps.refl _) (argsL := [(.int (p1 + (1 : Int32)))]) (rest := []) (lenOf own_pd1 rfl) rfl (by show 2 * 0 + _ ≤ _; exact Nat.le_of_eq rfl) (hb hby at_46) (fun _ _ => ⟨rfl, eq4, (by decide : 6 + 0 ≤ _), (by decide : 31 + 0 ≤ _)⟩)
    dsimp only [Pt.U, Pt.locs, Pt.cells, Pt.slots] at X12 l12 y12 z12 st12 hQ12
    subst l12 y12 z12
    obtain ⟨rfl, N12q, eq12⟩ := hQ12
    have N12 := Fr.app N4 N12q
    refine GoesW.step (fun _ k => st12.trans k) ?_
    show GoesW p.tables e below s (Q0 Z q0 p1 p2 p3 p4 h0 n0) room_1.cells room_1.slots (T12.setTop (mkF m 49 #[.val (.long q0), .second, .val (.int p1), .val (.int p2), .val (.int p3), .val (.int p4), .val (.int tb), .val (.ref b1), .val (.int (1 : Int32)), .unset, .unset, .unset, .unset, .unset] [(.int (own_go (p1 + (1 : Int32)) p1))]))
    rw [show (own_go (p1 + (1 : Int32)) p1) = (0 : Int32) from own_next h38]
    show GoesW p.tables e below s (Q0 Z q0 p1 p2 p3 p4 h0 n0) room_1.cells room_1.slots (T12.setTop (mkF m 49 #[.val (.long q0), .second, .val (.int p1), .val (.int p2), .val (.int p3), .val (.int p4), .val (.int tb), .val (.ref b1), .val (.int (1 : Int32)), .unset, .unset, .unset, .unset, .unset] [(.int (0 : Int32))]))
    refine GoesW.step (fun _ k => XS.ifNo X12.here hx rfl (hb hby at_49) rfl ((if0 _ _).trans (teq (rfl : (0 : Int32) = (0 : Int32))).2) k) ?_
    show GoesW p.tables e below s (Q0 Z q0 p1 p2 p3 p4 h0 n0) room_1.cells room_1.slots (T12.setTop (mkF m 52 #[.val (.long q0), .second, .val (.int p1), .val (.int p2), .val (.int p3), .val (.int p4), .val (.int tb), .val (.ref b1), .val (.int (1 : Int32)), .unset, .unset, .unset, .unset, .unset] []))
    refine GoesW.step (fun _ k => XS.iconst X12.here hx rfl (hb hby at_52) k) ?_
    show GoesW p.tables e below s (Q0 Z q0 p1 p2 p3 p4 h0 n0) room_1.cells room_1.slots (T12.setTop (mkF m 53 #[.val (.long q0), .second, .val (.int p1), .val (.int p2), .val (.int p3), .val (.int p4), .val (.int tb), .val (.ref b1), .val (.int (1 : Int32)), .unset, .unset, .unset, .unset, .unset] [(.int (1 : Int32))]))
    refine GoesW.step (fun _ k => XS.goto X12.here hx rfl (pc0 := 53) (pc' := 57) rfl (hb hby at_53) (by decide) (by decide) k) ?_
    show GoesW p.tables e below s (Q0 Z q0 p1 p2 p3 p4 h0 n0) room_1.cells room_1.slots (T12.setTop (mkF m 57 #[.val (.long q0), .second, .val (.int p1), .val (.int p2), .val (.int p3), .val (.int p4), .val (.int tb), .val (.ref b1), .val (.int (1 : Int32)), .unset, .unset, .unset, .unset, .unset] [(.int (1 : Int32))]))
    exact J57 _ _  X12 eq12 N12 
set_option maxRecDepth 65536 in
set_option maxHeartbeats 40000000 in
theorem comes_1 {Post : Tables → Env → Array Value → State → Outcome → State → Prop} (hpost : ∀ tb e args s v u, (limb_1_1.after args s (.returned v) u = true ∧ limb_1_2.after args s (.returned v) u = true ∧ True) → FrameEnd s (.returned v) u (Jvm.fieldLocs frame_1_writes args s ++ Jvm.arrayLocs frame_1_arrays args s ++ Jvm.staticLocs frame_1_statics s) 24 128 → Post tb e args s (.returned v) u) :
    ArmFor flags0 classFile x code maxLocals ret World_1 tables_1 room_1 Calls_1 rest_1 Pre_1 Post := by
  intro l hfl _ _ p e ha hc hk s m args below hf hA hF happ hP
  obtain ⟨hcalls, hrest, hpre⟩ := hP
  obtain ⟨-, -, -, hnamed, -, -, -, hat⟩ := (Spec.applies_iff hf).mp happ
  obtain ⟨hg, hn⟩ := and_e (Cond.before_iff.mp (show (Jvm.Cond.and given_1 narrow_1).before args s = true from hpre))
  obtain ⟨gc, gr0⟩ := and_e hg
  obtain ⟨w0, w1, w2, w3, w4, rfl⟩ : ∃ w0 w1 w2 w3 w4 : Value, args = #[w0, w1, w2, w3, w4] := by
    have hs : args.size = 5 := by simpa [Cond.value, given_1] using gc
    obtain ⟨L⟩ := args
    match L, hs with
    | [w0, w1, w2, w3, w4], _ => exact ⟨w0, w1, w2, w3, w4, rfl⟩
  have hw := fun d (hd : d ∈ tables_1) => atoms_spec (ws := Jvm.Cond.code x code maxLocals ret :: tables_1) hat d (List.mem_cons_of_mem _ hd)
  have hfit : Fit s := fun {y c} hc i hi => by
    obtain ⟨ha, rfl⟩ := Array.getElem?_eq_some_iff.mp hc
    have q := List.all_eq_true.mp ((Array.all_eq_true_iff_forall_mem.mp hF) _ (Array.getElem_mem ha)) i (List.mem_range.mpr hi)
    simpa [Array.getElem?_eq_getElem hi] using q
  obtain ⟨ga0, gr1⟩ := and_e gr0
  obtain ⟨i0, ei0⟩ := isL_v ga0
  obtain rfl : w0 = (.long i0) := Option.some.inj ei0
  obtain ⟨ga1, gr2⟩ := and_e gr1
  obtain ⟨i1, ei1⟩ := is_v ga1
  obtain rfl : w1 = (.int i1) := Option.some.inj ei1
  obtain ⟨ga2, gr3⟩ := and_e gr2
  obtain ⟨i2, ei2⟩ := is_v ga2
  obtain rfl : w2 = (.int i2) := Option.some.inj ei2
  obtain ⟨ga3, gr4⟩ := and_e gr3
  obtain ⟨i3, ei3⟩ := is_v ga3
  obtain rfl : w3 = (.int i3) := Option.some.inj ei3
  obtain ⟨i4, ei4⟩ := is_v gr4
  obtain rfl : w4 = (.int i4) := Option.some.inj ei4
  obtain ⟨n, o, h1, h2, h3, _, L, rfl, ⟨rfl, N⟩, hq⟩ := rm0 l s _ hw tables_1 i0 i1 i2 i3 i4 s.heap s.heap.size (Nat.le_refl _) p e ha hc hk s m _ below hf ((Spec.applies_iff_loose hf).mp happ).1 ⟨rfl, State.Warmed39.refl s, rfl⟩ trivial
  refine ⟨n, _, h1, h2, h3, hpost _ _ _ _ _ _ ⟨Cond.after_iff.mpr rfl, Cond.after_iff.mpr (eq_i res_at (Term.int_eval (1)) rfl), trivial⟩ ⟨hq.1, hq.2.1, (hq.2.2.sift fun y hy => Or.inr (N y hy)).mono (by decide) (by decide)⟩⟩
theorem main_1_1 : Claimed_1_1 := comes_1 fun _ _ _ _ _ _ h hF => ⟨h.1, hF⟩
theorem main_1_2 : Claimed_1_2 := comes_1 fun _ _ _ _ _ _ h hF => ⟨h.2.1, hF⟩
end Jvm.Pilot.@@N@@
namespace Jvm.Pilot.@@N@@
open Jvm Jvm.ClassFile Sem Op Lib Jvm.Free Jvm.Stand Jvm.Pilot.@@N@@.Jvm.D
/-! MADE BY PROGRAM (witnessworld.py) out of the Statement's table words and the real class files: 16 classes; the members and pool entries that the words name. The judged class is class 1, her method 1. -/
namespace start1
open Jvm.ClassFile
def u (s : String) : CpInfo := .utf8 (stringToUtf16 s)
/-- a pool by its gaps: so many unusable entries, then the entry; so many at the end -/
def gap : Nat → List CpInfo → List CpInfo
  | 0, r => r
  | n + 1, r => .unusable :: gap n r
def poolList (es : List (Nat × CpInfo)) (last : Nat) : List CpInfo := es.foldr (fun e r => gap e.1 (e.2 :: r)) (gap last [])
def pool (es : List (Nat × CpInfo)) (last : Nat) : Array CpInfo := ⟨poolList es last⟩
def fileOf (pool : Array CpInfo) (this : Nat) (attrs : Array Attribute := #[]) (ms : Array MethodInfo := #[]) (fl : Nat := 33) (sup : Nat := 0) (ifs : Array Nat := #[]) (fds : Array FieldInfo := #[]) : ClassFile where
  minorVersion := 0
  majorVersion := 65
  constantPool := pool
  accessFlags := fl
  thisClass := this
  superClass := sup
  interfaces := ifs
  fields := fds
  methods := ms
  attributes := attrs
def plain (name : String) (sup : Option ClassId) : Class where
  name := name
  kind := .ordinary
  loader := none
  accessFlags := 33
  super := sup
  interfaces := #[]
  cf := none
  fields := #[]
  methods := #[]
  instanceTypes := #[]
  staticTypes := #[]
  resolved := #[]
  callSites := []
  init := .initialized
  statics := none
  mirror := none

def pool0 : Array CpInfo := pool [(5, u "<init>"), (0, u "()V"), (1, .class_ 10), (1, u "java/lang/Object")] 113

def k0c0 : Code := { maxStack := 0, maxLocals := 1, code := object_method_1_code, exceptionTable := #[], attributes := #[] }
def k0m0 : Method := { name := "<init>", desc := "()V", sig := { parameters := [], returnType := none }, accessFlags := 1, code := some k0c0 }
/-- java/lang/Object -/
def k0 : Class := { plain "java/lang/Object" none with
  accessFlags := 33
  interfaces := #[]
  cf := some (fileOf pool0 8 #[] #[{ accessFlags := 1, nameIndex := 5, descriptorIndex := 6, attributes := #[] }] 33 0 #[] #[])
  fields := #[]
  methods := #[k0m0]
  instanceTypes := #[]
  staticTypes := #[]
  resolved := Array.replicate 124 none
  statics := none }

def pool1 : Array CpInfo := pool [(2, .class_ 4), (1, u "java/lang/Object"), (0, u "<init>"), (0, u "()V"), (0, .class_ 8), (0, u "com/example/rhadamanth/rhadamanth/engine/DocumentMatch"), (0, .methodref 7 10), (0, .nameAndType 5 11), (0, u "(JIZ)V"), (0, .methodref 7 13), (0, .nameAndType 14 15), (0, u "givesOffset"), (0, u "(I)Z"), (2, .integer 2147483647), (0, .methodref 20 21), (0, .class_ 22), (0, .nameAndType 23 24), (0, u "java/lang/Math"), (0, u "min"), (0, u "(II)I"), (0, .methodref 20 26), (0, .nameAndType 27 24), (0, u "max"), (0, .class_ 29), (0, u "com/example/rhadamanth/rhadamanth/engine/DocumentMatchGivesOffsetPinLaw"), (2, u "law"), (0, u "(JIIII)Z")] 3

def k1m0 : Method := { name := "<init>", desc := "()V", sig := { parameters := [], returnType := none }, accessFlags := 1, code := none }
def k1c1 : Code := { maxStack := 6, maxLocals := 14, code := code, exceptionTable := #[], attributes := #[] }
def k1m1 : Method := { name := "law", desc := "(JIIII)Z", sig := { parameters := [.long, .int, .int, .int, .int], returnType := some .boolean }, accessFlags := 9, code := some k1c1 }
/-- com/example/rhadamanth/rhadamanth/engine/DocumentMatchGivesOffsetPinLaw -/
def k1 : Class := { plain "com/example/rhadamanth/rhadamanth/engine/DocumentMatchGivesOffsetPinLaw" (some 0) with
  accessFlags := 49
  interfaces := #[]
  cf := some (fileOf pool1 28 #[] #[{ accessFlags := 1, nameIndex := 5, descriptorIndex := 6, attributes := #[] }, { accessFlags := 9, nameIndex := 32, descriptorIndex := 33, attributes := #[] }] 49 2 #[] #[])
  fields := #[]
  methods := #[k1m0, k1m1]
  instanceTypes := #[]
  staticTypes := #[]
  resolved := Array.replicate 37 none
  statics := none }

def pool2 : Array CpInfo := pool [(1, .methodref 2 3), (0, .class_ 4), (0, .nameAndType 5 6), (0, u "java/lang/Object"), (0, u "<init>"), (0, u "()V"), (0, .class_ 8), (0, u "com/example/rhadamanth/rhadamanth/engine/DocumentMatch"), (0, .fieldref 7 10), (0, .nameAndType 11 12), (0, u "words"), (0, u "[I"), (0, .class_ 14), (0, u "com/example/rhadamanth/rhadamanth/engine/Posting"), (0, .fieldref 7 16), (0, .nameAndType 17 18), (0, u "postings"), (0, u "[Lcom/example/rhadamanth/rhadamanth/engine/Posting;"), (0, .fieldref 7 20), (0, .nameAndType 21 22), (0, u "taken"), (0, u "[Z"), (0, .fieldref 7 24), (0, .nameAndType 25 12), (0, u "positionlessFields"), (0, .fieldref 7 27), (0, .nameAndType 28 29), (0, u "hits"), (0, u "[J"), (0, .fieldref 7 31), (0, .nameAndType 32 33), (0, u "documentId"), (0, u "J"), (0, .fieldref 7 35), (0, .nameAndType 36 37), (0, u "highestPosition"), (0, u "I"), (0, .fieldref 7 39), (0, .nameAndType 40 41), (0, u "takesBarred"), (0, u "Z"), (2, u "held"), (19, u "matchedFields"), (20, u "hitCount"), (13, u "FIRST_CAPACITY"), (2, u "(JIZ)V"), (4, u "givesOffset"), (0, u "(I)Z")] 19

def k2c0 : Code := { maxStack := 3, maxLocals := 5, code := prog_2_method_1_code, exceptionTable := #[], attributes := #[] }
def k2m0 : Method := { name := "<init>", desc := "(JIZ)V", sig := { parameters := [.long, .int, .boolean], returnType := none }, accessFlags := 0, code := some k2c0 }
def k2c1 : Code := { maxStack := 2, maxLocals := 2, code := prog_2_method_4_code, exceptionTable := #[], attributes := #[] }
def k2m1 : Method := { name := "givesOffset", desc := "(I)Z", sig := { parameters := [.int], returnType := some .boolean }, accessFlags := 0, code := some k2c1 }
/-- com/example/rhadamanth/rhadamanth/engine/DocumentMatch -/
def k2 : Class := { plain "com/example/rhadamanth/rhadamanth/engine/DocumentMatch" (some 0) with
  accessFlags := 48
  interfaces := #[]
  cf := some (fileOf pool2 7 #[] #[{ accessFlags := 0, nameIndex := 5, descriptorIndex := 102, attributes := #[] }, { accessFlags := 0, nameIndex := 107, descriptorIndex := 108, attributes := #[] }] 48 2 #[] #[{ accessFlags := 26, nameIndex := 99, descriptorIndex := 37, attributes := #[] }, { accessFlags := 18, nameIndex := 32, descriptorIndex := 33, attributes := #[] }, { accessFlags := 18, nameIndex := 36, descriptorIndex := 37, attributes := #[] }, { accessFlags := 18, nameIndex := 40, descriptorIndex := 41, attributes := #[] }, { accessFlags := 2, nameIndex := 11, descriptorIndex := 12, attributes := #[] }, { accessFlags := 2, nameIndex := 17, descriptorIndex := 18, attributes := #[] }, { accessFlags := 2, nameIndex := 21, descriptorIndex := 22, attributes := #[] }, { accessFlags := 2, nameIndex := 25, descriptorIndex := 12, attributes := #[] }, { accessFlags := 2, nameIndex := 44, descriptorIndex := 37, attributes := #[] }, { accessFlags := 2, nameIndex := 64, descriptorIndex := 37, attributes := #[] }, { accessFlags := 2, nameIndex := 28, descriptorIndex := 29, attributes := #[] }, { accessFlags := 2, nameIndex := 85, descriptorIndex := 37, attributes := #[] }])
  fields := #[{ name := "FIRST_CAPACITY", type := .int, accessFlags := 26, slot := 0, constantValue := 0 }, { name := "documentId", type := .long, accessFlags := 18, slot := 0, constantValue := 0 }, { name := "highestPosition", type := .int, accessFlags := 18, slot := 1, constantValue := 0 }, { name := "takesBarred", type := .boolean, accessFlags := 18, slot := 2, constantValue := 0 }, { name := "words", type := (.array .int), accessFlags := 2, slot := 3, constantValue := 0 }, { name := "postings", type := (.array (.object "com/example/rhadamanth/rhadamanth/engine/Posting")), accessFlags := 2, slot := 4, constantValue := 0 }, { name := "taken", type := (.array .boolean), accessFlags := 2, slot := 5, constantValue := 0 }, { name := "positionlessFields", type := (.array .int), accessFlags := 2, slot := 6, constantValue := 0 }, { name := "held", type := .int, accessFlags := 2, slot := 7, constantValue := 0 }, { name := "matchedFields", type := .int, accessFlags := 2, slot := 8, constantValue := 0 }, { name := "hits", type := (.array .long), accessFlags := 2, slot := 9, constantValue := 0 }, { name := "hitCount", type := .int, accessFlags := 2, slot := 10, constantValue := 0 }]
  methods := #[k2m0, k2m1]
  instanceTypes := #[.long, .int, .boolean, (.array .int), (.array (.object "com/example/rhadamanth/rhadamanth/engine/Posting")), (.array .boolean), (.array .int), .int, .int, (.array .long), .int]
  staticTypes := #[.int]
  resolved := Array.replicate 128 none
  statics := none }

def pool3 : Array CpInfo := pool [(1, .class_ 2), (0, u "com/example/rhadamanth/rhadamanth/engine/Posting"), (1, .class_ 6), (1, u "java/lang/Object"), (4, u "NONE"), (0, u "[I"), (2, u "occurrences"), (2, u "documentId"), (0, u "J"), (3, u "count"), (0, u "I"), (14, u "fieldMask"), (4, u "POSITION_BITS"), (2, u "MAX_POSITION")] 18

/-- com/example/rhadamanth/rhadamanth/engine/Posting -/
def k3 : Class := { plain "com/example/rhadamanth/rhadamanth/engine/Posting" (some 0) with
  accessFlags := 48
  interfaces := #[]
  cf := some (fileOf pool3 1 #[] #[] 48 4 #[] #[{ accessFlags := 24, nameIndex := 44, descriptorIndex := 24, attributes := #[] }, { accessFlags := 24, nameIndex := 47, descriptorIndex := 24, attributes := #[] }, { accessFlags := 26, nameIndex := 11, descriptorIndex := 12, attributes := #[] }, { accessFlags := 18, nameIndex := 18, descriptorIndex := 19, attributes := #[] }, { accessFlags := 2, nameIndex := 39, descriptorIndex := 24, attributes := #[] }, { accessFlags := 2, nameIndex := 15, descriptorIndex := 12, attributes := #[] }, { accessFlags := 2, nameIndex := 23, descriptorIndex := 24, attributes := #[] }])
  fields := #[{ name := "POSITION_BITS", type := .int, accessFlags := 24, slot := 0, constantValue := 0 }, { name := "MAX_POSITION", type := .int, accessFlags := 24, slot := 1, constantValue := 0 }, { name := "NONE", type := (.array .int), accessFlags := 26, slot := 2, constantValue := 0 }, { name := "documentId", type := .long, accessFlags := 18, slot := 0, constantValue := 0 }, { name := "fieldMask", type := .int, accessFlags := 2, slot := 1, constantValue := 0 }, { name := "occurrences", type := (.array .int), accessFlags := 2, slot := 2, constantValue := 0 }, { name := "count", type := .int, accessFlags := 2, slot := 3, constantValue := 0 }]
  methods := #[]
  instanceTypes := #[.long, .int, (.array .int), .int]
  staticTypes := #[.int, .int, (.array .int)]
  resolved := Array.replicate 66 none
  statics := none }

def pool4 : Array CpInfo := pool [(1, .class_ 2), (0, u "java/lang/Math"), (1, .class_ 6), (1, u "java/lang/Object"), (0, u "<init>"), (0, u "()V"), (89, .class_ 100), (1, u "java/lang/Math$RandomNumberGeneratorHolder"), (71, u "negativeZeroFloatBits"), (0, u "J"), (2, u "negativeZeroDoubleBits"), (21, u "max"), (2, u "min"), (43, u "$assertionsDisabled"), (0, u "Z"), (88, u "(II)I"), (2, u "twoToTheDoubleScaleDown"), (0, u "D"), (4, u "twoToTheDoubleScaleUp"), (9, u "E"), (3, u "PI"), (2, u "TAU"), (2, u "DEGREES_TO_RADIANS"), (0, u "RADIANS_TO_DEGREES")] 94

def k4m0 : Method := { name := "<init>", desc := "()V", sig := { parameters := [], returnType := none }, accessFlags := 2, code := none }
def k4c1 : Code := { maxStack := 2, maxLocals := 2, code := jdk_29_method_65_code, exceptionTable := #[], attributes := #[] }
def k4m1 : Method := { name := "max", desc := "(II)I", sig := { parameters := [.int, .int], returnType := some .int }, accessFlags := 9, code := some k4c1 }
def k4c2 : Code := { maxStack := 2, maxLocals := 2, code := jdk_29_method_69_code, exceptionTable := #[], attributes := #[] }
def k4m2 : Method := { name := "min", desc := "(II)I", sig := { parameters := [.int, .int], returnType := some .int }, accessFlags := 9, code := some k4c2 }
/-- java/lang/Math -/
def k4 : Class := { plain "java/lang/Math" (some 0) with
  accessFlags := 49
  interfaces := #[]
  cf := some (fileOf pool4 1 #[.nestMembers #[98]] #[{ accessFlags := 2, nameIndex := 7, descriptorIndex := 8, attributes := #[] }, { accessFlags := 9, nameIndex := 198, descriptorIndex := 335, attributes := #[] }, { accessFlags := 9, nameIndex := 201, descriptorIndex := 335, attributes := #[] }] 49 4 #[] #[{ accessFlags := 25, nameIndex := 354, descriptorIndex := 339, attributes := #[] }, { accessFlags := 25, nameIndex := 358, descriptorIndex := 339, attributes := #[] }, { accessFlags := 25, nameIndex := 361, descriptorIndex := 339, attributes := #[] }, { accessFlags := 26, nameIndex := 364, descriptorIndex := 339, attributes := #[] }, { accessFlags := 26, nameIndex := 365, descriptorIndex := 339, attributes := #[] }, { accessFlags := 26, nameIndex := 172, descriptorIndex := 173, attributes := #[] }, { accessFlags := 26, nameIndex := 176, descriptorIndex := 173, attributes := #[] }, { accessFlags := 8, nameIndex := 344, descriptorIndex := 339, attributes := #[] }, { accessFlags := 8, nameIndex := 338, descriptorIndex := 339, attributes := #[] }, { accessFlags := 4120, nameIndex := 245, descriptorIndex := 246, attributes := #[] }])
  fields := #[{ name := "E", type := .double, accessFlags := 25, slot := 0, constantValue := 0 }, { name := "PI", type := .double, accessFlags := 25, slot := 1, constantValue := 0 }, { name := "TAU", type := .double, accessFlags := 25, slot := 2, constantValue := 0 }, { name := "DEGREES_TO_RADIANS", type := .double, accessFlags := 26, slot := 3, constantValue := 0 }, { name := "RADIANS_TO_DEGREES", type := .double, accessFlags := 26, slot := 4, constantValue := 0 }, { name := "negativeZeroFloatBits", type := .long, accessFlags := 26, slot := 5, constantValue := 0 }, { name := "negativeZeroDoubleBits", type := .long, accessFlags := 26, slot := 6, constantValue := 0 }, { name := "twoToTheDoubleScaleUp", type := .double, accessFlags := 8, slot := 7, constantValue := 0 }, { name := "twoToTheDoubleScaleDown", type := .double, accessFlags := 8, slot := 8, constantValue := 0 }, { name := "$assertionsDisabled", type := .boolean, accessFlags := 4120, slot := 9, constantValue := 0 }]
  methods := #[k4m0, k4m1, k4m2]
  instanceTypes := #[]
  staticTypes := #[.double, .double, .double, .double, .double, .long, .long, .double, .double, .boolean]
  resolved := Array.replicate 460 none
  statics := none }

def pool5 : Array CpInfo := pool [(1, u "java/lang/Cloneable"), (0, .class_ 1), (0, u "java/lang/Object"), (0, .class_ 3)] 3

/-- java/lang/Cloneable -/
def k5 : Class := { plain "java/lang/Cloneable" (some 0) with
  accessFlags := 1537
  interfaces := #[]
  cf := some (fileOf pool5 2 #[] #[] 1537 4 #[] #[])
  fields := #[]
  methods := #[]
  instanceTypes := #[]
  staticTypes := #[]
  resolved := Array.replicate 8 none
  statics := none }

def pool6 : Array CpInfo := pool [(1, u "java/io/Serializable"), (0, .class_ 1), (0, u "java/lang/Object"), (0, .class_ 3)] 3

/-- java/io/Serializable -/
def k6 : Class := { plain "java/io/Serializable" (some 0) with
  accessFlags := 1537
  interfaces := #[]
  cf := some (fileOf pool6 2 #[] #[] 1537 4 #[] #[])
  fields := #[]
  methods := #[]
  instanceTypes := #[]
  staticTypes := #[]
  resolved := Array.replicate 8 none
  statics := none }

/-- the primitive boolean -/
def k7 : Class := { plain "boolean" none with kind := .primitive 'Z', accessFlags := 0x411 }
/-- [Z -/
def k8 : Class := { plain "[Z" (some 0) with kind := .array 7 .boolean, interfaces := #[5, 6], accessFlags := 1041 }

/-- the primitive byte -/
def k9 : Class := { plain "byte" none with kind := .primitive 'B', accessFlags := 0x411 }
/-- [B -/
def k10 : Class := { plain "[B" (some 0) with kind := .array 9 .byte, interfaces := #[5, 6], accessFlags := 1041 }

/-- the primitive int -/
def k11 : Class := { plain "int" none with kind := .primitive 'I', accessFlags := 0x411 }
/-- [I -/
def k12 : Class := { plain "[I" (some 0) with kind := .array 11 .int, interfaces := #[5, 6], accessFlags := 1041 }

/-- the primitive long -/
def k13 : Class := { plain "long" none with kind := .primitive 'J', accessFlags := 0x411 }
/-- [J -/
def k14 : Class := { plain "[J" (some 0) with kind := .array 13 .long, interfaces := #[5, 6], accessFlags := 1041 }

/-- [Lcom/example/rhadamanth/rhadamanth/engine/Posting; -/
def k15 : Class := { plain "[Lcom/example/rhadamanth/rhadamanth/engine/Posting;" (some 0) with kind := .array 3 (.object "com/example/rhadamanth/rhadamanth/engine/Posting"), interfaces := #[5, 6], accessFlags := 1041 }

def heap : Heap := #[]
def classes : Array Class := #[k0, k1, k2, k3, k4, k5, k6, k7, k8, k9, k10, k11, k12, k13, k14, k15]
def interned : List (Array UInt16 × Addr) := []
def slotsUsed : Nat := 0
def theMethod : MethodId := ⟨1, 1⟩
def args0 : Array Value := #[.long 5, .int 3, .int 7, .int 2, .int 1]
def aboutOver (below : List Frame) : State where
  vm := { classes := classes, interned := interned.toArray }
  heap := heap
  slotsUsed := slotsUsed
  threads := #[{ frames := .invoking theMethod args0 :: below }]
def below0 : List Frame := [.native { method := ⟨0, 0⟩, args := #[] }]
def about1 : State := aboutOver below0
def p0 : Program := .bare "" "" ""
def e0 : Env := launch0.env 0 0 0
theorem w_frames : about1.frames = Frame.invoking theMethod args0 :: below0 := rfl
set_option maxRecDepth 65536 in
theorem w_args : argsFit about1.vm theMethod args0 = true := by decide +kernel
set_option maxRecDepth 65536 in
theorem w_heap : heapFits about1 = true := by decide +kernel
set_option maxRecDepth 65536 in
theorem w_runnable : about1.curStatus? = some .runnable := by decide +kernel
set_option maxRecDepth 65536 in
theorem w_alone : about1.alone = true := by decide +kernel
set_option maxRecDepth 65536 in
theorem w_named : about1.methodNamed? x = some theMethod := by decide +kernel
set_option maxRecDepth 65536 in
theorem w_hears : about1.hears theMethod below0 = true := by decide +kernel
set_option maxRecDepth 65536 in
theorem w_ripe : about1.ripe theMethod args0 below0 = true := by decide +kernel
theorem w_running : about1.status = .running := rfl
set_option maxRecDepth 65536 in
theorem w_room : about1.hasRoom e0.platform room_1 = true :=
  launch0.hasRoom_least _ room_1 (by decide +kernel) (by decide +kernel) (by decide +kernel) (by decide +kernel) (by decide +kernel) (by decide +kernel)
theorem allAtoms_all (ts : List Jvm.Cond) (a : Array Jvm.Value) (st : Jvm.State) : (allAtoms ts).before a st = ts.all (fun c => c.before a st) := by
  induction ts with
  | nil => rfl
  | cons c t ih =>
    show (Jvm.Cond.and c (allAtoms t)).before a st = _
    rw [Jvm.Cond.before_and, ih, List.all_cons]
def words1 : List Jvm.Cond := Jvm.Cond.code x code maxLocals ret :: tables_1
/-- a 'code' word, met by the world's own term for the bytes: nothing is compared byte by byte -/
theorem code_word {y : MethodName} {bytes : ByteArray} {mx : Nat} {rt : Option FieldType} {a : Array Value} {s : State} {m : MethodId} {meth : Method} {c : Code} (h1 : s.methodNamed? y = some m) (h2 : s.vm.method? m = some meth) (h3 : meth.code = some c) (h4 : c.code = bytes)
    (h5 : (c.maxLocals == mx && c.exceptionTable.isEmpty && decide (c.maxStack ≤ mostOperands) && decide (meth.sig.returnType = rt) && !meth.locks && decide (parseMethodDescriptor y.desc = some meth.sig)) = true) : (Jvm.Cond.code y bytes mx rt).before a s = true := by
  simp only [Bool.and_eq_true, beq_iff_eq, Bool.not_eq_true', decide_eq_true_eq] at h5
  obtain ⟨⟨⟨⟨⟨g1, g2⟩, g3⟩, g4⟩, g5⟩, g6⟩ := h5
  simp [Cond.before, Cond.holds, Cond.value, h1, h2, h3, h4, g1, g2, g3, g4, g5, g6]
def isCode : Jvm.Cond → Bool
  | .code _ _ _ _ => true
  | _ => false
theorem all_split {L : List Jvm.Cond} {P : Jvm.Cond → Bool} (h1 : L.all (fun c => isCode c || P c) = true) (h2 : ∀ c ∈ L.filter isCode, P c = true) : L.all P = true := by
  refine List.all_eq_true.mpr fun c hc => ?_
  have h := List.all_eq_true.mp h1 c hc
  rcases Bool.eq_false_or_eq_true (isCode c) with hi | hi
  · exact h2 c (List.mem_filter.mpr ⟨hc, hi⟩)
  · simpa [hi] using h
set_option maxRecDepth 65536 in
theorem w_c0 : (Jvm.Cond.code x code maxLocals ret).before args0 about1 = true := code_word (m := ⟨1, 1⟩) (meth := k1m1) (c := k1c1) (by decide +kernel) rfl rfl rfl (by decide +kernel)
set_option maxRecDepth 65536 in
theorem w_c1 : (Jvm.Cond.code ({ cls := "com/example/rhadamanth/rhadamanth/engine/DocumentMatch", name := "<init>", desc := "(JIZ)V" } : Jvm.MethodName) prog_2_method_1_code (5 : Nat) (Option.none : Option Jvm.ClassFile.FieldType)).before args0 about1 = true := code_word (m := ⟨2, 0⟩) (meth := k2m0) (c := k2c0) (by decide +kernel) rfl rfl rfl (by decide +kernel)
set_option maxRecDepth 65536 in
theorem w_c2 : (Jvm.Cond.code ({ cls := "java/lang/Object", name := "<init>", desc := "()V" } : Jvm.MethodName) object_method_1_code (1 : Nat) (Option.none : Option Jvm.ClassFile.FieldType)).before args0 about1 = true := code_word (m := ⟨0, 0⟩) (meth := k0m0) (c := k0c0) (by decide +kernel) rfl rfl rfl (by decide +kernel)
set_option maxRecDepth 65536 in
theorem w_c3 : (Jvm.Cond.code ({ cls := "com/example/rhadamanth/rhadamanth/engine/DocumentMatch", name := "givesOffset", desc := "(I)Z" } : Jvm.MethodName) prog_2_method_4_code (2 : Nat) (Option.some Jvm.ClassFile.FieldType.boolean)).before args0 about1 = true := code_word (m := ⟨2, 1⟩) (meth := k2m1) (c := k2c1) (by decide +kernel) rfl rfl rfl (by decide +kernel)
set_option maxRecDepth 65536 in
theorem w_c4 : (Jvm.Cond.code ({ cls := "java/lang/Math", name := "min", desc := "(II)I" } : Jvm.MethodName) jdk_29_method_69_code (2 : Nat) (Option.some Jvm.ClassFile.FieldType.int)).before args0 about1 = true := code_word (m := ⟨4, 2⟩) (meth := k4m2) (c := k4c2) (by decide +kernel) rfl rfl rfl (by decide +kernel)
set_option maxRecDepth 65536 in
theorem w_c5 : (Jvm.Cond.code ({ cls := "java/lang/Math", name := "max", desc := "(II)I" } : Jvm.MethodName) jdk_29_method_65_code (2 : Nat) (Option.some Jvm.ClassFile.FieldType.int)).before args0 about1 = true := code_word (m := ⟨4, 1⟩) (meth := k4m1) (c := k4c1) (by decide +kernel) rfl rfl rfl (by decide +kernel)
def codes1 : List Jvm.Cond := [Jvm.Cond.code x code maxLocals ret, Jvm.Cond.code ({ cls := "com/example/rhadamanth/rhadamanth/engine/DocumentMatch", name := "<init>", desc := "(JIZ)V" } : Jvm.MethodName) prog_2_method_1_code (5 : Nat) (Option.none : Option Jvm.ClassFile.FieldType), Jvm.Cond.code ({ cls := "java/lang/Object", name := "<init>", desc := "()V" } : Jvm.MethodName) object_method_1_code (1 : Nat) (Option.none : Option Jvm.ClassFile.FieldType), Jvm.Cond.code ({ cls := "com/example/rhadamanth/rhadamanth/engine/DocumentMatch", name := "givesOffset", desc := "(I)Z" } : Jvm.MethodName) prog_2_method_4_code (2 : Nat) (Option.some Jvm.ClassFile.FieldType.boolean), Jvm.Cond.code ({ cls := "java/lang/Math", name := "min", desc := "(II)I" } : Jvm.MethodName) jdk_29_method_69_code (2 : Nat) (Option.some Jvm.ClassFile.FieldType.int), Jvm.Cond.code ({ cls := "java/lang/Math", name := "max", desc := "(II)I" } : Jvm.MethodName) jdk_29_method_65_code (2 : Nat) (Option.some Jvm.ClassFile.FieldType.int)]
set_option maxRecDepth 65536 in
theorem codes_eq : words1.filter isCode = codes1 := rfl
theorem w_codes : ∀ c ∈ words1.filter isCode, c.before args0 about1 = true := by
  rw [codes_eq]
  intro c hc
  simp only [codes1, List.mem_cons, List.not_mem_nil, or_false] at hc
  rcases hc with rfl | rfl | rfl | rfl | rfl | rfl
  · exact w_c0
  · exact w_c1
  · exact w_c2
  · exact w_c3
  · exact w_c4
  · exact w_c5
set_option maxRecDepth 65536 in
theorem w_t1 : (words1.take 24).all (fun c => isCode c || c.before args0 about1) = true := by decide +kernel
set_option maxRecDepth 65536 in
theorem w_t2 : (words1.drop 24).all (fun c => isCode c || c.before args0 about1) = true := by decide +kernel
theorem w_tables : (allAtoms (Jvm.Cond.code x code maxLocals ret :: tables_1)).before args0 about1 = true := by
  rw [allAtoms_all]
  show words1.all (fun c => c.before args0 about1) = true
  refine all_split ?_ w_codes
  rw [← List.take_append_drop 24 words1, List.all_append, w_t1, w_t2]
  rfl
set_option maxRecDepth 65536 in
theorem w_case : (Jvm.Cond.and given_1 narrow_1).before args0 about1 = true := by decide +kernel
theorem w_applies : (headSpec (Jvm.Cond.code x code maxLocals ret :: tables_1) room_1).applies x e0.platform about1 = true :=
  (Spec.applies_iff w_frames).mpr ⟨w_running, w_runnable, w_alone, w_named, w_hears, w_ripe, w_room, w_tables⟩
theorem atStart : AtStart classFile x code maxLocals ret World_1 tables_1 room_1 Calls_1 rest_1 Pre_1 launch0 p0 e0 about1 theMethod args0 below0 :=
  ⟨lists_1, trivial, launch0.admits_env _ _ _, launch0.least_env, fairChoices_fair.cas, fairChoices_fair.clock, w_frames, w_args, w_heap, w_applies, trivial, trivial, w_case⟩
end start1
theorem witness_1 : WitnessClaimed_1 := ⟨start1.p0, start1.e0, start1.about1, start1.theMethod, start1.args0, start1.below0, start1.atStart⟩
end Jvm.Pilot.@@N@@
