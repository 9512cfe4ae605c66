import JvmDerived
import JvmDerived.Pilot.@@N@@Statement
import JvmDerived.Pilot.@@N@@Code
set_option linter.unusedVariables false
set_option linter.unusedSimpArgs false
namespace Jvm.RoadKit
open Sem ClassFile Op Lib Jvm.Stand Jvm.Free Jvm.LawKit
/-- from S the run goes on and returns; what it leaves is said by Q -/
def GoesW (tb : Tables) (e : Env) (below : List Frame) (s : State) (Q : Option Value → Heap → List Loc → Prop) (kc ks : Nat) (S : State) : Prop :=
  ∃ t o, Steps tb e below S t ∧ t.status = .running ∧ Ended t below o ∧ ∃ v L, o = .returned v ∧ Q v t.heap L ∧ FrameEnd s o t L kc ks
theorem GoesW.step {tb : Tables} {e : Env} {below : List Frame} {s : State} {Q : Option Value → Heap → List Loc → Prop} {kc ks : Nat} {S S' : State} (f : ∀ t, Steps tb e below S' t → Steps tb e below S t) (h : GoesW tb e below s Q kc ks S') : GoesW tb e below s Q kc ks S := by
  obtain ⟨t, o, h1, h2⟩ := h
  exact ⟨t, o, f t h1, h2⟩
/-- 0 where the branch is taken, 1 where it isn't: what 'if<c> +7; iconst_1; goto +4; iconst_0' leaves -/
def nb (b : Bool) : Int32 := if b then 0 else 1
theorem nb_01 (b : Bool) : nb b = 0 ∨ nb b = 1 := by cases b <;> simp [nb]
theorem nar_nb (b : Bool) : narrow .boolean (.int (nb b)) = .int (nb b) := by cases b <;> rfl
theorem fits_nb (b : Bool) : fits .boolean (.int (nb b)) = true := by cases b <;> rfl
theorem diam0 {tb : Tables} [Ours tb] {e : Env} {below : List Frame} {T target : State} {m : MethodId} {c : Code} {g : JFrame} (h : At T m c below) (hx : tb.exec = Jvm.exec) (hg : g.method = m) {cd : ClassFile.Cond} {x : Int32} {rest : List Value} {pc0 : Nat} (hpc : g.pc = pc0)
    (hd : decode c.code pc0 = .ok (.ifCond cd 7, 3)) (hs : g.stack = .int x :: rest) (hd1 : decode c.code (pc0 + 3) = .ok (.iconst 1, 1)) (hd2 : decode c.code (pc0 + 4) = .ok (.goto 4, 3)) (hd3 : decode c.code (pc0 + 7) = .ok (.iconst 0, 1))
    (hr : Steps tb e below (T.setTop { g with pc := pc0 + 8, stack := .int (nb (ifCond.holds cd x)) :: rest }) target) : Steps tb e below (T.setTop g) target := by
  subst hpc
  cases hb : ifCond.holds cd x with
  | true =>
    rw [hb] at hr
    refine XS.ifYes h hx hg (pc0 := g.pc) (pc' := g.pc + 7) rfl hd hs hb (by omega) (by omega) ?_
    exact XS.iconst (g := { g with pc := g.pc + 7, stack := rest }) h hx hg hd3 hr
  | false =>
    rw [hb] at hr
    refine XS.ifNo h hx hg hd hs hb ?_
    refine XS.iconst (g := { g with pc := g.pc + 3, stack := rest }) h hx hg hd1 ?_
    exact XS.goto (g := { g with pc := g.pc + 4, stack := .int 1 :: rest }) h hx hg (pc0 := g.pc + 4) (pc' := g.pc + 8) rfl hd2 (by omega) (by omega) hr
theorem diam2 {tb : Tables} [Ours tb] {e : Env} {below : List Frame} {T target : State} {m : MethodId} {c : Code} {g : JFrame} (h : At T m c below) (hx : tb.exec = Jvm.exec) (hg : g.method = m) {cd : ClassFile.Cond} {x y : Int32} {rest : List Value} {pc0 : Nat} (hpc : g.pc = pc0)
    (hd : decode c.code pc0 = .ok (.if_icmp cd 7, 3)) (hs : g.stack = .int y :: .int x :: rest) (hd1 : decode c.code (pc0 + 3) = .ok (.iconst 1, 1)) (hd2 : decode c.code (pc0 + 4) = .ok (.goto 4, 3)) (hd3 : decode c.code (pc0 + 7) = .ok (.iconst 0, 1))
    (hr : Steps tb e below (T.setTop { g with pc := pc0 + 8, stack := .int (nb (if_icmp.holds cd x y)) :: rest }) target) : Steps tb e below (T.setTop g) target := by
  subst hpc
  cases hb : if_icmp.holds cd x y with
  | true =>
    rw [hb] at hr
    refine XS.icmpYes h hx hg (pc0 := g.pc) (pc' := g.pc + 7) rfl hd hs hb (by omega) (by omega) ?_
    exact XS.iconst (g := { g with pc := g.pc + 7, stack := rest }) h hx hg hd3 hr
  | false =>
    rw [hb] at hr
    refine XS.icmpNo h hx hg hd hs hb ?_
    refine XS.iconst (g := { g with pc := g.pc + 3, stack := rest }) h hx hg hd1 ?_
    exact XS.goto (g := { g with pc := g.pc + 4, stack := .int 1 :: rest }) h hx hg (pc0 := g.pc + 4) (pc' := g.pc + 8) rfl hd2 (by omega) (by omega) hr
section New
variable {p : Program} {l : Launch} {e : Env} {R : Room} {s : State} {m : MethodId} {args : Array Value} {below : List Frame} {meth : Method} {c : Code} {T : State} {locs : List Loc} {cells slots : Nat} {Q : Option Value → Heap → List Loc → Prop} {kc ks : Nat}
theorem upS (X : Stand p l e R s m args below meth c T locs cells slots) {k n : Nat} (hc : cells ≤ k) (hn : slots ≤ n) : Stand p l e R s m args below meth c T locs k n := { X with same := X.same.mono hc hn }
theorem GoesW.out (X : Stand p l e R s m args below meth c T locs cells slots) {v : Option Value} {S : State} (hlk : meth.locks = false) (hv : meth.sig.returnType = none → v = none)
    (hst : ∀ fs, (∀ (f : JFrame) (acts : List Action), f.method = m → f.locked = none → f.entered = [] → (doReturn e (T.setTop f) acts v).1 = T.setFrames fs) → Steps p.tables e below S (T.setFrames fs)) (hq : Q v T.heap locs) (hc : cells ≤ kc) (hs : slots ≤ ks) : GoesW p.tables e below s Q kc ks S := by
  obtain ⟨fs, hr, hrun, hended, hW, hsame⟩ := X.leave (v := v) hv hlk
  exact ⟨_, _, hst fs hr, hrun, hended, _, _, rfl, hq, ⟨_, rfl⟩, hW, hsame.mono hc hs⟩
theorem GoesW.retI (X : Stand p l e R s m args below meth c T locs cells slots) (hx : p.tables.exec = Jvm.exec) (hlk : meth.locks = false) {pc : Nat} {Ls : Array Slot} {z : Int32} {rest : List Value} (hret : meth.sig.returnType = some .int) (hd : decode c.code pc = .ok (.ireturn, 1)) (hq : Q (some (.int z)) T.heap locs) (hc : cells ≤ kc) (hs : slots ≤ ks) :
    GoesW p.tables e below s Q kc ks (T.setTop (mkF m pc Ls (.int z :: rest))) :=
  GoesW.out X hlk (fun h => by rw [hret] at h; cases h) (fun fs hr => retOut X hx hret rfl (Or.inl ⟨rfl, Or.inl rfl, _, rfl⟩) hd hr) hq hc hs
theorem GoesW.retZ (X : Stand p l e R s m args below meth c T locs cells slots) (hx : p.tables.exec = Jvm.exec) (hlk : meth.locks = false) {pc : Nat} {Ls : Array Slot} {z : Int32} {t : FieldType} {rest : List Value} (hret : meth.sig.returnType = some t) (ht : t = .int ∨ t = .boolean ∨ t = .byte ∨ t = .char ∨ t = .short) (hn : narrow t (.int z) = .int z) (hd : decode c.code pc = .ok (.ireturn, 1)) (hq : Q (some (.int z)) T.heap locs) (hc : cells ≤ kc) (hs : slots ≤ ks) :
    GoesW p.tables e below s Q kc ks (T.setTop (mkF m pc Ls (.int z :: rest))) :=
  GoesW.out X hlk (fun h => by rw [hret] at h; cases h) (fun fs hr => retOut X hx hret hn (Or.inl ⟨rfl, ht, _, rfl⟩) hd hr) hq hc hs
theorem GoesW.retJ (X : Stand p l e R s m args below meth c T locs cells slots) (hx : p.tables.exec = Jvm.exec) (hlk : meth.locks = false) {pc : Nat} {Ls : Array Slot} {z : Int64} {rest : List Value} (hret : meth.sig.returnType = some .long) (hd : decode c.code pc = .ok (.lreturn, 1)) (hq : Q (some (.long z)) T.heap locs) (hc : cells ≤ kc) (hs : slots ≤ ks) :
    GoesW p.tables e below s Q kc ks (T.setTop (mkF m pc Ls (.long z :: rest))) :=
  GoesW.out X hlk (fun h => by rw [hret] at h; cases h) (fun fs hr => retOut X hx hret rfl (Or.inr (Or.inl ⟨rfl, rfl, _, rfl⟩)) hd hr) hq hc hs
theorem GoesW.retA (X : Stand p l e R s m args below meth c T locs cells slots) (hx : p.tables.exec = Jvm.exec) (hlk : meth.locks = false) {pc : Nat} {Ls : Array Slot} {w : Value} {t : FieldType} {rest : List Value} (hret : meth.sig.returnType = some t) (ht : t.isReference = true) (hw : w.isRef = true) (hd : decode c.code pc = .ok (.areturn, 1)) (hq : Q (some w) T.heap locs) (hc : cells ≤ kc) (hs : slots ≤ ks) :
    GoesW p.tables e below s Q kc ks (T.setTop (mkF m pc Ls (w :: rest))) :=
  GoesW.out X hlk (fun h => by rw [hret] at h; cases h) (fun fs hr => retOut X hx hret (by cases t <;> first | (cases ht; done) | rfl) (Or.inr (Or.inr (Or.inr (Or.inr ⟨rfl, ht, hw⟩)))) hd hr) hq hc hs
theorem GoesW.retV (X : Stand p l e R s m args below meth c T locs cells slots) (hx : p.tables.exec = Jvm.exec) (hlk : meth.locks = false) {pc : Nat} {Ls : Array Slot} (hret : meth.sig.returnType = none) (hd : decode c.code pc = .ok (.return_, 1)) (hq : Q none T.heap locs) (hc : cells ≤ kc) (hs : slots ≤ ks) :
    GoesW p.tables e below s Q kc ks (T.setTop (mkF m pc Ls [])) :=
  GoesW.out X hlk (fun _ => rfl) (fun fs hr => X.returnOut hx hret hd hr) hq hc hs
end New
end Jvm.RoadKit
namespace Jvm.Pilot.@@N@@
open Jvm Jvm.ClassFile Sem Op Lib Jvm.Free Jvm.Stand Jvm.LawKit Jvm.RoadKit Bundle Jvm.Pilot.@@N@@.Jvm.D
theorem own_mod (x m : Int32) (hm : 0 < m.toInt) : 0 ≤ ((x &&& 2147483647) % m).toInt ∧ ((x &&& 2147483647) % m).toInt < m.toInt := by
  have h := c_mask x 2147483647 31 (by decide) (by decide)
  have h0 : 0 ≤ (x &&& 2147483647).toInt := by rw [h]; omega
  have q := (c_iremV (x &&& 2147483647) m).1 h0 hm
  exact ⟨q.1, q.2.1⟩
theorem own_i3 (z : Int32) (h : 0 ≤ z.toInt ∧ z.toInt < 3) : z = 0 ∨ z = 1 ∨ z = 2 := by
  have : z.toInt = 0 ∨ z.toInt = 1 ∨ z.toInt = 2 := by omega
  rcases this with q | q | q
  · exact Or.inl (Int32.toInt_inj.mp q)
  · exact Or.inr (Or.inl (Int32.toInt_inj.mp q))
  · exact Or.inr (Or.inr (Int32.toInt_inj.mp q))
def own_or (r a b : Addr) : Int32 := if r = a then 1 else if r = b then 1 else 0
theorem own_i6 (z : Int32) (h : 0 ≤ z.toInt ∧ z.toInt < 6) (h0 : ¬ z = 0) (h1 : ¬ z = 1) (h2 : ¬ z = 2) (h3 : ¬ z = 3) (h4 : ¬ z = 4) : z = 5 := by
  simp only [← Int32.toInt_inj] at h0 h1 h2 h3 h4 ⊢
  have e0 : (0 : Int32).toInt = 0 := rfl
  have e1 : (1 : Int32).toInt = 1 := rfl
  have e2 : (2 : Int32).toInt = 2 := rfl
  have e3 : (3 : Int32).toInt = 3 := rfl
  have e4 : (4 : Int32).toInt = 4 := rfl
  have e5 : (5 : Int32).toInt = 5 := rfl
  omega
theorem own_pn0 : plainName "com/example/lockpoint/lockpoint/Access$Kind" = true := by first | (simp [plainName, overriddenIn]; done) | decide +kernel
theorem d1_0 : decode prog_2_method_4_code 0 = .ok (.aload_n 0, 1) := by decide +kernel
theorem d1_1 : decode prog_2_method_4_code 1 = .ok (.getstatic 3, 3) := by decide +kernel
theorem d1_4 : decode prog_2_method_4_code 4 = .ok (.if_acmp .eq 10, 3) := by decide +kernel
theorem d1_7 : decode prog_2_method_4_code 7 = .ok (.aload_n 0, 1) := by decide +kernel
theorem d1_8 : decode prog_2_method_4_code 8 = .ok (.getstatic 13, 3) := by decide +kernel
theorem d1_11 : decode prog_2_method_4_code 11 = .ok (.if_acmp .ne 7, 3) := by decide +kernel
theorem d1_14 : decode prog_2_method_4_code 14 = .ok (.iconst 1, 1) := by decide +kernel
theorem d1_15 : decode prog_2_method_4_code 15 = .ok (.goto 4, 3) := by decide +kernel
theorem d1_18 : decode prog_2_method_4_code 18 = .ok (.iconst 0, 1) := by decide +kernel
theorem d1_19 : decode prog_2_method_4_code 19 = .ok (.ireturn, 1) := by decide +kernel
theorem ef_rm1 (m : MethodId) (x0 : Addr) : entryFrame m #[(.ref x0)] 1 = mkF m 0 #[.val (.ref x0)] [] := by first | (simp [entryFrame, mkF, argsToLocals, Value.category]; done) | rfl
def Q1 (Z : State) (r0 : Addr) (aR : Addr) (aS : Addr) (h0 : Heap) (n0 : Nat) (v : Option Value) (h : Heap) (L : List Loc) : Prop := v = some (.int (own_or r0 aR aS)) ∧ Fr n0 L ∧ h = h0
set_option maxRecDepth 65536 in
set_option maxHeartbeats 40000000 in
theorem rm1 (l : Launch) (Z : State) (a0 : Array Value) (hw : ∀ d ∈ tables_1, d.before a0 Z = true) (ws : List Jvm.Cond) (r0 : Addr) (aR : Addr) (aS : Addr) (h0 : Heap) (n0 : Nat) (Z0 : n0 ≤ h0.size) (S_READ : Sta Z h0 "com/example/lockpoint/lockpoint/Access$Kind" "READ" "Lcom/example/lockpoint/lockpoint/Access$Kind;" (.ref aR)) (S_SCAN : Sta Z h0 "com/example/lockpoint/lockpoint/Access$Kind" "SCAN" "Lcom/example/lockpoint/lockpoint/Access$Kind;" (.ref aS)) :
    MetFree l (⟨"com/example/lockpoint/lockpoint/Access$Kind", "onlyReads", "()Z"⟩ : MethodName) (head1 (Jvm.Cond.code (⟨"com/example/lockpoint/lockpoint/Access$Kind", "onlyReads", "()Z"⟩ : MethodName) prog_2_method_4_code 1 (some .boolean) :: ws) ({ frames := 0, cells := 0, slots := 0, locals := 0 } : Room)) (fun a U => a = #[(.ref r0)] ∧ Z.Warmed39 U.vm ∧ U.heap = h0) (fun _ _ _ _ _ => True) (fun _ U o U' => ∃ v L, o = .returned v ∧ Q1 Z r0 aR aS h0 n0 v U'.heap L ∧ FrameEnd U o U' L ({ frames := 0, cells := 0, slots := 0, locals := 0 } : Room).cells ({ frames := 0, cells := 0, slots := 0, locals := 0 } : Room).slots) := by
  refine MetFree.of_bodySF (plainFor_of_name own_pn0) hisR ?_
  intro p e s m args below meth c s₁ Bd hml0 hP hK
  obtain ⟨rfl, hZ, hh⟩ := hP
  have hx := Bd.exec
  have hby := Bd.bytes
  have hml : c.maxLocals = 1 := hml0
  have hown : s.vm.findClass "com/example/lockpoint/lockpoint/Access$Kind" = some m.cls := findClass_of_methodNamed Bd.named
  have hnm := (name_of_methodNamed Bd.named Bd.method).1
  have hlk : meth.locks = false := BodyLoose.notSynchronized Bd
  have X0 : Stand p l e ({ frames := 0, cells := 0, slots := 0, locals := 0 } : Room) s m #[(.ref r0)] below meth c s₁ [] 0 0 := Stand.of_body Bd
  have e0 : s₁.heap = h0 := by rw [← hh, Bd.state]; rfl
  have N0 := Fr.nil n0
  show GoesW p.tables e below s (Q1 Z r0 aR aS h0 n0) 0 0 (s₁.setTop (entryFrame m #[(.ref r0)] 1))
  rw [ef_rm1 m r0]
  show GoesW p.tables e below s (Q1 Z r0 aR aS h0 n0) 0 0 (s₁.setTop (mkF m 0 #[.val (.ref r0)] []))
  refine GoesW.step (fun _ k => XS.aloadN X0.here hx rfl (hb hby d1_0) rfl rfl k) ?_
  show GoesW p.tables e below s (Q1 Z r0 aR aS h0 n0) 0 0 (s₁.setTop (mkF m 1 #[.val (.ref r0)] [(.ref r0)]))
  obtain ⟨T1, X1, e1, st1⟩ := getS2 X0 hx hZ hown (host := "") (Or.inl (hw _ (List.mem_of_getElem? (i := 9) rfl))) Via.refl e0 S_READ (g := (mkF m 1 #[.val (.ref r0)] [(.ref r0)])) rfl (hb hby d1_1)
  refine GoesW.step st1 ?_
  show GoesW p.tables e below s (Q1 Z r0 aR aS h0 n0) 0 0 (T1.setTop (mkF m 4 #[.val (.ref r0)] [(.ref aR), (.ref r0)]))
  by_cases h4 : r0 = aR
  · skip
    refine GoesW.step (fun _ k => Jvm.RoadKit.acmp (g := (mkF m 4 #[.val (.ref r0)] [(.ref aR), (.ref r0)])) X1 hx rfl rfl rfl (pc0 := 4) (pc' := 14) (same := true) rfl (hb hby d1_4) rfl (decide_eq_true (congrArg Value.ref h4)) (by decide) (by decide) k) ?_
    show GoesW p.tables e below s (Q1 Z r0 aR aS h0 n0) 0 0 (T1.setTop (mkF m 14 #[.val (.ref r0)] []))
    refine GoesW.step (fun _ k => XS.iconst X1.here hx rfl (hb hby d1_14) k) ?_
    show GoesW p.tables e below s (Q1 Z r0 aR aS h0 n0) 0 0 (T1.setTop (mkF m 15 #[.val (.ref r0)] [(.int (1 : Int32))]))
    refine GoesW.step (fun _ k => XS.goto X1.here hx rfl (pc0 := 15) (pc' := 19) rfl (hb hby d1_15) (by decide) (by decide) k) ?_
    show GoesW p.tables e below s (Q1 Z r0 aR aS h0 n0) 0 0 (T1.setTop (mkF m 19 #[.val (.ref r0)] [(.int (1 : Int32))]))
    exact GoesW.retZ X1 hx hlk (t := .boolean) Bd.returns (by simp) rfl (hb hby d1_19) (by show Q1 Z r0 aR aS h0 n0 _ T1.heap _; rw [e1]; exact ⟨by rw [own_or, if_pos h4], N0, rfl⟩) (by decide) (by decide)
  · skip
    refine GoesW.step (fun _ k => Jvm.RoadKit.acmp (g := (mkF m 4 #[.val (.ref r0)] [(.ref aR), (.ref r0)])) X1 hx rfl rfl rfl (pc0 := 4) (pc' := 7) (same := false) rfl (hb hby d1_4) rfl (decide_eq_false fun q => h4 (Value.ref.inj q)) (by decide) (by decide) k) ?_
    show GoesW p.tables e below s (Q1 Z r0 aR aS h0 n0) 0 0 (T1.setTop (mkF m 7 #[.val (.ref r0)] []))
    refine GoesW.step (fun _ k => XS.aloadN X1.here hx rfl (hb hby d1_7) rfl rfl k) ?_
    show GoesW p.tables e below s (Q1 Z r0 aR aS h0 n0) 0 0 (T1.setTop (mkF m 8 #[.val (.ref r0)] [(.ref r0)]))
    obtain ⟨T2, X2, e2, st2⟩ := getS2 X1 hx hZ hown (host := "") (Or.inl (hw _ (List.mem_of_getElem? (i := 12) rfl))) Via.refl e1 S_SCAN (g := (mkF m 8 #[.val (.ref r0)] [(.ref r0)])) rfl (hb hby d1_8)
    refine GoesW.step st2 ?_
    show GoesW p.tables e below s (Q1 Z r0 aR aS h0 n0) 0 0 (T2.setTop (mkF m 11 #[.val (.ref r0)] [(.ref aS), (.ref r0)]))
    by_cases h11 : r0 = aS
    · skip
      refine GoesW.step (fun _ k => Jvm.RoadKit.acmp (g := (mkF m 11 #[.val (.ref r0)] [(.ref aS), (.ref r0)])) X2 hx rfl rfl rfl (pc0 := 11) (pc' := 14) (same := true) rfl (hb hby d1_11) rfl (decide_eq_true (congrArg Value.ref h11)) (by decide) (by decide) k) ?_
      show GoesW p.tables e below s (Q1 Z r0 aR aS h0 n0) 0 0 (T2.setTop (mkF m 14 #[.val (.ref r0)] []))
      refine GoesW.step (fun _ k => XS.iconst X2.here hx rfl (hb hby d1_14) k) ?_
      show GoesW p.tables e below s (Q1 Z r0 aR aS h0 n0) 0 0 (T2.setTop (mkF m 15 #[.val (.ref r0)] [(.int (1 : Int32))]))
      refine GoesW.step (fun _ k => XS.goto X2.here hx rfl (pc0 := 15) (pc' := 19) rfl (hb hby d1_15) (by decide) (by decide) k) ?_
      show GoesW p.tables e below s (Q1 Z r0 aR aS h0 n0) 0 0 (T2.setTop (mkF m 19 #[.val (.ref r0)] [(.int (1 : Int32))]))
      exact GoesW.retZ X2 hx hlk (t := .boolean) Bd.returns (by simp) rfl (hb hby d1_19) (by show Q1 Z r0 aR aS h0 n0 _ T2.heap _; rw [e2]; exact ⟨by rw [own_or, if_neg h4, if_pos h11], N0, rfl⟩) (by decide) (by decide)
    · skip
      refine GoesW.step (fun _ k => Jvm.RoadKit.acmp (g := (mkF m 11 #[.val (.ref r0)] [(.ref aS), (.ref r0)])) X2 hx rfl rfl rfl (pc0 := 11) (pc' := 18) (same := false) rfl (hb hby d1_11) rfl (decide_eq_false fun q => h11 (Value.ref.inj q)) (by decide) (by decide) k) ?_
      show GoesW p.tables e below s (Q1 Z r0 aR aS h0 n0) 0 0 (T2.setTop (mkF m 18 #[.val (.ref r0)] []))
      refine GoesW.step (fun _ k => XS.iconst X2.here hx rfl (hb hby d1_18) k) ?_
      show GoesW p.tables e below s (Q1 Z r0 aR aS h0 n0) 0 0 (T2.setTop (mkF m 19 #[.val (.ref r0)] [(.int (0 : Int32))]))
      exact GoesW.retZ X2 hx hlk (t := .boolean) Bd.returns (by simp) rfl (hb hby d1_19) (by show Q1 Z r0 aR aS h0 n0 _ T2.heap _; rw [e2]; exact ⟨by rw [own_or, if_neg h4, if_neg h11], N0, rfl⟩) (by decide) (by decide)
theorem own_pd0 : parseMethodDescriptor "()Z" = some ⟨[], some .boolean⟩ := by decide +kernel
theorem own_pn1 : plainName "com/example/lockpoint/lockpoint/KindOnlyReadsPinLaw" = true := by first | (simp [plainName, overriddenIn]; done) | decide +kernel
theorem ef_rm0 (m : MethodId) (x0 : Int32) : entryFrame m #[(.int x0)] maxLocals = mkF m 0 #[.val (.int x0), .unset, .unset, .unset] [] := by first | (simp [entryFrame, mkF, argsToLocals, Value.category, maxLocals]; done) | rfl
def Q0 (Z : State) (p0 : Int32) (x_READ : Addr) (x_READ_FOR_UPDATE : Addr) (x_CHANGE : Addr) (x_SCAN : Addr) (x_SCAN_FOR_UPDATE_SKIP_LOCKED : Addr) (x_LOCK_TABLE : Addr) (h0 : Heap) (n0 : Nat) (v : Option Value) (h : Heap) (L : List Loc) : Prop := v = some (.int (1 : Int32)) ∧ Fr n0 L
set_option maxRecDepth 65536 in
set_option maxHeartbeats 40000000 in
theorem rm0 (l : Launch) (Z : State) (a0 : Array Value) (hw : ∀ d ∈ tables_1, d.before a0 Z = true) (ws : List Jvm.Cond) (p0 : Int32) (x_READ : Addr) (x_READ_FOR_UPDATE : Addr) (x_CHANGE : Addr) (x_SCAN : Addr) (x_SCAN_FOR_UPDATE_SKIP_LOCKED : Addr) (x_LOCK_TABLE : Addr) (h0 : Heap) (n0 : Nat) (Z0 : n0 ≤ h0.size) (S_READ : Sta Z h0 "com/example/lockpoint/lockpoint/Access$Kind" "READ" "Lcom/example/lockpoint/lockpoint/Access$Kind;" (.ref x_READ)) (E_READ : Exa Z h0 x_READ "com/example/lockpoint/lockpoint/Access$Kind") (F_READ : Fld Z h0 x_READ "java/lang/Enum" "ordinal" "I" (.int (0 : Int32))) (S_READ_FOR_UPDATE : Sta Z h0 "com/example/lockpoint/lockpoint/Access$Kind" "READ_FOR_UPDATE" "Lcom/example/lockpoint/lockpoint/Access$Kind;" (.ref x_READ_FOR_UPDATE)) (E_READ_FOR_UPDATE : Exa Z h0 x_READ_FOR_UPDATE "com/example/lockpoint/lockpoint/Access$Kind") (F_READ_FOR_UPDATE : Fld Z h0 x_READ_FOR_UPDATE "java/lang/Enum" "ordinal" "I" (.int (1 : Int32))) (S_CHANGE : Sta Z h0 "com/example/lockpoint/lockpoint/Access$Kind" "CHANGE" "Lcom/example/lockpoint/lockpoint/Access$Kind;" (.ref x_CHANGE)) (E_CHANGE : Exa Z h0 x_CHANGE "com/example/lockpoint/lockpoint/Access$Kind") (F_CHANGE : Fld Z h0 x_CHANGE "java/lang/Enum" "ordinal" "I" (.int (2 : Int32))) (S_SCAN : Sta Z h0 "com/example/lockpoint/lockpoint/Access$Kind" "SCAN" "Lcom/example/lockpoint/lockpoint/Access$Kind;" (.ref x_SCAN)) (E_SCAN : Exa Z h0 x_SCAN "com/example/lockpoint/lockpoint/Access$Kind") (F_SCAN : Fld Z h0 x_SCAN "java/lang/Enum" "ordinal" "I" (.int (3 : Int32))) (S_SCAN_FOR_UPDATE_SKIP_LOCKED : Sta Z h0 "com/example/lockpoint/lockpoint/Access$Kind" "SCAN_FOR_UPDATE_SKIP_LOCKED" "Lcom/example/lockpoint/lockpoint/Access$Kind;" (.ref x_SCAN_FOR_UPDATE_SKIP_LOCKED)) (E_SCAN_FOR_UPDATE_SKIP_LOCKED : Exa Z h0 x_SCAN_FOR_UPDATE_SKIP_LOCKED "com/example/lockpoint/lockpoint/Access$Kind") (F_SCAN_FOR_UPDATE_SKIP_LOCKED : Fld Z h0 x_SCAN_FOR_UPDATE_SKIP_LOCKED "java/lang/Enum" "ordinal" "I" (.int (4 : Int32))) (S_LOCK_TABLE : Sta Z h0 "com/example/lockpoint/lockpoint/Access$Kind" "LOCK_TABLE" "Lcom/example/lockpoint/lockpoint/Access$Kind;" (.ref x_LOCK_TABLE)) (E_LOCK_TABLE : Exa Z h0 x_LOCK_TABLE "com/example/lockpoint/lockpoint/Access$Kind") (F_LOCK_TABLE : Fld Z h0 x_LOCK_TABLE "java/lang/Enum" "ordinal" "I" (.int (5 : Int32))) :
    MetFree l x (head1 (Jvm.Cond.code x code maxLocals ret :: ws) room_1) (fun a U => a = #[(.int p0)] ∧ Z.Warmed39 U.vm ∧ U.heap = h0) (fun _ _ _ _ _ => True) (fun _ U o U' => ∃ v L, o = .returned v ∧ Q0 Z p0 x_READ x_READ_FOR_UPDATE x_CHANGE x_SCAN x_SCAN_FOR_UPDATE_SKIP_LOCKED x_LOCK_TABLE h0 n0 v U'.heap L ∧ FrameEnd U o U' L room_1.cells room_1.slots) := by
  refine MetFree.of_bodySF (plainFor_of_name own_pn1) hisR ?_
  intro p e s m args below meth c s₁ Bd hml0 hP hK
  obtain ⟨rfl, hZ, hh⟩ := hP
  have hx := Bd.exec
  have hby := Bd.bytes
  have hml : c.maxLocals = 4 := hml0
  have hown : s.vm.findClass "com/example/lockpoint/lockpoint/KindOnlyReadsPinLaw" = some m.cls := findClass_of_methodNamed Bd.named
  have hnm := (name_of_methodNamed Bd.named Bd.method).1
  have hlk : meth.locks = false := BodyLoose.notSynchronized Bd
  have X0 : Stand p l e room_1 s m #[(.int p0)] below meth c s₁ [] 0 0 := Stand.of_body Bd
  have e0 : s₁.heap = h0 := by rw [← hh, Bd.state]; rfl
  have N0 := Fr.nil n0
  show GoesW p.tables e below s (Q0 Z p0 x_READ x_READ_FOR_UPDATE x_CHANGE x_SCAN x_SCAN_FOR_UPDATE_SKIP_LOCKED x_LOCK_TABLE h0 n0) room_1.cells room_1.slots (s₁.setTop (entryFrame m #[(.int p0)] maxLocals))
  rw [ef_rm0 m p0]
  show GoesW p.tables e below s (Q0 Z p0 x_READ x_READ_FOR_UPDATE x_CHANGE x_SCAN x_SCAN_FOR_UPDATE_SKIP_LOCKED x_LOCK_TABLE h0 n0) room_1.cells room_1.slots (s₁.setTop (mkF m 0 #[.val (.int p0), .unset, .unset, .unset] []))
  refine GoesW.step (fun _ k => XS.iloadN X0.here hx rfl (hb hby at_0) rfl k) ?_
  show GoesW p.tables e below s (Q0 Z p0 x_READ x_READ_FOR_UPDATE x_CHANGE x_SCAN x_SCAN_FOR_UPDATE_SKIP_LOCKED x_LOCK_TABLE h0 n0) room_1.cells room_1.slots (s₁.setTop (mkF m 1 #[.val (.int p0), .unset, .unset, .unset] [(.int p0)]))
  refine GoesW.step (fun _ k => X0.ldcInt hx hown (mvT hZ (hw _ (List.mem_of_getElem? (i := 0) rfl))) (g := (mkF m 1 #[.val (.int p0), .unset, .unset, .unset] [(.int p0)])) rfl (hb hby at_1) _ k) ?_
  show GoesW p.tables e below s (Q0 Z p0 x_READ x_READ_FOR_UPDATE x_CHANGE x_SCAN x_SCAN_FOR_UPDATE_SKIP_LOCKED x_LOCK_TABLE h0 n0) room_1.cells room_1.slots (s₁.setTop (mkF m 3 #[.val (.int p0), .unset, .unset, .unset] [(.int (2147483647 : Int32)), (.int p0)]))
  refine GoesW.step (fun _ k => XS.iand X0.here hx rfl (hb hby at_3) rfl k) ?_
  show GoesW p.tables e below s (Q0 Z p0 x_READ x_READ_FOR_UPDATE x_CHANGE x_SCAN x_SCAN_FOR_UPDATE_SKIP_LOCKED x_LOCK_TABLE h0 n0) room_1.cells room_1.slots (s₁.setTop (mkF m 4 #[.val (.int p0), .unset, .unset, .unset] [(.int (p0 &&& (2147483647 : Int32)))]))
  refine GoesW.step (fun _ k => XS.bipush X0.here hx rfl (hb hby at_4) k) ?_
  show GoesW p.tables e below s (Q0 Z p0 x_READ x_READ_FOR_UPDATE x_CHANGE x_SCAN x_SCAN_FOR_UPDATE_SKIP_LOCKED x_LOCK_TABLE h0 n0) room_1.cells room_1.slots (s₁.setTop (mkF m 6 #[.val (.int p0), .unset, .unset, .unset] [(.int (6 : Int32)), (.int (p0 &&& (2147483647 : Int32)))]))
  refine GoesW.step (fun _ k => iremM X0 hx rfl (hb hby at_6) rfl (by decide) k) ?_
  show GoesW p.tables e below s (Q0 Z p0 x_READ x_READ_FOR_UPDATE x_CHANGE x_SCAN x_SCAN_FOR_UPDATE_SKIP_LOCKED x_LOCK_TABLE h0 n0) room_1.cells room_1.slots (s₁.setTop (mkF m 7 #[.val (.int p0), .unset, .unset, .unset] [(.int ((p0 &&& (2147483647 : Int32)) % (6 : Int32)))]))
  generalize hii : ((p0 &&& (2147483647 : Int32)) % (6 : Int32)) = ii
  show GoesW p.tables e below s (Q0 Z p0 x_READ x_READ_FOR_UPDATE x_CHANGE x_SCAN x_SCAN_FOR_UPDATE_SKIP_LOCKED x_LOCK_TABLE h0 n0) room_1.cells room_1.slots (s₁.setTop (mkF m 7 #[.val (.int p0), .unset, .unset, .unset] [(.int ii)]))
  have hib : 0 ≤ ii.toInt ∧ ii.toInt < 6 := by rw [← hii]; exact own_mod p0 6 (by decide)
  refine GoesW.step (fun _ k => XS.istoreN X0.here hx rfl (hb hby at_7) rfl (l' := #[.val (.int p0), .val (.int ii), .unset, .unset]) rfl k) ?_
  show GoesW p.tables e below s (Q0 Z p0 x_READ x_READ_FOR_UPDATE x_CHANGE x_SCAN x_SCAN_FOR_UPDATE_SKIP_LOCKED x_LOCK_TABLE h0 n0) room_1.cells room_1.slots (s₁.setTop (mkF m 8 #[.val (.int p0), .val (.int ii), .unset, .unset] []))
  have J83 : ∀ (TJ1 : State) (LJ1 : List Loc) (ak : Addr) (ex : Int32), Stand p l e room_1 s m #[(.int p0)] below meth c TJ1 LJ1 0 0 → TJ1.heap = h0 → Fr n0 LJ1 → (Exa Z h0 ak "com/example/lockpoint/lockpoint/Access$Kind") → (own_or ak x_READ x_SCAN = ex) → GoesW p.tables e below s (Q0 Z p0 x_READ x_READ_FOR_UPDATE x_CHANGE x_SCAN x_SCAN_FOR_UPDATE_SKIP_LOCKED x_LOCK_TABLE h0 n0) room_1.cells room_1.slots (TJ1.setTop (mkF m 83 #[.val (.int p0), .val (.int ii), .val (.ref ak), .val (.int ex)] [])) := by
    intro TJ1 LJ1 ak ex XJ1 eJ1 NJ1 EJ hJ
    show GoesW p.tables e below s (Q0 Z p0 x_READ x_READ_FOR_UPDATE x_CHANGE x_SCAN x_SCAN_FOR_UPDATE_SKIP_LOCKED x_LOCK_TABLE h0 n0) room_1.cells room_1.slots (TJ1.setTop (mkF m 83 #[.val (.int p0), .val (.int ii), .val (.ref ak), .val (.int ex)] []))
    refine GoesW.step (fun _ k => XS.aloadN XJ1.here hx rfl (hb hby at_83) rfl rfl k) ?_
    show GoesW p.tables e below s (Q0 Z p0 x_READ x_READ_FOR_UPDATE x_CHANGE x_SCAN x_SCAN_FOR_UPDATE_SKIP_LOCKED x_LOCK_TABLE h0 n0) room_1.cells room_1.slots (TJ1.setTop (mkF m 84 #[.val (.int p0), .val (.int ii), .val (.ref ak), .val (.int ex)] [(.ref ak)]))
    obtain ⟨cq2, kq2, q2a, q2b, q2c⟩ := isOf hZ eJ1 EJ
    obtain ⟨_, _, ⟨T2, L2, k2, n2⟩, -, X2, ⟨Lc2, hQ2, l2, y2, z2⟩, st2⟩ := XJ1.virtualBack hx (y := (⟨"com/example/lockpoint/lockpoint/Access$Kind", "onlyReads", "()Z"⟩ : MethodName)) (z := (⟨"com/example/lockpoint/lockpoint/Access$Kind", "onlyReads", "()Z"⟩ : MethodName)) hown (mvT hZ (hw _ (List.mem_of_getElem? (i := 4) rfl))) (mvT hZ (hw _ (List.mem_of_getElem? (i := 5) rfl))) (notFace_of_selects (args := #[]) (mvT hZ (hw _ (List.mem_of_getElem? (i := 7) rfl)))) (mvT hZ (hw _ (List.mem_of_getElem? (i := 7) rfl))) (mvT hZ (hw _ (List.mem_of_getElem? (i := 6) rfl))) (by decide) (backOf (W := 0) (rm1 l Z a0 hw [] ak x_READ x_SCAN h0 n0 Z0 S_READ S_SCAN) hZ (hw _ (List.mem_of_getElem? (i := 8) rfl)) (hw _ (List.mem_of_getElem? (i := 2) rfl)) (by decide) (by decide)) q2a q2c (g := (mkF m 84 #[.val (.int p0), .val (.int ii), .val (.ref ak), .val (.int ex)] [(.ref ak)])) rfl (by rw [hml]; rfl) (Steps.refl _) (argsL := []) (rest := []) (lenOf own_pd0 rfl) rfl (by show 2 * 0 + _ ≤ _; exact Nat.le_of_eq rfl) (hb hby at_84) (fun _ _ => ⟨rfl, eJ1, (by decide : 0 + 0 ≤ _), (by decide : 0 + 0 ≤ _)⟩)
    dsimp only [Pt.U, Pt.locs, Pt.cells, Pt.slots] at X2 l2 y2 z2 st2 hQ2
    subst l2 y2 z2
    obtain ⟨rfl, N2q, eq2⟩ := hQ2
    have N2 := Fr.app NJ1 N2q
    refine GoesW.step (fun _ k => st2.trans k) ?_
    show GoesW p.tables e below s (Q0 Z p0 x_READ x_READ_FOR_UPDATE x_CHANGE x_SCAN x_SCAN_FOR_UPDATE_SKIP_LOCKED x_LOCK_TABLE h0 n0) room_1.cells room_1.slots (T2.setTop (mkF m 87 #[.val (.int p0), .val (.int ii), .val (.ref ak), .val (.int ex)] [(.int (own_or ak x_READ x_SCAN))]))
    refine GoesW.step (fun _ k => XS.iloadN X2.here hx rfl (hb hby at_87) rfl k) ?_
    show GoesW p.tables e below s (Q0 Z p0 x_READ x_READ_FOR_UPDATE x_CHANGE x_SCAN x_SCAN_FOR_UPDATE_SKIP_LOCKED x_LOCK_TABLE h0 n0) room_1.cells room_1.slots (T2.setTop (mkF m 88 #[.val (.int p0), .val (.int ii), .val (.ref ak), .val (.int ex)] [(.int ex), (.int (own_or ak x_READ x_SCAN))]))
    refine GoesW.step (fun _ k => XS.icmpNo X2.here hx rfl (hb hby at_88) rfl (teq hJ).2 k) ?_
    show GoesW p.tables e below s (Q0 Z p0 x_READ x_READ_FOR_UPDATE x_CHANGE x_SCAN x_SCAN_FOR_UPDATE_SKIP_LOCKED x_LOCK_TABLE h0 n0) room_1.cells room_1.slots (T2.setTop (mkF m 91 #[.val (.int p0), .val (.int ii), .val (.ref ak), .val (.int ex)] []))
    refine GoesW.step (fun _ k => XS.iconst X2.here hx rfl (hb hby at_91) k) ?_
    show GoesW p.tables e below s (Q0 Z p0 x_READ x_READ_FOR_UPDATE x_CHANGE x_SCAN x_SCAN_FOR_UPDATE_SKIP_LOCKED x_LOCK_TABLE h0 n0) room_1.cells room_1.slots (T2.setTop (mkF m 92 #[.val (.int p0), .val (.int ii), .val (.ref ak), .val (.int ex)] [(.int (1 : Int32))]))
    refine GoesW.step (fun _ k => XS.goto X2.here hx rfl (pc0 := 92) (pc' := 96) rfl (hb hby at_92) (by decide) (by decide) k) ?_
    show GoesW p.tables e below s (Q0 Z p0 x_READ x_READ_FOR_UPDATE x_CHANGE x_SCAN x_SCAN_FOR_UPDATE_SKIP_LOCKED x_LOCK_TABLE h0 n0) room_1.cells room_1.slots (T2.setTop (mkF m 96 #[.val (.int p0), .val (.int ii), .val (.ref ak), .val (.int ex)] [(.int (1 : Int32))]))
    exact GoesW.retZ X2 hx hlk (t := .boolean) Bd.returns (by simp) rfl (hb hby at_96) (by show Q0 Z p0 x_READ x_READ_FOR_UPDATE x_CHANGE x_SCAN x_SCAN_FOR_UPDATE_SKIP_LOCKED x_LOCK_TABLE h0 n0 _ T2.heap _; rw [eq2]; exact ⟨rfl, N2⟩) (by decide) (by decide)
  refine GoesW.step (fun _ k => XS.iloadN X0.here hx rfl (hb hby at_8) rfl k) ?_
  show GoesW p.tables e below s (Q0 Z p0 x_READ x_READ_FOR_UPDATE x_CHANGE x_SCAN x_SCAN_FOR_UPDATE_SKIP_LOCKED x_LOCK_TABLE h0 n0) room_1.cells room_1.slots (s₁.setTop (mkF m 9 #[.val (.int p0), .val (.int ii), .unset, .unset] [(.int ii)]))
  by_cases hk0 : ii = (0 : Int32)
  · skip
    refine GoesW.step (fun _ k => XS.ifNo X0.here hx rfl (hb hby at_9) rfl ((if0 _ _).trans (teq hk0).2) k) ?_
    show GoesW p.tables e below s (Q0 Z p0 x_READ x_READ_FOR_UPDATE x_CHANGE x_SCAN x_SCAN_FOR_UPDATE_SKIP_LOCKED x_LOCK_TABLE h0 n0) room_1.cells room_1.slots (s₁.setTop (mkF m 12 #[.val (.int p0), .val (.int ii), .unset, .unset] []))
    obtain ⟨T3, X3, e3, st3⟩ := getS2 X0 hx hZ hown (host := "") (Or.inl (hw _ (List.mem_of_getElem? (i := 1) rfl))) Via.refl e0 S_READ (g := (mkF m 12 #[.val (.int p0), .val (.int ii), .unset, .unset] [])) rfl (hb hby at_12)
    refine GoesW.step st3 ?_
    show GoesW p.tables e below s (Q0 Z p0 x_READ x_READ_FOR_UPDATE x_CHANGE x_SCAN x_SCAN_FOR_UPDATE_SKIP_LOCKED x_LOCK_TABLE h0 n0) room_1.cells room_1.slots (T3.setTop (mkF m 15 #[.val (.int p0), .val (.int ii), .unset, .unset] [(.ref x_READ)]))
    refine GoesW.step (fun _ k => XS.astoreN X3.here hx rfl (hb hby at_15) rfl rfl (l' := #[.val (.int p0), .val (.int ii), .val (.ref x_READ), .unset]) rfl k) ?_
    show GoesW p.tables e below s (Q0 Z p0 x_READ x_READ_FOR_UPDATE x_CHANGE x_SCAN x_SCAN_FOR_UPDATE_SKIP_LOCKED x_LOCK_TABLE h0 n0) room_1.cells room_1.slots (T3.setTop (mkF m 16 #[.val (.int p0), .val (.int ii), .val (.ref x_READ), .unset] []))
    refine GoesW.step (fun _ k => XS.iconst X3.here hx rfl (hb hby at_16) k) ?_
    show GoesW p.tables e below s (Q0 Z p0 x_READ x_READ_FOR_UPDATE x_CHANGE x_SCAN x_SCAN_FOR_UPDATE_SKIP_LOCKED x_LOCK_TABLE h0 n0) room_1.cells room_1.slots (T3.setTop (mkF m 17 #[.val (.int p0), .val (.int ii), .val (.ref x_READ), .unset] [(.int (1 : Int32))]))
    refine GoesW.step (fun _ k => XS.istoreN X3.here hx rfl (hb hby at_17) rfl (l' := #[.val (.int p0), .val (.int ii), .val (.ref x_READ), .val (.int (1 : Int32))]) rfl k) ?_
    show GoesW p.tables e below s (Q0 Z p0 x_READ x_READ_FOR_UPDATE x_CHANGE x_SCAN x_SCAN_FOR_UPDATE_SKIP_LOCKED x_LOCK_TABLE h0 n0) room_1.cells room_1.slots (T3.setTop (mkF m 18 #[.val (.int p0), .val (.int ii), .val (.ref x_READ), .val (.int (1 : Int32))] []))
    refine GoesW.step (fun _ k => XS.goto X3.here hx rfl (pc0 := 18) (pc' := 83) rfl (hb hby at_18) (by decide) (by decide) k) ?_
    show GoesW p.tables e below s (Q0 Z p0 x_READ x_READ_FOR_UPDATE x_CHANGE x_SCAN x_SCAN_FOR_UPDATE_SKIP_LOCKED x_LOCK_TABLE h0 n0) room_1.cells room_1.slots (T3.setTop (mkF m 83 #[.val (.int p0), .val (.int ii), .val (.ref x_READ), .val (.int (1 : Int32))] []))
    exact J83 _ _ x_READ _ X3 e3 N0 E_READ (by rw [own_or, if_pos rfl])
  · skip
    refine GoesW.step (fun _ k => XS.ifYes X0.here hx rfl (pc0 := 9) (pc' := 21) rfl (hb hby at_9) rfl ((if0 _ _).trans (feq hk0).2) (by decide) (by decide) k) ?_
    show GoesW p.tables e below s (Q0 Z p0 x_READ x_READ_FOR_UPDATE x_CHANGE x_SCAN x_SCAN_FOR_UPDATE_SKIP_LOCKED x_LOCK_TABLE h0 n0) room_1.cells room_1.slots (s₁.setTop (mkF m 21 #[.val (.int p0), .val (.int ii), .unset, .unset] []))
    refine GoesW.step (fun _ k => XS.iloadN X0.here hx rfl (hb hby at_21) rfl k) ?_
    show GoesW p.tables e below s (Q0 Z p0 x_READ x_READ_FOR_UPDATE x_CHANGE x_SCAN x_SCAN_FOR_UPDATE_SKIP_LOCKED x_LOCK_TABLE h0 n0) room_1.cells room_1.slots (s₁.setTop (mkF m 22 #[.val (.int p0), .val (.int ii), .unset, .unset] [(.int ii)]))
    refine GoesW.step (fun _ k => XS.iconst X0.here hx rfl (hb hby at_22) k) ?_
    show GoesW p.tables e below s (Q0 Z p0 x_READ x_READ_FOR_UPDATE x_CHANGE x_SCAN x_SCAN_FOR_UPDATE_SKIP_LOCKED x_LOCK_TABLE h0 n0) room_1.cells room_1.slots (s₁.setTop (mkF m 23 #[.val (.int p0), .val (.int ii), .unset, .unset] [(.int (1 : Int32)), (.int ii)]))
    by_cases hk1 : ii = (1 : Int32)
    · skip
      refine GoesW.step (fun _ k => XS.icmpNo X0.here hx rfl (hb hby at_23) rfl (teq hk1).2 k) ?_
      show GoesW p.tables e below s (Q0 Z p0 x_READ x_READ_FOR_UPDATE x_CHANGE x_SCAN x_SCAN_FOR_UPDATE_SKIP_LOCKED x_LOCK_TABLE h0 n0) room_1.cells room_1.slots (s₁.setTop (mkF m 26 #[.val (.int p0), .val (.int ii), .unset, .unset] []))
      obtain ⟨T4, X4, e4, st4⟩ := getS2 X0 hx hZ hown (host := "") (Or.inl (hw _ (List.mem_of_getElem? (i := 15) rfl))) Via.refl e0 S_READ_FOR_UPDATE (g := (mkF m 26 #[.val (.int p0), .val (.int ii), .unset, .unset] [])) rfl (hb hby at_26)
      refine GoesW.step st4 ?_
      show GoesW p.tables e below s (Q0 Z p0 x_READ x_READ_FOR_UPDATE x_CHANGE x_SCAN x_SCAN_FOR_UPDATE_SKIP_LOCKED x_LOCK_TABLE h0 n0) room_1.cells room_1.slots (T4.setTop (mkF m 29 #[.val (.int p0), .val (.int ii), .unset, .unset] [(.ref x_READ_FOR_UPDATE)]))
      refine GoesW.step (fun _ k => XS.astoreN X4.here hx rfl (hb hby at_29) rfl rfl (l' := #[.val (.int p0), .val (.int ii), .val (.ref x_READ_FOR_UPDATE), .unset]) rfl k) ?_
      show GoesW p.tables e below s (Q0 Z p0 x_READ x_READ_FOR_UPDATE x_CHANGE x_SCAN x_SCAN_FOR_UPDATE_SKIP_LOCKED x_LOCK_TABLE h0 n0) room_1.cells room_1.slots (T4.setTop (mkF m 30 #[.val (.int p0), .val (.int ii), .val (.ref x_READ_FOR_UPDATE), .unset] []))
      refine GoesW.step (fun _ k => XS.iconst X4.here hx rfl (hb hby at_30) k) ?_
      show GoesW p.tables e below s (Q0 Z p0 x_READ x_READ_FOR_UPDATE x_CHANGE x_SCAN x_SCAN_FOR_UPDATE_SKIP_LOCKED x_LOCK_TABLE h0 n0) room_1.cells room_1.slots (T4.setTop (mkF m 31 #[.val (.int p0), .val (.int ii), .val (.ref x_READ_FOR_UPDATE), .unset] [(.int (0 : Int32))]))
      refine GoesW.step (fun _ k => XS.istoreN X4.here hx rfl (hb hby at_31) rfl (l' := #[.val (.int p0), .val (.int ii), .val (.ref x_READ_FOR_UPDATE), .val (.int (0 : Int32))]) rfl k) ?_
      show GoesW p.tables e below s (Q0 Z p0 x_READ x_READ_FOR_UPDATE x_CHANGE x_SCAN x_SCAN_FOR_UPDATE_SKIP_LOCKED x_LOCK_TABLE h0 n0) room_1.cells room_1.slots (T4.setTop (mkF m 32 #[.val (.int p0), .val (.int ii), .val (.ref x_READ_FOR_UPDATE), .val (.int (0 : Int32))] []))
      refine GoesW.step (fun _ k => XS.goto X4.here hx rfl (pc0 := 32) (pc' := 83) rfl (hb hby at_32) (by decide) (by decide) k) ?_
      show GoesW p.tables e below s (Q0 Z p0 x_READ x_READ_FOR_UPDATE x_CHANGE x_SCAN x_SCAN_FOR_UPDATE_SKIP_LOCKED x_LOCK_TABLE h0 n0) room_1.cells room_1.slots (T4.setTop (mkF m 83 #[.val (.int p0), .val (.int ii), .val (.ref x_READ_FOR_UPDATE), .val (.int (0 : Int32))] []))
      exact J83 _ _ x_READ_FOR_UPDATE _ X4 e4 N0 E_READ_FOR_UPDATE (by rw [own_or, if_neg (Fld.ne F_READ_FOR_UPDATE F_READ (by decide)), if_neg (Fld.ne F_READ_FOR_UPDATE F_SCAN (by decide))])
    · skip
      refine GoesW.step (fun _ k => XS.icmpYes X0.here hx rfl (pc0 := 23) (pc' := 35) rfl (hb hby at_23) rfl (feq hk1).2 (by decide) (by decide) k) ?_
      show GoesW p.tables e below s (Q0 Z p0 x_READ x_READ_FOR_UPDATE x_CHANGE x_SCAN x_SCAN_FOR_UPDATE_SKIP_LOCKED x_LOCK_TABLE h0 n0) room_1.cells room_1.slots (s₁.setTop (mkF m 35 #[.val (.int p0), .val (.int ii), .unset, .unset] []))
      refine GoesW.step (fun _ k => XS.iloadN X0.here hx rfl (hb hby at_35) rfl k) ?_
      show GoesW p.tables e below s (Q0 Z p0 x_READ x_READ_FOR_UPDATE x_CHANGE x_SCAN x_SCAN_FOR_UPDATE_SKIP_LOCKED x_LOCK_TABLE h0 n0) room_1.cells room_1.slots (s₁.setTop (mkF m 36 #[.val (.int p0), .val (.int ii), .unset, .unset] [(.int ii)]))
      refine GoesW.step (fun _ k => XS.iconst X0.here hx rfl (hb hby at_36) k) ?_
      show GoesW p.tables e below s (Q0 Z p0 x_READ x_READ_FOR_UPDATE x_CHANGE x_SCAN x_SCAN_FOR_UPDATE_SKIP_LOCKED x_LOCK_TABLE h0 n0) room_1.cells room_1.slots (s₁.setTop (mkF m 37 #[.val (.int p0), .val (.int ii), .unset, .unset] [(.int (2 : Int32)), (.int ii)]))
      by_cases hk2 : ii = (2 : Int32)
      · skip
        refine GoesW.step (fun _ k => XS.icmpNo X0.here hx rfl (hb hby at_37) rfl (teq hk2).2 k) ?_
        show GoesW p.tables e below s (Q0 Z p0 x_READ x_READ_FOR_UPDATE x_CHANGE x_SCAN x_SCAN_FOR_UPDATE_SKIP_LOCKED x_LOCK_TABLE h0 n0) room_1.cells room_1.slots (s₁.setTop (mkF m 40 #[.val (.int p0), .val (.int ii), .unset, .unset] []))
        obtain ⟨T5, X5, e5, st5⟩ := getS2 X0 hx hZ hown (host := "") (Or.inl (hw _ (List.mem_of_getElem? (i := 13) rfl))) Via.refl e0 S_CHANGE (g := (mkF m 40 #[.val (.int p0), .val (.int ii), .unset, .unset] [])) rfl (hb hby at_40)
        refine GoesW.step st5 ?_
        show GoesW p.tables e below s (Q0 Z p0 x_READ x_READ_FOR_UPDATE x_CHANGE x_SCAN x_SCAN_FOR_UPDATE_SKIP_LOCKED x_LOCK_TABLE h0 n0) room_1.cells room_1.slots (T5.setTop (mkF m 43 #[.val (.int p0), .val (.int ii), .unset, .unset] [(.ref x_CHANGE)]))
        refine GoesW.step (fun _ k => XS.astoreN X5.here hx rfl (hb hby at_43) rfl rfl (l' := #[.val (.int p0), .val (.int ii), .val (.ref x_CHANGE), .unset]) rfl k) ?_
        show GoesW p.tables e below s (Q0 Z p0 x_READ x_READ_FOR_UPDATE x_CHANGE x_SCAN x_SCAN_FOR_UPDATE_SKIP_LOCKED x_LOCK_TABLE h0 n0) room_1.cells room_1.slots (T5.setTop (mkF m 44 #[.val (.int p0), .val (.int ii), .val (.ref x_CHANGE), .unset] []))
        refine GoesW.step (fun _ k => XS.iconst X5.here hx rfl (hb hby at_44) k) ?_
        show GoesW p.tables e below s (Q0 Z p0 x_READ x_READ_FOR_UPDATE x_CHANGE x_SCAN x_SCAN_FOR_UPDATE_SKIP_LOCKED x_LOCK_TABLE h0 n0) room_1.cells room_1.slots (T5.setTop (mkF m 45 #[.val (.int p0), .val (.int ii), .val (.ref x_CHANGE), .unset] [(.int (0 : Int32))]))
        refine GoesW.step (fun _ k => XS.istoreN X5.here hx rfl (hb hby at_45) rfl (l' := #[.val (.int p0), .val (.int ii), .val (.ref x_CHANGE), .val (.int (0 : Int32))]) rfl k) ?_
        show GoesW p.tables e below s (Q0 Z p0 x_READ x_READ_FOR_UPDATE x_CHANGE x_SCAN x_SCAN_FOR_UPDATE_SKIP_LOCKED x_LOCK_TABLE h0 n0) room_1.cells room_1.slots (T5.setTop (mkF m 46 #[.val (.int p0), .val (.int ii), .val (.ref x_CHANGE), .val (.int (0 : Int32))] []))
        refine GoesW.step (fun _ k => XS.goto X5.here hx rfl (pc0 := 46) (pc' := 83) rfl (hb hby at_46) (by decide) (by decide) k) ?_
        show GoesW p.tables e below s (Q0 Z p0 x_READ x_READ_FOR_UPDATE x_CHANGE x_SCAN x_SCAN_FOR_UPDATE_SKIP_LOCKED x_LOCK_TABLE h0 n0) room_1.cells room_1.slots (T5.setTop (mkF m 83 #[.val (.int p0), .val (.int ii), .val (.ref x_CHANGE), .val (.int (0 : Int32))] []))
        exact J83 _ _ x_CHANGE _ X5 e5 N0 E_CHANGE (by rw [own_or, if_neg (Fld.ne F_CHANGE F_READ (by decide)), if_neg (Fld.ne F_CHANGE F_SCAN (by decide))])
      · skip
        refine GoesW.step (fun _ k => XS.icmpYes X0.here hx rfl (pc0 := 37) (pc' := 49) rfl (hb hby at_37) rfl (feq hk2).2 (by decide) (by decide) k) ?_
        show GoesW p.tables e below s (Q0 Z p0 x_READ x_READ_FOR_UPDATE x_CHANGE x_SCAN x_SCAN_FOR_UPDATE_SKIP_LOCKED x_LOCK_TABLE h0 n0) room_1.cells room_1.slots (s₁.setTop (mkF m 49 #[.val (.int p0), .val (.int ii), .unset, .unset] []))
        refine GoesW.step (fun _ k => XS.iloadN X0.here hx rfl (hb hby at_49) rfl k) ?_
        show GoesW p.tables e below s (Q0 Z p0 x_READ x_READ_FOR_UPDATE x_CHANGE x_SCAN x_SCAN_FOR_UPDATE_SKIP_LOCKED x_LOCK_TABLE h0 n0) room_1.cells room_1.slots (s₁.setTop (mkF m 50 #[.val (.int p0), .val (.int ii), .unset, .unset] [(.int ii)]))
        refine GoesW.step (fun _ k => XS.iconst X0.here hx rfl (hb hby at_50) k) ?_
        show GoesW p.tables e below s (Q0 Z p0 x_READ x_READ_FOR_UPDATE x_CHANGE x_SCAN x_SCAN_FOR_UPDATE_SKIP_LOCKED x_LOCK_TABLE h0 n0) room_1.cells room_1.slots (s₁.setTop (mkF m 51 #[.val (.int p0), .val (.int ii), .unset, .unset] [(.int (3 : Int32)), (.int ii)]))
        by_cases hk3 : ii = (3 : Int32)
        · skip
          refine GoesW.step (fun _ k => XS.icmpNo X0.here hx rfl (hb hby at_51) rfl (teq hk3).2 k) ?_
          show GoesW p.tables e below s (Q0 Z p0 x_READ x_READ_FOR_UPDATE x_CHANGE x_SCAN x_SCAN_FOR_UPDATE_SKIP_LOCKED x_LOCK_TABLE h0 n0) room_1.cells room_1.slots (s₁.setTop (mkF m 54 #[.val (.int p0), .val (.int ii), .unset, .unset] []))
          obtain ⟨T6, X6, e6, st6⟩ := getS2 X0 hx hZ hown (host := "") (Or.inl (hw _ (List.mem_of_getElem? (i := 10) rfl))) Via.refl e0 S_SCAN (g := (mkF m 54 #[.val (.int p0), .val (.int ii), .unset, .unset] [])) rfl (hb hby at_54)
          refine GoesW.step st6 ?_
          show GoesW p.tables e below s (Q0 Z p0 x_READ x_READ_FOR_UPDATE x_CHANGE x_SCAN x_SCAN_FOR_UPDATE_SKIP_LOCKED x_LOCK_TABLE h0 n0) room_1.cells room_1.slots (T6.setTop (mkF m 57 #[.val (.int p0), .val (.int ii), .unset, .unset] [(.ref x_SCAN)]))
          refine GoesW.step (fun _ k => XS.astoreN X6.here hx rfl (hb hby at_57) rfl rfl (l' := #[.val (.int p0), .val (.int ii), .val (.ref x_SCAN), .unset]) rfl k) ?_
          show GoesW p.tables e below s (Q0 Z p0 x_READ x_READ_FOR_UPDATE x_CHANGE x_SCAN x_SCAN_FOR_UPDATE_SKIP_LOCKED x_LOCK_TABLE h0 n0) room_1.cells room_1.slots (T6.setTop (mkF m 58 #[.val (.int p0), .val (.int ii), .val (.ref x_SCAN), .unset] []))
          refine GoesW.step (fun _ k => XS.iconst X6.here hx rfl (hb hby at_58) k) ?_
          show GoesW p.tables e below s (Q0 Z p0 x_READ x_READ_FOR_UPDATE x_CHANGE x_SCAN x_SCAN_FOR_UPDATE_SKIP_LOCKED x_LOCK_TABLE h0 n0) room_1.cells room_1.slots (T6.setTop (mkF m 59 #[.val (.int p0), .val (.int ii), .val (.ref x_SCAN), .unset] [(.int (1 : Int32))]))
          refine GoesW.step (fun _ k => XS.istoreN X6.here hx rfl (hb hby at_59) rfl (l' := #[.val (.int p0), .val (.int ii), .val (.ref x_SCAN), .val (.int (1 : Int32))]) rfl k) ?_
          show GoesW p.tables e below s (Q0 Z p0 x_READ x_READ_FOR_UPDATE x_CHANGE x_SCAN x_SCAN_FOR_UPDATE_SKIP_LOCKED x_LOCK_TABLE h0 n0) room_1.cells room_1.slots (T6.setTop (mkF m 60 #[.val (.int p0), .val (.int ii), .val (.ref x_SCAN), .val (.int (1 : Int32))] []))
          refine GoesW.step (fun _ k => XS.goto X6.here hx rfl (pc0 := 60) (pc' := 83) rfl (hb hby at_60) (by decide) (by decide) k) ?_
          show GoesW p.tables e below s (Q0 Z p0 x_READ x_READ_FOR_UPDATE x_CHANGE x_SCAN x_SCAN_FOR_UPDATE_SKIP_LOCKED x_LOCK_TABLE h0 n0) room_1.cells room_1.slots (T6.setTop (mkF m 83 #[.val (.int p0), .val (.int ii), .val (.ref x_SCAN), .val (.int (1 : Int32))] []))
          exact J83 _ _ x_SCAN _ X6 e6 N0 E_SCAN (by rw [own_or, if_neg (Fld.ne F_SCAN F_READ (by decide)), if_pos rfl])
        · skip
          refine GoesW.step (fun _ k => XS.icmpYes X0.here hx rfl (pc0 := 51) (pc' := 63) rfl (hb hby at_51) rfl (feq hk3).2 (by decide) (by decide) k) ?_
          show GoesW p.tables e below s (Q0 Z p0 x_READ x_READ_FOR_UPDATE x_CHANGE x_SCAN x_SCAN_FOR_UPDATE_SKIP_LOCKED x_LOCK_TABLE h0 n0) room_1.cells room_1.slots (s₁.setTop (mkF m 63 #[.val (.int p0), .val (.int ii), .unset, .unset] []))
          refine GoesW.step (fun _ k => XS.iloadN X0.here hx rfl (hb hby at_63) rfl k) ?_
          show GoesW p.tables e below s (Q0 Z p0 x_READ x_READ_FOR_UPDATE x_CHANGE x_SCAN x_SCAN_FOR_UPDATE_SKIP_LOCKED x_LOCK_TABLE h0 n0) room_1.cells room_1.slots (s₁.setTop (mkF m 64 #[.val (.int p0), .val (.int ii), .unset, .unset] [(.int ii)]))
          refine GoesW.step (fun _ k => XS.iconst X0.here hx rfl (hb hby at_64) k) ?_
          show GoesW p.tables e below s (Q0 Z p0 x_READ x_READ_FOR_UPDATE x_CHANGE x_SCAN x_SCAN_FOR_UPDATE_SKIP_LOCKED x_LOCK_TABLE h0 n0) room_1.cells room_1.slots (s₁.setTop (mkF m 65 #[.val (.int p0), .val (.int ii), .unset, .unset] [(.int (4 : Int32)), (.int ii)]))
          by_cases hk4 : ii = (4 : Int32)
          · skip
            refine GoesW.step (fun _ k => XS.icmpNo X0.here hx rfl (hb hby at_65) rfl (teq hk4).2 k) ?_
            show GoesW p.tables e below s (Q0 Z p0 x_READ x_READ_FOR_UPDATE x_CHANGE x_SCAN x_SCAN_FOR_UPDATE_SKIP_LOCKED x_LOCK_TABLE h0 n0) room_1.cells room_1.slots (s₁.setTop (mkF m 68 #[.val (.int p0), .val (.int ii), .unset, .unset] []))
            obtain ⟨T7, X7, e7, st7⟩ := getS2 X0 hx hZ hown (host := "") (Or.inl (hw _ (List.mem_of_getElem? (i := 19) rfl))) Via.refl e0 S_SCAN_FOR_UPDATE_SKIP_LOCKED (g := (mkF m 68 #[.val (.int p0), .val (.int ii), .unset, .unset] [])) rfl (hb hby at_68)
            refine GoesW.step st7 ?_
            show GoesW p.tables e below s (Q0 Z p0 x_READ x_READ_FOR_UPDATE x_CHANGE x_SCAN x_SCAN_FOR_UPDATE_SKIP_LOCKED x_LOCK_TABLE h0 n0) room_1.cells room_1.slots (T7.setTop (mkF m 71 #[.val (.int p0), .val (.int ii), .unset, .unset] [(.ref x_SCAN_FOR_UPDATE_SKIP_LOCKED)]))
            refine GoesW.step (fun _ k => XS.astoreN X7.here hx rfl (hb hby at_71) rfl rfl (l' := #[.val (.int p0), .val (.int ii), .val (.ref x_SCAN_FOR_UPDATE_SKIP_LOCKED), .unset]) rfl k) ?_
            show GoesW p.tables e below s (Q0 Z p0 x_READ x_READ_FOR_UPDATE x_CHANGE x_SCAN x_SCAN_FOR_UPDATE_SKIP_LOCKED x_LOCK_TABLE h0 n0) room_1.cells room_1.slots (T7.setTop (mkF m 72 #[.val (.int p0), .val (.int ii), .val (.ref x_SCAN_FOR_UPDATE_SKIP_LOCKED), .unset] []))
            refine GoesW.step (fun _ k => XS.iconst X7.here hx rfl (hb hby at_72) k) ?_
            show GoesW p.tables e below s (Q0 Z p0 x_READ x_READ_FOR_UPDATE x_CHANGE x_SCAN x_SCAN_FOR_UPDATE_SKIP_LOCKED x_LOCK_TABLE h0 n0) room_1.cells room_1.slots (T7.setTop (mkF m 73 #[.val (.int p0), .val (.int ii), .val (.ref x_SCAN_FOR_UPDATE_SKIP_LOCKED), .unset] [(.int (0 : Int32))]))
            refine GoesW.step (fun _ k => XS.istoreN X7.here hx rfl (hb hby at_73) rfl (l' := #[.val (.int p0), .val (.int ii), .val (.ref x_SCAN_FOR_UPDATE_SKIP_LOCKED), .val (.int (0 : Int32))]) rfl k) ?_
            show GoesW p.tables e below s (Q0 Z p0 x_READ x_READ_FOR_UPDATE x_CHANGE x_SCAN x_SCAN_FOR_UPDATE_SKIP_LOCKED x_LOCK_TABLE h0 n0) room_1.cells room_1.slots (T7.setTop (mkF m 74 #[.val (.int p0), .val (.int ii), .val (.ref x_SCAN_FOR_UPDATE_SKIP_LOCKED), .val (.int (0 : Int32))] []))
            refine GoesW.step (fun _ k => XS.goto X7.here hx rfl (pc0 := 74) (pc' := 83) rfl (hb hby at_74) (by decide) (by decide) k) ?_
            show GoesW p.tables e below s (Q0 Z p0 x_READ x_READ_FOR_UPDATE x_CHANGE x_SCAN x_SCAN_FOR_UPDATE_SKIP_LOCKED x_LOCK_TABLE h0 n0) room_1.cells room_1.slots (T7.setTop (mkF m 83 #[.val (.int p0), .val (.int ii), .val (.ref x_SCAN_FOR_UPDATE_SKIP_LOCKED), .val (.int (0 : Int32))] []))
            exact J83 _ _ x_SCAN_FOR_UPDATE_SKIP_LOCKED _ X7 e7 N0 E_SCAN_FOR_UPDATE_SKIP_LOCKED (by rw [own_or, if_neg (Fld.ne F_SCAN_FOR_UPDATE_SKIP_LOCKED F_READ (by decide)), if_neg (Fld.ne F_SCAN_FOR_UPDATE_SKIP_LOCKED F_SCAN (by decide))])
          · skip
            refine GoesW.step (fun _ k => XS.icmpYes X0.here hx rfl (pc0 := 65) (pc' := 77) rfl (hb hby at_65) rfl (feq hk4).2 (by decide) (by decide) k) ?_
            show GoesW p.tables e below s (Q0 Z p0 x_READ x_READ_FOR_UPDATE x_CHANGE x_SCAN x_SCAN_FOR_UPDATE_SKIP_LOCKED x_LOCK_TABLE h0 n0) room_1.cells room_1.slots (s₁.setTop (mkF m 77 #[.val (.int p0), .val (.int ii), .unset, .unset] []))
            obtain ⟨T8, X8, e8, st8⟩ := getS2 X0 hx hZ hown (host := "") (Or.inl (hw _ (List.mem_of_getElem? (i := 17) rfl))) Via.refl e0 S_LOCK_TABLE (g := (mkF m 77 #[.val (.int p0), .val (.int ii), .unset, .unset] [])) rfl (hb hby at_77)
            refine GoesW.step st8 ?_
            show GoesW p.tables e below s (Q0 Z p0 x_READ x_READ_FOR_UPDATE x_CHANGE x_SCAN x_SCAN_FOR_UPDATE_SKIP_LOCKED x_LOCK_TABLE h0 n0) room_1.cells room_1.slots (T8.setTop (mkF m 80 #[.val (.int p0), .val (.int ii), .unset, .unset] [(.ref x_LOCK_TABLE)]))
            refine GoesW.step (fun _ k => XS.astoreN X8.here hx rfl (hb hby at_80) rfl rfl (l' := #[.val (.int p0), .val (.int ii), .val (.ref x_LOCK_TABLE), .unset]) rfl k) ?_
            show GoesW p.tables e below s (Q0 Z p0 x_READ x_READ_FOR_UPDATE x_CHANGE x_SCAN x_SCAN_FOR_UPDATE_SKIP_LOCKED x_LOCK_TABLE h0 n0) room_1.cells room_1.slots (T8.setTop (mkF m 81 #[.val (.int p0), .val (.int ii), .val (.ref x_LOCK_TABLE), .unset] []))
            refine GoesW.step (fun _ k => XS.iconst X8.here hx rfl (hb hby at_81) k) ?_
            show GoesW p.tables e below s (Q0 Z p0 x_READ x_READ_FOR_UPDATE x_CHANGE x_SCAN x_SCAN_FOR_UPDATE_SKIP_LOCKED x_LOCK_TABLE h0 n0) room_1.cells room_1.slots (T8.setTop (mkF m 82 #[.val (.int p0), .val (.int ii), .val (.ref x_LOCK_TABLE), .unset] [(.int (0 : Int32))]))
            refine GoesW.step (fun _ k => XS.istoreN X8.here hx rfl (hb hby at_82) rfl (l' := #[.val (.int p0), .val (.int ii), .val (.ref x_LOCK_TABLE), .val (.int (0 : Int32))]) rfl k) ?_
            show GoesW p.tables e below s (Q0 Z p0 x_READ x_READ_FOR_UPDATE x_CHANGE x_SCAN x_SCAN_FOR_UPDATE_SKIP_LOCKED x_LOCK_TABLE h0 n0) room_1.cells room_1.slots (T8.setTop (mkF m 83 #[.val (.int p0), .val (.int ii), .val (.ref x_LOCK_TABLE), .val (.int (0 : Int32))] []))
            exact J83 _ _ x_LOCK_TABLE _ X8 e8 N0 E_LOCK_TABLE (by rw [own_or, if_neg (Fld.ne F_LOCK_TABLE F_READ (by decide)), if_neg (Fld.ne F_LOCK_TABLE F_SCAN (by decide))])
set_option maxRecDepth 65536 in
set_option maxHeartbeats 40000000 in
theorem comes_1 {Post : Tables → Env → Array Value → State → Outcome → State → Prop} (hpost : ∀ tb e args s v u, (limb_1_1.after args s (.returned v) u = true ∧ limb_1_2.after args s (.returned v) u = true ∧ True) → FrameEnd s (.returned v) u (Jvm.fieldLocs frame_1_writes args s ++ Jvm.arrayLocs frame_1_arrays args s ++ Jvm.staticLocs frame_1_statics s) 0 0 → Post tb e args s (.returned v) u) :
    ArmFor flags0 classFile x code maxLocals ret World_1 tables_1 room_1 Calls_1 rest_1 Pre_1 Post := by
  intro l hfl _ _ p e ha hc hk s m args below hf hA hF happ hP
  obtain ⟨hcalls, hrest, hpre⟩ := hP
  obtain ⟨-, -, -, hnamed, -, -, -, hat⟩ := (Spec.applies_iff hf).mp happ
  obtain ⟨hg, hn⟩ := and_e (Cond.before_iff.mp (show (Jvm.Cond.and given_1 narrow_1).before args s = true from hpre))
  obtain ⟨gc, gr0⟩ := and_e hg
  obtain ⟨w0, rfl⟩ : ∃ w0 : Value, args = #[w0] := by
    have hs : args.size = 1 := by simpa [Cond.value, given_1] using gc
    obtain ⟨L⟩ := args
    match L, hs with
    | [w0], _ => exact ⟨w0, rfl⟩
  have hw := fun d (hd : d ∈ tables_1) => atoms_spec (ws := Jvm.Cond.code x code maxLocals ret :: tables_1) hat d (List.mem_cons_of_mem _ hd)
  have hfit : Fit s := fun {y c} hc i hi => by
    obtain ⟨ha, rfl⟩ := Array.getElem?_eq_some_iff.mp hc
    have q := List.all_eq_true.mp ((Array.all_eq_true_iff_forall_mem.mp hF) _ (Array.getElem_mem ha)) i (List.mem_range.mpr hi)
    simpa [Array.getElem?_eq_getElem hi] using q
  obtain ⟨i0, ei0⟩ := is_v gr0
  obtain rfl : w0 = (.int i0) := Option.some.inj ei0
  obtain ⟨nn0, nm0⟩ := and_e hn
  obtain ⟨x_READ, ev_READ⟩ := exa_v nn0
  have E_READ := Exa.start ev_READ nn0
  have S_READ := Sta.start ev_READ (Or.inr ⟨hw _ (List.mem_of_getElem? (i := 2) rfl), hw _ (List.mem_of_getElem? (i := 3) rfl)⟩)
  obtain ⟨nn1, nm1⟩ := and_e nm0
  obtain ⟨x_SCAN, ev_SCAN⟩ := exa_v nn1
  have E_SCAN := Exa.start ev_SCAN nn1
  have S_SCAN := Sta.start ev_SCAN (Or.inr ⟨hw _ (List.mem_of_getElem? (i := 2) rfl), hw _ (List.mem_of_getElem? (i := 11) rfl)⟩)
  obtain ⟨nn2, nm2⟩ := and_e nm1
  have F_SCAN := Fld.start ((fld_at ev_SCAN).symm.trans (eqv_i (Term.int_eval (3 : Int32)) nn2))
  obtain ⟨nn3, nm3⟩ := and_e nm2
  have F_READ := Fld.start ((fld_at ev_READ).symm.trans (eqv_i (Term.int_eval (0 : Int32)) nn3))
  obtain ⟨nn4, nm4⟩ := and_e nm3
  obtain ⟨x_CHANGE, ev_CHANGE⟩ := exa_v nn4
  have E_CHANGE := Exa.start ev_CHANGE nn4
  have S_CHANGE := Sta.start ev_CHANGE (Or.inr ⟨hw _ (List.mem_of_getElem? (i := 2) rfl), hw _ (List.mem_of_getElem? (i := 14) rfl)⟩)
  obtain ⟨nn5, nm5⟩ := and_e nm4
  have F_CHANGE := Fld.start ((fld_at ev_CHANGE).symm.trans (eqv_i (Term.int_eval (2 : Int32)) nn5))
  obtain ⟨nn6, nm6⟩ := and_e nm5
  obtain ⟨x_READ_FOR_UPDATE, ev_READ_FOR_UPDATE⟩ := exa_v nn6
  have E_READ_FOR_UPDATE := Exa.start ev_READ_FOR_UPDATE nn6
  have S_READ_FOR_UPDATE := Sta.start ev_READ_FOR_UPDATE (Or.inr ⟨hw _ (List.mem_of_getElem? (i := 2) rfl), hw _ (List.mem_of_getElem? (i := 16) rfl)⟩)
  obtain ⟨nn7, nm7⟩ := and_e nm6
  have F_READ_FOR_UPDATE := Fld.start ((fld_at ev_READ_FOR_UPDATE).symm.trans (eqv_i (Term.int_eval (1 : Int32)) nn7))
  obtain ⟨nn8, nm8⟩ := and_e nm7
  obtain ⟨x_LOCK_TABLE, ev_LOCK_TABLE⟩ := exa_v nn8
  have E_LOCK_TABLE := Exa.start ev_LOCK_TABLE nn8
  have S_LOCK_TABLE := Sta.start ev_LOCK_TABLE (Or.inr ⟨hw _ (List.mem_of_getElem? (i := 2) rfl), hw _ (List.mem_of_getElem? (i := 18) rfl)⟩)
  obtain ⟨nn9, nm9⟩ := and_e nm8
  have F_LOCK_TABLE := Fld.start ((fld_at ev_LOCK_TABLE).symm.trans (eqv_i (Term.int_eval (5 : Int32)) nn9))
  obtain ⟨nn10, nm10⟩ := and_e nm9
  obtain ⟨x_SCAN_FOR_UPDATE_SKIP_LOCKED, ev_SCAN_FOR_UPDATE_SKIP_LOCKED⟩ := exa_v nn10
  have E_SCAN_FOR_UPDATE_SKIP_LOCKED := Exa.start ev_SCAN_FOR_UPDATE_SKIP_LOCKED nn10
  have S_SCAN_FOR_UPDATE_SKIP_LOCKED := Sta.start ev_SCAN_FOR_UPDATE_SKIP_LOCKED (Or.inr ⟨hw _ (List.mem_of_getElem? (i := 2) rfl), hw _ (List.mem_of_getElem? (i := 20) rfl)⟩)
  have F_SCAN_FOR_UPDATE_SKIP_LOCKED := Fld.start ((fld_at ev_SCAN_FOR_UPDATE_SKIP_LOCKED).symm.trans (eqv_i (Term.int_eval (4 : Int32)) nm10))
  obtain ⟨n, o, h1, h2, h3, _, L, rfl, ⟨rfl, N⟩, hq⟩ := rm0 l s _ hw tables_1 i0 x_READ x_READ_FOR_UPDATE x_CHANGE x_SCAN x_SCAN_FOR_UPDATE_SKIP_LOCKED x_LOCK_TABLE s.heap s.heap.size (Nat.le_refl _) S_READ E_READ F_READ S_READ_FOR_UPDATE E_READ_FOR_UPDATE F_READ_FOR_UPDATE S_CHANGE E_CHANGE F_CHANGE S_SCAN E_SCAN F_SCAN S_SCAN_FOR_UPDATE_SKIP_LOCKED E_SCAN_FOR_UPDATE_SKIP_LOCKED F_SCAN_FOR_UPDATE_SKIP_LOCKED S_LOCK_TABLE E_LOCK_TABLE F_LOCK_TABLE p e ha hc hk s m _ below hf ((Spec.applies_iff_loose hf).mp happ).1 ⟨rfl, State.Warmed39.refl s, rfl⟩ trivial
  refine ⟨n, _, h1, h2, h3, hpost _ _ _ _ _ _ ⟨Cond.after_iff.mpr rfl, Cond.after_iff.mpr (eq_i res_at (Term.int_eval (1)) rfl), trivial⟩ ⟨hq.1, hq.2.1, (hq.2.2.sift fun y hy => Or.inr (N y hy)).mono (by decide) (by decide)⟩⟩
theorem main_1_1 : Claimed_1_1 := comes_1 fun _ _ _ _ _ _ h hF => ⟨h.1, hF⟩
theorem main_1_2 : Claimed_1_2 := comes_1 fun _ _ _ _ _ _ h hF => ⟨h.2.1, hF⟩
end Jvm.Pilot.@@N@@
namespace Jvm.Pilot.@@N@@
open Jvm Jvm.ClassFile Sem Op Lib Jvm.Free Jvm.Stand Jvm.Pilot.@@N@@.Jvm.D
/-! MADE BY PROGRAM (witnessworld.py) out of the Statement's table words and the real class files: 12 classes; the members and pool entries that the words name. The judged class is class 1, her method 1. -/
namespace start1
open Jvm.ClassFile
def u (s : String) : CpInfo := .utf8 (stringToUtf16 s)
/-- a pool by its gaps: so many unusable entries, then the entry; so many at the end -/
def gap : Nat → List CpInfo → List CpInfo
  | 0, r => r
  | n + 1, r => .unusable :: gap n r
def poolList (es : List (Nat × CpInfo)) (last : Nat) : List CpInfo := es.foldr (fun e r => gap e.1 (e.2 :: r)) (gap last [])
def pool (es : List (Nat × CpInfo)) (last : Nat) : Array CpInfo := ⟨poolList es last⟩
def fileOf (pool : Array CpInfo) (this : Nat) (attrs : Array Attribute := #[]) (ms : Array MethodInfo := #[]) (fl : Nat := 33) (sup : Nat := 0) (ifs : Array Nat := #[]) (fds : Array FieldInfo := #[]) : ClassFile where
  minorVersion := 0
  majorVersion := 65
  constantPool := pool
  accessFlags := fl
  thisClass := this
  superClass := sup
  interfaces := ifs
  fields := fds
  methods := ms
  attributes := attrs
def plain (name : String) (sup : Option ClassId) : Class where
  name := name
  kind := .ordinary
  loader := none
  accessFlags := 33
  super := sup
  interfaces := #[]
  cf := none
  fields := #[]
  methods := #[]
  instanceTypes := #[]
  staticTypes := #[]
  resolved := #[]
  callSites := []
  init := .initialized
  statics := none
  mirror := none

def pool0 : Array CpInfo := pool [(5, u "<init>"), (0, u "()V"), (1, .class_ 10), (1, u "java/lang/Object")] 113

def k0m0 : Method := { name := "<init>", desc := "()V", sig := { parameters := [], returnType := none }, accessFlags := 1, code := none }
/-- java/lang/Object -/
def k0 : Class := { plain "java/lang/Object" none with
  accessFlags := 33
  interfaces := #[]
  cf := some (fileOf pool0 8 #[] #[{ accessFlags := 1, nameIndex := 5, descriptorIndex := 6, attributes := #[] }] 33 0 #[] #[])
  fields := #[]
  methods := #[k0m0]
  instanceTypes := #[]
  staticTypes := #[]
  resolved := Array.replicate 124 none
  statics := none }

def pool1 : Array CpInfo := pool [(2, .class_ 4), (1, u "java/lang/Object"), (0, u "<init>"), (0, u "()V"), (0, .integer 2147483647), (0, .fieldref 9 10), (0, .class_ 11), (0, .nameAndType 12 13), (0, u "com/example/lockpoint/lockpoint/Access$Kind"), (0, u "READ"), (0, u "Lcom/example/lockpoint/lockpoint/Access$Kind;"), (0, .fieldref 9 15), (0, .nameAndType 16 13), (0, u "READ_FOR_UPDATE"), (0, .fieldref 9 18), (0, .nameAndType 19 13), (0, u "CHANGE"), (0, .fieldref 9 21), (0, .nameAndType 22 13), (0, u "SCAN"), (0, .fieldref 9 24), (0, .nameAndType 25 13), (0, u "SCAN_FOR_UPDATE_SKIP_LOCKED"), (0, .fieldref 9 27), (0, .nameAndType 28 13), (0, u "LOCK_TABLE"), (0, .methodref 9 30), (0, .nameAndType 31 32), (0, u "onlyReads"), (0, u "()Z"), (0, .class_ 34), (0, u "com/example/lockpoint/lockpoint/KindOnlyReadsPinLaw"), (2, u "law"), (0, u "(I)Z")] 7

def k1m0 : Method := { name := "<init>", desc := "()V", sig := { parameters := [], returnType := none }, accessFlags := 2, code := none }
def k1c1 : Code := { maxStack := 2, maxLocals := 4, code := code, exceptionTable := #[], attributes := #[] }
def k1m1 : Method := { name := "law", desc := "(I)Z", sig := { parameters := [.int], returnType := some .boolean }, accessFlags := 9, code := some k1c1 }
/-- com/example/lockpoint/lockpoint/KindOnlyReadsPinLaw -/
def k1 : Class := { plain "com/example/lockpoint/lockpoint/KindOnlyReadsPinLaw" (some 0) with
  accessFlags := 49
  interfaces := #[]
  cf := some (fileOf pool1 33 #[] #[{ accessFlags := 2, nameIndex := 5, descriptorIndex := 6, attributes := #[] }, { accessFlags := 9, nameIndex := 37, descriptorIndex := 38, attributes := #[] }] 49 2 #[] #[])
  fields := #[]
  methods := #[k1m0, k1m1]
  instanceTypes := #[]
  staticTypes := #[]
  resolved := Array.replicate 46 none
  statics := none }

def pool2 : Array CpInfo := pool [(1, .class_ 2), (0, u "java/lang/constant/Constable"), (0, .class_ 4), (0, u "java/lang/Object")] 6

/-- java/lang/constant/Constable -/
def k2 : Class := { plain "java/lang/constant/Constable" (some 0) with
  accessFlags := 1537
  interfaces := #[]
  cf := some (fileOf pool2 1 #[] #[] 1537 3 #[] #[])
  fields := #[]
  methods := #[]
  instanceTypes := #[]
  staticTypes := #[]
  resolved := Array.replicate 11 none
  statics := none }

def pool3 : Array CpInfo := pool [(1, .class_ 2), (0, u "java/lang/Comparable"), (0, .class_ 4), (0, u "java/lang/Object")] 7

/-- java/lang/Comparable -/
def k3 : Class := { plain "java/lang/Comparable" (some 0) with
  accessFlags := 1537
  interfaces := #[]
  cf := some (fileOf pool3 1 #[] #[] 1537 3 #[] #[])
  fields := #[]
  methods := #[]
  instanceTypes := #[]
  staticTypes := #[]
  resolved := Array.replicate 12 none
  statics := none }

def pool4 : Array CpInfo := pool [(1, .class_ 2), (0, u "java/io/Serializable"), (0, .class_ 4), (0, u "java/lang/Object")] 2

/-- java/io/Serializable -/
def k4 : Class := { plain "java/io/Serializable" (some 0) with
  accessFlags := 1537
  interfaces := #[]
  cf := some (fileOf pool4 1 #[] #[] 1537 3 #[] #[])
  fields := #[]
  methods := #[]
  instanceTypes := #[]
  staticTypes := #[]
  resolved := Array.replicate 7 none
  statics := none }

def pool5 : Array CpInfo := pool [(2, .class_ 4), (1, u "java/lang/Enum"), (0, u "name"), (0, u "Ljava/lang/String;"), (2, u "ordinal"), (0, u "I"), (1, .class_ 14), (1, u "java/lang/Object"), (4, u "hash"), (86, .class_ 108), (1, u "java/lang/Enum$EnumDesc"), (2, .class_ 112), (0, u "java/lang/constant/Constable"), (0, .class_ 114), (0, u "java/lang/Comparable"), (0, .class_ 116), (0, u "java/io/Serializable")] 87

/-- java/lang/Enum -/
def k5 : Class := { plain "java/lang/Enum" (some 0) with
  accessFlags := 1057
  interfaces := #[2, 3, 4]
  cf := some (fileOf pool5 2 #[.nestMembers #[106]] #[] 1057 12 #[111, 113, 115] #[{ accessFlags := 18, nameIndex := 5, descriptorIndex := 6, attributes := #[] }, { accessFlags := 18, nameIndex := 9, descriptorIndex := 10, attributes := #[] }, { accessFlags := 2, nameIndex := 19, descriptorIndex := 10, attributes := #[] }])
  fields := #[{ name := "name", type := (.object "java/lang/String"), accessFlags := 18, slot := 0, constantValue := 0 }, { name := "ordinal", type := .int, accessFlags := 18, slot := 1, constantValue := 0 }, { name := "hash", type := .int, accessFlags := 2, slot := 2, constantValue := 0 }]
  methods := #[]
  instanceTypes := #[(.object "java/lang/String"), .int, .int]
  staticTypes := #[]
  resolved := Array.replicate 204 none
  statics := none }

def pool6 : Array CpInfo := pool [(1, .class_ 2), (0, u "com/example/lockpoint/lockpoint/Access$Kind"), (0, .fieldref 1 4), (0, .nameAndType 5 6), (0, u "READ"), (0, u "Lcom/example/lockpoint/lockpoint/Access$Kind;"), (2, u "READ_FOR_UPDATE"), (2, u "CHANGE"), (0, .fieldref 1 14), (0, .nameAndType 15 6), (0, u "SCAN"), (2, u "SCAN_FOR_UPDATE_SKIP_LOCKED"), (2, u "LOCK_TABLE"), (2, u "$VALUES"), (0, u "[Lcom/example/lockpoint/lockpoint/Access$Kind;"), (6, .class_ 34), (1, u "java/lang/Enum"), (24, u "onlyReads"), (0, u "()Z"), (6, .class_ 68), (0, u "com/example/lockpoint/lockpoint/Access")] 2

def k6c0 : Code := { maxStack := 2, maxLocals := 1, code := prog_2_method_4_code, exceptionTable := #[], attributes := #[] }
def k6m0 : Method := { name := "onlyReads", desc := "()Z", sig := { parameters := [], returnType := some .boolean }, accessFlags := 0, code := some k6c0 }
/-- com/example/lockpoint/lockpoint/Access$Kind -/
def k6 : Class := { plain "com/example/lockpoint/lockpoint/Access$Kind" (some 5) with
  accessFlags := 16432
  interfaces := #[]
  cf := some (fileOf pool6 1 #[.nestHost 67] #[{ accessFlags := 0, nameIndex := 59, descriptorIndex := 60, attributes := #[] }] 16432 32 #[] #[{ accessFlags := 16409, nameIndex := 5, descriptorIndex := 6, attributes := #[] }, { accessFlags := 16409, nameIndex := 9, descriptorIndex := 6, attributes := #[] }, { accessFlags := 16409, nameIndex := 12, descriptorIndex := 6, attributes := #[] }, { accessFlags := 16409, nameIndex := 15, descriptorIndex := 6, attributes := #[] }, { accessFlags := 16409, nameIndex := 18, descriptorIndex := 6, attributes := #[] }, { accessFlags := 16409, nameIndex := 21, descriptorIndex := 6, attributes := #[] }, { accessFlags := 4122, nameIndex := 24, descriptorIndex := 25, attributes := #[] }])
  fields := #[{ name := "READ", type := (.object "com/example/lockpoint/lockpoint/Access$Kind"), accessFlags := 16409, slot := 0, constantValue := 0 }, { name := "READ_FOR_UPDATE", type := (.object "com/example/lockpoint/lockpoint/Access$Kind"), accessFlags := 16409, slot := 1, constantValue := 0 }, { name := "CHANGE", type := (.object "com/example/lockpoint/lockpoint/Access$Kind"), accessFlags := 16409, slot := 2, constantValue := 0 }, { name := "SCAN", type := (.object "com/example/lockpoint/lockpoint/Access$Kind"), accessFlags := 16409, slot := 3, constantValue := 0 }, { name := "SCAN_FOR_UPDATE_SKIP_LOCKED", type := (.object "com/example/lockpoint/lockpoint/Access$Kind"), accessFlags := 16409, slot := 4, constantValue := 0 }, { name := "LOCK_TABLE", type := (.object "com/example/lockpoint/lockpoint/Access$Kind"), accessFlags := 16409, slot := 5, constantValue := 0 }, { name := "$VALUES", type := (.array (.object "com/example/lockpoint/lockpoint/Access$Kind")), accessFlags := 4122, slot := 6, constantValue := 0 }]
  methods := #[k6m0]
  instanceTypes := #[(.object "java/lang/String"), .int, .int]
  staticTypes := #[(.object "com/example/lockpoint/lockpoint/Access$Kind"), (.object "com/example/lockpoint/lockpoint/Access$Kind"), (.object "com/example/lockpoint/lockpoint/Access$Kind"), (.object "com/example/lockpoint/lockpoint/Access$Kind"), (.object "com/example/lockpoint/lockpoint/Access$Kind"), (.object "com/example/lockpoint/lockpoint/Access$Kind"), (.array (.object "com/example/lockpoint/lockpoint/Access$Kind"))]
  resolved := Array.replicate 71 none
  statics := some 0 }

def pool7 : Array CpInfo := pool [(1, u "java/lang/Cloneable"), (0, .class_ 1), (0, u "java/lang/Object"), (0, .class_ 3)] 3

/-- java/lang/Cloneable -/
def k7 : Class := { plain "java/lang/Cloneable" (some 0) with
  accessFlags := 1537
  interfaces := #[]
  cf := some (fileOf pool7 2 #[] #[] 1537 4 #[] #[])
  fields := #[]
  methods := #[]
  instanceTypes := #[]
  staticTypes := #[]
  resolved := Array.replicate 8 none
  statics := none }

/-- the primitive byte -/
def k8 : Class := { plain "byte" none with kind := .primitive 'B', accessFlags := 0x411 }
/-- [B -/
def k9 : Class := { plain "[B" (some 0) with kind := .array 8 .byte, interfaces := #[7, 4], accessFlags := 1041 }

/-- the primitive int -/
def k10 : Class := { plain "int" none with kind := .primitive 'I', accessFlags := 0x411 }
/-- [I -/
def k11 : Class := { plain "[I" (some 0) with kind := .array 10 .int, interfaces := #[7, 4], accessFlags := 1041 }

def heap : Heap := #[{ cls := 6, slots := #[.ref 1, .ref 2, .ref 3, .ref 4, .ref 5, .ref 6, .null], vm := .statics 6 },
  { cls := 6, slots := #[.null, .int 0, .int 0], vm := .none },
  { cls := 6, slots := #[.null, .int 1, .int 0], vm := .none },
  { cls := 6, slots := #[.null, .int 2, .int 0], vm := .none },
  { cls := 6, slots := #[.null, .int 3, .int 0], vm := .none },
  { cls := 6, slots := #[.null, .int 4, .int 0], vm := .none },
  { cls := 6, slots := #[.null, .int 5, .int 0], vm := .none }]
def classes : Array Class := #[k0, k1, k2, k3, k4, k5, k6, k7, k8, k9, k10, k11]
def interned : List (Array UInt16 × Addr) := []
def slotsUsed : Nat := 25
def theMethod : MethodId := ⟨1, 1⟩
def args0 : Array Value := #[.int 5]
def aboutOver (below : List Frame) : State where
  vm := { classes := classes, interned := interned.toArray }
  heap := heap
  slotsUsed := slotsUsed
  threads := #[{ frames := .invoking theMethod args0 :: below }]
def below0 : List Frame := [.native { method := ⟨0, 0⟩, args := #[] }]
def about1 : State := aboutOver below0
def p0 : Program := .bare "" "" ""
def e0 : Env := launch0.env 0 0 0
theorem w_frames : about1.frames = Frame.invoking theMethod args0 :: below0 := rfl
set_option maxRecDepth 65536 in
theorem w_args : argsFit about1.vm theMethod args0 = true := by decide +kernel
set_option maxRecDepth 65536 in
theorem w_heap : heapFits about1 = true := by decide +kernel
set_option maxRecDepth 65536 in
theorem w_runnable : about1.curStatus? = some .runnable := by decide +kernel
set_option maxRecDepth 65536 in
theorem w_alone : about1.alone = true := by decide +kernel
set_option maxRecDepth 65536 in
theorem w_named : about1.methodNamed? x = some theMethod := by decide +kernel
set_option maxRecDepth 65536 in
theorem w_hears : about1.hears theMethod below0 = true := by decide +kernel
set_option maxRecDepth 65536 in
theorem w_ripe : about1.ripe theMethod args0 below0 = true := by decide +kernel
theorem w_running : about1.status = .running := rfl
set_option maxRecDepth 65536 in
theorem w_room : about1.hasRoom e0.platform room_1 = true :=
  launch0.hasRoom_least _ room_1 (by decide +kernel) (by decide +kernel) (by decide +kernel) (by decide +kernel) (by decide +kernel) (by decide +kernel)
theorem allAtoms_all (ts : List Jvm.Cond) (a : Array Jvm.Value) (st : Jvm.State) : (allAtoms ts).before a st = ts.all (fun c => c.before a st) := by
  induction ts with
  | nil => rfl
  | cons c t ih =>
    show (Jvm.Cond.and c (allAtoms t)).before a st = _
    rw [Jvm.Cond.before_and, ih, List.all_cons]
def words1 : List Jvm.Cond := Jvm.Cond.code x code maxLocals ret :: tables_1
/-- a 'code' word, met by the world's own term for the bytes: nothing is compared byte by byte -/
theorem code_word {y : MethodName} {bytes : ByteArray} {mx : Nat} {rt : Option FieldType} {a : Array Value} {s : State} {m : MethodId} {meth : Method} {c : Code} (h1 : s.methodNamed? y = some m) (h2 : s.vm.method? m = some meth) (h3 : meth.code = some c) (h4 : c.code = bytes)
    (h5 : (c.maxLocals == mx && c.exceptionTable.isEmpty && decide (c.maxStack ≤ mostOperands) && decide (meth.sig.returnType = rt) && !meth.locks && decide (parseMethodDescriptor y.desc = some meth.sig)) = true) : (Jvm.Cond.code y bytes mx rt).before a s = true := by
  simp only [Bool.and_eq_true, beq_iff_eq, Bool.not_eq_true', decide_eq_true_eq] at h5
  obtain ⟨⟨⟨⟨⟨g1, g2⟩, g3⟩, g4⟩, g5⟩, g6⟩ := h5
  simp [Cond.before, Cond.holds, Cond.value, h1, h2, h3, h4, g1, g2, g3, g4, g5, g6]
def isCode : Jvm.Cond → Bool
  | .code _ _ _ _ => true
  | _ => false
theorem all_split {L : List Jvm.Cond} {P : Jvm.Cond → Bool} (h1 : L.all (fun c => isCode c || P c) = true) (h2 : ∀ c ∈ L.filter isCode, P c = true) : L.all P = true := by
  refine List.all_eq_true.mpr fun c hc => ?_
  have h := List.all_eq_true.mp h1 c hc
  rcases Bool.eq_false_or_eq_true (isCode c) with hi | hi
  · exact h2 c (List.mem_filter.mpr ⟨hc, hi⟩)
  · simpa [hi] using h
set_option maxRecDepth 65536 in
theorem w_c0 : (Jvm.Cond.code x code maxLocals ret).before args0 about1 = true := code_word (m := ⟨1, 1⟩) (meth := k1m1) (c := k1c1) (by decide +kernel) rfl rfl rfl (by decide +kernel)
set_option maxRecDepth 65536 in
theorem w_c1 : (Jvm.Cond.code ({ cls := "com/example/lockpoint/lockpoint/Access$Kind", name := "onlyReads", desc := "()Z" } : Jvm.MethodName) prog_2_method_4_code (1 : Nat) (Option.some Jvm.ClassFile.FieldType.boolean)).before args0 about1 = true := code_word (m := ⟨6, 0⟩) (meth := k6m0) (c := k6c0) (by decide +kernel) rfl rfl rfl (by decide +kernel)
def codes1 : List Jvm.Cond := [Jvm.Cond.code x code maxLocals ret, Jvm.Cond.code ({ cls := "com/example/lockpoint/lockpoint/Access$Kind", name := "onlyReads", desc := "()Z" } : Jvm.MethodName) prog_2_method_4_code (1 : Nat) (Option.some Jvm.ClassFile.FieldType.boolean)]
set_option maxRecDepth 65536 in
theorem codes_eq : words1.filter isCode = codes1 := rfl
theorem w_codes : ∀ c ∈ words1.filter isCode, c.before args0 about1 = true := by
  rw [codes_eq]
  intro c hc
  simp only [codes1, List.mem_cons, List.not_mem_nil, or_false] at hc
  rcases hc with rfl | rfl
  · exact w_c0
  · exact w_c1
set_option maxRecDepth 65536 in
theorem w_t1 : words1.all (fun c => isCode c || c.before args0 about1) = true := by decide +kernel
theorem w_tables : (allAtoms (Jvm.Cond.code x code maxLocals ret :: tables_1)).before args0 about1 = true := by
  rw [allAtoms_all]
  show words1.all (fun c => c.before args0 about1) = true
  refine all_split ?_ w_codes
  rw [w_t1]
set_option maxRecDepth 65536 in
theorem w_case : (Jvm.Cond.and given_1 narrow_1).before args0 about1 = true := by decide +kernel
theorem w_applies : (headSpec (Jvm.Cond.code x code maxLocals ret :: tables_1) room_1).applies x e0.platform about1 = true :=
  (Spec.applies_iff w_frames).mpr ⟨w_running, w_runnable, w_alone, w_named, w_hears, w_ripe, w_room, w_tables⟩
theorem atStart : AtStart classFile x code maxLocals ret World_1 tables_1 room_1 Calls_1 rest_1 Pre_1 launch0 p0 e0 about1 theMethod args0 below0 :=
  ⟨lists_1, trivial, launch0.admits_env _ _ _, launch0.least_env, fairChoices_fair.cas, fairChoices_fair.clock, w_frames, w_args, w_heap, w_applies, trivial, trivial, w_case⟩
end start1
theorem witness_1 : WitnessClaimed_1 := ⟨start1.p0, start1.e0, start1.about1, start1.theMethod, start1.args0, start1.below0, start1.atStart⟩
end Jvm.Pilot.@@N@@
