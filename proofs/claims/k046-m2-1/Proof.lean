import JvmDerived
import JvmDerived.Pilot.@@N@@Statement
import JvmDerived.Pilot.@@N@@Code
set_option linter.unusedVariables false
set_option linter.unusedSimpArgs false
namespace Jvm.RoadKit
open Sem ClassFile Op Lib Jvm.Stand Jvm.Free Jvm.LawKit
/-- from S the run goes on and returns; what it leaves is said by Q -/
def GoesW (tb : Tables) (e : Env) (below : List Frame) (s : State) (Q : Option Value → Heap → List Loc → Prop) (kc ks : Nat) (S : State) : Prop :=
  ∃ t o, Steps tb e below S t ∧ t.status = .running ∧ Ended t below o ∧ ∃ v L, o = .returned v ∧ Q v t.heap L ∧ FrameEnd s o t L kc ks
theorem GoesW.step {tb : Tables} {e : Env} {below : List Frame} {s : State} {Q : Option Value → Heap → List Loc → Prop} {kc ks : Nat} {S S' : State} (f : ∀ t, Steps tb e below S' t → Steps tb e below S t) (h : GoesW tb e below s Q kc ks S') : GoesW tb e below s Q kc ks S := by
  obtain ⟨t, o, h1, h2⟩ := h
  exact ⟨t, o, f t h1, h2⟩
/-- 0 where the branch is taken, 1 where it isn't: what 'if<c> +7; iconst_1; goto +4; iconst_0' leaves -/
def nb (b : Bool) : Int32 := if b then 0 else 1
theorem nb_01 (b : Bool) : nb b = 0 ∨ nb b = 1 := by cases b <;> simp [nb]
theorem nar_nb (b : Bool) : narrow .boolean (.int (nb b)) = .int (nb b) := by cases b <;> rfl
theorem fits_nb (b : Bool) : fits .boolean (.int (nb b)) = true := by cases b <;> rfl
theorem diam0 {tb : Tables} [Ours tb] {e : Env} {below : List Frame} {T target : State} {m : MethodId} {c : Code} {g : JFrame} (h : At T m c below) (hx : tb.exec = Jvm.exec) (hg : g.method = m) {cd : ClassFile.Cond} {x : Int32} {rest : List Value} {pc0 : Nat} (hpc : g.pc = pc0)
    (hd : decode c.code pc0 = .ok (.ifCond cd 7, 3)) (hs : g.stack = .int x :: rest) (hd1 : decode c.code (pc0 + 3) = .ok (.iconst 1, 1)) (hd2 : decode c.code (pc0 + 4) = .ok (.goto 4, 3)) (hd3 : decode c.code (pc0 + 7) = .ok (.iconst 0, 1))
    (hr : Steps tb e below (T.setTop { g with pc := pc0 + 8, stack := .int (nb (ifCond.holds cd x)) :: rest }) target) : Steps tb e below (T.setTop g) target := by
  subst hpc
  cases hb : ifCond.holds cd x with
  | true =>
    rw [hb] at hr
    refine XS.ifYes h hx hg (pc0 := g.pc) (pc' := g.pc + 7) rfl hd hs hb (by omega) (by omega) ?_
    exact XS.iconst (g := { g with pc := g.pc + 7, stack := rest }) h hx hg hd3 hr
  | false =>
    rw [hb] at hr
    refine XS.ifNo h hx hg hd hs hb ?_
    refine XS.iconst (g := { g with pc := g.pc + 3, stack := rest }) h hx hg hd1 ?_
    exact XS.goto (g := { g with pc := g.pc + 4, stack := .int 1 :: rest }) h hx hg (pc0 := g.pc + 4) (pc' := g.pc + 8) rfl hd2 (by omega) (by omega) hr
theorem diam2 {tb : Tables} [Ours tb] {e : Env} {below : List Frame} {T target : State} {m : MethodId} {c : Code} {g : JFrame} (h : At T m c below) (hx : tb.exec = Jvm.exec) (hg : g.method = m) {cd : ClassFile.Cond} {x y : Int32} {rest : List Value} {pc0 : Nat} (hpc : g.pc = pc0)
    (hd : decode c.code pc0 = .ok (.if_icmp cd 7, 3)) (hs : g.stack = .int y :: .int x :: rest) (hd1 : decode c.code (pc0 + 3) = .ok (.iconst 1, 1)) (hd2 : decode c.code (pc0 + 4) = .ok (.goto 4, 3)) (hd3 : decode c.code (pc0 + 7) = .ok (.iconst 0, 1))
    (hr : Steps tb e below (T.setTop { g with pc := pc0 + 8, stack := .int (nb (if_icmp.holds cd x y)) :: rest }) target) : Steps tb e below (T.setTop g) target := by
  subst hpc
  cases hb : if_icmp.holds cd x y with
  | true =>
    rw [hb] at hr
    refine XS.icmpYes h hx hg (pc0 := g.pc) (pc' := g.pc + 7) rfl hd hs hb (by omega) (by omega) ?_
    exact XS.iconst (g := { g with pc := g.pc + 7, stack := rest }) h hx hg hd3 hr
  | false =>
    rw [hb] at hr
    refine XS.icmpNo h hx hg hd hs hb ?_
    refine XS.iconst (g := { g with pc := g.pc + 3, stack := rest }) h hx hg hd1 ?_
    exact XS.goto (g := { g with pc := g.pc + 4, stack := .int 1 :: rest }) h hx hg (pc0 := g.pc + 4) (pc' := g.pc + 8) rfl hd2 (by omega) (by omega) hr
section New
variable {p : Program} {l : Launch} {e : Env} {R : Room} {s : State} {m : MethodId} {args : Array Value} {below : List Frame} {meth : Method} {c : Code} {T : State} {locs : List Loc} {cells slots : Nat} {Q : Option Value → Heap → List Loc → Prop} {kc ks : Nat}
theorem upS (X : Stand p l e R s m args below meth c T locs cells slots) {k n : Nat} (hc : cells ≤ k) (hn : slots ≤ n) : Stand p l e R s m args below meth c T locs k n := { X with same := X.same.mono hc hn }
theorem GoesW.out (X : Stand p l e R s m args below meth c T locs cells slots) {v : Option Value} {S : State} (hlk : meth.locks = false) (hv : meth.sig.returnType = none → v = none)
    (hst : ∀ fs, (∀ (f : JFrame) (acts : List Action), f.method = m → f.locked = none → f.entered = [] → (doReturn e (T.setTop f) acts v).1 = T.setFrames fs) → Steps p.tables e below S (T.setFrames fs)) (hq : Q v T.heap locs) (hc : cells ≤ kc) (hs : slots ≤ ks) : GoesW p.tables e below s Q kc ks S := by
  obtain ⟨fs, hr, hrun, hended, hW, hsame⟩ := X.leave (v := v) hv hlk
  exact ⟨_, _, hst fs hr, hrun, hended, _, _, rfl, hq, ⟨_, rfl⟩, hW, hsame.mono hc hs⟩
theorem GoesW.retI (X : Stand p l e R s m args below meth c T locs cells slots) (hx : p.tables.exec = Jvm.exec) (hlk : meth.locks = false) {pc : Nat} {Ls : Array Slot} {z : Int32} {rest : List Value} (hret : meth.sig.returnType = some .int) (hd : decode c.code pc = .ok (.ireturn, 1)) (hq : Q (some (.int z)) T.heap locs) (hc : cells ≤ kc) (hs : slots ≤ ks) :
    GoesW p.tables e below s Q kc ks (T.setTop (mkF m pc Ls (.int z :: rest))) :=
  GoesW.out X hlk (fun h => by rw [hret] at h; cases h) (fun fs hr => retOut X hx hret rfl (Or.inl ⟨rfl, Or.inl rfl, _, rfl⟩) hd hr) hq hc hs
theorem GoesW.retZ (X : Stand p l e R s m args below meth c T locs cells slots) (hx : p.tables.exec = Jvm.exec) (hlk : meth.locks = false) {pc : Nat} {Ls : Array Slot} {z : Int32} {t : FieldType} {rest : List Value} (hret : meth.sig.returnType = some t) (ht : t = .int ∨ t = .boolean ∨ t = .byte ∨ t = .char ∨ t = .short) (hn : narrow t (.int z) = .int z) (hd : decode c.code pc = .ok (.ireturn, 1)) (hq : Q (some (.int z)) T.heap locs) (hc : cells ≤ kc) (hs : slots ≤ ks) :
    GoesW p.tables e below s Q kc ks (T.setTop (mkF m pc Ls (.int z :: rest))) :=
  GoesW.out X hlk (fun h => by rw [hret] at h; cases h) (fun fs hr => retOut X hx hret hn (Or.inl ⟨rfl, ht, _, rfl⟩) hd hr) hq hc hs
theorem GoesW.retJ (X : Stand p l e R s m args below meth c T locs cells slots) (hx : p.tables.exec = Jvm.exec) (hlk : meth.locks = false) {pc : Nat} {Ls : Array Slot} {z : Int64} {rest : List Value} (hret : meth.sig.returnType = some .long) (hd : decode c.code pc = .ok (.lreturn, 1)) (hq : Q (some (.long z)) T.heap locs) (hc : cells ≤ kc) (hs : slots ≤ ks) :
    GoesW p.tables e below s Q kc ks (T.setTop (mkF m pc Ls (.long z :: rest))) :=
  GoesW.out X hlk (fun h => by rw [hret] at h; cases h) (fun fs hr => retOut X hx hret rfl (Or.inr (Or.inl ⟨rfl, rfl, _, rfl⟩)) hd hr) hq hc hs
theorem GoesW.retA (X : Stand p l e R s m args below meth c T locs cells slots) (hx : p.tables.exec = Jvm.exec) (hlk : meth.locks = false) {pc : Nat} {Ls : Array Slot} {w : Value} {t : FieldType} {rest : List Value} (hret : meth.sig.returnType = some t) (ht : t.isReference = true) (hw : w.isRef = true) (hd : decode c.code pc = .ok (.areturn, 1)) (hq : Q (some w) T.heap locs) (hc : cells ≤ kc) (hs : slots ≤ ks) :
    GoesW p.tables e below s Q kc ks (T.setTop (mkF m pc Ls (w :: rest))) :=
  GoesW.out X hlk (fun h => by rw [hret] at h; cases h) (fun fs hr => retOut X hx hret (by cases t <;> first | (cases ht; done) | rfl) (Or.inr (Or.inr (Or.inr (Or.inr ⟨rfl, ht, hw⟩)))) hd hr) hq hc hs
theorem GoesW.retV (X : Stand p l e R s m args below meth c T locs cells slots) (hx : p.tables.exec = Jvm.exec) (hlk : meth.locks = false) {pc : Nat} {Ls : Array Slot} (hret : meth.sig.returnType = none) (hd : decode c.code pc = .ok (.return_, 1)) (hq : Q none T.heap locs) (hc : cells ≤ kc) (hs : slots ≤ ks) :
    GoesW p.tables e below s Q kc ks (T.setTop (mkF m pc Ls [])) :=
  GoesW.out X hlk (fun _ => rfl) (fun fs hr => X.returnOut hx hret hd hr) hq hc hs
end New
end Jvm.RoadKit
namespace Jvm.Pilot.@@N@@
open Jvm Jvm.ClassFile Sem Op Lib Jvm.Free Jvm.Stand Jvm.LawKit Jvm.RoadKit Bundle Jvm.Pilot.@@N@@.Jvm.D
theorem own_mod (x m : Int32) (hm : 0 < m.toInt) : 0 ≤ ((x &&& 2147483647) % m).toInt ∧ ((x &&& 2147483647) % m).toInt < m.toInt := by
  have h := c_mask x 2147483647 31 (by decide) (by decide)
  have h0 : 0 ≤ (x &&& 2147483647).toInt := by rw [h]; omega
  have q := (c_iremV (x &&& 2147483647) m).1 h0 hm
  exact ⟨q.1, q.2.1⟩
theorem own_i3 (z : Int32) (h : 0 ≤ z.toInt ∧ z.toInt < 3) : z = 0 ∨ z = 1 ∨ z = 2 := by
  have : z.toInt = 0 ∨ z.toInt = 1 ∨ z.toInt = 2 := by omega
  rcases this with q | q | q
  · exact Or.inl (Int32.toInt_inj.mp q)
  · exact Or.inr (Or.inl (Int32.toInt_inj.mp q))
  · exact Or.inr (Or.inr (Int32.toInt_inj.mp q))
def own_tb (q nl rp rh : Int32) : Int32 := ((q ||| (if nl = 0 then 0 else 4)) ||| (if rp = 0 then 0 else 8)) ||| (rh <<< ((4 : Int32) &&& 31))
theorem own_sum (q nl rp rh : Int32) (hq : q = 0 ∨ q = 1 ∨ q = 2) (hr : rh = 0 ∨ rh = 1 ∨ rh = 2) : own_tb q nl rp rh = ((q + (if nl = 0 then 0 else 4)) + (if rp = 0 then 0 else 8)) + (16 * rh) := by
  unfold own_tb
  by_cases h1 : nl = 0 <;> by_cases h2 : rp = 0 <;> simp only [h1, h2, if_true, if_false] <;> rcases hq with rfl | rfl | rfl <;> rcases hr with rfl | rfl | rfl <;> decide
theorem own_pn0 : plainName "java/lang/Record" = true := by first | (simp [plainName, overriddenIn]; done) | decide +kernel
theorem d2_0 : decode jdk_30_method_1_code 0 = .ok (.aload_n 0, 1) := by decide +kernel
theorem d2_1 : decode jdk_30_method_1_code 1 = .ok (.invokespecial 1, 3) := by decide +kernel
theorem d2_4 : decode jdk_30_method_1_code 4 = .ok (.return_, 1) := by decide +kernel
theorem ef_rm2 (m : MethodId) (x0 : Addr) : entryFrame m #[(.ref x0)] 1 = mkF m 0 #[.val (.ref x0)] [] := by first | (simp [entryFrame, mkF, argsToLocals, Value.category]; done) | rfl
def Q2 (Z : State) (r0 : Addr) (h0 : Heap) (n0 : Nat) (v : Option Value) (h : Heap) (L : List Loc) : Prop := v = none ∧ Fr n0 L ∧ h = h0
set_option maxRecDepth 65536 in
set_option maxHeartbeats 40000000 in
theorem rm2 (l : Launch) (Z : State) (a0 : Array Value) (hw : ∀ d ∈ tables_1, d.before a0 Z = true) (ws : List Jvm.Cond) (r0 : Addr) (h0 : Heap) (n0 : Nat) (Z0 : n0 ≤ h0.size)  :
    MetFree l (⟨"java/lang/Record", "<init>", "()V"⟩ : MethodName) (head1 (Jvm.Cond.code (⟨"java/lang/Record", "<init>", "()V"⟩ : MethodName) jdk_30_method_1_code 1 none :: ws) ({ frames := 1, cells := 0, slots := 0, locals := 12 } : Room)) (fun a U => a = #[(.ref r0)] ∧ Z.Warmed39 U.vm ∧ U.heap = h0) (fun _ _ _ _ _ => True) (fun _ U o U' => ∃ v L, o = .returned v ∧ Q2 Z r0 h0 n0 v U'.heap L ∧ FrameEnd U o U' L ({ frames := 1, cells := 0, slots := 0, locals := 12 } : Room).cells ({ frames := 1, cells := 0, slots := 0, locals := 12 } : Room).slots) := by
  refine MetFree.of_bodySF (plainFor_of_name own_pn0) hisR ?_
  intro p e s m args below meth c s₁ Bd hml0 hP hK
  obtain ⟨rfl, hZ, hh⟩ := hP
  have hx := Bd.exec
  have hby := Bd.bytes
  have hml : c.maxLocals = 1 := hml0
  have hown : s.vm.findClass "java/lang/Record" = some m.cls := findClass_of_methodNamed Bd.named
  have hnm := (name_of_methodNamed Bd.named Bd.method).1
  have hlk : meth.locks = false := BodyLoose.notSynchronized Bd
  have X0 : Stand p l e ({ frames := 1, cells := 0, slots := 0, locals := 12 } : Room) s m #[(.ref r0)] below meth c s₁ [] 0 0 := Stand.of_body Bd
  have e0 : s₁.heap = h0 := by rw [← hh, Bd.state]; rfl
  have N0 := Fr.nil n0
  show GoesW p.tables e below s (Q2 Z r0 h0 n0) 0 0 (s₁.setTop (entryFrame m #[(.ref r0)] 1))
  rw [ef_rm2 m r0]
  show GoesW p.tables e below s (Q2 Z r0 h0 n0) 0 0 (s₁.setTop (mkF m 0 #[.val (.ref r0)] []))
  refine GoesW.step (fun _ k => XS.aloadN X0.here hx rfl (hb hby d2_0) rfl rfl k) ?_
  show GoesW p.tables e below s (Q2 Z r0 h0 n0) 0 0 (s₁.setTop (mkF m 1 #[.val (.ref r0)] [(.ref r0)]))
  obtain ⟨T1, X1, e1, st1⟩ := initO X0 hx hZ hown (hw _ (List.mem_of_getElem? (i := 12) rfl)) (hw _ (List.mem_of_getElem? (i := 13) rfl)) (hw _ (List.mem_of_getElem? (i := 14) rfl)) e0 (g := (mkF m 1 #[.val (.ref r0)] [(.ref r0)])) rfl (by rw [hml]; rfl) rfl (hb hby d2_1) (by decide) (W := 0) (by show 2 * 0 + _ ≤ _; exact Nat.le_of_eq rfl) (by decide)
  refine GoesW.step st1 ?_
  show GoesW p.tables e below s (Q2 Z r0 h0 n0) 0 0 (T1.setTop (mkF m 4 #[.val (.ref r0)] []))
  exact GoesW.retV X1 hx hlk Bd.returns (hb hby d2_4) (by show Q2 Z r0 h0 n0 _ T1.heap _; rw [e1]; exact ⟨rfl, N0, rfl⟩) (by decide) (by decide)
theorem own_pd0 : parseMethodDescriptor "()V" = some ⟨[], none⟩ := by decide +kernel
theorem own_pn1 : plainName "com/example/varuna/varuna/broker/wire/SubscriptionOptions" = true := by first | (simp [plainName, overriddenIn]; done) | decide +kernel
theorem d1_0 : decode prog_11_method_1_code 0 = .ok (.aload_n 0, 1) := by decide +kernel
theorem d1_1 : decode prog_11_method_1_code 1 = .ok (.invokespecial 1, 3) := by decide +kernel
theorem d1_4 : decode prog_11_method_1_code 4 = .ok (.aload_n 0, 1) := by decide +kernel
theorem d1_5 : decode prog_11_method_1_code 5 = .ok (.iload_n 1, 1) := by decide +kernel
theorem d1_6 : decode prog_11_method_1_code 6 = .ok (.putfield 7, 3) := by decide +kernel
theorem d1_9 : decode prog_11_method_1_code 9 = .ok (.aload_n 0, 1) := by decide +kernel
theorem d1_10 : decode prog_11_method_1_code 10 = .ok (.iload_n 2, 1) := by decide +kernel
theorem d1_11 : decode prog_11_method_1_code 11 = .ok (.putfield 13, 3) := by decide +kernel
theorem d1_14 : decode prog_11_method_1_code 14 = .ok (.aload_n 0, 1) := by decide +kernel
theorem d1_15 : decode prog_11_method_1_code 15 = .ok (.iload_n 3, 1) := by decide +kernel
theorem d1_16 : decode prog_11_method_1_code 16 = .ok (.putfield 17, 3) := by decide +kernel
theorem d1_19 : decode prog_11_method_1_code 19 = .ok (.aload_n 0, 1) := by decide +kernel
theorem d1_20 : decode prog_11_method_1_code 20 = .ok (.iload 4, 2) := by decide +kernel
theorem d1_22 : decode prog_11_method_1_code 22 = .ok (.putfield 20, 3) := by decide +kernel
theorem d1_25 : decode prog_11_method_1_code 25 = .ok (.return_, 1) := by decide +kernel
theorem ef_rm1 (m : MethodId) (x0 : Addr) (x1 : Int32) (x2 : Int32) (x3 : Int32) (x4 : Int32) : entryFrame m #[(.ref x0), (.int x1), (.int x2), (.int x3), (.int x4)] 5 = mkF m 0 #[.val (.ref x0), .val (.int x1), .val (.int x2), .val (.int x3), .val (.int x4)] [] := by first | (simp [entryFrame, mkF, argsToLocals, Value.category]; done) | rfl
def Q1 (Z : State) (r0 : Addr) (p1 : Int32) (p2 : Int32) (p3 : Int32) (p4 : Int32) (h0 : Heap) (n0 : Nat) (v : Option Value) (h : Heap) (L : List Loc) : Prop := v = none ∧ Fr n0 L ∧ Keep h0 h [r0] ∧ Fld Z h r0 "com/example/varuna/varuna/broker/wire/SubscriptionOptions" "qos" "I" (.int p1) ∧ Fld Z h r0 "com/example/varuna/varuna/broker/wire/SubscriptionOptions" "noLocal" "Z" (.int p2) ∧ Fld Z h r0 "com/example/varuna/varuna/broker/wire/SubscriptionOptions" "retainAsPublished" "Z" (.int p3) ∧ Fld Z h r0 "com/example/varuna/varuna/broker/wire/SubscriptionOptions" "retainHandling" "I" (.int p4)
set_option maxRecDepth 65536 in
set_option maxHeartbeats 40000000 in
theorem rm1 (l : Launch) (Z : State) (a0 : Array Value) (hw : ∀ d ∈ tables_1, d.before a0 Z = true) (ws : List Jvm.Cond) (r0 : Addr) (p1 : Int32) (p2 : Int32) (p3 : Int32) (p4 : Int32) (h0 : Heap) (n0 : Nat) (Z0 : n0 ≤ h0.size) (A0 : Exa Z h0 r0 "com/example/varuna/varuna/broker/wire/SubscriptionOptions") (g_r0 : n0 ≤ r0) (b2 : narrow .boolean (.int p2) = .int p2) (c2 : fits .boolean (.int p2) = true) (b3 : narrow .boolean (.int p3) = .int p3) (c3 : fits .boolean (.int p3) = true) (F_qos : Fld Z h0 r0 "com/example/varuna/varuna/broker/wire/SubscriptionOptions" "qos" "I" (.int (0 : Int32))) (F_noLocal : Fld Z h0 r0 "com/example/varuna/varuna/broker/wire/SubscriptionOptions" "noLocal" "Z" (.int (0 : Int32))) (F_retainAsPublished : Fld Z h0 r0 "com/example/varuna/varuna/broker/wire/SubscriptionOptions" "retainAsPublished" "Z" (.int (0 : Int32))) (F_retainHandling : Fld Z h0 r0 "com/example/varuna/varuna/broker/wire/SubscriptionOptions" "retainHandling" "I" (.int (0 : Int32))) :
    MetFree l (⟨"com/example/varuna/varuna/broker/wire/SubscriptionOptions", "<init>", "(IZZI)V"⟩ : MethodName) (head1 (Jvm.Cond.code (⟨"com/example/varuna/varuna/broker/wire/SubscriptionOptions", "<init>", "(IZZI)V"⟩ : MethodName) prog_11_method_1_code 5 none :: ws) ({ frames := 2, cells := 0, slots := 0, locals := 24 } : Room)) (fun a U => a = #[(.ref r0), (.int p1), (.int p2), (.int p3), (.int p4)] ∧ Z.Warmed39 U.vm ∧ U.heap = h0) (fun _ _ _ _ _ => True) (fun _ U o U' => ∃ v L, o = .returned v ∧ Q1 Z r0 p1 p2 p3 p4 h0 n0 v U'.heap L ∧ FrameEnd U o U' L ({ frames := 2, cells := 0, slots := 0, locals := 24 } : Room).cells ({ frames := 2, cells := 0, slots := 0, locals := 24 } : Room).slots) := by
  refine MetFree.of_bodySF (plainFor_of_name own_pn1) hisR ?_
  intro p e s m args below meth c s₁ Bd hml0 hP hK
  obtain ⟨rfl, hZ, hh⟩ := hP
  have hx := Bd.exec
  have hby := Bd.bytes
  have hml : c.maxLocals = 5 := hml0
  have hown : s.vm.findClass "com/example/varuna/varuna/broker/wire/SubscriptionOptions" = some m.cls := findClass_of_methodNamed Bd.named
  have hnm := (name_of_methodNamed Bd.named Bd.method).1
  have hlk : meth.locks = false := BodyLoose.notSynchronized Bd
  have X0 : Stand p l e ({ frames := 2, cells := 0, slots := 0, locals := 24 } : Room) s m #[(.ref r0), (.int p1), (.int p2), (.int p3), (.int p4)] below meth c s₁ [] 0 0 := Stand.of_body Bd
  have e0 : s₁.heap = h0 := by rw [← hh, Bd.state]; rfl
  have N0 := Fr.nil n0
  show GoesW p.tables e below s (Q1 Z r0 p1 p2 p3 p4 h0 n0) 0 0 (s₁.setTop (entryFrame m #[(.ref r0), (.int p1), (.int p2), (.int p3), (.int p4)] 5))
  rw [ef_rm1 m r0 p1 p2 p3 p4]
  show GoesW p.tables e below s (Q1 Z r0 p1 p2 p3 p4 h0 n0) 0 0 (s₁.setTop (mkF m 0 #[.val (.ref r0), .val (.int p1), .val (.int p2), .val (.int p3), .val (.int p4)] []))
  refine GoesW.step (fun _ k => XS.aloadN X0.here hx rfl (hb hby d1_0) rfl rfl k) ?_
  show GoesW p.tables e below s (Q1 Z r0 p1 p2 p3 p4 h0 n0) 0 0 (s₁.setTop (mkF m 1 #[.val (.ref r0), .val (.int p1), .val (.int p2), .val (.int p3), .val (.int p4)] [(.ref r0)]))
  obtain ⟨_, _, ⟨T1, L1, k1, n1⟩, -, X1, ⟨Lc1, hQ1, l1, y1, z1⟩, st1⟩ := X0.specialBack hx (y := (⟨"java/lang/Record", "<init>", "()V"⟩ : MethodName)) rfl hown (mvT hZ (hw _ (List.mem_of_getElem? (i := 7) rfl))) (mvT hZ (hw _ (List.mem_of_getElem? (i := 8) rfl))) (mvT hZ (hw _ (List.mem_of_getElem? (i := 11) rfl))) (by decide) (backOf (W := 0) (rm2 l Z a0 hw [] r0  h0 n0 Z0 ) hZ (hw _ (List.mem_of_getElem? (i := 11) rfl)) (hw _ (List.mem_of_getElem? (i := 10) rfl)) (by decide) (by decide)) (g := (mkF m 1 #[.val (.ref r0), .val (.int p1), .val (.int p2), .val (.int p3), .val (.int p4)] [(.ref r0)])) rfl (by rw [hml]; rfl) (Steps.refl _) (a := r0) (argsL := []) (rest := []) (lenOf own_pd0 rfl) rfl (by show 2 * 0 + _ ≤ _; exact Nat.le_of_eq rfl) (hb hby d1_1) (fun _ _ => ⟨rfl, e0, (by decide : 0 + 0 ≤ _), (by decide : 0 + 0 ≤ _)⟩)
  dsimp only [Pt.U, Pt.locs, Pt.cells, Pt.slots] at X1 l1 y1 z1 st1 hQ1
  subst l1 y1 z1
  obtain ⟨rfl, N1q, eq1⟩ := hQ1
  have N1 := Fr.app N0 N1q
  refine GoesW.step (fun _ k => st1.trans k) ?_
  show GoesW p.tables e below s (Q1 Z r0 p1 p2 p3 p4 h0 n0) 0 0 (T1.setTop (mkF m 4 #[.val (.ref r0), .val (.int p1), .val (.int p2), .val (.int p3), .val (.int p4)] []))
  refine GoesW.step (fun _ k => XS.aloadN X1.here hx rfl (hb hby d1_4) rfl rfl k) ?_
  show GoesW p.tables e below s (Q1 Z r0 p1 p2 p3 p4 h0 n0) 0 0 (T1.setTop (mkF m 5 #[.val (.ref r0), .val (.int p1), .val (.int p2), .val (.int p3), .val (.int p4)] [(.ref r0)]))
  refine GoesW.step (fun _ k => XS.iloadN X1.here hx rfl (hb hby d1_5) rfl k) ?_
  show GoesW p.tables e below s (Q1 Z r0 p1 p2 p3 p4 h0 n0) 0 0 (T1.setTop (mkF m 6 #[.val (.ref r0), .val (.int p1), .val (.int p2), .val (.int p3), .val (.int p4)] [(.int p1), (.ref r0)]))
  obtain ⟨T2, h2, X2, e2, W2, st2⟩ := putF X1 hx hZ hown (host := "") (Or.inl (hw _ (List.mem_of_getElem? (i := 15) rfl))) Via.refl eq1 F_qos A0 (Or.inr ⟨(hw _ (List.mem_of_getElem? (i := 16) rfl)), rfl, hnm⟩) (hw _ (List.mem_of_getElem? (i := 2) rfl)) (ty := .int) (by decide) rfl rfl (g := (mkF m 6 #[.val (.ref r0), .val (.int p1), .val (.int p2), .val (.int p3), .val (.int p4)] [(.int p1), (.ref r0)])) rfl rfl (hb hby d1_6)
  have F2 := F_qos.same W2
  have N2 := Fr.snoc X2 N1 g_r0
  have Z2 : n0 ≤ h2.size := Nat.le_trans Z0 (Keep.of_wr W2).1
  have K2 : Keep h0 h2 [r0] := (Keep.refl h0 [r0]).wr W2 (Or.inl (List.mem_of_getElem? (i := 0) rfl))
  refine GoesW.step st2 ?_
  show GoesW p.tables e below s (Q1 Z r0 p1 p2 p3 p4 h0 n0) 0 0 (T2.setTop (mkF m 9 #[.val (.ref r0), .val (.int p1), .val (.int p2), .val (.int p3), .val (.int p4)] []))
  refine GoesW.step (fun _ k => XS.aloadN X2.here hx rfl (hb hby d1_9) rfl rfl k) ?_
  show GoesW p.tables e below s (Q1 Z r0 p1 p2 p3 p4 h0 n0) 0 0 (T2.setTop (mkF m 10 #[.val (.ref r0), .val (.int p1), .val (.int p2), .val (.int p3), .val (.int p4)] [(.ref r0)]))
  refine GoesW.step (fun _ k => XS.iloadN X2.here hx rfl (hb hby d1_10) rfl k) ?_
  show GoesW p.tables e below s (Q1 Z r0 p1 p2 p3 p4 h0 n0) 0 0 (T2.setTop (mkF m 11 #[.val (.ref r0), .val (.int p1), .val (.int p2), .val (.int p3), .val (.int p4)] [(.int p2), (.ref r0)]))
  have Exa_r0_3 := (A0.wr W2)
  have Fld_r0_noLocal_4 := (F_noLocal.other W2 (Or.inr (slot_ne (Or.inr (hw _ (List.mem_of_getElem? (i := 18) rfl))) (Or.inr (hw _ (List.mem_of_getElem? (i := 16) rfl))) (by decide) (t := .boolean) (t' := .int) (by decide) (by decide))))
  obtain ⟨T5, h5, X5, e5, W5, st5⟩ := putFN X2 hx hZ hown (hw _ (List.mem_of_getElem? (i := 17) rfl)) Via.refl e2 Fld_r0_noLocal_4 Exa_r0_3 (Or.inr ⟨(hw _ (List.mem_of_getElem? (i := 18) rfl)), rfl, hnm⟩) (hw _ (List.mem_of_getElem? (i := 2) rfl)) (ty := .boolean) (v' := (.int p2)) (by decide) b2 c2 (g := (mkF m 11 #[.val (.ref r0), .val (.int p1), .val (.int p2), .val (.int p3), .val (.int p4)] [(.int p2), (.ref r0)])) rfl rfl (hb hby d1_11)
  have F5 := Fld_r0_noLocal_4.same W5
  have N5 := Fr.snoc X5 N2 g_r0
  have Z5 : n0 ≤ h5.size := Nat.le_trans Z2 (Keep.of_wr W5).1
  have K5 : Keep h0 h5 [r0] := K2.wr W5 (Or.inl (List.mem_of_getElem? (i := 0) rfl))
  refine GoesW.step st5 ?_
  show GoesW p.tables e below s (Q1 Z r0 p1 p2 p3 p4 h0 n0) 0 0 (T5.setTop (mkF m 14 #[.val (.ref r0), .val (.int p1), .val (.int p2), .val (.int p3), .val (.int p4)] []))
  refine GoesW.step (fun _ k => XS.aloadN X5.here hx rfl (hb hby d1_14) rfl rfl k) ?_
  show GoesW p.tables e below s (Q1 Z r0 p1 p2 p3 p4 h0 n0) 0 0 (T5.setTop (mkF m 15 #[.val (.ref r0), .val (.int p1), .val (.int p2), .val (.int p3), .val (.int p4)] [(.ref r0)]))
  refine GoesW.step (fun _ k => XS.iloadN X5.here hx rfl (hb hby d1_15) rfl k) ?_
  show GoesW p.tables e below s (Q1 Z r0 p1 p2 p3 p4 h0 n0) 0 0 (T5.setTop (mkF m 16 #[.val (.ref r0), .val (.int p1), .val (.int p2), .val (.int p3), .val (.int p4)] [(.int p3), (.ref r0)]))
  have Exa_r0_6 := (Exa_r0_3.wr W5)
  have Fld_r0_retainAsPublished_7 := ((F_retainAsPublished.other W2 (Or.inr (slot_ne (Or.inr (hw _ (List.mem_of_getElem? (i := 20) rfl))) (Or.inr (hw _ (List.mem_of_getElem? (i := 16) rfl))) (by decide) (t := .boolean) (t' := .int) (by decide) (by decide)))).other W5 (Or.inr (slot_ne (Or.inr (hw _ (List.mem_of_getElem? (i := 20) rfl))) (Or.inr (hw _ (List.mem_of_getElem? (i := 18) rfl))) (by decide) (t := .boolean) (t' := .boolean) (by decide) (by decide))))
  obtain ⟨T8, h8, X8, e8, W8, st8⟩ := putFN X5 hx hZ hown (hw _ (List.mem_of_getElem? (i := 19) rfl)) Via.refl e5 Fld_r0_retainAsPublished_7 Exa_r0_6 (Or.inr ⟨(hw _ (List.mem_of_getElem? (i := 20) rfl)), rfl, hnm⟩) (hw _ (List.mem_of_getElem? (i := 2) rfl)) (ty := .boolean) (v' := (.int p3)) (by decide) b3 c3 (g := (mkF m 16 #[.val (.ref r0), .val (.int p1), .val (.int p2), .val (.int p3), .val (.int p4)] [(.int p3), (.ref r0)])) rfl rfl (hb hby d1_16)
  have F8 := Fld_r0_retainAsPublished_7.same W8
  have N8 := Fr.snoc X8 N5 g_r0
  have Z8 : n0 ≤ h8.size := Nat.le_trans Z5 (Keep.of_wr W8).1
  have K8 : Keep h0 h8 [r0] := K5.wr W8 (Or.inl (List.mem_of_getElem? (i := 0) rfl))
  refine GoesW.step st8 ?_
  show GoesW p.tables e below s (Q1 Z r0 p1 p2 p3 p4 h0 n0) 0 0 (T8.setTop (mkF m 19 #[.val (.ref r0), .val (.int p1), .val (.int p2), .val (.int p3), .val (.int p4)] []))
  refine GoesW.step (fun _ k => XS.aloadN X8.here hx rfl (hb hby d1_19) rfl rfl k) ?_
  show GoesW p.tables e below s (Q1 Z r0 p1 p2 p3 p4 h0 n0) 0 0 (T8.setTop (mkF m 20 #[.val (.ref r0), .val (.int p1), .val (.int p2), .val (.int p3), .val (.int p4)] [(.ref r0)]))
  refine GoesW.step (fun _ k => XS.iload X8.here hx rfl (hb hby d1_20) rfl k) ?_
  show GoesW p.tables e below s (Q1 Z r0 p1 p2 p3 p4 h0 n0) 0 0 (T8.setTop (mkF m 22 #[.val (.ref r0), .val (.int p1), .val (.int p2), .val (.int p3), .val (.int p4)] [(.int p4), (.ref r0)]))
  have Exa_r0_9 := (Exa_r0_6.wr W8)
  have Fld_r0_retainHandling_10 := (((F_retainHandling.other W2 (Or.inr (slot_ne (Or.inr (hw _ (List.mem_of_getElem? (i := 22) rfl))) (Or.inr (hw _ (List.mem_of_getElem? (i := 16) rfl))) (by decide) (t := .int) (t' := .int) (by decide) (by decide)))).other W5 (Or.inr (slot_ne (Or.inr (hw _ (List.mem_of_getElem? (i := 22) rfl))) (Or.inr (hw _ (List.mem_of_getElem? (i := 18) rfl))) (by decide) (t := .int) (t' := .boolean) (by decide) (by decide)))).other W8 (Or.inr (slot_ne (Or.inr (hw _ (List.mem_of_getElem? (i := 22) rfl))) (Or.inr (hw _ (List.mem_of_getElem? (i := 20) rfl))) (by decide) (t := .int) (t' := .boolean) (by decide) (by decide))))
  obtain ⟨T11, h11, X11, e11, W11, st11⟩ := putF X8 hx hZ hown (host := "") (Or.inl (hw _ (List.mem_of_getElem? (i := 21) rfl))) Via.refl e8 Fld_r0_retainHandling_10 Exa_r0_9 (Or.inr ⟨(hw _ (List.mem_of_getElem? (i := 22) rfl)), rfl, hnm⟩) (hw _ (List.mem_of_getElem? (i := 2) rfl)) (ty := .int) (by decide) rfl rfl (g := (mkF m 22 #[.val (.ref r0), .val (.int p1), .val (.int p2), .val (.int p3), .val (.int p4)] [(.int p4), (.ref r0)])) rfl rfl (hb hby d1_22)
  have F11 := Fld_r0_retainHandling_10.same W11
  have N11 := Fr.snoc X11 N8 g_r0
  have Z11 : n0 ≤ h11.size := Nat.le_trans Z8 (Keep.of_wr W11).1
  have K11 : Keep h0 h11 [r0] := K8.wr W11 (Or.inl (List.mem_of_getElem? (i := 0) rfl))
  refine GoesW.step st11 ?_
  show GoesW p.tables e below s (Q1 Z r0 p1 p2 p3 p4 h0 n0) 0 0 (T11.setTop (mkF m 25 #[.val (.ref r0), .val (.int p1), .val (.int p2), .val (.int p3), .val (.int p4)] []))
  have Fld_r0_qos_12 := (((F2.other W5 (Or.inr (slot_ne (Or.inr (hw _ (List.mem_of_getElem? (i := 16) rfl))) (Or.inr (hw _ (List.mem_of_getElem? (i := 18) rfl))) (by decide) (t := .int) (t' := .boolean) (by decide) (by decide)))).other W8 (Or.inr (slot_ne (Or.inr (hw _ (List.mem_of_getElem? (i := 16) rfl))) (Or.inr (hw _ (List.mem_of_getElem? (i := 20) rfl))) (by decide) (t := .int) (t' := .boolean) (by decide) (by decide)))).other W11 (Or.inr (slot_ne (Or.inr (hw _ (List.mem_of_getElem? (i := 16) rfl))) (Or.inr (hw _ (List.mem_of_getElem? (i := 22) rfl))) (by decide) (t := .int) (t' := .int) (by decide) (by decide))))
  have Fld_r0_noLocal_13 := ((F5.other W8 (Or.inr (slot_ne (Or.inr (hw _ (List.mem_of_getElem? (i := 18) rfl))) (Or.inr (hw _ (List.mem_of_getElem? (i := 20) rfl))) (by decide) (t := .boolean) (t' := .boolean) (by decide) (by decide)))).other W11 (Or.inr (slot_ne (Or.inr (hw _ (List.mem_of_getElem? (i := 18) rfl))) (Or.inr (hw _ (List.mem_of_getElem? (i := 22) rfl))) (by decide) (t := .boolean) (t' := .int) (by decide) (by decide))))
  have Fld_r0_retainAsPublished_14 := (F8.other W11 (Or.inr (slot_ne (Or.inr (hw _ (List.mem_of_getElem? (i := 20) rfl))) (Or.inr (hw _ (List.mem_of_getElem? (i := 22) rfl))) (by decide) (t := .boolean) (t' := .int) (by decide) (by decide))))
  exact GoesW.retV X11 hx hlk Bd.returns (hb hby d1_25) (by show Q1 Z r0 p1 p2 p3 p4 h0 n0 _ T11.heap _; rw [e11]; exact ⟨rfl, N11, K11, Fld_r0_qos_12, Fld_r0_noLocal_13, Fld_r0_retainAsPublished_14, F11⟩) (by decide) (by decide)
theorem d4_0 : decode prog_11_method_3_code 0 = .ok (.aload_n 0, 1) := by decide +kernel
theorem d4_1 : decode prog_11_method_3_code 1 = .ok (.getfield 7, 3) := by decide +kernel
theorem d4_4 : decode prog_11_method_3_code 4 = .ok (.aload_n 0, 1) := by decide +kernel
theorem d4_5 : decode prog_11_method_3_code 5 = .ok (.getfield 13, 3) := by decide +kernel
theorem d4_8 : decode prog_11_method_3_code 8 = .ok (.ifCond .eq 7, 3) := by decide +kernel
theorem d4_11 : decode prog_11_method_3_code 11 = .ok (.iconst 4, 1) := by decide +kernel
theorem d4_12 : decode prog_11_method_3_code 12 = .ok (.goto 4, 3) := by decide +kernel
theorem d4_15 : decode prog_11_method_3_code 15 = .ok (.iconst 0, 1) := by decide +kernel
theorem d4_16 : decode prog_11_method_3_code 16 = .ok (.ior, 1) := by decide +kernel
theorem d4_17 : decode prog_11_method_3_code 17 = .ok (.aload_n 0, 1) := by decide +kernel
theorem d4_18 : decode prog_11_method_3_code 18 = .ok (.getfield 17, 3) := by decide +kernel
theorem d4_21 : decode prog_11_method_3_code 21 = .ok (.ifCond .eq 8, 3) := by decide +kernel
theorem d4_24 : decode prog_11_method_3_code 24 = .ok (.bipush 8, 2) := by decide +kernel
theorem d4_26 : decode prog_11_method_3_code 26 = .ok (.goto 4, 3) := by decide +kernel
theorem d4_29 : decode prog_11_method_3_code 29 = .ok (.iconst 0, 1) := by decide +kernel
theorem d4_30 : decode prog_11_method_3_code 30 = .ok (.ior, 1) := by decide +kernel
theorem d4_31 : decode prog_11_method_3_code 31 = .ok (.aload_n 0, 1) := by decide +kernel
theorem d4_32 : decode prog_11_method_3_code 32 = .ok (.getfield 20, 3) := by decide +kernel
theorem d4_35 : decode prog_11_method_3_code 35 = .ok (.iconst 4, 1) := by decide +kernel
theorem d4_36 : decode prog_11_method_3_code 36 = .ok (.ishl, 1) := by decide +kernel
theorem d4_37 : decode prog_11_method_3_code 37 = .ok (.ior, 1) := by decide +kernel
theorem d4_38 : decode prog_11_method_3_code 38 = .ok (.ireturn, 1) := by decide +kernel
theorem ef_rm4 (m : MethodId) (x0 : Addr) : entryFrame m #[(.ref x0)] 1 = mkF m 0 #[.val (.ref x0)] [] := by first | (simp [entryFrame, mkF, argsToLocals, Value.category]; done) | rfl
def Q4 (Z : State) (r0 : Addr) (q : Int32) (nl : Int32) (rp : Int32) (rh : Int32) (h0 : Heap) (n0 : Nat) (v : Option Value) (h : Heap) (L : List Loc) : Prop := v = some (.int (own_tb q nl rp rh)) ∧ Fr n0 L ∧ h = h0
set_option maxRecDepth 65536 in
set_option maxHeartbeats 40000000 in
theorem rm4 (l : Launch) (Z : State) (a0 : Array Value) (hw : ∀ d ∈ tables_1, d.before a0 Z = true) (ws : List Jvm.Cond) (r0 : Addr) (q : Int32) (nl : Int32) (rp : Int32) (rh : Int32) (h0 : Heap) (n0 : Nat) (Z0 : n0 ≤ h0.size) (F_qos : Fld Z h0 r0 "com/example/varuna/varuna/broker/wire/SubscriptionOptions" "qos" "I" (.int q)) (F_noLocal : Fld Z h0 r0 "com/example/varuna/varuna/broker/wire/SubscriptionOptions" "noLocal" "Z" (.int nl)) (F_retainAsPublished : Fld Z h0 r0 "com/example/varuna/varuna/broker/wire/SubscriptionOptions" "retainAsPublished" "Z" (.int rp)) (F_retainHandling : Fld Z h0 r0 "com/example/varuna/varuna/broker/wire/SubscriptionOptions" "retainHandling" "I" (.int rh)) :
    MetFree l (⟨"com/example/varuna/varuna/broker/wire/SubscriptionOptions", "toByte", "()I"⟩ : MethodName) (head1 (Jvm.Cond.code (⟨"com/example/varuna/varuna/broker/wire/SubscriptionOptions", "toByte", "()I"⟩ : MethodName) prog_11_method_3_code 1 (some .int) :: ws) ({ frames := 0, cells := 0, slots := 0, locals := 0 } : Room)) (fun a U => a = #[(.ref r0)] ∧ Z.Warmed39 U.vm ∧ U.heap = h0) (fun _ _ _ _ _ => True) (fun _ U o U' => ∃ v L, o = .returned v ∧ Q4 Z r0 q nl rp rh h0 n0 v U'.heap L ∧ FrameEnd U o U' L ({ frames := 0, cells := 0, slots := 0, locals := 0 } : Room).cells ({ frames := 0, cells := 0, slots := 0, locals := 0 } : Room).slots) := by
  refine MetFree.of_bodySF (plainFor_of_name own_pn1) hisR ?_
  intro p e s m args below meth c s₁ Bd hml0 hP hK
  obtain ⟨rfl, hZ, hh⟩ := hP
  have hx := Bd.exec
  have hby := Bd.bytes
  have hml : c.maxLocals = 1 := hml0
  have hown : s.vm.findClass "com/example/varuna/varuna/broker/wire/SubscriptionOptions" = some m.cls := findClass_of_methodNamed Bd.named
  have hnm := (name_of_methodNamed Bd.named Bd.method).1
  have hlk : meth.locks = false := BodyLoose.notSynchronized Bd
  have X0 : Stand p l e ({ frames := 0, cells := 0, slots := 0, locals := 0 } : Room) s m #[(.ref r0)] below meth c s₁ [] 0 0 := Stand.of_body Bd
  have e0 : s₁.heap = h0 := by rw [← hh, Bd.state]; rfl
  have N0 := Fr.nil n0
  show GoesW p.tables e below s (Q4 Z r0 q nl rp rh h0 n0) 0 0 (s₁.setTop (entryFrame m #[(.ref r0)] 1))
  rw [ef_rm4 m r0]
  show GoesW p.tables e below s (Q4 Z r0 q nl rp rh h0 n0) 0 0 (s₁.setTop (mkF m 0 #[.val (.ref r0)] []))
  refine GoesW.step (fun _ k => XS.aloadN X0.here hx rfl (hb hby d4_0) rfl rfl k) ?_
  show GoesW p.tables e below s (Q4 Z r0 q nl rp rh h0 n0) 0 0 (s₁.setTop (mkF m 1 #[.val (.ref r0)] [(.ref r0)]))
  obtain ⟨T1, X1, e1, st1⟩ := getF X0 hx hZ hown (host := "") (Or.inl (hw _ (List.mem_of_getElem? (i := 15) rfl))) Via.refl e0 F_qos (g := (mkF m 1 #[.val (.ref r0)] [(.ref r0)])) rfl rfl (hb hby d4_1)
  refine GoesW.step st1 ?_
  show GoesW p.tables e below s (Q4 Z r0 q nl rp rh h0 n0) 0 0 (T1.setTop (mkF m 4 #[.val (.ref r0)] [(.int q)]))
  refine GoesW.step (fun _ k => XS.aloadN X1.here hx rfl (hb hby d4_4) rfl rfl k) ?_
  show GoesW p.tables e below s (Q4 Z r0 q nl rp rh h0 n0) 0 0 (T1.setTop (mkF m 5 #[.val (.ref r0)] [(.ref r0), (.int q)]))
  obtain ⟨T2, X2, e2, st2⟩ := getF X1 hx hZ hown (host := "") (Or.inl (hw _ (List.mem_of_getElem? (i := 17) rfl))) Via.refl e1 F_noLocal (g := (mkF m 5 #[.val (.ref r0)] [(.ref r0), (.int q)])) rfl rfl (hb hby d4_5)
  refine GoesW.step st2 ?_
  show GoesW p.tables e below s (Q4 Z r0 q nl rp rh h0 n0) 0 0 (T2.setTop (mkF m 8 #[.val (.ref r0)] [(.int nl), (.int q)]))
  by_cases h8 : nl = (0 : Int32)
  · skip
    refine GoesW.step (fun _ k => XS.ifYes X2.here hx rfl (pc0 := 8) (pc' := 15) rfl (hb hby d4_8) rfl ((if0 _ _).trans (teq h8).1) (by decide) (by decide) k) ?_
    show GoesW p.tables e below s (Q4 Z r0 q nl rp rh h0 n0) 0 0 (T2.setTop (mkF m 15 #[.val (.ref r0)] [(.int q)]))
    refine GoesW.step (fun _ k => XS.iconst X2.here hx rfl (hb hby d4_15) k) ?_
    show GoesW p.tables e below s (Q4 Z r0 q nl rp rh h0 n0) 0 0 (T2.setTop (mkF m 16 #[.val (.ref r0)] [(.int (0 : Int32)), (.int q)]))
    refine GoesW.step (fun _ k => XS.ior X2.here hx rfl (hb hby d4_16) rfl k) ?_
    show GoesW p.tables e below s (Q4 Z r0 q nl rp rh h0 n0) 0 0 (T2.setTop (mkF m 17 #[.val (.ref r0)] [(.int (q ||| (0 : Int32)))]))
    refine GoesW.step (fun _ k => XS.aloadN X2.here hx rfl (hb hby d4_17) rfl rfl k) ?_
    show GoesW p.tables e below s (Q4 Z r0 q nl rp rh h0 n0) 0 0 (T2.setTop (mkF m 18 #[.val (.ref r0)] [(.ref r0), (.int (q ||| (0 : Int32)))]))
    obtain ⟨T3, X3, e3, st3⟩ := getF X2 hx hZ hown (host := "") (Or.inl (hw _ (List.mem_of_getElem? (i := 19) rfl))) Via.refl e2 F_retainAsPublished (g := (mkF m 18 #[.val (.ref r0)] [(.ref r0), (.int (q ||| (0 : Int32)))])) rfl rfl (hb hby d4_18)
    refine GoesW.step st3 ?_
    show GoesW p.tables e below s (Q4 Z r0 q nl rp rh h0 n0) 0 0 (T3.setTop (mkF m 21 #[.val (.ref r0)] [(.int rp), (.int (q ||| (0 : Int32)))]))
    by_cases h21 : rp = (0 : Int32)
    · skip
      refine GoesW.step (fun _ k => XS.ifYes X3.here hx rfl (pc0 := 21) (pc' := 29) rfl (hb hby d4_21) rfl ((if0 _ _).trans (teq h21).1) (by decide) (by decide) k) ?_
      show GoesW p.tables e below s (Q4 Z r0 q nl rp rh h0 n0) 0 0 (T3.setTop (mkF m 29 #[.val (.ref r0)] [(.int (q ||| (0 : Int32)))]))
      refine GoesW.step (fun _ k => XS.iconst X3.here hx rfl (hb hby d4_29) k) ?_
      show GoesW p.tables e below s (Q4 Z r0 q nl rp rh h0 n0) 0 0 (T3.setTop (mkF m 30 #[.val (.ref r0)] [(.int (0 : Int32)), (.int (q ||| (0 : Int32)))]))
      refine GoesW.step (fun _ k => XS.ior X3.here hx rfl (hb hby d4_30) rfl k) ?_
      show GoesW p.tables e below s (Q4 Z r0 q nl rp rh h0 n0) 0 0 (T3.setTop (mkF m 31 #[.val (.ref r0)] [(.int ((q ||| (0 : Int32)) ||| (0 : Int32)))]))
      refine GoesW.step (fun _ k => XS.aloadN X3.here hx rfl (hb hby d4_31) rfl rfl k) ?_
      show GoesW p.tables e below s (Q4 Z r0 q nl rp rh h0 n0) 0 0 (T3.setTop (mkF m 32 #[.val (.ref r0)] [(.ref r0), (.int ((q ||| (0 : Int32)) ||| (0 : Int32)))]))
      obtain ⟨T4, X4, e4, st4⟩ := getF X3 hx hZ hown (host := "") (Or.inl (hw _ (List.mem_of_getElem? (i := 21) rfl))) Via.refl e3 F_retainHandling (g := (mkF m 32 #[.val (.ref r0)] [(.ref r0), (.int ((q ||| (0 : Int32)) ||| (0 : Int32)))])) rfl rfl (hb hby d4_32)
      refine GoesW.step st4 ?_
      show GoesW p.tables e below s (Q4 Z r0 q nl rp rh h0 n0) 0 0 (T4.setTop (mkF m 35 #[.val (.ref r0)] [(.int rh), (.int ((q ||| (0 : Int32)) ||| (0 : Int32)))]))
      refine GoesW.step (fun _ k => XS.iconst X4.here hx rfl (hb hby d4_35) k) ?_
      show GoesW p.tables e below s (Q4 Z r0 q nl rp rh h0 n0) 0 0 (T4.setTop (mkF m 36 #[.val (.ref r0)] [(.int (4 : Int32)), (.int rh), (.int ((q ||| (0 : Int32)) ||| (0 : Int32)))]))
      refine GoesW.step (fun _ k => XS.ishl X4.here hx rfl (hb hby d4_36) rfl k) ?_
      show GoesW p.tables e below s (Q4 Z r0 q nl rp rh h0 n0) 0 0 (T4.setTop (mkF m 37 #[.val (.ref r0)] [(.int (rh <<< ((4 : Int32) &&& 31))), (.int ((q ||| (0 : Int32)) ||| (0 : Int32)))]))
      refine GoesW.step (fun _ k => XS.ior X4.here hx rfl (hb hby d4_37) rfl k) ?_
      show GoesW p.tables e below s (Q4 Z r0 q nl rp rh h0 n0) 0 0 (T4.setTop (mkF m 38 #[.val (.ref r0)] [(.int (((q ||| (0 : Int32)) ||| (0 : Int32)) ||| (rh <<< ((4 : Int32) &&& 31))))]))
      exact GoesW.retI X4 hx hlk Bd.returns (hb hby d4_38) (by show Q4 Z r0 q nl rp rh h0 n0 _ T4.heap _; rw [e4]; exact ⟨by rw [own_tb, if_pos h8, if_pos h21], N0, rfl⟩) (by decide) (by decide)
    · skip
      refine GoesW.step (fun _ k => XS.ifNo X3.here hx rfl (hb hby d4_21) rfl ((if0 _ _).trans (feq h21).1) k) ?_
      show GoesW p.tables e below s (Q4 Z r0 q nl rp rh h0 n0) 0 0 (T3.setTop (mkF m 24 #[.val (.ref r0)] [(.int (q ||| (0 : Int32)))]))
      refine GoesW.step (fun _ k => XS.bipush X3.here hx rfl (hb hby d4_24) k) ?_
      show GoesW p.tables e below s (Q4 Z r0 q nl rp rh h0 n0) 0 0 (T3.setTop (mkF m 26 #[.val (.ref r0)] [(.int (8 : Int32)), (.int (q ||| (0 : Int32)))]))
      refine GoesW.step (fun _ k => XS.goto X3.here hx rfl (pc0 := 26) (pc' := 30) rfl (hb hby d4_26) (by decide) (by decide) k) ?_
      show GoesW p.tables e below s (Q4 Z r0 q nl rp rh h0 n0) 0 0 (T3.setTop (mkF m 30 #[.val (.ref r0)] [(.int (8 : Int32)), (.int (q ||| (0 : Int32)))]))
      refine GoesW.step (fun _ k => XS.ior X3.here hx rfl (hb hby d4_30) rfl k) ?_
      show GoesW p.tables e below s (Q4 Z r0 q nl rp rh h0 n0) 0 0 (T3.setTop (mkF m 31 #[.val (.ref r0)] [(.int ((q ||| (0 : Int32)) ||| (8 : Int32)))]))
      refine GoesW.step (fun _ k => XS.aloadN X3.here hx rfl (hb hby d4_31) rfl rfl k) ?_
      show GoesW p.tables e below s (Q4 Z r0 q nl rp rh h0 n0) 0 0 (T3.setTop (mkF m 32 #[.val (.ref r0)] [(.ref r0), (.int ((q ||| (0 : Int32)) ||| (8 : Int32)))]))
      obtain ⟨T5, X5, e5, st5⟩ := getF X3 hx hZ hown (host := "") (Or.inl (hw _ (List.mem_of_getElem? (i := 21) rfl))) Via.refl e3 F_retainHandling (g := (mkF m 32 #[.val (.ref r0)] [(.ref r0), (.int ((q ||| (0 : Int32)) ||| (8 : Int32)))])) rfl rfl (hb hby d4_32)
      refine GoesW.step st5 ?_
      show GoesW p.tables e below s (Q4 Z r0 q nl rp rh h0 n0) 0 0 (T5.setTop (mkF m 35 #[.val (.ref r0)] [(.int rh), (.int ((q ||| (0 : Int32)) ||| (8 : Int32)))]))
      refine GoesW.step (fun _ k => XS.iconst X5.here hx rfl (hb hby d4_35) k) ?_
      show GoesW p.tables e below s (Q4 Z r0 q nl rp rh h0 n0) 0 0 (T5.setTop (mkF m 36 #[.val (.ref r0)] [(.int (4 : Int32)), (.int rh), (.int ((q ||| (0 : Int32)) ||| (8 : Int32)))]))
      refine GoesW.step (fun _ k => XS.ishl X5.here hx rfl (hb hby d4_36) rfl k) ?_
      show GoesW p.tables e below s (Q4 Z r0 q nl rp rh h0 n0) 0 0 (T5.setTop (mkF m 37 #[.val (.ref r0)] [(.int (rh <<< ((4 : Int32) &&& 31))), (.int ((q ||| (0 : Int32)) ||| (8 : Int32)))]))
      refine GoesW.step (fun _ k => XS.ior X5.here hx rfl (hb hby d4_37) rfl k) ?_
      show GoesW p.tables e below s (Q4 Z r0 q nl rp rh h0 n0) 0 0 (T5.setTop (mkF m 38 #[.val (.ref r0)] [(.int (((q ||| (0 : Int32)) ||| (8 : Int32)) ||| (rh <<< ((4 : Int32) &&& 31))))]))
      exact GoesW.retI X5 hx hlk Bd.returns (hb hby d4_38) (by show Q4 Z r0 q nl rp rh h0 n0 _ T5.heap _; rw [e5]; exact ⟨by rw [own_tb, if_pos h8, if_neg h21], N0, rfl⟩) (by decide) (by decide)
  · skip
    refine GoesW.step (fun _ k => XS.ifNo X2.here hx rfl (hb hby d4_8) rfl ((if0 _ _).trans (feq h8).1) k) ?_
    show GoesW p.tables e below s (Q4 Z r0 q nl rp rh h0 n0) 0 0 (T2.setTop (mkF m 11 #[.val (.ref r0)] [(.int q)]))
    refine GoesW.step (fun _ k => XS.iconst X2.here hx rfl (hb hby d4_11) k) ?_
    show GoesW p.tables e below s (Q4 Z r0 q nl rp rh h0 n0) 0 0 (T2.setTop (mkF m 12 #[.val (.ref r0)] [(.int (4 : Int32)), (.int q)]))
    refine GoesW.step (fun _ k => XS.goto X2.here hx rfl (pc0 := 12) (pc' := 16) rfl (hb hby d4_12) (by decide) (by decide) k) ?_
    show GoesW p.tables e below s (Q4 Z r0 q nl rp rh h0 n0) 0 0 (T2.setTop (mkF m 16 #[.val (.ref r0)] [(.int (4 : Int32)), (.int q)]))
    refine GoesW.step (fun _ k => XS.ior X2.here hx rfl (hb hby d4_16) rfl k) ?_
    show GoesW p.tables e below s (Q4 Z r0 q nl rp rh h0 n0) 0 0 (T2.setTop (mkF m 17 #[.val (.ref r0)] [(.int (q ||| (4 : Int32)))]))
    refine GoesW.step (fun _ k => XS.aloadN X2.here hx rfl (hb hby d4_17) rfl rfl k) ?_
    show GoesW p.tables e below s (Q4 Z r0 q nl rp rh h0 n0) 0 0 (T2.setTop (mkF m 18 #[.val (.ref r0)] [(.ref r0), (.int (q ||| (4 : Int32)))]))
    obtain ⟨T6, X6, e6, st6⟩ := getF X2 hx hZ hown (host := "") (Or.inl (hw _ (List.mem_of_getElem? (i := 19) rfl))) Via.refl e2 F_retainAsPublished (g := (mkF m 18 #[.val (.ref r0)] [(.ref r0), (.int (q ||| (4 : Int32)))])) rfl rfl (hb hby d4_18)
    refine GoesW.step st6 ?_
    show GoesW p.tables e below s (Q4 Z r0 q nl rp rh h0 n0) 0 0 (T6.setTop (mkF m 21 #[.val (.ref r0)] [(.int rp), (.int (q ||| (4 : Int32)))]))
    by_cases h21 : rp = (0 : Int32)
    · skip
      refine GoesW.step (fun _ k => XS.ifYes X6.here hx rfl (pc0 := 21) (pc' := 29) rfl (hb hby d4_21) rfl ((if0 _ _).trans (teq h21).1) (by decide) (by decide) k) ?_
      show GoesW p.tables e below s (Q4 Z r0 q nl rp rh h0 n0) 0 0 (T6.setTop (mkF m 29 #[.val (.ref r0)] [(.int (q ||| (4 : Int32)))]))
      refine GoesW.step (fun _ k => XS.iconst X6.here hx rfl (hb hby d4_29) k) ?_
      show GoesW p.tables e below s (Q4 Z r0 q nl rp rh h0 n0) 0 0 (T6.setTop (mkF m 30 #[.val (.ref r0)] [(.int (0 : Int32)), (.int (q ||| (4 : Int32)))]))
      refine GoesW.step (fun _ k => XS.ior X6.here hx rfl (hb hby d4_30) rfl k) ?_
      show GoesW p.tables e below s (Q4 Z r0 q nl rp rh h0 n0) 0 0 (T6.setTop (mkF m 31 #[.val (.ref r0)] [(.int ((q ||| (4 : Int32)) ||| (0 : Int32)))]))
      refine GoesW.step (fun _ k => XS.aloadN X6.here hx rfl (hb hby d4_31) rfl rfl k) ?_
      show GoesW p.tables e below s (Q4 Z r0 q nl rp rh h0 n0) 0 0 (T6.setTop (mkF m 32 #[.val (.ref r0)] [(.ref r0), (.int ((q ||| (4 : Int32)) ||| (0 : Int32)))]))
      obtain ⟨T7, X7, e7, st7⟩ := getF X6 hx hZ hown (host := "") (Or.inl (hw _ (List.mem_of_getElem? (i := 21) rfl))) Via.refl e6 F_retainHandling (g := (mkF m 32 #[.val (.ref r0)] [(.ref r0), (.int ((q ||| (4 : Int32)) ||| (0 : Int32)))])) rfl rfl (hb hby d4_32)
      refine GoesW.step st7 ?_
      show GoesW p.tables e below s (Q4 Z r0 q nl rp rh h0 n0) 0 0 (T7.setTop (mkF m 35 #[.val (.ref r0)] [(.int rh), (.int ((q ||| (4 : Int32)) ||| (0 : Int32)))]))
      refine GoesW.step (fun _ k => XS.iconst X7.here hx rfl (hb hby d4_35) k) ?_
      show GoesW p.tables e below s (Q4 Z r0 q nl rp rh h0 n0) 0 0 (T7.setTop (mkF m 36 #[.val (.ref r0)] [(.int (4 : Int32)), (.int rh), (.int ((q ||| (4 : Int32)) ||| (0 : Int32)))]))
      refine GoesW.step (fun _ k => XS.ishl X7.here hx rfl (hb hby d4_36) rfl k) ?_
      show GoesW p.tables e below s (Q4 Z r0 q nl rp rh h0 n0) 0 0 (T7.setTop (mkF m 37 #[.val (.ref r0)] [(.int (rh <<< ((4 : Int32) &&& 31))), (.int ((q ||| (4 : Int32)) ||| (0 : Int32)))]))
      refine GoesW.step (fun _ k => XS.ior X7.here hx rfl (hb hby d4_37) rfl k) ?_
      show GoesW p.tables e below s (Q4 Z r0 q nl rp rh h0 n0) 0 0 (T7.setTop (mkF m 38 #[.val (.ref r0)] [(.int (((q ||| (4 : Int32)) ||| (0 : Int32)) ||| (rh <<< ((4 : Int32) &&& 31))))]))
      exact GoesW.retI X7 hx hlk Bd.returns (hb hby d4_38) (by show Q4 Z r0 q nl rp rh h0 n0 _ T7.heap _; rw [e7]; exact ⟨by rw [own_tb, if_neg h8, if_pos h21], N0, rfl⟩) (by decide) (by decide)
    · skip
      refine GoesW.step (fun _ k => XS.ifNo X6.here hx rfl (hb hby d4_21) rfl ((if0 _ _).trans (feq h21).1) k) ?_
      show GoesW p.tables e below s (Q4 Z r0 q nl rp rh h0 n0) 0 0 (T6.setTop (mkF m 24 #[.val (.ref r0)] [(.int (q ||| (4 : Int32)))]))
      refine GoesW.step (fun _ k => XS.bipush X6.here hx rfl (hb hby d4_24) k) ?_
      show GoesW p.tables e below s (Q4 Z r0 q nl rp rh h0 n0) 0 0 (T6.setTop (mkF m 26 #[.val (.ref r0)] [(.int (8 : Int32)), (.int (q ||| (4 : Int32)))]))
      refine GoesW.step (fun _ k => XS.goto X6.here hx rfl (pc0 := 26) (pc' := 30) rfl (hb hby d4_26) (by decide) (by decide) k) ?_
      show GoesW p.tables e below s (Q4 Z r0 q nl rp rh h0 n0) 0 0 (T6.setTop (mkF m 30 #[.val (.ref r0)] [(.int (8 : Int32)), (.int (q ||| (4 : Int32)))]))
      refine GoesW.step (fun _ k => XS.ior X6.here hx rfl (hb hby d4_30) rfl k) ?_
      show GoesW p.tables e below s (Q4 Z r0 q nl rp rh h0 n0) 0 0 (T6.setTop (mkF m 31 #[.val (.ref r0)] [(.int ((q ||| (4 : Int32)) ||| (8 : Int32)))]))
      refine GoesW.step (fun _ k => XS.aloadN X6.here hx rfl (hb hby d4_31) rfl rfl k) ?_
      show GoesW p.tables e below s (Q4 Z r0 q nl rp rh h0 n0) 0 0 (T6.setTop (mkF m 32 #[.val (.ref r0)] [(.ref r0), (.int ((q ||| (4 : Int32)) ||| (8 : Int32)))]))
      obtain ⟨T8, X8, e8, st8⟩ := getF X6 hx hZ hown (host := "") (Or.inl (hw _ (List.mem_of_getElem? (i := 21) rfl))) Via.refl e6 F_retainHandling (g := (mkF m 32 #[.val (.ref r0)] [(.ref r0), (.int ((q ||| (4 : Int32)) ||| (8 : Int32)))])) rfl rfl (hb hby d4_32)
      refine GoesW.step st8 ?_
      show GoesW p.tables e below s (Q4 Z r0 q nl rp rh h0 n0) 0 0 (T8.setTop (mkF m 35 #[.val (.ref r0)] [(.int rh), (.int ((q ||| (4 : Int32)) ||| (8 : Int32)))]))
      refine GoesW.step (fun _ k => XS.iconst X8.here hx rfl (hb hby d4_35) k) ?_
      show GoesW p.tables e below s (Q4 Z r0 q nl rp rh h0 n0) 0 0 (T8.setTop (mkF m 36 #[.val (.ref r0)] [(.int (4 : Int32)), (.int rh), (.int ((q ||| (4 : Int32)) ||| (8 : Int32)))]))
      refine GoesW.step (fun _ k => XS.ishl X8.here hx rfl (hb hby d4_36) rfl k) ?_
      show GoesW p.tables e below s (Q4 Z r0 q nl rp rh h0 n0) 0 0 (T8.setTop (mkF m 37 #[.val (.ref r0)] [(.int (rh <<< ((4 : Int32) &&& 31))), (.int ((q ||| (4 : Int32)) ||| (8 : Int32)))]))
      refine GoesW.step (fun _ k => XS.ior X8.here hx rfl (hb hby d4_37) rfl k) ?_
      show GoesW p.tables e below s (Q4 Z r0 q nl rp rh h0 n0) 0 0 (T8.setTop (mkF m 38 #[.val (.ref r0)] [(.int (((q ||| (4 : Int32)) ||| (8 : Int32)) ||| (rh <<< ((4 : Int32) &&& 31))))]))
      exact GoesW.retI X8 hx hlk Bd.returns (hb hby d4_38) (by show Q4 Z r0 q nl rp rh h0 n0 _ T8.heap _; rw [e8]; exact ⟨by rw [own_tb, if_neg h8, if_neg h21], N0, rfl⟩) (by decide) (by decide)
theorem own_pd1 : parseMethodDescriptor "(IZZI)V" = some ⟨[.int, .boolean, .boolean, .int], none⟩ := by decide +kernel
theorem own_pd2 : parseMethodDescriptor "()I" = some ⟨[], some .int⟩ := by decide +kernel
theorem own_pn2 : plainName "com/example/varuna/varuna/broker/wire/SubscriptionOptionsToBytePinLaw" = true := by first | (simp [plainName, overriddenIn]; done) | decide +kernel
theorem ef_rm0 (m : MethodId) (x0 : Int32) (x1 : Int32) (x2 : Int32) : entryFrame m #[(.int x0), (.int x1), (.int x2)] maxLocals = mkF m 0 #[.val (.int x0), .val (.int x1), .val (.int x2), .unset, .unset, .unset, .unset, .unset, .unset] [] := by first | (simp [entryFrame, mkF, argsToLocals, Value.category, maxLocals]; done) | rfl
def Q0 (Z : State) (p0 : Int32) (p1 : Int32) (p2 : Int32) (h0 : Heap) (n0 : Nat) (v : Option Value) (h : Heap) (L : List Loc) : Prop := v = some (.int (1 : Int32)) ∧ Fr n0 L
set_option maxRecDepth 65536 in
set_option maxHeartbeats 40000000 in
theorem rm0 (l : Launch) (Z : State) (a0 : Array Value) (hw : ∀ d ∈ tables_1, d.before a0 Z = true) (ws : List Jvm.Cond) (p0 : Int32) (p1 : Int32) (p2 : Int32) (h0 : Heap) (n0 : Nat) (Z0 : n0 ≤ h0.size)  :
    MetFree l x (head1 (Jvm.Cond.code x code maxLocals ret :: ws) room_1) (fun a U => a = #[(.int p0), (.int p1), (.int p2)] ∧ Z.Warmed39 U.vm ∧ U.heap = h0) (fun _ _ _ _ _ => True) (fun _ U o U' => ∃ v L, o = .returned v ∧ Q0 Z p0 p1 p2 h0 n0 v U'.heap L ∧ FrameEnd U o U' L room_1.cells room_1.slots) := by
  refine MetFree.of_bodySF (plainFor_of_name own_pn2) hisR ?_
  intro p e s m args below meth c s₁ Bd hml0 hP hK
  obtain ⟨rfl, hZ, hh⟩ := hP
  have hx := Bd.exec
  have hby := Bd.bytes
  have hml : c.maxLocals = 9 := hml0
  have hown : s.vm.findClass "com/example/varuna/varuna/broker/wire/SubscriptionOptionsToBytePinLaw" = some m.cls := findClass_of_methodNamed Bd.named
  have hnm := (name_of_methodNamed Bd.named Bd.method).1
  have hlk : meth.locks = false := BodyLoose.notSynchronized Bd
  have X0 : Stand p l e room_1 s m #[(.int p0), (.int p1), (.int p2)] below meth c s₁ [] 0 0 := Stand.of_body Bd
  have e0 : s₁.heap = h0 := by rw [← hh, Bd.state]; rfl
  have N0 := Fr.nil n0
  show GoesW p.tables e below s (Q0 Z p0 p1 p2 h0 n0) room_1.cells room_1.slots (s₁.setTop (entryFrame m #[(.int p0), (.int p1), (.int p2)] maxLocals))
  rw [ef_rm0 m p0 p1 p2]
  show GoesW p.tables e below s (Q0 Z p0 p1 p2 h0 n0) room_1.cells room_1.slots (s₁.setTop (mkF m 0 #[.val (.int p0), .val (.int p1), .val (.int p2), .unset, .unset, .unset, .unset, .unset, .unset] []))
  refine GoesW.step (fun _ k => XS.iloadN X0.here hx rfl (hb hby at_0) rfl k) ?_
  show GoesW p.tables e below s (Q0 Z p0 p1 p2 h0 n0) room_1.cells room_1.slots (s₁.setTop (mkF m 1 #[.val (.int p0), .val (.int p1), .val (.int p2), .unset, .unset, .unset, .unset, .unset, .unset] [(.int p0)]))
  refine GoesW.step (fun _ k => X0.ldcInt hx hown (mvT hZ (hw _ (List.mem_of_getElem? (i := 0) rfl))) (g := (mkF m 1 #[.val (.int p0), .val (.int p1), .val (.int p2), .unset, .unset, .unset, .unset, .unset, .unset] [(.int p0)])) rfl (hb hby at_1) _ k) ?_
  show GoesW p.tables e below s (Q0 Z p0 p1 p2 h0 n0) room_1.cells room_1.slots (s₁.setTop (mkF m 3 #[.val (.int p0), .val (.int p1), .val (.int p2), .unset, .unset, .unset, .unset, .unset, .unset] [(.int (2147483647 : Int32)), (.int p0)]))
  refine GoesW.step (fun _ k => XS.iand X0.here hx rfl (hb hby at_3) rfl k) ?_
  show GoesW p.tables e below s (Q0 Z p0 p1 p2 h0 n0) room_1.cells room_1.slots (s₁.setTop (mkF m 4 #[.val (.int p0), .val (.int p1), .val (.int p2), .unset, .unset, .unset, .unset, .unset, .unset] [(.int (p0 &&& (2147483647 : Int32)))]))
  refine GoesW.step (fun _ k => XS.iconst X0.here hx rfl (hb hby at_4) k) ?_
  show GoesW p.tables e below s (Q0 Z p0 p1 p2 h0 n0) room_1.cells room_1.slots (s₁.setTop (mkF m 5 #[.val (.int p0), .val (.int p1), .val (.int p2), .unset, .unset, .unset, .unset, .unset, .unset] [(.int (3 : Int32)), (.int (p0 &&& (2147483647 : Int32)))]))
  refine GoesW.step (fun _ k => iremM X0 hx rfl (hb hby at_5) rfl (by decide) k) ?_
  show GoesW p.tables e below s (Q0 Z p0 p1 p2 h0 n0) room_1.cells room_1.slots (s₁.setTop (mkF m 6 #[.val (.int p0), .val (.int p1), .val (.int p2), .unset, .unset, .unset, .unset, .unset, .unset] [(.int ((p0 &&& (2147483647 : Int32)) % (3 : Int32)))]))
  generalize hq : ((p0 &&& (2147483647 : Int32)) % (3 : Int32)) = q
  show GoesW p.tables e below s (Q0 Z p0 p1 p2 h0 n0) room_1.cells room_1.slots (s₁.setTop (mkF m 6 #[.val (.int p0), .val (.int p1), .val (.int p2), .unset, .unset, .unset, .unset, .unset, .unset] [(.int q)]))
  have hq3 : q = 0 ∨ q = 1 ∨ q = 2 := own_i3 q (by rw [← hq]; exact own_mod p0 3 (by decide))
  refine GoesW.step (fun _ k => XS.istoreN X0.here hx rfl (hb hby at_6) rfl (l' := #[.val (.int p0), .val (.int p1), .val (.int p2), .val (.int q), .unset, .unset, .unset, .unset, .unset]) rfl k) ?_
  show GoesW p.tables e below s (Q0 Z p0 p1 p2 h0 n0) room_1.cells room_1.slots (s₁.setTop (mkF m 7 #[.val (.int p0), .val (.int p1), .val (.int p2), .val (.int q), .unset, .unset, .unset, .unset, .unset] []))
  refine GoesW.step (fun _ k => XS.iloadN X0.here hx rfl (hb hby at_7) rfl k) ?_
  show GoesW p.tables e below s (Q0 Z p0 p1 p2 h0 n0) room_1.cells room_1.slots (s₁.setTop (mkF m 8 #[.val (.int p0), .val (.int p1), .val (.int p2), .val (.int q), .unset, .unset, .unset, .unset, .unset] [(.int p1)]))
  refine GoesW.step (fun _ k => XS.iconst X0.here hx rfl (hb hby at_8) k) ?_
  show GoesW p.tables e below s (Q0 Z p0 p1 p2 h0 n0) room_1.cells room_1.slots (s₁.setTop (mkF m 9 #[.val (.int p0), .val (.int p1), .val (.int p2), .val (.int q), .unset, .unset, .unset, .unset, .unset] [(.int (1 : Int32)), (.int p1)]))
  refine GoesW.step (fun _ k => XS.iand X0.here hx rfl (hb hby at_9) rfl k) ?_
  show GoesW p.tables e below s (Q0 Z p0 p1 p2 h0 n0) room_1.cells room_1.slots (s₁.setTop (mkF m 10 #[.val (.int p0), .val (.int p1), .val (.int p2), .val (.int q), .unset, .unset, .unset, .unset, .unset] [(.int (p1 &&& (1 : Int32)))]))
  refine GoesW.step (fun _ k => diam0 X0.here hx rfl (pc0 := 10) rfl (hb hby at_10) rfl (hb hby at_13) (hb hby at_14) (hb hby at_17) k) ?_
  show GoesW p.tables e below s (Q0 Z p0 p1 p2 h0 n0) room_1.cells room_1.slots (s₁.setTop (mkF m 18 #[.val (.int p0), .val (.int p1), .val (.int p2), .val (.int q), .unset, .unset, .unset, .unset, .unset] [(.int (nb (ifCond.holds .eq (p1 &&& (1 : Int32)))))]))
  generalize hnl : (nb (ifCond.holds .eq (p1 &&& (1 : Int32)))) = nl
  show GoesW p.tables e below s (Q0 Z p0 p1 p2 h0 n0) room_1.cells room_1.slots (s₁.setTop (mkF m 18 #[.val (.int p0), .val (.int p1), .val (.int p2), .val (.int q), .unset, .unset, .unset, .unset, .unset] [(.int nl)]))
  refine GoesW.step (fun _ k => XS.istore X0.here hx rfl (hb hby at_18) rfl (l' := #[.val (.int p0), .val (.int p1), .val (.int p2), .val (.int q), .val (.int nl), .unset, .unset, .unset, .unset]) rfl k) ?_
  show GoesW p.tables e below s (Q0 Z p0 p1 p2 h0 n0) room_1.cells room_1.slots (s₁.setTop (mkF m 20 #[.val (.int p0), .val (.int p1), .val (.int p2), .val (.int q), .val (.int nl), .unset, .unset, .unset, .unset] []))
  refine GoesW.step (fun _ k => XS.iloadN X0.here hx rfl (hb hby at_20) rfl k) ?_
  show GoesW p.tables e below s (Q0 Z p0 p1 p2 h0 n0) room_1.cells room_1.slots (s₁.setTop (mkF m 21 #[.val (.int p0), .val (.int p1), .val (.int p2), .val (.int q), .val (.int nl), .unset, .unset, .unset, .unset] [(.int p1)]))
  refine GoesW.step (fun _ k => XS.iconst X0.here hx rfl (hb hby at_21) k) ?_
  show GoesW p.tables e below s (Q0 Z p0 p1 p2 h0 n0) room_1.cells room_1.slots (s₁.setTop (mkF m 22 #[.val (.int p0), .val (.int p1), .val (.int p2), .val (.int q), .val (.int nl), .unset, .unset, .unset, .unset] [(.int (2 : Int32)), (.int p1)]))
  refine GoesW.step (fun _ k => XS.iand X0.here hx rfl (hb hby at_22) rfl k) ?_
  show GoesW p.tables e below s (Q0 Z p0 p1 p2 h0 n0) room_1.cells room_1.slots (s₁.setTop (mkF m 23 #[.val (.int p0), .val (.int p1), .val (.int p2), .val (.int q), .val (.int nl), .unset, .unset, .unset, .unset] [(.int (p1 &&& (2 : Int32)))]))
  refine GoesW.step (fun _ k => diam0 X0.here hx rfl (pc0 := 23) rfl (hb hby at_23) rfl (hb hby at_26) (hb hby at_27) (hb hby at_30) k) ?_
  show GoesW p.tables e below s (Q0 Z p0 p1 p2 h0 n0) room_1.cells room_1.slots (s₁.setTop (mkF m 31 #[.val (.int p0), .val (.int p1), .val (.int p2), .val (.int q), .val (.int nl), .unset, .unset, .unset, .unset] [(.int (nb (ifCond.holds .eq (p1 &&& (2 : Int32)))))]))
  generalize hrp : (nb (ifCond.holds .eq (p1 &&& (2 : Int32)))) = rp
  show GoesW p.tables e below s (Q0 Z p0 p1 p2 h0 n0) room_1.cells room_1.slots (s₁.setTop (mkF m 31 #[.val (.int p0), .val (.int p1), .val (.int p2), .val (.int q), .val (.int nl), .unset, .unset, .unset, .unset] [(.int rp)]))
  refine GoesW.step (fun _ k => XS.istore X0.here hx rfl (hb hby at_31) rfl (l' := #[.val (.int p0), .val (.int p1), .val (.int p2), .val (.int q), .val (.int nl), .val (.int rp), .unset, .unset, .unset]) rfl k) ?_
  show GoesW p.tables e below s (Q0 Z p0 p1 p2 h0 n0) room_1.cells room_1.slots (s₁.setTop (mkF m 33 #[.val (.int p0), .val (.int p1), .val (.int p2), .val (.int q), .val (.int nl), .val (.int rp), .unset, .unset, .unset] []))
  refine GoesW.step (fun _ k => XS.iloadN X0.here hx rfl (hb hby at_33) rfl k) ?_
  show GoesW p.tables e below s (Q0 Z p0 p1 p2 h0 n0) room_1.cells room_1.slots (s₁.setTop (mkF m 34 #[.val (.int p0), .val (.int p1), .val (.int p2), .val (.int q), .val (.int nl), .val (.int rp), .unset, .unset, .unset] [(.int p2)]))
  refine GoesW.step (fun _ k => X0.ldcInt hx hown (mvT hZ (hw _ (List.mem_of_getElem? (i := 0) rfl))) (g := (mkF m 34 #[.val (.int p0), .val (.int p1), .val (.int p2), .val (.int q), .val (.int nl), .val (.int rp), .unset, .unset, .unset] [(.int p2)])) rfl (hb hby at_34) _ k) ?_
  show GoesW p.tables e below s (Q0 Z p0 p1 p2 h0 n0) room_1.cells room_1.slots (s₁.setTop (mkF m 36 #[.val (.int p0), .val (.int p1), .val (.int p2), .val (.int q), .val (.int nl), .val (.int rp), .unset, .unset, .unset] [(.int (2147483647 : Int32)), (.int p2)]))
  refine GoesW.step (fun _ k => XS.iand X0.here hx rfl (hb hby at_36) rfl k) ?_
  show GoesW p.tables e below s (Q0 Z p0 p1 p2 h0 n0) room_1.cells room_1.slots (s₁.setTop (mkF m 37 #[.val (.int p0), .val (.int p1), .val (.int p2), .val (.int q), .val (.int nl), .val (.int rp), .unset, .unset, .unset] [(.int (p2 &&& (2147483647 : Int32)))]))
  refine GoesW.step (fun _ k => XS.iconst X0.here hx rfl (hb hby at_37) k) ?_
  show GoesW p.tables e below s (Q0 Z p0 p1 p2 h0 n0) room_1.cells room_1.slots (s₁.setTop (mkF m 38 #[.val (.int p0), .val (.int p1), .val (.int p2), .val (.int q), .val (.int nl), .val (.int rp), .unset, .unset, .unset] [(.int (3 : Int32)), (.int (p2 &&& (2147483647 : Int32)))]))
  refine GoesW.step (fun _ k => iremM X0 hx rfl (hb hby at_38) rfl (by decide) k) ?_
  show GoesW p.tables e below s (Q0 Z p0 p1 p2 h0 n0) room_1.cells room_1.slots (s₁.setTop (mkF m 39 #[.val (.int p0), .val (.int p1), .val (.int p2), .val (.int q), .val (.int nl), .val (.int rp), .unset, .unset, .unset] [(.int ((p2 &&& (2147483647 : Int32)) % (3 : Int32)))]))
  generalize hrh : ((p2 &&& (2147483647 : Int32)) % (3 : Int32)) = rh
  show GoesW p.tables e below s (Q0 Z p0 p1 p2 h0 n0) room_1.cells room_1.slots (s₁.setTop (mkF m 39 #[.val (.int p0), .val (.int p1), .val (.int p2), .val (.int q), .val (.int nl), .val (.int rp), .unset, .unset, .unset] [(.int rh)]))
  have hr3 : rh = 0 ∨ rh = 1 ∨ rh = 2 := own_i3 rh (by rw [← hrh]; exact own_mod p2 3 (by decide))
  refine GoesW.step (fun _ k => XS.istore X0.here hx rfl (hb hby at_39) rfl (l' := #[.val (.int p0), .val (.int p1), .val (.int p2), .val (.int q), .val (.int nl), .val (.int rp), .val (.int rh), .unset, .unset]) rfl k) ?_
  show GoesW p.tables e below s (Q0 Z p0 p1 p2 h0 n0) room_1.cells room_1.slots (s₁.setTop (mkF m 41 #[.val (.int p0), .val (.int p1), .val (.int p2), .val (.int q), .val (.int nl), .val (.int rp), .val (.int rh), .unset, .unset] []))
  obtain ⟨T1, h1, X1, e1, E1, A1, D1, -, st1⟩ := newO X0 hx hZ hown (hw _ (List.mem_of_getElem? (i := 1) rfl)) (hw _ (List.mem_of_getElem? (i := 2) rfl)) (hw _ (List.mem_of_getElem? (i := 3) rfl)) e0 (g := (mkF m 41 #[.val (.int p0), .val (.int p1), .val (.int p2), .val (.int q), .val (.int nl), .val (.int rp), .val (.int rh), .unset, .unset] [])) rfl (hb hby at_41) (by decide) (by decide)
  obtain ⟨b1, gs1⟩ : ∃ z, z = h0.size := ⟨_, rfl⟩
  rw [← gs1] at A1 D1 st1
  have g_b1 : n0 ≤ b1 := Nat.le_trans Z0 (Nat.le_of_eq gs1.symm)
  have Z1 : n0 ≤ h1.size := Nat.le_trans Z0 E1.1
  have F_qos_b1 : Fld Z h1 b1 "com/example/varuna/varuna/broker/wire/SubscriptionOptions" "qos" "I" (.int (0 : Int32)) := D1 (Or.inr (hw _ (List.mem_of_getElem? (i := 16) rfl))) (ty := .int) (by decide)
  have F_noLocal_b1 : Fld Z h1 b1 "com/example/varuna/varuna/broker/wire/SubscriptionOptions" "noLocal" "Z" (.int (0 : Int32)) := D1 (Or.inr (hw _ (List.mem_of_getElem? (i := 18) rfl))) (ty := .boolean) (by decide)
  have F_retainAsPublished_b1 : Fld Z h1 b1 "com/example/varuna/varuna/broker/wire/SubscriptionOptions" "retainAsPublished" "Z" (.int (0 : Int32)) := D1 (Or.inr (hw _ (List.mem_of_getElem? (i := 20) rfl))) (ty := .boolean) (by decide)
  have F_retainHandling_b1 : Fld Z h1 b1 "com/example/varuna/varuna/broker/wire/SubscriptionOptions" "retainHandling" "I" (.int (0 : Int32)) := D1 (Or.inr (hw _ (List.mem_of_getElem? (i := 22) rfl))) (ty := .int) (by decide)
  refine GoesW.step st1 ?_
  show GoesW p.tables e below s (Q0 Z p0 p1 p2 h0 n0) room_1.cells room_1.slots (T1.setTop (mkF m 44 #[.val (.int p0), .val (.int p1), .val (.int p2), .val (.int q), .val (.int nl), .val (.int rp), .val (.int rh), .unset, .unset] [(.ref b1)]))
  refine GoesW.step (fun _ k => XS.dup X1.here hx rfl (hb hby at_44) rfl rfl k) ?_
  show GoesW p.tables e below s (Q0 Z p0 p1 p2 h0 n0) room_1.cells room_1.slots (T1.setTop (mkF m 45 #[.val (.int p0), .val (.int p1), .val (.int p2), .val (.int q), .val (.int nl), .val (.int rp), .val (.int rh), .unset, .unset] [(.ref b1), (.ref b1)]))
  refine GoesW.step (fun _ k => XS.iloadN X1.here hx rfl (hb hby at_45) rfl k) ?_
  show GoesW p.tables e below s (Q0 Z p0 p1 p2 h0 n0) room_1.cells room_1.slots (T1.setTop (mkF m 46 #[.val (.int p0), .val (.int p1), .val (.int p2), .val (.int q), .val (.int nl), .val (.int rp), .val (.int rh), .unset, .unset] [(.int q), (.ref b1), (.ref b1)]))
  refine GoesW.step (fun _ k => XS.iload X1.here hx rfl (hb hby at_46) rfl k) ?_
  show GoesW p.tables e below s (Q0 Z p0 p1 p2 h0 n0) room_1.cells room_1.slots (T1.setTop (mkF m 48 #[.val (.int p0), .val (.int p1), .val (.int p2), .val (.int q), .val (.int nl), .val (.int rp), .val (.int rh), .unset, .unset] [(.int nl), (.int q), (.ref b1), (.ref b1)]))
  refine GoesW.step (fun _ k => XS.iload X1.here hx rfl (hb hby at_48) rfl k) ?_
  show GoesW p.tables e below s (Q0 Z p0 p1 p2 h0 n0) room_1.cells room_1.slots (T1.setTop (mkF m 50 #[.val (.int p0), .val (.int p1), .val (.int p2), .val (.int q), .val (.int nl), .val (.int rp), .val (.int rh), .unset, .unset] [(.int rp), (.int nl), (.int q), (.ref b1), (.ref b1)]))
  refine GoesW.step (fun _ k => XS.iload X1.here hx rfl (hb hby at_50) rfl k) ?_
  show GoesW p.tables e below s (Q0 Z p0 p1 p2 h0 n0) room_1.cells room_1.slots (T1.setTop (mkF m 52 #[.val (.int p0), .val (.int p1), .val (.int p2), .val (.int q), .val (.int nl), .val (.int rp), .val (.int rh), .unset, .unset] [(.int rh), (.int rp), (.int nl), (.int q), (.ref b1), (.ref b1)]))
  obtain ⟨_, _, ⟨T2, L2, k2, n2⟩, -, X2, ⟨Lc2, hQ2, l2, y2, z2⟩, st2⟩ := X1.specialBack hx (y := (⟨"com/example/varuna/varuna/broker/wire/SubscriptionOptions", "<init>", "(IZZI)V"⟩ : MethodName)) rfl hown (mvT hZ (hw _ (List.mem_of_getElem? (i := 4) rfl))) (mvT hZ (hw _ (List.mem_of_getElem? (i := 5) rfl))) (mvT hZ (hw _ (List.mem_of_getElem? (i := 6) rfl))) (by decide) (backOf (W := 1) (rm1 l Z a0 hw [] b1 q nl rp rh  h1 n0 Z1 A1 g_b1 (by rw [← hnl]; exact nar_nb _) (by rw [← hnl]; exact fits_nb _) (by rw [← hrp]; exact nar_nb _) (by rw [← hrp]; exact fits_nb _) F_qos_b1 F_noLocal_b1 F_retainAsPublished_b1 F_retainHandling_b1) hZ (hw _ (List.mem_of_getElem? (i := 6) rfl)) (hw _ (List.mem_of_getElem? (i := 3) rfl)) (by decide) (by decide)) (g := (mkF m 52 #[.val (.int p0), .val (.int p1), .val (.int p2), .val (.int q), .val (.int nl), .val (.int rp), .val (.int rh), .unset, .unset] [(.int rh), (.int rp), (.int nl), (.int q), (.ref b1), (.ref b1)])) rfl (by rw [hml]; rfl) (Steps.refl _) (a := b1) (argsL := [(.int q), (.int nl), (.int rp), (.int rh)]) (rest := [(.ref b1)]) (lenOf own_pd1 rfl) rfl (by show 2 * 0 + _ ≤ _; exact Nat.le_of_eq rfl) (hb hby at_52) (fun _ _ => ⟨rfl, e1, (by decide : 1 + 0 ≤ _), (by decide : 4 + 0 ≤ _)⟩)
  dsimp only [Pt.U, Pt.locs, Pt.cells, Pt.slots] at X2 l2 y2 z2 st2 hQ2
  subst l2 y2 z2
  obtain ⟨rfl, N2q, K2q, Fa2, Fb2, Fc2, Fd2⟩ := hQ2
  have N2 := Fr.app N0 N2q
  have Z2 : n0 ≤ T2.heap.size := Nat.le_trans Z1 K2q.1
  refine GoesW.step (fun _ k => st2.trans k) ?_
  show GoesW p.tables e below s (Q0 Z p0 p1 p2 h0 n0) room_1.cells room_1.slots (T2.setTop (mkF m 55 #[.val (.int p0), .val (.int p1), .val (.int p2), .val (.int q), .val (.int nl), .val (.int rp), .val (.int rh), .unset, .unset] [(.ref b1)]))
  refine GoesW.step (fun _ k => XS.astore X2.here hx rfl (hb hby at_55) rfl rfl (l' := #[.val (.int p0), .val (.int p1), .val (.int p2), .val (.int q), .val (.int nl), .val (.int rp), .val (.int rh), .val (.ref b1), .unset]) rfl k) ?_
  show GoesW p.tables e below s (Q0 Z p0 p1 p2 h0 n0) room_1.cells room_1.slots (T2.setTop (mkF m 57 #[.val (.int p0), .val (.int p1), .val (.int p2), .val (.int q), .val (.int nl), .val (.int rp), .val (.int rh), .val (.ref b1), .unset] []))
  refine GoesW.step (fun _ k => XS.iloadN X2.here hx rfl (hb hby at_57) rfl k) ?_
  show GoesW p.tables e below s (Q0 Z p0 p1 p2 h0 n0) room_1.cells room_1.slots (T2.setTop (mkF m 58 #[.val (.int p0), .val (.int p1), .val (.int p2), .val (.int q), .val (.int nl), .val (.int rp), .val (.int rh), .val (.ref b1), .unset] [(.int q)]))
  refine GoesW.step (fun _ k => XS.iload X2.here hx rfl (hb hby at_58) rfl k) ?_
  show GoesW p.tables e below s (Q0 Z p0 p1 p2 h0 n0) room_1.cells room_1.slots (T2.setTop (mkF m 60 #[.val (.int p0), .val (.int p1), .val (.int p2), .val (.int q), .val (.int nl), .val (.int rp), .val (.int rh), .val (.ref b1), .unset] [(.int nl), (.int q)]))
  by_cases h60 : nl = (0 : Int32)
  · skip
    refine GoesW.step (fun _ k => XS.ifYes X2.here hx rfl (pc0 := 60) (pc' := 67) rfl (hb hby at_60) rfl ((if0 _ _).trans (teq h60).1) (by decide) (by decide) k) ?_
    show GoesW p.tables e below s (Q0 Z p0 p1 p2 h0 n0) room_1.cells room_1.slots (T2.setTop (mkF m 67 #[.val (.int p0), .val (.int p1), .val (.int p2), .val (.int q), .val (.int nl), .val (.int rp), .val (.int rh), .val (.ref b1), .unset] [(.int q)]))
    refine GoesW.step (fun _ k => XS.iconst X2.here hx rfl (hb hby at_67) k) ?_
    show GoesW p.tables e below s (Q0 Z p0 p1 p2 h0 n0) room_1.cells room_1.slots (T2.setTop (mkF m 68 #[.val (.int p0), .val (.int p1), .val (.int p2), .val (.int q), .val (.int nl), .val (.int rp), .val (.int rh), .val (.ref b1), .unset] [(.int (0 : Int32)), (.int q)]))
    refine GoesW.step (fun _ k => XS.iadd X2.here hx rfl (hb hby at_68) rfl k) ?_
    show GoesW p.tables e below s (Q0 Z p0 p1 p2 h0 n0) room_1.cells room_1.slots (T2.setTop (mkF m 69 #[.val (.int p0), .val (.int p1), .val (.int p2), .val (.int q), .val (.int nl), .val (.int rp), .val (.int rh), .val (.ref b1), .unset] [(.int (q + (0 : Int32)))]))
    refine GoesW.step (fun _ k => XS.iload X2.here hx rfl (hb hby at_69) rfl k) ?_
    show GoesW p.tables e below s (Q0 Z p0 p1 p2 h0 n0) room_1.cells room_1.slots (T2.setTop (mkF m 71 #[.val (.int p0), .val (.int p1), .val (.int p2), .val (.int q), .val (.int nl), .val (.int rp), .val (.int rh), .val (.ref b1), .unset] [(.int rp), (.int (q + (0 : Int32)))]))
    by_cases h71 : rp = (0 : Int32)
    · skip
      refine GoesW.step (fun _ k => XS.ifYes X2.here hx rfl (pc0 := 71) (pc' := 79) rfl (hb hby at_71) rfl ((if0 _ _).trans (teq h71).1) (by decide) (by decide) k) ?_
      show GoesW p.tables e below s (Q0 Z p0 p1 p2 h0 n0) room_1.cells room_1.slots (T2.setTop (mkF m 79 #[.val (.int p0), .val (.int p1), .val (.int p2), .val (.int q), .val (.int nl), .val (.int rp), .val (.int rh), .val (.ref b1), .unset] [(.int (q + (0 : Int32)))]))
      refine GoesW.step (fun _ k => XS.iconst X2.here hx rfl (hb hby at_79) k) ?_
      show GoesW p.tables e below s (Q0 Z p0 p1 p2 h0 n0) room_1.cells room_1.slots (T2.setTop (mkF m 80 #[.val (.int p0), .val (.int p1), .val (.int p2), .val (.int q), .val (.int nl), .val (.int rp), .val (.int rh), .val (.ref b1), .unset] [(.int (0 : Int32)), (.int (q + (0 : Int32)))]))
      refine GoesW.step (fun _ k => XS.iadd X2.here hx rfl (hb hby at_80) rfl k) ?_
      show GoesW p.tables e below s (Q0 Z p0 p1 p2 h0 n0) room_1.cells room_1.slots (T2.setTop (mkF m 81 #[.val (.int p0), .val (.int p1), .val (.int p2), .val (.int q), .val (.int nl), .val (.int rp), .val (.int rh), .val (.ref b1), .unset] [(.int ((q + (0 : Int32)) + (0 : Int32)))]))
      refine GoesW.step (fun _ k => XS.bipush X2.here hx rfl (hb hby at_81) k) ?_
      show GoesW p.tables e below s (Q0 Z p0 p1 p2 h0 n0) room_1.cells room_1.slots (T2.setTop (mkF m 83 #[.val (.int p0), .val (.int p1), .val (.int p2), .val (.int q), .val (.int nl), .val (.int rp), .val (.int rh), .val (.ref b1), .unset] [(.int (16 : Int32)), (.int ((q + (0 : Int32)) + (0 : Int32)))]))
      refine GoesW.step (fun _ k => XS.iload X2.here hx rfl (hb hby at_83) rfl k) ?_
      show GoesW p.tables e below s (Q0 Z p0 p1 p2 h0 n0) room_1.cells room_1.slots (T2.setTop (mkF m 85 #[.val (.int p0), .val (.int p1), .val (.int p2), .val (.int q), .val (.int nl), .val (.int rp), .val (.int rh), .val (.ref b1), .unset] [(.int rh), (.int (16 : Int32)), (.int ((q + (0 : Int32)) + (0 : Int32)))]))
      refine GoesW.step (fun _ k => XS.imul X2.here hx rfl (hb hby at_85) rfl k) ?_
      show GoesW p.tables e below s (Q0 Z p0 p1 p2 h0 n0) room_1.cells room_1.slots (T2.setTop (mkF m 86 #[.val (.int p0), .val (.int p1), .val (.int p2), .val (.int q), .val (.int nl), .val (.int rp), .val (.int rh), .val (.ref b1), .unset] [(.int ((16 : Int32) * rh)), (.int ((q + (0 : Int32)) + (0 : Int32)))]))
      refine GoesW.step (fun _ k => XS.iadd X2.here hx rfl (hb hby at_86) rfl k) ?_
      show GoesW p.tables e below s (Q0 Z p0 p1 p2 h0 n0) room_1.cells room_1.slots (T2.setTop (mkF m 87 #[.val (.int p0), .val (.int p1), .val (.int p2), .val (.int q), .val (.int nl), .val (.int rp), .val (.int rh), .val (.ref b1), .unset] [(.int (((q + (0 : Int32)) + (0 : Int32)) + ((16 : Int32) * rh)))]))
      refine GoesW.step (fun _ k => XS.istore X2.here hx rfl (hb hby at_87) rfl (l' := #[.val (.int p0), .val (.int p1), .val (.int p2), .val (.int q), .val (.int nl), .val (.int rp), .val (.int rh), .val (.ref b1), .val (.int (((q + (0 : Int32)) + (0 : Int32)) + ((16 : Int32) * rh)))]) rfl k) ?_
      show GoesW p.tables e below s (Q0 Z p0 p1 p2 h0 n0) room_1.cells room_1.slots (T2.setTop (mkF m 89 #[.val (.int p0), .val (.int p1), .val (.int p2), .val (.int q), .val (.int nl), .val (.int rp), .val (.int rh), .val (.ref b1), .val (.int (((q + (0 : Int32)) + (0 : Int32)) + ((16 : Int32) * rh)))] []))
      refine GoesW.step (fun _ k => XS.aload X2.here hx rfl (hb hby at_89) rfl rfl k) ?_
      show GoesW p.tables e below s (Q0 Z p0 p1 p2 h0 n0) room_1.cells room_1.slots (T2.setTop (mkF m 91 #[.val (.int p0), .val (.int p1), .val (.int p2), .val (.int q), .val (.int nl), .val (.int rp), .val (.int rh), .val (.ref b1), .val (.int (((q + (0 : Int32)) + (0 : Int32)) + ((16 : Int32) * rh)))] [(.ref b1)]))
      have Exa_b1_4 := (A1.keep K2q)
      obtain ⟨cq3, kq3, q3a, q3b, q3c⟩ := isOf hZ rfl Exa_b1_4
      obtain ⟨_, _, ⟨T3, L3, k3, n3⟩, -, X3, ⟨Lc3, hQ3, l3, y3, z3⟩, st3⟩ := X2.virtualBack hx (y := (⟨"com/example/varuna/varuna/broker/wire/SubscriptionOptions", "toByte", "()I"⟩ : MethodName)) (z := (⟨"com/example/varuna/varuna/broker/wire/SubscriptionOptions", "toByte", "()I"⟩ : MethodName)) hown (mvT hZ (hw _ (List.mem_of_getElem? (i := 23) rfl))) (mvT hZ (hw _ (List.mem_of_getElem? (i := 24) rfl))) (notFace_of_selects (args := #[]) (mvT hZ (hw _ (List.mem_of_getElem? (i := 26) rfl)))) (mvT hZ (hw _ (List.mem_of_getElem? (i := 26) rfl))) (mvT hZ (hw _ (List.mem_of_getElem? (i := 25) rfl))) (by decide) (backOf (W := 0) (rm4 l Z a0 hw [] b1 q nl rp rh T2.heap n0 Z2 Fa2 Fb2 Fc2 Fd2) hZ (hw _ (List.mem_of_getElem? (i := 27) rfl)) (hw _ (List.mem_of_getElem? (i := 3) rfl)) (by decide) (by decide)) q3a q3c (g := (mkF m 91 #[.val (.int p0), .val (.int p1), .val (.int p2), .val (.int q), .val (.int nl), .val (.int rp), .val (.int rh), .val (.ref b1), .val (.int (((q + (0 : Int32)) + (0 : Int32)) + ((16 : Int32) * rh)))] [(.ref b1)])) rfl (by rw [hml]; rfl) (Steps.refl _) (argsL := []) (rest := []) (lenOf own_pd2 rfl) rfl (by show 2 * 0 + _ ≤ _; exact Nat.le_of_eq rfl) (hb hby at_91) (fun _ _ => ⟨rfl, rfl, (by decide : 1 + 0 ≤ _), (by decide : 4 + 0 ≤ _)⟩)
      dsimp only [Pt.U, Pt.locs, Pt.cells, Pt.slots] at X3 l3 y3 z3 st3 hQ3
      subst l3 y3 z3
      obtain ⟨rfl, N3q, eq3⟩ := hQ3
      have N3 := Fr.app N2 N3q
      refine GoesW.step (fun _ k => st3.trans k) ?_
      show GoesW p.tables e below s (Q0 Z p0 p1 p2 h0 n0) room_1.cells room_1.slots (T3.setTop (mkF m 94 #[.val (.int p0), .val (.int p1), .val (.int p2), .val (.int q), .val (.int nl), .val (.int rp), .val (.int rh), .val (.ref b1), .val (.int (((q + (0 : Int32)) + (0 : Int32)) + ((16 : Int32) * rh)))] [(.int (own_tb q nl rp rh))]))
      refine GoesW.step (fun _ k => XS.iload X3.here hx rfl (hb hby at_94) rfl k) ?_
      show GoesW p.tables e below s (Q0 Z p0 p1 p2 h0 n0) room_1.cells room_1.slots (T3.setTop (mkF m 96 #[.val (.int p0), .val (.int p1), .val (.int p2), .val (.int q), .val (.int nl), .val (.int rp), .val (.int rh), .val (.ref b1), .val (.int (((q + (0 : Int32)) + (0 : Int32)) + ((16 : Int32) * rh)))] [(.int (((q + (0 : Int32)) + (0 : Int32)) + ((16 : Int32) * rh))), (.int (own_tb q nl rp rh))]))
      refine GoesW.step (fun _ k => XS.icmpNo X3.here hx rfl (hb hby at_96) rfl (teq ((own_sum q nl rp rh hq3 hr3).trans (by rw [if_pos h60, if_pos h71]))).2 k) ?_
      show GoesW p.tables e below s (Q0 Z p0 p1 p2 h0 n0) room_1.cells room_1.slots (T3.setTop (mkF m 99 #[.val (.int p0), .val (.int p1), .val (.int p2), .val (.int q), .val (.int nl), .val (.int rp), .val (.int rh), .val (.ref b1), .val (.int (((q + (0 : Int32)) + (0 : Int32)) + ((16 : Int32) * rh)))] []))
      refine GoesW.step (fun _ k => XS.iconst X3.here hx rfl (hb hby at_99) k) ?_
      show GoesW p.tables e below s (Q0 Z p0 p1 p2 h0 n0) room_1.cells room_1.slots (T3.setTop (mkF m 100 #[.val (.int p0), .val (.int p1), .val (.int p2), .val (.int q), .val (.int nl), .val (.int rp), .val (.int rh), .val (.ref b1), .val (.int (((q + (0 : Int32)) + (0 : Int32)) + ((16 : Int32) * rh)))] [(.int (1 : Int32))]))
      refine GoesW.step (fun _ k => XS.goto X3.here hx rfl (pc0 := 100) (pc' := 104) rfl (hb hby at_100) (by decide) (by decide) k) ?_
      show GoesW p.tables e below s (Q0 Z p0 p1 p2 h0 n0) room_1.cells room_1.slots (T3.setTop (mkF m 104 #[.val (.int p0), .val (.int p1), .val (.int p2), .val (.int q), .val (.int nl), .val (.int rp), .val (.int rh), .val (.ref b1), .val (.int (((q + (0 : Int32)) + (0 : Int32)) + ((16 : Int32) * rh)))] [(.int (1 : Int32))]))
      exact GoesW.retZ X3 hx hlk (t := .boolean) Bd.returns (by simp) rfl (hb hby at_104) (by show Q0 Z p0 p1 p2 h0 n0 _ T3.heap _; rw [eq3]; exact ⟨rfl, N3⟩) (by decide) (by decide)
    · skip
      refine GoesW.step (fun _ k => XS.ifNo X2.here hx rfl (hb hby at_71) rfl ((if0 _ _).trans (feq h71).1) k) ?_
      show GoesW p.tables e below s (Q0 Z p0 p1 p2 h0 n0) room_1.cells room_1.slots (T2.setTop (mkF m 74 #[.val (.int p0), .val (.int p1), .val (.int p2), .val (.int q), .val (.int nl), .val (.int rp), .val (.int rh), .val (.ref b1), .unset] [(.int (q + (0 : Int32)))]))
      refine GoesW.step (fun _ k => XS.bipush X2.here hx rfl (hb hby at_74) k) ?_
      show GoesW p.tables e below s (Q0 Z p0 p1 p2 h0 n0) room_1.cells room_1.slots (T2.setTop (mkF m 76 #[.val (.int p0), .val (.int p1), .val (.int p2), .val (.int q), .val (.int nl), .val (.int rp), .val (.int rh), .val (.ref b1), .unset] [(.int (8 : Int32)), (.int (q + (0 : Int32)))]))
      refine GoesW.step (fun _ k => XS.goto X2.here hx rfl (pc0 := 76) (pc' := 80) rfl (hb hby at_76) (by decide) (by decide) k) ?_
      show GoesW p.tables e below s (Q0 Z p0 p1 p2 h0 n0) room_1.cells room_1.slots (T2.setTop (mkF m 80 #[.val (.int p0), .val (.int p1), .val (.int p2), .val (.int q), .val (.int nl), .val (.int rp), .val (.int rh), .val (.ref b1), .unset] [(.int (8 : Int32)), (.int (q + (0 : Int32)))]))
      refine GoesW.step (fun _ k => XS.iadd X2.here hx rfl (hb hby at_80) rfl k) ?_
      show GoesW p.tables e below s (Q0 Z p0 p1 p2 h0 n0) room_1.cells room_1.slots (T2.setTop (mkF m 81 #[.val (.int p0), .val (.int p1), .val (.int p2), .val (.int q), .val (.int nl), .val (.int rp), .val (.int rh), .val (.ref b1), .unset] [(.int ((q + (0 : Int32)) + (8 : Int32)))]))
      refine GoesW.step (fun _ k => XS.bipush X2.here hx rfl (hb hby at_81) k) ?_
      show GoesW p.tables e below s (Q0 Z p0 p1 p2 h0 n0) room_1.cells room_1.slots (T2.setTop (mkF m 83 #[.val (.int p0), .val (.int p1), .val (.int p2), .val (.int q), .val (.int nl), .val (.int rp), .val (.int rh), .val (.ref b1), .unset] [(.int (16 : Int32)), (.int ((q + (0 : Int32)) + (8 : Int32)))]))
      refine GoesW.step (fun _ k => XS.iload X2.here hx rfl (hb hby at_83) rfl k) ?_
      show GoesW p.tables e below s (Q0 Z p0 p1 p2 h0 n0) room_1.cells room_1.slots (T2.setTop (mkF m 85 #[.val (.int p0), .val (.int p1), .val (.int p2), .val (.int q), .val (.int nl), .val (.int rp), .val (.int rh), .val (.ref b1), .unset] [(.int rh), (.int (16 : Int32)), (.int ((q + (0 : Int32)) + (8 : Int32)))]))
      refine GoesW.step (fun _ k => XS.imul X2.here hx rfl (hb hby at_85) rfl k) ?_
      show GoesW p.tables e below s (Q0 Z p0 p1 p2 h0 n0) room_1.cells room_1.slots (T2.setTop (mkF m 86 #[.val (.int p0), .val (.int p1), .val (.int p2), .val (.int q), .val (.int nl), .val (.int rp), .val (.int rh), .val (.ref b1), .unset] [(.int ((16 : Int32) * rh)), (.int ((q + (0 : Int32)) + (8 : Int32)))]))
      refine GoesW.step (fun _ k => XS.iadd X2.here hx rfl (hb hby at_86) rfl k) ?_
      show GoesW p.tables e below s (Q0 Z p0 p1 p2 h0 n0) room_1.cells room_1.slots (T2.setTop (mkF m 87 #[.val (.int p0), .val (.int p1), .val (.int p2), .val (.int q), .val (.int nl), .val (.int rp), .val (.int rh), .val (.ref b1), .unset] [(.int (((q + (0 : Int32)) + (8 : Int32)) + ((16 : Int32) * rh)))]))
      refine GoesW.step (fun _ k => XS.istore X2.here hx rfl (hb hby at_87) rfl (l' := #[.val (.int p0), .val (.int p1), .val (.int p2), .val (.int q), .val (.int nl), .val (.int rp), .val (.int rh), .val (.ref b1), .val (.int (((q + (0 : Int32)) + (8 : Int32)) + ((16 : Int32) * rh)))]) rfl k) ?_
      show GoesW p.tables e below s (Q0 Z p0 p1 p2 h0 n0) room_1.cells room_1.slots (T2.setTop (mkF m 89 #[.val (.int p0), .val (.int p1), .val (.int p2), .val (.int q), .val (.int nl), .val (.int rp), .val (.int rh), .val (.ref b1), .val (.int (((q + (0 : Int32)) + (8 : Int32)) + ((16 : Int32) * rh)))] []))
      refine GoesW.step (fun _ k => XS.aload X2.here hx rfl (hb hby at_89) rfl rfl k) ?_
      show GoesW p.tables e below s (Q0 Z p0 p1 p2 h0 n0) room_1.cells room_1.slots (T2.setTop (mkF m 91 #[.val (.int p0), .val (.int p1), .val (.int p2), .val (.int q), .val (.int nl), .val (.int rp), .val (.int rh), .val (.ref b1), .val (.int (((q + (0 : Int32)) + (8 : Int32)) + ((16 : Int32) * rh)))] [(.ref b1)]))
      have Exa_b1_6 := (A1.keep K2q)
      obtain ⟨cq5, kq5, q5a, q5b, q5c⟩ := isOf hZ rfl Exa_b1_6
      obtain ⟨_, _, ⟨T5, L5, k5, n5⟩, -, X5, ⟨Lc5, hQ5, l5, y5, z5⟩, st5⟩ := X2.virtualBack hx (y := (⟨"com/example/varuna/varuna/broker/wire/SubscriptionOptions", "toByte", "()I"⟩ : MethodName)) (z := (⟨"com/example/varuna/varuna/broker/wire/SubscriptionOptions", "toByte", "()I"⟩ : MethodName)) hown (mvT hZ (hw _ (List.mem_of_getElem? (i := 23) rfl))) (mvT hZ (hw _ (List.mem_of_getElem? (i := 24) rfl))) (notFace_of_selects (args := #[]) (mvT hZ (hw _ (List.mem_of_getElem? (i := 26) rfl)))) (mvT hZ (hw _ (List.mem_of_getElem? (i := 26) rfl))) (mvT hZ (hw _ (List.mem_of_getElem? (i := 25) rfl))) (by decide) (backOf (W := 0) (rm4 l Z a0 hw [] b1 q nl rp rh T2.heap n0 Z2 Fa2 Fb2 Fc2 Fd2) hZ (hw _ (List.mem_of_getElem? (i := 27) rfl)) (hw _ (List.mem_of_getElem? (i := 3) rfl)) (by decide) (by decide)) q5a q5c (g := (mkF m 91 #[.val (.int p0), .val (.int p1), .val (.int p2), .val (.int q), .val (.int nl), .val (.int rp), .val (.int rh), .val (.ref b1), .val (.int (((q + (0 : Int32)) + (8 : Int32)) + ((16 : Int32) * rh)))] [(.ref b1)])) rfl (by rw [hml]; rfl) (Steps.refl _) (argsL := []) (rest := []) (lenOf own_pd2 rfl) rfl (by show 2 * 0 + _ ≤ _; exact Nat.le_of_eq rfl) (hb hby at_91) (fun _ _ => ⟨rfl, rfl, (by decide : 1 + 0 ≤ _), (by decide : 4 + 0 ≤ _)⟩)
      dsimp only [Pt.U, Pt.locs, Pt.cells, Pt.slots] at X5 l5 y5 z5 st5 hQ5
      subst l5 y5 z5
      obtain ⟨rfl, N5q, eq5⟩ := hQ5
      have N5 := Fr.app N2 N5q
      refine GoesW.step (fun _ k => st5.trans k) ?_
      show GoesW p.tables e below s (Q0 Z p0 p1 p2 h0 n0) room_1.cells room_1.slots (T5.setTop (mkF m 94 #[.val (.int p0), .val (.int p1), .val (.int p2), .val (.int q), .val (.int nl), .val (.int rp), .val (.int rh), .val (.ref b1), .val (.int (((q + (0 : Int32)) + (8 : Int32)) + ((16 : Int32) * rh)))] [(.int (own_tb q nl rp rh))]))
      refine GoesW.step (fun _ k => XS.iload X5.here hx rfl (hb hby at_94) rfl k) ?_
      show GoesW p.tables e below s (Q0 Z p0 p1 p2 h0 n0) room_1.cells room_1.slots (T5.setTop (mkF m 96 #[.val (.int p0), .val (.int p1), .val (.int p2), .val (.int q), .val (.int nl), .val (.int rp), .val (.int rh), .val (.ref b1), .val (.int (((q + (0 : Int32)) + (8 : Int32)) + ((16 : Int32) * rh)))] [(.int (((q + (0 : Int32)) + (8 : Int32)) + ((16 : Int32) * rh))), (.int (own_tb q nl rp rh))]))
      refine GoesW.step (fun _ k => XS.icmpNo X5.here hx rfl (hb hby at_96) rfl (teq ((own_sum q nl rp rh hq3 hr3).trans (by rw [if_pos h60, if_neg h71]))).2 k) ?_
      show GoesW p.tables e below s (Q0 Z p0 p1 p2 h0 n0) room_1.cells room_1.slots (T5.setTop (mkF m 99 #[.val (.int p0), .val (.int p1), .val (.int p2), .val (.int q), .val (.int nl), .val (.int rp), .val (.int rh), .val (.ref b1), .val (.int (((q + (0 : Int32)) + (8 : Int32)) + ((16 : Int32) * rh)))] []))
      refine GoesW.step (fun _ k => XS.iconst X5.here hx rfl (hb hby at_99) k) ?_
      show GoesW p.tables e below s (Q0 Z p0 p1 p2 h0 n0) room_1.cells room_1.slots (T5.setTop (mkF m 100 #[.val (.int p0), .val (.int p1), .val (.int p2), .val (.int q), .val (.int nl), .val (.int rp), .val (.int rh), .val (.ref b1), .val (.int (((q + (0 : Int32)) + (8 : Int32)) + ((16 : Int32) * rh)))] [(.int (1 : Int32))]))
      refine GoesW.step (fun _ k => XS.goto X5.here hx rfl (pc0 := 100) (pc' := 104) rfl (hb hby at_100) (by decide) (by decide) k) ?_
      show GoesW p.tables e below s (Q0 Z p0 p1 p2 h0 n0) room_1.cells room_1.slots (T5.setTop (mkF m 104 #[.val (.int p0), .val (.int p1), .val (.int p2), .val (.int q), .val (.int nl), .val (.int rp), .val (.int rh), .val (.ref b1), .val (.int (((q + (0 : Int32)) + (8 : Int32)) + ((16 : Int32) * rh)))] [(.int (1 : Int32))]))
      exact GoesW.retZ X5 hx hlk (t := .boolean) Bd.returns (by simp) rfl (hb hby at_104) (by show Q0 Z p0 p1 p2 h0 n0 _ T5.heap _; rw [eq5]; exact ⟨rfl, N5⟩) (by decide) (by decide)
  · skip
    refine GoesW.step (fun _ k => XS.ifNo X2.here hx rfl (hb hby at_60) rfl ((if0 _ _).trans (feq h60).1) k) ?_
    show GoesW p.tables e below s (Q0 Z p0 p1 p2 h0 n0) room_1.cells room_1.slots (T2.setTop (mkF m 63 #[.val (.int p0), .val (.int p1), .val (.int p2), .val (.int q), .val (.int nl), .val (.int rp), .val (.int rh), .val (.ref b1), .unset] [(.int q)]))
    refine GoesW.step (fun _ k => XS.iconst X2.here hx rfl (hb hby at_63) k) ?_
    show GoesW p.tables e below s (Q0 Z p0 p1 p2 h0 n0) room_1.cells room_1.slots (T2.setTop (mkF m 64 #[.val (.int p0), .val (.int p1), .val (.int p2), .val (.int q), .val (.int nl), .val (.int rp), .val (.int rh), .val (.ref b1), .unset] [(.int (4 : Int32)), (.int q)]))
    refine GoesW.step (fun _ k => XS.goto X2.here hx rfl (pc0 := 64) (pc' := 68) rfl (hb hby at_64) (by decide) (by decide) k) ?_
    show GoesW p.tables e below s (Q0 Z p0 p1 p2 h0 n0) room_1.cells room_1.slots (T2.setTop (mkF m 68 #[.val (.int p0), .val (.int p1), .val (.int p2), .val (.int q), .val (.int nl), .val (.int rp), .val (.int rh), .val (.ref b1), .unset] [(.int (4 : Int32)), (.int q)]))
    refine GoesW.step (fun _ k => XS.iadd X2.here hx rfl (hb hby at_68) rfl k) ?_
    show GoesW p.tables e below s (Q0 Z p0 p1 p2 h0 n0) room_1.cells room_1.slots (T2.setTop (mkF m 69 #[.val (.int p0), .val (.int p1), .val (.int p2), .val (.int q), .val (.int nl), .val (.int rp), .val (.int rh), .val (.ref b1), .unset] [(.int (q + (4 : Int32)))]))
    refine GoesW.step (fun _ k => XS.iload X2.here hx rfl (hb hby at_69) rfl k) ?_
    show GoesW p.tables e below s (Q0 Z p0 p1 p2 h0 n0) room_1.cells room_1.slots (T2.setTop (mkF m 71 #[.val (.int p0), .val (.int p1), .val (.int p2), .val (.int q), .val (.int nl), .val (.int rp), .val (.int rh), .val (.ref b1), .unset] [(.int rp), (.int (q + (4 : Int32)))]))
    by_cases h71 : rp = (0 : Int32)
    · skip
      refine GoesW.step (fun _ k => XS.ifYes X2.here hx rfl (pc0 := 71) (pc' := 79) rfl (hb hby at_71) rfl ((if0 _ _).trans (teq h71).1) (by decide) (by decide) k) ?_
      show GoesW p.tables e below s (Q0 Z p0 p1 p2 h0 n0) room_1.cells room_1.slots (T2.setTop (mkF m 79 #[.val (.int p0), .val (.int p1), .val (.int p2), .val (.int q), .val (.int nl), .val (.int rp), .val (.int rh), .val (.ref b1), .unset] [(.int (q + (4 : Int32)))]))
      refine GoesW.step (fun _ k => XS.iconst X2.here hx rfl (hb hby at_79) k) ?_
      show GoesW p.tables e below s (Q0 Z p0 p1 p2 h0 n0) room_1.cells room_1.slots (T2.setTop (mkF m 80 #[.val (.int p0), .val (.int p1), .val (.int p2), .val (.int q), .val (.int nl), .val (.int rp), .val (.int rh), .val (.ref b1), .unset] [(.int (0 : Int32)), (.int (q + (4 : Int32)))]))
      refine GoesW.step (fun _ k => XS.iadd X2.here hx rfl (hb hby at_80) rfl k) ?_
      show GoesW p.tables e below s (Q0 Z p0 p1 p2 h0 n0) room_1.cells room_1.slots (T2.setTop (mkF m 81 #[.val (.int p0), .val (.int p1), .val (.int p2), .val (.int q), .val (.int nl), .val (.int rp), .val (.int rh), .val (.ref b1), .unset] [(.int ((q + (4 : Int32)) + (0 : Int32)))]))
      refine GoesW.step (fun _ k => XS.bipush X2.here hx rfl (hb hby at_81) k) ?_
      show GoesW p.tables e below s (Q0 Z p0 p1 p2 h0 n0) room_1.cells room_1.slots (T2.setTop (mkF m 83 #[.val (.int p0), .val (.int p1), .val (.int p2), .val (.int q), .val (.int nl), .val (.int rp), .val (.int rh), .val (.ref b1), .unset] [(.int (16 : Int32)), (.int ((q + (4 : Int32)) + (0 : Int32)))]))
      refine GoesW.step (fun _ k => XS.iload X2.here hx rfl (hb hby at_83) rfl k) ?_
      show GoesW p.tables e below s (Q0 Z p0 p1 p2 h0 n0) room_1.cells room_1.slots (T2.setTop (mkF m 85 #[.val (.int p0), .val (.int p1), .val (.int p2), .val (.int q), .val (.int nl), .val (.int rp), .val (.int rh), .val (.ref b1), .unset] [(.int rh), (.int (16 : Int32)), (.int ((q + (4 : Int32)) + (0 : Int32)))]))
      refine GoesW.step (fun _ k => XS.imul X2.here hx rfl (hb hby at_85) rfl k) ?_
      show GoesW p.tables e below s (Q0 Z p0 p1 p2 h0 n0) room_1.cells room_1.slots (T2.setTop (mkF m 86 #[.val (.int p0), .val (.int p1), .val (.int p2), .val (.int q), .val (.int nl), .val (.int rp), .val (.int rh), .val (.ref b1), .unset] [(.int ((16 : Int32) * rh)), (.int ((q + (4 : Int32)) + (0 : Int32)))]))
      refine GoesW.step (fun _ k => XS.iadd X2.here hx rfl (hb hby at_86) rfl k) ?_
      show GoesW p.tables e below s (Q0 Z p0 p1 p2 h0 n0) room_1.cells room_1.slots (T2.setTop (mkF m 87 #[.val (.int p0), .val (.int p1), .val (.int p2), .val (.int q), .val (.int nl), .val (.int rp), .val (.int rh), .val (.ref b1), .unset] [(.int (((q + (4 : Int32)) + (0 : Int32)) + ((16 : Int32) * rh)))]))
      refine GoesW.step (fun _ k => XS.istore X2.here hx rfl (hb hby at_87) rfl (l' := #[.val (.int p0), .val (.int p1), .val (.int p2), .val (.int q), .val (.int nl), .val (.int rp), .val (.int rh), .val (.ref b1), .val (.int (((q + (4 : Int32)) + (0 : Int32)) + ((16 : Int32) * rh)))]) rfl k) ?_
      show GoesW p.tables e below s (Q0 Z p0 p1 p2 h0 n0) room_1.cells room_1.slots (T2.setTop (mkF m 89 #[.val (.int p0), .val (.int p1), .val (.int p2), .val (.int q), .val (.int nl), .val (.int rp), .val (.int rh), .val (.ref b1), .val (.int (((q + (4 : Int32)) + (0 : Int32)) + ((16 : Int32) * rh)))] []))
      refine GoesW.step (fun _ k => XS.aload X2.here hx rfl (hb hby at_89) rfl rfl k) ?_
      show GoesW p.tables e below s (Q0 Z p0 p1 p2 h0 n0) room_1.cells room_1.slots (T2.setTop (mkF m 91 #[.val (.int p0), .val (.int p1), .val (.int p2), .val (.int q), .val (.int nl), .val (.int rp), .val (.int rh), .val (.ref b1), .val (.int (((q + (4 : Int32)) + (0 : Int32)) + ((16 : Int32) * rh)))] [(.ref b1)]))
      have Exa_b1_8 := (A1.keep K2q)
      obtain ⟨cq7, kq7, q7a, q7b, q7c⟩ := isOf hZ rfl Exa_b1_8
      obtain ⟨_, _, ⟨T7, L7, k7, n7⟩, -, X7, ⟨Lc7, hQ7, l7, y7, z7⟩, st7⟩ := X2.virtualBack hx (y := (⟨"com/example/varuna/varuna/broker/wire/SubscriptionOptions", "toByte", "()I"⟩ : MethodName)) (z := (⟨"com/example/varuna/varuna/broker/wire/SubscriptionOptions", "toByte", "()I"⟩ : MethodName)) hown (mvT hZ (hw _ (List.mem_of_getElem? (i := 23) rfl))) (mvT hZ (hw _ (List.mem_of_getElem? (i := 24) rfl))) (notFace_of_selects (args := #[]) (mvT hZ (hw _ (List.mem_of_getElem? (i := 26) rfl)))) (mvT hZ (hw _ (List.mem_of_getElem? (i := 26) rfl))) (mvT hZ (hw _ (List.mem_of_getElem? (i := 25) rfl))) (by decide) (backOf (W := 0) (rm4 l Z a0 hw [] b1 q nl rp rh T2.heap n0 Z2 Fa2 Fb2 Fc2 Fd2) hZ (hw _ (List.mem_of_getElem? (i := 27) rfl)) (hw _ (List.mem_of_getElem? (i := 3) rfl)) (by decide) (by decide)) q7a q7c (g := (mkF m 91 #[.val (.int p0), .val (.int p1), .val (.int p2), .val (.int q), .val (.int nl), .val (.int rp), .val (.int rh), .val (.ref b1), .val (.int (((q + (4 : Int32)) + (0 : Int32)) + ((16 : Int32) * rh)))] [(.ref b1)])) rfl (by rw [hml]; rfl) (Steps.refl _) (argsL := []) (rest := []) (lenOf own_pd2 rfl) rfl (by show 2 * 0 + _ ≤ _; exact Nat.le_of_eq rfl) (hb hby at_91) (fun _ _ => ⟨rfl, rfl, (by decide : 1 + 0 ≤ _), (by decide : 4 + 0 ≤ _)⟩)
      dsimp only [Pt.U, Pt.locs, Pt.cells, Pt.slots] at X7 l7 y7 z7 st7 hQ7
      subst l7 y7 z7
      obtain ⟨rfl, N7q, eq7⟩ := hQ7
      have N7 := Fr.app N2 N7q
      refine GoesW.step (fun _ k => st7.trans k) ?_
      show GoesW p.tables e below s (Q0 Z p0 p1 p2 h0 n0) room_1.cells room_1.slots (T7.setTop (mkF m 94 #[.val (.int p0), .val (.int p1), .val (.int p2), .val (.int q), .val (.int nl), .val (.int rp), .val (.int rh), .val (.ref b1), .val (.int (((q + (4 : Int32)) + (0 : Int32)) + ((16 : Int32) * rh)))] [(.int (own_tb q nl rp rh))]))
      refine GoesW.step (fun _ k => XS.iload X7.here hx rfl (hb hby at_94) rfl k) ?_
      show GoesW p.tables e below s (Q0 Z p0 p1 p2 h0 n0) room_1.cells room_1.slots (T7.setTop (mkF m 96 #[.val (.int p0), .val (.int p1), .val (.int p2), .val (.int q), .val (.int nl), .val (.int rp), .val (.int rh), .val (.ref b1), .val (.int (((q + (4 : Int32)) + (0 : Int32)) + ((16 : Int32) * rh)))] [(.int (((q + (4 : Int32)) + (0 : Int32)) + ((16 : Int32) * rh))), (.int (own_tb q nl rp rh))]))
      refine GoesW.step (fun _ k => XS.icmpNo X7.here hx rfl (hb hby at_96) rfl (teq ((own_sum q nl rp rh hq3 hr3).trans (by rw [if_neg h60, if_pos h71]))).2 k) ?_
      show GoesW p.tables e below s (Q0 Z p0 p1 p2 h0 n0) room_1.cells room_1.slots (T7.setTop (mkF m 99 #[.val (.int p0), .val (.int p1), .val (.int p2), .val (.int q), .val (.int nl), .val (.int rp), .val (.int rh), .val (.ref b1), .val (.int (((q + (4 : Int32)) + (0 : Int32)) + ((16 : Int32) * rh)))] []))
      refine GoesW.step (fun _ k => XS.iconst X7.here hx rfl (hb hby at_99) k) ?_
      show GoesW p.tables e below s (Q0 Z p0 p1 p2 h0 n0) room_1.cells room_1.slots (T7.setTop (mkF m 100 #[.val (.int p0), .val (.int p1), .val (.int p2), .val (.int q), .val (.int nl), .val (.int rp), .val (.int rh), .val (.ref b1), .val (.int (((q + (4 : Int32)) + (0 : Int32)) + ((16 : Int32) * rh)))] [(.int (1 : Int32))]))
      refine GoesW.step (fun _ k => XS.goto X7.here hx rfl (pc0 := 100) (pc' := 104) rfl (hb hby at_100) (by decide) (by decide) k) ?_
      show GoesW p.tables e below s (Q0 Z p0 p1 p2 h0 n0) room_1.cells room_1.slots (T7.setTop (mkF m 104 #[.val (.int p0), .val (.int p1), .val (.int p2), .val (.int q), .val (.int nl), .val (.int rp), .val (.int rh), .val (.ref b1), .val (.int (((q + (4 : Int32)) + (0 : Int32)) + ((16 : Int32) * rh)))] [(.int (1 : Int32))]))
      exact GoesW.retZ X7 hx hlk (t := .boolean) Bd.returns (by simp) rfl (hb hby at_104) (by show Q0 Z p0 p1 p2 h0 n0 _ T7.heap _; rw [eq7]; exact ⟨rfl, N7⟩) (by decide) (by decide)
    · skip
      refine GoesW.step (fun _ k => XS.ifNo X2.here hx rfl (hb hby at_71) rfl ((if0 _ _).trans (feq h71).1) k) ?_
      show GoesW p.tables e below s (Q0 Z p0 p1 p2 h0 n0) room_1.cells room_1.slots (T2.setTop (mkF m 74 #[.val (.int p0), .val (.int p1), .val (.int p2), .val (.int q), .val (.int nl), .val (.int rp), .val (.int rh), .val (.ref b1), .unset] [(.int (q + (4 : Int32)))]))
      refine GoesW.step (fun _ k => XS.bipush X2.here hx rfl (hb hby at_74) k) ?_
      show GoesW p.tables e below s (Q0 Z p0 p1 p2 h0 n0) room_1.cells room_1.slots (T2.setTop (mkF m 76 #[.val (.int p0), .val (.int p1), .val (.int p2), .val (.int q), .val (.int nl), .val (.int rp), .val (.int rh), .val (.ref b1), .unset] [(.int (8 : Int32)), (.int (q + (4 : Int32)))]))
      refine GoesW.step (fun _ k => XS.goto X2.here hx rfl (pc0 := 76) (pc' := 80) rfl (hb hby at_76) (by decide) (by decide) k) ?_
      show GoesW p.tables e below s (Q0 Z p0 p1 p2 h0 n0) room_1.cells room_1.slots (T2.setTop (mkF m 80 #[.val (.int p0), .val (.int p1), .val (.int p2), .val (.int q), .val (.int nl), .val (.int rp), .val (.int rh), .val (.ref b1), .unset] [(.int (8 : Int32)), (.int (q + (4 : Int32)))]))
      refine GoesW.step (fun _ k => XS.iadd X2.here hx rfl (hb hby at_80) rfl k) ?_
      show GoesW p.tables e below s (Q0 Z p0 p1 p2 h0 n0) room_1.cells room_1.slots (T2.setTop (mkF m 81 #[.val (.int p0), .val (.int p1), .val (.int p2), .val (.int q), .val (.int nl), .val (.int rp), .val (.int rh), .val (.ref b1), .unset] [(.int ((q + (4 : Int32)) + (8 : Int32)))]))
      refine GoesW.step (fun _ k => XS.bipush X2.here hx rfl (hb hby at_81) k) ?_
      show GoesW p.tables e below s (Q0 Z p0 p1 p2 h0 n0) room_1.cells room_1.slots (T2.setTop (mkF m 83 #[.val (.int p0), .val (.int p1), .val (.int p2), .val (.int q), .val (.int nl), .val (.int rp), .val (.int rh), .val (.ref b1), .unset] [(.int (16 : Int32)), (.int ((q + (4 : Int32)) + (8 : Int32)))]))
      refine GoesW.step (fun _ k => XS.iload X2.here hx rfl (hb hby at_83) rfl k) ?_
      show GoesW p.tables e below s (Q0 Z p0 p1 p2 h0 n0) room_1.cells room_1.slots (T2.setTop (mkF m 85 #[.val (.int p0), .val (.int p1), .val (.int p2), .val (.int q), .val (.int nl), .val (.int rp), .val (.int rh), .val (.ref b1), .unset] [(.int rh), (.int (16 : Int32)), (.int ((q + (4 : Int32)) + (8 : Int32)))]))
      refine GoesW.step (fun _ k => XS.imul X2.here hx rfl (hb hby at_85) rfl k) ?_
      show GoesW p.tables e below s (Q0 Z p0 p1 p2 h0 n0) room_1.cells room_1.slots (T2.setTop (mkF m 86 #[.val (.int p0), .val (.int p1), .val (.int p2), .val (.int q), .val (.int nl), .val (.int rp), .val (.int rh), .val (.ref b1), .unset] [(.int ((16 : Int32) * rh)), (.int ((q + (4 : Int32)) + (8 : Int32)))]))
      refine GoesW.step (fun _ k => XS.iadd X2.here hx rfl (hb hby at_86) rfl k) ?_
      show GoesW p.tables e below s (Q0 Z p0 p1 p2 h0 n0) room_1.cells room_1.slots (T2.setTop (mkF m 87 #[.val (.int p0), .val (.int p1), .val (.int p2), .val (.int q), .val (.int nl), .val (.int rp), .val (.int rh), .val (.ref b1), .unset] [(.int (((q + (4 : Int32)) + (8 : Int32)) + ((16 : Int32) * rh)))]))
      refine GoesW.step (fun _ k => XS.istore X2.here hx rfl (hb hby at_87) rfl (l' := #[.val (.int p0), .val (.int p1), .val (.int p2), .val (.int q), .val (.int nl), .val (.int rp), .val (.int rh), .val (.ref b1), .val (.int (((q + (4 : Int32)) + (8 : Int32)) + ((16 : Int32) * rh)))]) rfl k) ?_
      show GoesW p.tables e below s (Q0 Z p0 p1 p2 h0 n0) room_1.cells room_1.slots (T2.setTop (mkF m 89 #[.val (.int p0), .val (.int p1), .val (.int p2), .val (.int q), .val (.int nl), .val (.int rp), .val (.int rh), .val (.ref b1), .val (.int (((q + (4 : Int32)) + (8 : Int32)) + ((16 : Int32) * rh)))] []))
      refine GoesW.step (fun _ k => XS.aload X2.here hx rfl (hb hby at_89) rfl rfl k) ?_
      show GoesW p.tables e below s (Q0 Z p0 p1 p2 h0 n0) room_1.cells room_1.slots (T2.setTop (mkF m 91 #[.val (.int p0), .val (.int p1), .val (.int p2), .val (.int q), .val (.int nl), .val (.int rp), .val (.int rh), .val (.ref b1), .val (.int (((q + (4 : Int32)) + (8 : Int32)) + ((16 : Int32) * rh)))] [(.ref b1)]))
      have Exa_b1_10 := (A1.keep K2q)
      obtain ⟨cq9, kq9, q9a, q9b, q9c⟩ := isOf hZ rfl Exa_b1_10
      obtain ⟨_, _, ⟨T9, L9, k9, n9⟩, -, X9, ⟨Lc9, hQ9, l9, y9, z9⟩, st9⟩ := X2.virtualBack hx (y := (⟨"com/example/varuna/varuna/broker/wire/SubscriptionOptions", "toByte", "()I"⟩ : MethodName)) (z := (⟨"com/example/varuna/varuna/broker/wire/SubscriptionOptions", "toByte", "()I"⟩ : MethodName)) hown (mvT hZ (hw _ (List.mem_of_getElem? (i := 23) rfl))) (mvT hZ (hw _ (List.mem_of_getElem? (i := 24) rfl))) (notFace_of_selects (args := #[]) (mvT hZ (hw _ (List.mem_of_getElem? (i := 26) rfl)))) (mvT hZ (hw _ (List.mem_of_getElem? (i := 26) rfl))) (mvT hZ (hw _ (List.mem_of_getElem? (i := 25) rfl))) (by decide) (backOf (W := 0) (rm4 l Z a0 hw [] b1 q nl rp rh T2.heap n0 Z2 Fa2 Fb2 Fc2 Fd2) hZ (hw _ (List.mem_of_getElem? (i := 27) rfl)) (hw _ (List.mem_of_getElem? (i := 3) rfl)) (by decide) (by decide)) q9a q9c (g := (mkF m 91 #[.val (.int p0), .val (.int p1), .val (.int p2), .val (.int q), .val (.int nl), .val (.int rp), .val (.int rh), .val (.ref b1), .val (.int (((q + (4 : Int32)) + (8 : Int32)) + ((16 : Int32) * rh)))] [(.ref b1)])) rfl (by rw [hml]; rfl) (Steps.refl _) (argsL := []) (rest := []) (lenOf own_pd2 rfl) rfl (by show 2 * 0 + _ ≤ _; exact Nat.le_of_eq rfl) (hb hby at_91) (fun _ _ => ⟨rfl, rfl, (by decide : 1 + 0 ≤ _), (by decide : 4 + 0 ≤ _)⟩)
      dsimp only [Pt.U, Pt.locs, Pt.cells, Pt.slots] at X9 l9 y9 z9 st9 hQ9
      subst l9 y9 z9
      obtain ⟨rfl, N9q, eq9⟩ := hQ9
      have N9 := Fr.app N2 N9q
      refine GoesW.step (fun _ k => st9.trans k) ?_
      show GoesW p.tables e below s (Q0 Z p0 p1 p2 h0 n0) room_1.cells room_1.slots (T9.setTop (mkF m 94 #[.val (.int p0), .val (.int p1), .val (.int p2), .val (.int q), .val (.int nl), .val (.int rp), .val (.int rh), .val (.ref b1), .val (.int (((q + (4 : Int32)) + (8 : Int32)) + ((16 : Int32) * rh)))] [(.int (own_tb q nl rp rh))]))
      refine GoesW.step (fun _ k => XS.iload X9.here hx rfl (hb hby at_94) rfl k) ?_
      show GoesW p.tables e below s (Q0 Z p0 p1 p2 h0 n0) room_1.cells room_1.slots (T9.setTop (mkF m 96 #[.val (.int p0), .val (.int p1), .val (.int p2), .val (.int q), .val (.int nl), .val (.int rp), .val (.int rh), .val (.ref b1), .val (.int (((q + (4 : Int32)) + (8 : Int32)) + ((16 : Int32) * rh)))] [(.int (((q + (4 : Int32)) + (8 : Int32)) + ((16 : Int32) * rh))), (.int (own_tb q nl rp rh))]))
      refine GoesW.step (fun _ k => XS.icmpNo X9.here hx rfl (hb hby at_96) rfl (teq ((own_sum q nl rp rh hq3 hr3).trans (by rw [if_neg h60, if_neg h71]))).2 k) ?_
      show GoesW p.tables e below s (Q0 Z p0 p1 p2 h0 n0) room_1.cells room_1.slots (T9.setTop (mkF m 99 #[.val (.int p0), .val (.int p1), .val (.int p2), .val (.int q), .val (.int nl), .val (.int rp), .val (.int rh), .val (.ref b1), .val (.int (((q + (4 : Int32)) + (8 : Int32)) + ((16 : Int32) * rh)))] []))
      refine GoesW.step (fun _ k => XS.iconst X9.here hx rfl (hb hby at_99) k) ?_
      show GoesW p.tables e below s (Q0 Z p0 p1 p2 h0 n0) room_1.cells room_1.slots (T9.setTop (mkF m 100 #[.val (.int p0), .val (.int p1), .val (.int p2), .val (.int q), .val (.int nl), .val (.int rp), .val (.int rh), .val (.ref b1), .val (.int (((q + (4 : Int32)) + (8 : Int32)) + ((16 : Int32) * rh)))] [(.int (1 : Int32))]))
      refine GoesW.step (fun _ k => XS.goto X9.here hx rfl (pc0 := 100) (pc' := 104) rfl (hb hby at_100) (by decide) (by decide) k) ?_
      show GoesW p.tables e below s (Q0 Z p0 p1 p2 h0 n0) room_1.cells room_1.slots (T9.setTop (mkF m 104 #[.val (.int p0), .val (.int p1), .val (.int p2), .val (.int q), .val (.int nl), .val (.int rp), .val (.int rh), .val (.ref b1), .val (.int (((q + (4 : Int32)) + (8 : Int32)) + ((16 : Int32) * rh)))] [(.int (1 : Int32))]))
      exact GoesW.retZ X9 hx hlk (t := .boolean) Bd.returns (by simp) rfl (hb hby at_104) (by show Q0 Z p0 p1 p2 h0 n0 _ T9.heap _; rw [eq9]; exact ⟨rfl, N9⟩) (by decide) (by decide)
set_option maxRecDepth 65536 in
set_option maxHeartbeats 40000000 in
theorem comes_1 {Post : Tables → Env → Array Value → State → Outcome → State → Prop} (hpost : ∀ tb e args s v u, (limb_1_1.after args s (.returned v) u = true ∧ limb_1_2.after args s (.returned v) u = true ∧ True) → FrameEnd s (.returned v) u (Jvm.fieldLocs frame_1_writes args s ++ Jvm.arrayLocs frame_1_arrays args s ++ Jvm.staticLocs frame_1_statics s) 16 128 → Post tb e args s (.returned v) u) :
    ArmFor flags0 classFile x code maxLocals ret World_1 tables_1 room_1 Calls_1 rest_1 Pre_1 Post := by
  intro l hfl _ _ p e ha hc hk s m args below hf hA hF happ hP
  obtain ⟨hcalls, hrest, hpre⟩ := hP
  obtain ⟨-, -, -, hnamed, -, -, -, hat⟩ := (Spec.applies_iff hf).mp happ
  obtain ⟨hg, hn⟩ := and_e (Cond.before_iff.mp (show (Jvm.Cond.and given_1 narrow_1).before args s = true from hpre))
  obtain ⟨gc, gr0⟩ := and_e hg
  obtain ⟨w0, w1, w2, rfl⟩ : ∃ w0 w1 w2 : Value, args = #[w0, w1, w2] := by
    have hs : args.size = 3 := by simpa [Cond.value, given_1] using gc
    obtain ⟨L⟩ := args
    match L, hs with
    | [w0, w1, w2], _ => exact ⟨w0, w1, w2, rfl⟩
  have hw := fun d (hd : d ∈ tables_1) => atoms_spec (ws := Jvm.Cond.code x code maxLocals ret :: tables_1) hat d (List.mem_cons_of_mem _ hd)
  have hfit : Fit s := fun {y c} hc i hi => by
    obtain ⟨ha, rfl⟩ := Array.getElem?_eq_some_iff.mp hc
    have q := List.all_eq_true.mp ((Array.all_eq_true_iff_forall_mem.mp hF) _ (Array.getElem_mem ha)) i (List.mem_range.mpr hi)
    simpa [Array.getElem?_eq_getElem hi] using q
  obtain ⟨ga0, gr1⟩ := and_e gr0
  obtain ⟨i0, ei0⟩ := is_v ga0
  obtain rfl : w0 = (.int i0) := Option.some.inj ei0
  obtain ⟨ga1, gr2⟩ := and_e gr1
  obtain ⟨i1, ei1⟩ := is_v ga1
  obtain rfl : w1 = (.int i1) := Option.some.inj ei1
  obtain ⟨i2, ei2⟩ := is_v gr2
  obtain rfl : w2 = (.int i2) := Option.some.inj ei2
  obtain ⟨n, o, h1, h2, h3, _, L, rfl, ⟨rfl, N⟩, hq⟩ := rm0 l s _ hw tables_1 i0 i1 i2 s.heap s.heap.size (Nat.le_refl _) p e ha hc hk s m _ below hf ((Spec.applies_iff_loose hf).mp happ).1 ⟨rfl, State.Warmed39.refl s, rfl⟩ trivial
  refine ⟨n, _, h1, h2, h3, hpost _ _ _ _ _ _ ⟨Cond.after_iff.mpr rfl, Cond.after_iff.mpr (eq_i res_at (Term.int_eval (1)) rfl), trivial⟩ ⟨hq.1, hq.2.1, (hq.2.2.sift fun y hy => Or.inr (N y hy)).mono (by decide) (by decide)⟩⟩
theorem main_1_1 : Claimed_1_1 := comes_1 fun _ _ _ _ _ _ h hF => ⟨h.1, hF⟩
theorem main_1_2 : Claimed_1_2 := comes_1 fun _ _ _ _ _ _ h hF => ⟨h.2.1, hF⟩
end Jvm.Pilot.@@N@@
namespace Jvm.Pilot.@@N@@
open Jvm Jvm.ClassFile Sem Op Lib Jvm.Free Jvm.Stand Jvm.Pilot.@@N@@.Jvm.D
/-! MADE BY PROGRAM (witnessworld.py) out of the Statement's table words and the real class files: 10 classes; the members and pool entries that the words name. The judged class is class 1, her method 1. -/
namespace start1
open Jvm.ClassFile
def u (s : String) : CpInfo := .utf8 (stringToUtf16 s)
/-- a pool by its gaps: so many unusable entries, then the entry; so many at the end -/
def gap : Nat → List CpInfo → List CpInfo
  | 0, r => r
  | n + 1, r => .unusable :: gap n r
def poolList (es : List (Nat × CpInfo)) (last : Nat) : List CpInfo := es.foldr (fun e r => gap e.1 (e.2 :: r)) (gap last [])
def pool (es : List (Nat × CpInfo)) (last : Nat) : Array CpInfo := ⟨poolList es last⟩
def fileOf (pool : Array CpInfo) (this : Nat) (attrs : Array Attribute := #[]) (ms : Array MethodInfo := #[]) (fl : Nat := 33) (sup : Nat := 0) (ifs : Array Nat := #[]) (fds : Array FieldInfo := #[]) : ClassFile where
  minorVersion := 0
  majorVersion := 65
  constantPool := pool
  accessFlags := fl
  thisClass := this
  superClass := sup
  interfaces := ifs
  fields := fds
  methods := ms
  attributes := attrs
def plain (name : String) (sup : Option ClassId) : Class where
  name := name
  kind := .ordinary
  loader := none
  accessFlags := 33
  super := sup
  interfaces := #[]
  cf := none
  fields := #[]
  methods := #[]
  instanceTypes := #[]
  staticTypes := #[]
  resolved := #[]
  callSites := []
  init := .initialized
  statics := none
  mirror := none

def pool0 : Array CpInfo := pool [(5, u "<init>"), (0, u "()V"), (1, .class_ 10), (1, u "java/lang/Object")] 113

def k0c0 : Code := { maxStack := 0, maxLocals := 1, code := object_method_1_code, exceptionTable := #[], attributes := #[] }
def k0m0 : Method := { name := "<init>", desc := "()V", sig := { parameters := [], returnType := none }, accessFlags := 1, code := some k0c0 }
/-- java/lang/Object -/
def k0 : Class := { plain "java/lang/Object" none with
  accessFlags := 33
  interfaces := #[]
  cf := some (fileOf pool0 8 #[] #[{ accessFlags := 1, nameIndex := 5, descriptorIndex := 6, attributes := #[] }] 33 0 #[] #[])
  fields := #[]
  methods := #[k0m0]
  instanceTypes := #[]
  staticTypes := #[]
  resolved := Array.replicate 124 none
  statics := none }

def pool1 : Array CpInfo := pool [(2, .class_ 4), (1, u "java/lang/Object"), (0, u "<init>"), (0, u "()V"), (0, .integer 2147483647), (0, .class_ 9), (0, u "com/example/varuna/varuna/broker/wire/SubscriptionOptions"), (0, .methodref 8 11), (0, .nameAndType 5 12), (0, u "(IZZI)V"), (0, .methodref 8 14), (0, .nameAndType 15 16), (0, u "toByte"), (0, u "()I"), (0, .class_ 18), (0, u "com/example/varuna/varuna/broker/wire/SubscriptionOptionsToBytePinLaw"), (2, u "law"), (0, u "(III)Z")] 3

def k1m0 : Method := { name := "<init>", desc := "()V", sig := { parameters := [], returnType := none }, accessFlags := 1, code := none }
def k1c1 : Code := { maxStack := 6, maxLocals := 9, code := code, exceptionTable := #[], attributes := #[] }
def k1m1 : Method := { name := "law", desc := "(III)Z", sig := { parameters := [.int, .int, .int], returnType := some .boolean }, accessFlags := 9, code := some k1c1 }
/-- com/example/varuna/varuna/broker/wire/SubscriptionOptionsToBytePinLaw -/
def k1 : Class := { plain "com/example/varuna/varuna/broker/wire/SubscriptionOptionsToBytePinLaw" (some 0) with
  accessFlags := 49
  interfaces := #[]
  cf := some (fileOf pool1 17 #[] #[{ accessFlags := 1, nameIndex := 5, descriptorIndex := 6, attributes := #[] }, { accessFlags := 9, nameIndex := 21, descriptorIndex := 22, attributes := #[] }] 49 2 #[] #[])
  fields := #[]
  methods := #[k1m0, k1m1]
  instanceTypes := #[]
  staticTypes := #[]
  resolved := Array.replicate 26 none
  statics := none }

def pool2 : Array CpInfo := pool [(1, .methodref 2 3), (0, .class_ 4), (0, .nameAndType 5 6), (0, u "java/lang/Object"), (0, u "<init>"), (0, u "()V"), (0, .class_ 8), (0, u "java/lang/Record")] 13

def k2c0 : Code := { maxStack := 1, maxLocals := 1, code := jdk_30_method_1_code, exceptionTable := #[], attributes := #[] }
def k2m0 : Method := { name := "<init>", desc := "()V", sig := { parameters := [], returnType := none }, accessFlags := 4, code := some k2c0 }
/-- java/lang/Record -/
def k2 : Class := { plain "java/lang/Record" (some 0) with
  accessFlags := 1057
  interfaces := #[]
  cf := some (fileOf pool2 7 #[] #[{ accessFlags := 4, nameIndex := 5, descriptorIndex := 6, attributes := #[] }] 1057 2 #[] #[])
  fields := #[]
  methods := #[k2m0]
  instanceTypes := #[]
  staticTypes := #[]
  resolved := Array.replicate 22 none
  statics := none }

def pool3 : Array CpInfo := pool [(1, .methodref 2 3), (0, .class_ 4), (0, .nameAndType 5 6), (0, u "java/lang/Record"), (0, u "<init>"), (0, u "()V"), (0, .fieldref 8 9), (0, .class_ 10), (0, .nameAndType 11 12), (0, u "com/example/varuna/varuna/broker/wire/SubscriptionOptions"), (0, u "qos"), (0, u "I"), (0, .fieldref 8 14), (0, .nameAndType 15 16), (0, u "noLocal"), (0, u "Z"), (0, .fieldref 8 18), (0, .nameAndType 19 16), (0, u "retainAsPublished"), (0, .fieldref 8 21), (0, .nameAndType 22 12), (0, u "retainHandling"), (2, u "(IZZI)V"), (18, u "toByte"), (0, u "()I")] 27

def k3c0 : Code := { maxStack := 2, maxLocals := 5, code := prog_11_method_1_code, exceptionTable := #[], attributes := #[] }
def k3m0 : Method := { name := "<init>", desc := "(IZZI)V", sig := { parameters := [.int, .boolean, .boolean, .int], returnType := none }, accessFlags := 1, code := some k3c0 }
def k3c1 : Code := { maxStack := 3, maxLocals := 1, code := prog_11_method_3_code, exceptionTable := #[], attributes := #[] }
def k3m1 : Method := { name := "toByte", desc := "()I", sig := { parameters := [], returnType := some .int }, accessFlags := 1, code := some k3c1 }
/-- com/example/varuna/varuna/broker/wire/SubscriptionOptions -/
def k3 : Class := { plain "com/example/varuna/varuna/broker/wire/SubscriptionOptions" (some 2) with
  accessFlags := 49
  interfaces := #[]
  cf := some (fileOf pool3 8 #[] #[{ accessFlags := 1, nameIndex := 5, descriptorIndex := 25, attributes := #[] }, { accessFlags := 1, nameIndex := 44, descriptorIndex := 45, attributes := #[] }] 49 2 #[] #[{ accessFlags := 18, nameIndex := 11, descriptorIndex := 12, attributes := #[] }, { accessFlags := 18, nameIndex := 15, descriptorIndex := 16, attributes := #[] }, { accessFlags := 18, nameIndex := 19, descriptorIndex := 16, attributes := #[] }, { accessFlags := 18, nameIndex := 22, descriptorIndex := 12, attributes := #[] }])
  fields := #[{ name := "qos", type := .int, accessFlags := 18, slot := 0, constantValue := 0 }, { name := "noLocal", type := .boolean, accessFlags := 18, slot := 1, constantValue := 0 }, { name := "retainAsPublished", type := .boolean, accessFlags := 18, slot := 2, constantValue := 0 }, { name := "retainHandling", type := .int, accessFlags := 18, slot := 3, constantValue := 0 }]
  methods := #[k3m0, k3m1]
  instanceTypes := #[.int, .boolean, .boolean, .int]
  staticTypes := #[]
  resolved := Array.replicate 73 none
  statics := none }

def pool4 : Array CpInfo := pool [(1, u "java/lang/Cloneable"), (0, .class_ 1), (0, u "java/lang/Object"), (0, .class_ 3)] 3

/-- java/lang/Cloneable -/
def k4 : Class := { plain "java/lang/Cloneable" (some 0) with
  accessFlags := 1537
  interfaces := #[]
  cf := some (fileOf pool4 2 #[] #[] 1537 4 #[] #[])
  fields := #[]
  methods := #[]
  instanceTypes := #[]
  staticTypes := #[]
  resolved := Array.replicate 8 none
  statics := none }

def pool5 : Array CpInfo := pool [(1, u "java/io/Serializable"), (0, .class_ 1), (0, u "java/lang/Object"), (0, .class_ 3)] 3

/-- java/io/Serializable -/
def k5 : Class := { plain "java/io/Serializable" (some 0) with
  accessFlags := 1537
  interfaces := #[]
  cf := some (fileOf pool5 2 #[] #[] 1537 4 #[] #[])
  fields := #[]
  methods := #[]
  instanceTypes := #[]
  staticTypes := #[]
  resolved := Array.replicate 8 none
  statics := none }

/-- the primitive byte -/
def k6 : Class := { plain "byte" none with kind := .primitive 'B', accessFlags := 0x411 }
/-- [B -/
def k7 : Class := { plain "[B" (some 0) with kind := .array 6 .byte, interfaces := #[4, 5], accessFlags := 1041 }

/-- the primitive int -/
def k8 : Class := { plain "int" none with kind := .primitive 'I', accessFlags := 0x411 }
/-- [I -/
def k9 : Class := { plain "[I" (some 0) with kind := .array 8 .int, interfaces := #[4, 5], accessFlags := 1041 }

def heap : Heap := #[]
def classes : Array Class := #[k0, k1, k2, k3, k4, k5, k6, k7, k8, k9]
def interned : List (Array UInt16 × Addr) := []
def slotsUsed : Nat := 0
def theMethod : MethodId := ⟨1, 1⟩
def args0 : Array Value := #[.int 5, .int 3, .int 7]
def aboutOver (below : List Frame) : State where
  vm := { classes := classes, interned := interned.toArray }
  heap := heap
  slotsUsed := slotsUsed
  threads := #[{ frames := .invoking theMethod args0 :: below }]
def below0 : List Frame := [.native { method := ⟨0, 0⟩, args := #[] }]
def about1 : State := aboutOver below0
def p0 : Program := .bare "" "" ""
def e0 : Env := launch0.env 0 0 0
theorem w_frames : about1.frames = Frame.invoking theMethod args0 :: below0 := rfl
set_option maxRecDepth 65536 in
theorem w_args : argsFit about1.vm theMethod args0 = true := by decide +kernel
set_option maxRecDepth 65536 in
theorem w_heap : heapFits about1 = true := by decide +kernel
set_option maxRecDepth 65536 in
theorem w_runnable : about1.curStatus? = some .runnable := by decide +kernel
set_option maxRecDepth 65536 in
theorem w_alone : about1.alone = true := by decide +kernel
set_option maxRecDepth 65536 in
theorem w_named : about1.methodNamed? x = some theMethod := by decide +kernel
set_option maxRecDepth 65536 in
theorem w_hears : about1.hears theMethod below0 = true := by decide +kernel
set_option maxRecDepth 65536 in
theorem w_ripe : about1.ripe theMethod args0 below0 = true := by decide +kernel
theorem w_running : about1.status = .running := rfl
set_option maxRecDepth 65536 in
theorem w_room : about1.hasRoom e0.platform room_1 = true :=
  launch0.hasRoom_least _ room_1 (by decide +kernel) (by decide +kernel) (by decide +kernel) (by decide +kernel) (by decide +kernel) (by decide +kernel)
theorem allAtoms_all (ts : List Jvm.Cond) (a : Array Jvm.Value) (st : Jvm.State) : (allAtoms ts).before a st = ts.all (fun c => c.before a st) := by
  induction ts with
  | nil => rfl
  | cons c t ih =>
    show (Jvm.Cond.and c (allAtoms t)).before a st = _
    rw [Jvm.Cond.before_and, ih, List.all_cons]
def words1 : List Jvm.Cond := Jvm.Cond.code x code maxLocals ret :: tables_1
/-- a 'code' word, met by the world's own term for the bytes: nothing is compared byte by byte -/
theorem code_word {y : MethodName} {bytes : ByteArray} {mx : Nat} {rt : Option FieldType} {a : Array Value} {s : State} {m : MethodId} {meth : Method} {c : Code} (h1 : s.methodNamed? y = some m) (h2 : s.vm.method? m = some meth) (h3 : meth.code = some c) (h4 : c.code = bytes)
    (h5 : (c.maxLocals == mx && c.exceptionTable.isEmpty && decide (c.maxStack ≤ mostOperands) && decide (meth.sig.returnType = rt) && !meth.locks && decide (parseMethodDescriptor y.desc = some meth.sig)) = true) : (Jvm.Cond.code y bytes mx rt).before a s = true := by
  simp only [Bool.and_eq_true, beq_iff_eq, Bool.not_eq_true', decide_eq_true_eq] at h5
  obtain ⟨⟨⟨⟨⟨g1, g2⟩, g3⟩, g4⟩, g5⟩, g6⟩ := h5
  simp [Cond.before, Cond.holds, Cond.value, h1, h2, h3, h4, g1, g2, g3, g4, g5, g6]
def isCode : Jvm.Cond → Bool
  | .code _ _ _ _ => true
  | _ => false
theorem all_split {L : List Jvm.Cond} {P : Jvm.Cond → Bool} (h1 : L.all (fun c => isCode c || P c) = true) (h2 : ∀ c ∈ L.filter isCode, P c = true) : L.all P = true := by
  refine List.all_eq_true.mpr fun c hc => ?_
  have h := List.all_eq_true.mp h1 c hc
  rcases Bool.eq_false_or_eq_true (isCode c) with hi | hi
  · exact h2 c (List.mem_filter.mpr ⟨hc, hi⟩)
  · simpa [hi] using h
set_option maxRecDepth 65536 in
theorem w_c0 : (Jvm.Cond.code x code maxLocals ret).before args0 about1 = true := code_word (m := ⟨1, 1⟩) (meth := k1m1) (c := k1c1) (by decide +kernel) rfl rfl rfl (by decide +kernel)
set_option maxRecDepth 65536 in
theorem w_c1 : (Jvm.Cond.code ({ cls := "com/example/varuna/varuna/broker/wire/SubscriptionOptions", name := "<init>", desc := "(IZZI)V" } : Jvm.MethodName) prog_11_method_1_code (5 : Nat) (Option.none : Option Jvm.ClassFile.FieldType)).before args0 about1 = true := code_word (m := ⟨3, 0⟩) (meth := k3m0) (c := k3c0) (by decide +kernel) rfl rfl rfl (by decide +kernel)
set_option maxRecDepth 65536 in
theorem w_c2 : (Jvm.Cond.code ({ cls := "java/lang/Record", name := "<init>", desc := "()V" } : Jvm.MethodName) jdk_30_method_1_code (1 : Nat) (Option.none : Option Jvm.ClassFile.FieldType)).before args0 about1 = true := code_word (m := ⟨2, 0⟩) (meth := k2m0) (c := k2c0) (by decide +kernel) rfl rfl rfl (by decide +kernel)
set_option maxRecDepth 65536 in
theorem w_c3 : (Jvm.Cond.code ({ cls := "java/lang/Object", name := "<init>", desc := "()V" } : Jvm.MethodName) object_method_1_code (1 : Nat) (Option.none : Option Jvm.ClassFile.FieldType)).before args0 about1 = true := code_word (m := ⟨0, 0⟩) (meth := k0m0) (c := k0c0) (by decide +kernel) rfl rfl rfl (by decide +kernel)
set_option maxRecDepth 65536 in
theorem w_c4 : (Jvm.Cond.code ({ cls := "com/example/varuna/varuna/broker/wire/SubscriptionOptions", name := "toByte", desc := "()I" } : Jvm.MethodName) prog_11_method_3_code (1 : Nat) (Option.some Jvm.ClassFile.FieldType.int)).before args0 about1 = true := code_word (m := ⟨3, 1⟩) (meth := k3m1) (c := k3c1) (by decide +kernel) rfl rfl rfl (by decide +kernel)
def codes1 : List Jvm.Cond := [Jvm.Cond.code x code maxLocals ret, Jvm.Cond.code ({ cls := "com/example/varuna/varuna/broker/wire/SubscriptionOptions", name := "<init>", desc := "(IZZI)V" } : Jvm.MethodName) prog_11_method_1_code (5 : Nat) (Option.none : Option Jvm.ClassFile.FieldType), Jvm.Cond.code ({ cls := "java/lang/Record", name := "<init>", desc := "()V" } : Jvm.MethodName) jdk_30_method_1_code (1 : Nat) (Option.none : Option Jvm.ClassFile.FieldType), Jvm.Cond.code ({ cls := "java/lang/Object", name := "<init>", desc := "()V" } : Jvm.MethodName) object_method_1_code (1 : Nat) (Option.none : Option Jvm.ClassFile.FieldType), Jvm.Cond.code ({ cls := "com/example/varuna/varuna/broker/wire/SubscriptionOptions", name := "toByte", desc := "()I" } : Jvm.MethodName) prog_11_method_3_code (1 : Nat) (Option.some Jvm.ClassFile.FieldType.int)]
set_option maxRecDepth 65536 in
theorem codes_eq : words1.filter isCode = codes1 := rfl
theorem w_codes : ∀ c ∈ words1.filter isCode, c.before args0 about1 = true := by
  rw [codes_eq]
  intro c hc
  simp only [codes1, List.mem_cons, List.not_mem_nil, or_false] at hc
  rcases hc with rfl | rfl | rfl | rfl | rfl
  · exact w_c0
  · exact w_c1
  · exact w_c2
  · exact w_c3
  · exact w_c4
set_option maxRecDepth 65536 in
theorem w_t1 : (words1.take 24).all (fun c => isCode c || c.before args0 about1) = true := by decide +kernel
set_option maxRecDepth 65536 in
theorem w_t2 : (words1.drop 24).all (fun c => isCode c || c.before args0 about1) = true := by decide +kernel
theorem w_tables : (allAtoms (Jvm.Cond.code x code maxLocals ret :: tables_1)).before args0 about1 = true := by
  rw [allAtoms_all]
  show words1.all (fun c => c.before args0 about1) = true
  refine all_split ?_ w_codes
  rw [← List.take_append_drop 24 words1, List.all_append, w_t1, w_t2]
  rfl
set_option maxRecDepth 65536 in
theorem w_case : (Jvm.Cond.and given_1 narrow_1).before args0 about1 = true := by decide +kernel
theorem w_applies : (headSpec (Jvm.Cond.code x code maxLocals ret :: tables_1) room_1).applies x e0.platform about1 = true :=
  (Spec.applies_iff w_frames).mpr ⟨w_running, w_runnable, w_alone, w_named, w_hears, w_ripe, w_room, w_tables⟩
theorem atStart : AtStart classFile x code maxLocals ret World_1 tables_1 room_1 Calls_1 rest_1 Pre_1 launch0 p0 e0 about1 theMethod args0 below0 :=
  ⟨lists_1, trivial, launch0.admits_env _ _ _, launch0.least_env, fairChoices_fair.cas, fairChoices_fair.clock, w_frames, w_args, w_heap, w_applies, trivial, trivial, w_case⟩
end start1
theorem witness_1 : WitnessClaimed_1 := ⟨start1.p0, start1.e0, start1.about1, start1.theMethod, start1.args0, start1.below0, start1.atStart⟩
end Jvm.Pilot.@@N@@
