import JvmDerived
import JvmDerived.Pilot.@@N@@Statement
import JvmDerived.Pilot.@@N@@Code
set_option linter.unusedVariables false
set_option linter.unusedSimpArgs false
namespace Jvm.RoadKit
open Sem ClassFile Op Lib Jvm.Stand Jvm.Free Jvm.LawKit
/-- from S the run goes on and returns; what it leaves is said by Q -/
def GoesW (tb : Tables) (e : Env) (below : List Frame) (s : State) (Q : Option Value → Heap → List Loc → Prop) (kc ks : Nat) (S : State) : Prop :=
  ∃ t o, Steps tb e below S t ∧ t.status = .running ∧ Ended t below o ∧ ∃ v L, o = .returned v ∧ Q v t.heap L ∧ FrameEnd s o t L kc ks
theorem GoesW.step {tb : Tables} {e : Env} {below : List Frame} {s : State} {Q : Option Value → Heap → List Loc → Prop} {kc ks : Nat} {S S' : State} (f : ∀ t, Steps tb e below S' t → Steps tb e below S t) (h : GoesW tb e below s Q kc ks S') : GoesW tb e below s Q kc ks S := by
  obtain ⟨t, o, h1, h2⟩ := h
  exact ⟨t, o, f t h1, h2⟩
/-- 0 where the branch is taken, 1 where it isn't: what 'if<c> +7; iconst_1; goto +4; iconst_0' leaves -/
def nb (b : Bool) : Int32 := if b then 0 else 1
theorem nb_01 (b : Bool) : nb b = 0 ∨ nb b = 1 := by cases b <;> simp [nb]
theorem nar_nb (b : Bool) : narrow .boolean (.int (nb b)) = .int (nb b) := by cases b <;> rfl
theorem fits_nb (b : Bool) : fits .boolean (.int (nb b)) = true := by cases b <;> rfl
theorem diam0 {tb : Tables} [Ours tb] {e : Env} {below : List Frame} {T target : State} {m : MethodId} {c : Code} {g : JFrame} (h : At T m c below) (hx : tb.exec = Jvm.exec) (hg : g.method = m) {cd : ClassFile.Cond} {x : Int32} {rest : List Value} {pc0 : Nat} (hpc : g.pc = pc0)
    (hd : decode c.code pc0 = .ok (.ifCond cd 7, 3)) (hs : g.stack = .int x :: rest) (hd1 : decode c.code (pc0 + 3) = .ok (.iconst 1, 1)) (hd2 : decode c.code (pc0 + 4) = .ok (.goto 4, 3)) (hd3 : decode c.code (pc0 + 7) = .ok (.iconst 0, 1))
    (hr : Steps tb e below (T.setTop { g with pc := pc0 + 8, stack := .int (nb (ifCond.holds cd x)) :: rest }) target) : Steps tb e below (T.setTop g) target := by
  subst hpc
  cases hb : ifCond.holds cd x with
  | true =>
    rw [hb] at hr
    refine XS.ifYes h hx hg (pc0 := g.pc) (pc' := g.pc + 7) rfl hd hs hb (by omega) (by omega) ?_
    exact XS.iconst (g := { g with pc := g.pc + 7, stack := rest }) h hx hg hd3 hr
  | false =>
    rw [hb] at hr
    refine XS.ifNo h hx hg hd hs hb ?_
    refine XS.iconst (g := { g with pc := g.pc + 3, stack := rest }) h hx hg hd1 ?_
    exact XS.goto (g := { g with pc := g.pc + 4, stack := .int 1 :: rest }) h hx hg (pc0 := g.pc + 4) (pc' := g.pc + 8) rfl hd2 (by omega) (by omega) hr
theorem diam2 {tb : Tables} [Ours tb] {e : Env} {below : List Frame} {T target : State} {m : MethodId} {c : Code} {g : JFrame} (h : At T m c below) (hx : tb.exec = Jvm.exec) (hg : g.method = m) {cd : ClassFile.Cond} {x y : Int32} {rest : List Value} {pc0 : Nat} (hpc : g.pc = pc0)
    (hd : decode c.code pc0 = .ok (.if_icmp cd 7, 3)) (hs : g.stack = .int y :: .int x :: rest) (hd1 : decode c.code (pc0 + 3) = .ok (.iconst 1, 1)) (hd2 : decode c.code (pc0 + 4) = .ok (.goto 4, 3)) (hd3 : decode c.code (pc0 + 7) = .ok (.iconst 0, 1))
    (hr : Steps tb e below (T.setTop { g with pc := pc0 + 8, stack := .int (nb (if_icmp.holds cd x y)) :: rest }) target) : Steps tb e below (T.setTop g) target := by
  subst hpc
  cases hb : if_icmp.holds cd x y with
  | true =>
    rw [hb] at hr
    refine XS.icmpYes h hx hg (pc0 := g.pc) (pc' := g.pc + 7) rfl hd hs hb (by omega) (by omega) ?_
    exact XS.iconst (g := { g with pc := g.pc + 7, stack := rest }) h hx hg hd3 hr
  | false =>
    rw [hb] at hr
    refine XS.icmpNo h hx hg hd hs hb ?_
    refine XS.iconst (g := { g with pc := g.pc + 3, stack := rest }) h hx hg hd1 ?_
    exact XS.goto (g := { g with pc := g.pc + 4, stack := .int 1 :: rest }) h hx hg (pc0 := g.pc + 4) (pc' := g.pc + 8) rfl hd2 (by omega) (by omega) hr
section New
variable {p : Program} {l : Launch} {e : Env} {R : Room} {s : State} {m : MethodId} {args : Array Value} {below : List Frame} {meth : Method} {c : Code} {T : State} {locs : List Loc} {cells slots : Nat} {Q : Option Value → Heap → List Loc → Prop} {kc ks : Nat}
theorem upS (X : Stand p l e R s m args below meth c T locs cells slots) {k n : Nat} (hc : cells ≤ k) (hn : slots ≤ n) : Stand p l e R s m args below meth c T locs k n := { X with same := X.same.mono hc hn }
theorem GoesW.out (X : Stand p l e R s m args below meth c T locs cells slots) {v : Option Value} {S : State} (hlk : meth.locks = false) (hv : meth.sig.returnType = none → v = none)
    (hst : ∀ fs, (∀ (f : JFrame) (acts : List Action), f.method = m → f.locked = none → f.entered = [] → (doReturn e (T.setTop f) acts v).1 = T.setFrames fs) → Steps p.tables e below S (T.setFrames fs)) (hq : Q v T.heap locs) (hc : cells ≤ kc) (hs : slots ≤ ks) : GoesW p.tables e below s Q kc ks S := by
  obtain ⟨fs, hr, hrun, hended, hW, hsame⟩ := X.leave (v := v) hv hlk
  exact ⟨_, _, hst fs hr, hrun, hended, _, _, rfl, hq, ⟨_, rfl⟩, hW, hsame.mono hc hs⟩
theorem GoesW.retI (X : Stand p l e R s m args below meth c T locs cells slots) (hx : p.tables.exec = Jvm.exec) (hlk : meth.locks = false) {pc : Nat} {Ls : Array Slot} {z : Int32} {rest : List Value} (hret : meth.sig.returnType = some .int) (hd : decode c.code pc = .ok (.ireturn, 1)) (hq : Q (some (.int z)) T.heap locs) (hc : cells ≤ kc) (hs : slots ≤ ks) :
    GoesW p.tables e below s Q kc ks (T.setTop (mkF m pc Ls (.int z :: rest))) :=
  GoesW.out X hlk (fun h => by rw [hret] at h; cases h) (fun fs hr => retOut X hx hret rfl (Or.inl ⟨rfl, Or.inl rfl, _, rfl⟩) hd hr) hq hc hs
theorem GoesW.retZ (X : Stand p l e R s m args below meth c T locs cells slots) (hx : p.tables.exec = Jvm.exec) (hlk : meth.locks = false) {pc : Nat} {Ls : Array Slot} {z : Int32} {t : FieldType} {rest : List Value} (hret : meth.sig.returnType = some t) (ht : t = .int ∨ t = .boolean ∨ t = .byte ∨ t = .char ∨ t = .short) (hn : narrow t (.int z) = .int z) (hd : decode c.code pc = .ok (.ireturn, 1)) (hq : Q (some (.int z)) T.heap locs) (hc : cells ≤ kc) (hs : slots ≤ ks) :
    GoesW p.tables e below s Q kc ks (T.setTop (mkF m pc Ls (.int z :: rest))) :=
  GoesW.out X hlk (fun h => by rw [hret] at h; cases h) (fun fs hr => retOut X hx hret hn (Or.inl ⟨rfl, ht, _, rfl⟩) hd hr) hq hc hs
theorem GoesW.retJ (X : Stand p l e R s m args below meth c T locs cells slots) (hx : p.tables.exec = Jvm.exec) (hlk : meth.locks = false) {pc : Nat} {Ls : Array Slot} {z : Int64} {rest : List Value} (hret : meth.sig.returnType = some .long) (hd : decode c.code pc = .ok (.lreturn, 1)) (hq : Q (some (.long z)) T.heap locs) (hc : cells ≤ kc) (hs : slots ≤ ks) :
    GoesW p.tables e below s Q kc ks (T.setTop (mkF m pc Ls (.long z :: rest))) :=
  GoesW.out X hlk (fun h => by rw [hret] at h; cases h) (fun fs hr => retOut X hx hret rfl (Or.inr (Or.inl ⟨rfl, rfl, _, rfl⟩)) hd hr) hq hc hs
theorem GoesW.retA (X : Stand p l e R s m args below meth c T locs cells slots) (hx : p.tables.exec = Jvm.exec) (hlk : meth.locks = false) {pc : Nat} {Ls : Array Slot} {w : Value} {t : FieldType} {rest : List Value} (hret : meth.sig.returnType = some t) (ht : t.isReference = true) (hw : w.isRef = true) (hd : decode c.code pc = .ok (.areturn, 1)) (hq : Q (some w) T.heap locs) (hc : cells ≤ kc) (hs : slots ≤ ks) :
    GoesW p.tables e below s Q kc ks (T.setTop (mkF m pc Ls (w :: rest))) :=
  GoesW.out X hlk (fun h => by rw [hret] at h; cases h) (fun fs hr => retOut X hx hret (by cases t <;> first | (cases ht; done) | rfl) (Or.inr (Or.inr (Or.inr (Or.inr ⟨rfl, ht, hw⟩)))) hd hr) hq hc hs
theorem GoesW.retV (X : Stand p l e R s m args below meth c T locs cells slots) (hx : p.tables.exec = Jvm.exec) (hlk : meth.locks = false) {pc : Nat} {Ls : Array Slot} (hret : meth.sig.returnType = none) (hd : decode c.code pc = .ok (.return_, 1)) (hq : Q none T.heap locs) (hc : cells ≤ kc) (hs : slots ≤ ks) :
    GoesW p.tables e below s Q kc ks (T.setTop (mkF m pc Ls [])) :=
  GoesW.out X hlk (fun _ => rfl) (fun fs hr => X.returnOut hx hret hd hr) hq hc hs
end New
end Jvm.RoadKit
namespace Jvm.Pilot.@@N@@
open Jvm Jvm.ClassFile Sem Op Lib Jvm.Free Jvm.Stand Jvm.LawKit Jvm.RoadKit Bundle Jvm.Pilot.@@N@@.Jvm.D
def own_fold (l : List Int32) : Int32 := l.foldl (fun a x => 31 * a + x) 0
def own_hash (xs : List Int32) (f t : Nat) : Int32 := own_fold ((xs.take t).drop f)
theorem own_hash_step (xs : List Int32) (f j : Nat) (hf : f ≤ j) (hj : j < xs.length) : own_hash xs f (j + 1) = 31 * own_hash xs f j + xs.getD j 0 := by
  unfold own_hash own_fold
  rw [List.take_succ_eq_append_getElem hj, List.drop_append_of_le_length (by simp; omega), List.foldl_append, List.getD_eq_getElem?_getD, List.getElem?_eq_getElem hj]
  rfl
theorem own_hash_nil (xs : List Int32) (f : Nat) : own_hash xs f f = 0 := by
  unfold own_hash own_fold
  rw [List.drop_eq_nil_of_le (by simp; omega)]
  rfl
theorem own_at (xs : List Int32) (dv : Value) (j : Nat) (hj : j < xs.length) : (xs.map Value.int).getD j dv = .int (xs.getD j 0) := by
  simp [List.getD_eq_getElem?_getD, List.getElem?_eq_getElem hj]
theorem own_clamp {i : Int32} {j : Nat} (h : i.toInt = (j : Int)) : i.toNatClampNeg = j := by
  show i.toInt.toNat = j
  omega
theorem own_len {n : Int32} {k : Nat} (h : n.toNatClampNeg = k) (h0 : ¬ n < 0) : n.toInt = (k : Int) := by
  have h1 : n.toInt.toNat = k := h
  rw [Int32.lt_iff_toInt_lt] at h0
  have e0 : (0 : Int32).toInt = 0 := rfl
  omega
theorem own_inc {i : Int32} {j : Nat} {n : Int32} (h : i.toInt = (j : Int)) (hn : i.toInt < n.toInt) : (i + (1 : Int32)).toInt = ((j + 1 : Nat) : Int) := by
  have e1 : (1 : Int32).toInt = 1 := rfl
  have r := rng32 n
  have r2 := rng32 (i + 1)
  have s := c_iadd i 1
  omega
def own_pow (k : Int32) : Int32 := if k = 0 then 1 else if k = 1 then 31 else if k = 2 then 961 else if k = 3 then 29791 else if k = 4 then 923521 else 28629151
def own_term (x i f t : Int32) : Int32 := if i < f then 0 else if i < t then x * own_pow ((t - 1) - i) else 0
def own_ref (x0 x1 x2 x3 x4 x5 f t : Int32) : Int32 := (((((own_term x0 0 f t + own_term x1 1 f t) + own_term x2 2 f t) + own_term x3 3 f t) + own_term x4 4 f t) + own_term x5 5 f t)
theorem own_i7 (z : Int32) (h : 0 ≤ z.toInt ∧ z.toInt < 7) : z = 0 ∨ z = 1 ∨ z = 2 ∨ z = 3 ∨ z = 4 ∨ z = 5 ∨ z = 6 := by
  have : z.toInt = 0 ∨ z.toInt = 1 ∨ z.toInt = 2 ∨ z.toInt = 3 ∨ z.toInt = 4 ∨ z.toInt = 5 ∨ z.toInt = 6 := by omega
  simp only [← Int32.toInt_inj]
  exact this
theorem own_eq (x0 x1 x2 x3 x4 x5 f t : Int32) (hf : 0 ≤ f.toInt) (hft : f.toInt ≤ t.toInt) (ht : t.toInt < 7) : own_hash [x0, x1, x2, x3, x4, x5] f.toNatClampNeg t.toNatClampNeg = own_ref x0 x1 x2 x3 x4 x5 f t := by
  rcases own_i7 f ⟨hf, by omega⟩ with rfl | rfl | rfl | rfl | rfl | rfl | rfl <;> rcases own_i7 t ⟨by omega, ht⟩ with rfl | rfl | rfl | rfl | rfl | rfl | rfl <;> first | (exact absurd hft (by decide)) | (show own_fold _ = own_ref _ _ _ _ _ _ _ _; simp [own_fold, own_ref, own_term, own_pow]; done) | (show own_fold _ = own_ref _ _ _ _ _ _ _ _; simp [own_fold, own_ref, own_term, own_pow]; grind)
theorem own_m7 (x f : Int32) (hf : 0 ≤ f.toInt ∧ f.toInt < 7) (hx : 0 ≤ x.toInt) : (7 : Int32) - f ≠ 0 ∧ f.toInt ≤ (f + x % (7 - f)).toInt ∧ (f + x % (7 - f)).toInt < 7 := by
  have e7 : (7 : Int32).toInt = 7 := rfl
  have s := c_isub 7 f
  have r := rng32 ((7 : Int32) - f)
  have d : ((7 : Int32) - f).toInt = 7 - f.toInt := by omega
  have q := (c_iremV x (7 - f)).1 hx (by omega)
  have a := c_iadd f (x % (7 - f))
  have ra := rng32 (f + x % (7 - f))
  refine ⟨fun h => ?_, by omega, by omega⟩
  rw [h] at d
  have e0 : (0 : Int32).toInt = 0 := rfl
  omega
theorem own_m8 (x : Int32) : 0 ≤ (x &&& 255).toInt := by rw [c_mask x 255 8 (by decide) (by decide)]; omega
theorem own_f7 (x : Int32) : 0 ≤ ((x &&& 255) % 7).toInt ∧ ((x &&& 255) % 7).toInt < 7 := by
  have q := (c_iremV (x &&& 255) 7).1 (own_m8 x) (by decide)
  exact ⟨q.1, q.2.1⟩
theorem own_pn0 : plainName "com/example/rankweave/rankweave/io/FieldBytes" = true := by first | (simp [plainName, overriddenIn]; done) | decide +kernel
theorem d1_0 : decode prog_45_method_1_code 0 = .ok (.aload_n 0, 1) := by decide +kernel
theorem d1_1 : decode prog_45_method_1_code 1 = .ok (.invokespecial 1, 3) := by decide +kernel
theorem d1_4 : decode prog_45_method_1_code 4 = .ok (.aload_n 0, 1) := by decide +kernel
theorem d1_5 : decode prog_45_method_1_code 5 = .ok (.iconst 0, 1) := by decide +kernel
theorem d1_6 : decode prog_45_method_1_code 6 = .ok (.newarray .byte, 2) := by decide +kernel
theorem d1_8 : decode prog_45_method_1_code 8 = .ok (.putfield 7, 3) := by decide +kernel
theorem d1_11 : decode prog_45_method_1_code 11 = .ok (.return_, 1) := by decide +kernel
theorem ef_rm1 (m : MethodId) (x0 : Addr) : entryFrame m #[(.ref x0)] 1 = mkF m 0 #[.val (.ref x0)] [] := by first | (simp [entryFrame, mkF, argsToLocals, Value.category]; done) | rfl
def Q1 (Z : State) (r0 : Addr) (h0 : Heap) (n0 : Nat) (v : Option Value) (h : Heap) (L : List Loc) : Prop := v = none ∧ Fr n0 L ∧ Keep h0 h [r0] ∧ Fld Z h r0 "com/example/rankweave/rankweave/io/FieldBytes" "from" "I" (.int (0 : Int32)) ∧ Fld Z h r0 "com/example/rankweave/rankweave/io/FieldBytes" "to" "I" (.int (0 : Int32)) ∧ Fld Z h r0 "com/example/rankweave/rankweave/io/FieldBytes" "hashed" "Z" (.int (0 : Int32)) ∧ Fld Z h r0 "com/example/rankweave/rankweave/io/FieldBytes" "hash" "I" (.int (0 : Int32)) ∧ ∃ (bb : Addr) (kk : ClassId), Fld Z h r0 "com/example/rankweave/rankweave/io/FieldBytes" "bytes" "[B" (.ref bb) ∧ Arv Z h bb kk .byte (0 : Int32) [] (.int (0 : Int32))
set_option maxRecDepth 65536 in
set_option maxHeartbeats 40000000 in
theorem rm1 (l : Launch) (Z : State) (a0 : Array Value) (hw : ∀ d ∈ tables_1, d.before a0 Z = true) (ws : List Jvm.Cond) (r0 : Addr) (h0 : Heap) (n0 : Nat) (Z0 : n0 ≤ h0.size) (A0 : Exa Z h0 r0 "com/example/rankweave/rankweave/io/FieldBytes") (g_r0 : n0 ≤ r0) (F_bytes : Fld Z h0 r0 "com/example/rankweave/rankweave/io/FieldBytes" "bytes" "[B" .null) (F_from : Fld Z h0 r0 "com/example/rankweave/rankweave/io/FieldBytes" "from" "I" (.int (0 : Int32))) (F_to : Fld Z h0 r0 "com/example/rankweave/rankweave/io/FieldBytes" "to" "I" (.int (0 : Int32))) (F_hashed : Fld Z h0 r0 "com/example/rankweave/rankweave/io/FieldBytes" "hashed" "Z" (.int (0 : Int32))) (F_hash : Fld Z h0 r0 "com/example/rankweave/rankweave/io/FieldBytes" "hash" "I" (.int (0 : Int32))) :
    MetFree l (⟨"com/example/rankweave/rankweave/io/FieldBytes", "<init>", "()V"⟩ : MethodName) (head1 (Jvm.Cond.code (⟨"com/example/rankweave/rankweave/io/FieldBytes", "<init>", "()V"⟩ : MethodName) prog_45_method_1_code 1 none :: ws) ({ frames := 1, cells := 1, slots := 0, locals := 12 } : Room)) (fun a U => a = #[(.ref r0)] ∧ Z.Warmed39 U.vm ∧ U.heap = h0) (fun _ _ _ _ _ => True) (fun _ U o U' => ∃ v L, o = .returned v ∧ Q1 Z r0 h0 n0 v U'.heap L ∧ FrameEnd U o U' L ({ frames := 1, cells := 1, slots := 0, locals := 12 } : Room).cells ({ frames := 1, cells := 1, slots := 0, locals := 12 } : Room).slots) := by
  refine MetFree.of_bodySF (plainFor_of_name own_pn0) hisR ?_
  intro p e s m args below meth c s₁ Bd hml0 hP hK
  obtain ⟨rfl, hZ, hh⟩ := hP
  have hx := Bd.exec
  have hby := Bd.bytes
  have hml : c.maxLocals = 1 := hml0
  have hown : s.vm.findClass "com/example/rankweave/rankweave/io/FieldBytes" = some m.cls := findClass_of_methodNamed Bd.named
  have hnm := (name_of_methodNamed Bd.named Bd.method).1
  have hlk : meth.locks = false := BodyLoose.notSynchronized Bd
  have X0 : Stand p l e ({ frames := 1, cells := 1, slots := 0, locals := 12 } : Room) s m #[(.ref r0)] below meth c s₁ [] 0 0 := Stand.of_body Bd
  have e0 : s₁.heap = h0 := by rw [← hh, Bd.state]; rfl
  have N0 := Fr.nil n0
  show GoesW p.tables e below s (Q1 Z r0 h0 n0) 1 0 (s₁.setTop (entryFrame m #[(.ref r0)] 1))
  rw [ef_rm1 m r0]
  show GoesW p.tables e below s (Q1 Z r0 h0 n0) 1 0 (s₁.setTop (mkF m 0 #[.val (.ref r0)] []))
  refine GoesW.step (fun _ k => XS.aloadN X0.here hx rfl (hb hby d1_0) rfl rfl k) ?_
  show GoesW p.tables e below s (Q1 Z r0 h0 n0) 1 0 (s₁.setTop (mkF m 1 #[.val (.ref r0)] [(.ref r0)]))
  obtain ⟨T1, X1, e1, st1⟩ := initO X0 hx hZ hown (hw _ (List.mem_of_getElem? (i := 7) rfl)) (hw _ (List.mem_of_getElem? (i := 8) rfl)) (hw _ (List.mem_of_getElem? (i := 9) rfl)) e0 (g := (mkF m 1 #[.val (.ref r0)] [(.ref r0)])) rfl (by rw [hml]; rfl) rfl (hb hby d1_1) (by decide) (W := 0) (by show 2 * 0 + _ ≤ _; exact Nat.le_of_eq rfl) (by decide)
  refine GoesW.step st1 ?_
  show GoesW p.tables e below s (Q1 Z r0 h0 n0) 1 0 (T1.setTop (mkF m 4 #[.val (.ref r0)] []))
  refine GoesW.step (fun _ k => XS.aloadN X1.here hx rfl (hb hby d1_4) rfl rfl k) ?_
  show GoesW p.tables e below s (Q1 Z r0 h0 n0) 1 0 (T1.setTop (mkF m 5 #[.val (.ref r0)] [(.ref r0)]))
  refine GoesW.step (fun _ k => XS.iconst X1.here hx rfl (hb hby d1_5) k) ?_
  show GoesW p.tables e below s (Q1 Z r0 h0 n0) 1 0 (T1.setTop (mkF m 6 #[.val (.ref r0)] [(.int (0 : Int32)), (.ref r0)]))
  obtain ⟨T2, h2, k2, X2, e2, E2, A2, st2⟩ := newP X1 hx hZ (hw _ (List.mem_of_getElem? (i := 0) rfl)) e1 (g := (mkF m 6 #[.val (.ref r0)] [(.int (0 : Int32)), (.ref r0)])) rfl (hb hby d1_6) rfl (by decide) (cap := 0) (by decide) (by decide) (by decide) (by decide)
  obtain ⟨b2, gs2⟩ : ∃ z, z = h0.size := ⟨_, rfl⟩
  rw [← gs2] at A2 st2
  have g_b2 : n0 ≤ b2 := Nat.le_trans Z0 (Nat.le_of_eq gs2.symm)
  have sz_b2 : h0.size ≤ b2 := Nat.le_trans (Keep.refl h0 [r0]).1 (Nat.le_of_eq gs2.symm)
  have ne_r0_b2 : r0 ≠ b2 := Nat.ne_of_lt (Nat.lt_of_lt_of_le A0.lt (Nat.le_of_eq gs2.symm))
  have Z2 : n0 ≤ h2.size := Nat.le_trans Z0 E2.1
  have K2 : Keep h0 h2 [r0] := (Keep.refl h0 [r0]).ext E2
  have V_b2 : Arv Z h2 b2 k2 .byte (0 : Int32) [] (.int (0 : Int32)) := (Arv.new A2 (by decide))
  refine GoesW.step st2 ?_
  show GoesW p.tables e below s (Q1 Z r0 h0 n0) 1 0 (T2.setTop (mkF m 8 #[.val (.ref r0)] [(.ref b2), (.ref r0)]))
  have Exa_r0_3 := (A0.ext E2)
  have Fld_r0_bytes_4 := (F_bytes.ext E2)
  obtain ⟨T5, h5, X5, e5, W5, st5⟩ := putF X2 hx hZ hown (host := "") (Or.inl (hw _ (List.mem_of_getElem? (i := 10) rfl))) Via.refl e2 Fld_r0_bytes_4 Exa_r0_3 (Or.inl (hw _ (List.mem_of_getElem? (i := 11) rfl))) (hw _ (List.mem_of_getElem? (i := 2) rfl)) (ty := (.array .byte)) (by decide) rfl rfl (g := (mkF m 8 #[.val (.ref r0)] [(.ref b2), (.ref r0)])) rfl rfl (hb hby d1_8)
  have F5 := Fld_r0_bytes_4.same W5
  have N5 := Fr.snoc X5 N0 g_r0
  have Z5 : n0 ≤ h5.size := Nat.le_trans Z2 (Keep.of_wr W5).1
  have K5 : Keep h0 h5 [r0] := K2.wr W5 (Or.inl (List.mem_of_getElem? (i := 0) rfl))
  refine GoesW.step st5 ?_
  show GoesW p.tables e below s (Q1 Z r0 h0 n0) 1 0 (T5.setTop (mkF m 11 #[.val (.ref r0)] []))
  have Fld_r0_from_6 := ((F_from.ext E2).other W5 (Or.inr (slot_ne (Or.inl (hw _ (List.mem_of_getElem? (i := 20) rfl))) (Or.inl (hw _ (List.mem_of_getElem? (i := 11) rfl))) (by decide) (t := .int) (t' := (.array .byte)) (by decide) (by decide))))
  have Fld_r0_to_7 := ((F_to.ext E2).other W5 (Or.inr (slot_ne (Or.inl (hw _ (List.mem_of_getElem? (i := 22) rfl))) (Or.inl (hw _ (List.mem_of_getElem? (i := 11) rfl))) (by decide) (t := .int) (t' := (.array .byte)) (by decide) (by decide))))
  have Fld_r0_hashed_8 := ((F_hashed.ext E2).other W5 (Or.inr (slot_ne (Or.inl (hw _ (List.mem_of_getElem? (i := 18) rfl))) (Or.inl (hw _ (List.mem_of_getElem? (i := 11) rfl))) (by decide) (t := .boolean) (t' := (.array .byte)) (by decide) (by decide))))
  have Fld_r0_hash_9 := ((F_hash.ext E2).other W5 (Or.inr (slot_ne (Or.inl (hw _ (List.mem_of_getElem? (i := 24) rfl))) (Or.inl (hw _ (List.mem_of_getElem? (i := 11) rfl))) (by decide) (t := .int) (t' := (.array .byte)) (by decide) (by decide))))
  have Arv_b2_10 := (V_b2.other W5 (Ne.symm ne_r0_b2))
  exact GoesW.retV X5 hx hlk Bd.returns (hb hby d1_11) (by show Q1 Z r0 h0 n0 _ T5.heap _; rw [e5]; exact ⟨rfl, N5, K5, Fld_r0_from_6, Fld_r0_to_7, Fld_r0_hashed_8, Fld_r0_hash_9, b2, k2, F5, Arv_b2_10⟩) (by decide) (by decide)
theorem d4_0 : decode prog_45_method_3_code 0 = .ok (.aload_n 0, 1) := by decide +kernel
theorem d4_1 : decode prog_45_method_3_code 1 = .ok (.aload_n 1, 1) := by decide +kernel
theorem d4_2 : decode prog_45_method_3_code 2 = .ok (.putfield 7, 3) := by decide +kernel
theorem d4_5 : decode prog_45_method_3_code 5 = .ok (.aload_n 0, 1) := by decide +kernel
theorem d4_6 : decode prog_45_method_3_code 6 = .ok (.iload_n 2, 1) := by decide +kernel
theorem d4_7 : decode prog_45_method_3_code 7 = .ok (.putfield 17, 3) := by decide +kernel
theorem d4_10 : decode prog_45_method_3_code 10 = .ok (.aload_n 0, 1) := by decide +kernel
theorem d4_11 : decode prog_45_method_3_code 11 = .ok (.iload_n 3, 1) := by decide +kernel
theorem d4_12 : decode prog_45_method_3_code 12 = .ok (.putfield 21, 3) := by decide +kernel
theorem d4_15 : decode prog_45_method_3_code 15 = .ok (.aload_n 0, 1) := by decide +kernel
theorem d4_16 : decode prog_45_method_3_code 16 = .ok (.iconst 0, 1) := by decide +kernel
theorem d4_17 : decode prog_45_method_3_code 17 = .ok (.putfield 24, 3) := by decide +kernel
theorem d4_20 : decode prog_45_method_3_code 20 = .ok (.return_, 1) := by decide +kernel
theorem ef_rm4 (m : MethodId) (x0 : Addr) (x1 : Addr) (x2 : Int32) (x3 : Int32) : entryFrame m #[(.ref x0), (.ref x1), (.int x2), (.int x3)] 4 = mkF m 0 #[.val (.ref x0), .val (.ref x1), .val (.int x2), .val (.int x3)] [] := by first | (simp [entryFrame, mkF, argsToLocals, Value.category]; done) | rfl
def Q4 (Z : State) (r0 : Addr) (r1 : Addr) (p2 : Int32) (p3 : Int32) (u0 : Value) (u1 : Value) (u2 : Value) (u3 : Value) (u4 : Value) (h0 : Heap) (n0 : Nat) (v : Option Value) (h : Heap) (L : List Loc) : Prop := v = none ∧ Fr n0 L ∧ Keep h0 h [r0] ∧ Fld Z h r0 "com/example/rankweave/rankweave/io/FieldBytes" "bytes" "[B" (.ref r1) ∧ Fld Z h r0 "com/example/rankweave/rankweave/io/FieldBytes" "from" "I" (.int p2) ∧ Fld Z h r0 "com/example/rankweave/rankweave/io/FieldBytes" "to" "I" (.int p3) ∧ Fld Z h r0 "com/example/rankweave/rankweave/io/FieldBytes" "hashed" "Z" (.int (0 : Int32)) ∧ Fld Z h r0 "com/example/rankweave/rankweave/io/FieldBytes" "hash" "I" u4
set_option maxRecDepth 65536 in
set_option maxHeartbeats 40000000 in
theorem rm4 (l : Launch) (Z : State) (a0 : Array Value) (hw : ∀ d ∈ tables_1, d.before a0 Z = true) (ws : List Jvm.Cond) (r0 : Addr) (r1 : Addr) (p2 : Int32) (p3 : Int32) (u0 : Value) (u1 : Value) (u2 : Value) (u3 : Value) (u4 : Value) (h0 : Heap) (n0 : Nat) (Z0 : n0 ≤ h0.size) (A0 : Exa Z h0 r0 "com/example/rankweave/rankweave/io/FieldBytes") (g_r0 : n0 ≤ r0) (F_bytes : Fld Z h0 r0 "com/example/rankweave/rankweave/io/FieldBytes" "bytes" "[B" u0) (F_from : Fld Z h0 r0 "com/example/rankweave/rankweave/io/FieldBytes" "from" "I" u1) (F_to : Fld Z h0 r0 "com/example/rankweave/rankweave/io/FieldBytes" "to" "I" u2) (F_hashed : Fld Z h0 r0 "com/example/rankweave/rankweave/io/FieldBytes" "hashed" "Z" u3) (F_hash : Fld Z h0 r0 "com/example/rankweave/rankweave/io/FieldBytes" "hash" "I" u4) :
    MetFree l (⟨"com/example/rankweave/rankweave/io/FieldBytes", "view", "([BII)V"⟩ : MethodName) (head1 (Jvm.Cond.code (⟨"com/example/rankweave/rankweave/io/FieldBytes", "view", "([BII)V"⟩ : MethodName) prog_45_method_3_code 4 none :: ws) ({ frames := 0, cells := 0, slots := 0, locals := 0 } : Room)) (fun a U => a = #[(.ref r0), (.ref r1), (.int p2), (.int p3)] ∧ Z.Warmed39 U.vm ∧ U.heap = h0) (fun _ _ _ _ _ => True) (fun _ U o U' => ∃ v L, o = .returned v ∧ Q4 Z r0 r1 p2 p3 u0 u1 u2 u3 u4 h0 n0 v U'.heap L ∧ FrameEnd U o U' L ({ frames := 0, cells := 0, slots := 0, locals := 0 } : Room).cells ({ frames := 0, cells := 0, slots := 0, locals := 0 } : Room).slots) := by
  refine MetFree.of_bodySF (plainFor_of_name own_pn0) hisR ?_
  intro p e s m args below meth c s₁ Bd hml0 hP hK
  obtain ⟨rfl, hZ, hh⟩ := hP
  have hx := Bd.exec
  have hby := Bd.bytes
  have hml : c.maxLocals = 4 := hml0
  have hown : s.vm.findClass "com/example/rankweave/rankweave/io/FieldBytes" = some m.cls := findClass_of_methodNamed Bd.named
  have hnm := (name_of_methodNamed Bd.named Bd.method).1
  have hlk : meth.locks = false := BodyLoose.notSynchronized Bd
  have X0 : Stand p l e ({ frames := 0, cells := 0, slots := 0, locals := 0 } : Room) s m #[(.ref r0), (.ref r1), (.int p2), (.int p3)] below meth c s₁ [] 0 0 := Stand.of_body Bd
  have e0 : s₁.heap = h0 := by rw [← hh, Bd.state]; rfl
  have N0 := Fr.nil n0
  show GoesW p.tables e below s (Q4 Z r0 r1 p2 p3 u0 u1 u2 u3 u4 h0 n0) 0 0 (s₁.setTop (entryFrame m #[(.ref r0), (.ref r1), (.int p2), (.int p3)] 4))
  rw [ef_rm4 m r0 r1 p2 p3]
  show GoesW p.tables e below s (Q4 Z r0 r1 p2 p3 u0 u1 u2 u3 u4 h0 n0) 0 0 (s₁.setTop (mkF m 0 #[.val (.ref r0), .val (.ref r1), .val (.int p2), .val (.int p3)] []))
  refine GoesW.step (fun _ k => XS.aloadN X0.here hx rfl (hb hby d4_0) rfl rfl k) ?_
  show GoesW p.tables e below s (Q4 Z r0 r1 p2 p3 u0 u1 u2 u3 u4 h0 n0) 0 0 (s₁.setTop (mkF m 1 #[.val (.ref r0), .val (.ref r1), .val (.int p2), .val (.int p3)] [(.ref r0)]))
  refine GoesW.step (fun _ k => XS.aloadN X0.here hx rfl (hb hby d4_1) rfl rfl k) ?_
  show GoesW p.tables e below s (Q4 Z r0 r1 p2 p3 u0 u1 u2 u3 u4 h0 n0) 0 0 (s₁.setTop (mkF m 2 #[.val (.ref r0), .val (.ref r1), .val (.int p2), .val (.int p3)] [(.ref r1), (.ref r0)]))
  obtain ⟨T1, h1, X1, e1, W1, st1⟩ := putF X0 hx hZ hown (host := "") (Or.inl (hw _ (List.mem_of_getElem? (i := 10) rfl))) Via.refl e0 F_bytes A0 (Or.inl (hw _ (List.mem_of_getElem? (i := 11) rfl))) (hw _ (List.mem_of_getElem? (i := 2) rfl)) (ty := (.array .byte)) (by decide) rfl rfl (g := (mkF m 2 #[.val (.ref r0), .val (.ref r1), .val (.int p2), .val (.int p3)] [(.ref r1), (.ref r0)])) rfl rfl (hb hby d4_2)
  have F1 := F_bytes.same W1
  have N1 := Fr.snoc X1 N0 g_r0
  have Z1 : n0 ≤ h1.size := Nat.le_trans Z0 (Keep.of_wr W1).1
  have K1 : Keep h0 h1 [r0] := (Keep.refl h0 [r0]).wr W1 (Or.inl (List.mem_of_getElem? (i := 0) rfl))
  refine GoesW.step st1 ?_
  show GoesW p.tables e below s (Q4 Z r0 r1 p2 p3 u0 u1 u2 u3 u4 h0 n0) 0 0 (T1.setTop (mkF m 5 #[.val (.ref r0), .val (.ref r1), .val (.int p2), .val (.int p3)] []))
  refine GoesW.step (fun _ k => XS.aloadN X1.here hx rfl (hb hby d4_5) rfl rfl k) ?_
  show GoesW p.tables e below s (Q4 Z r0 r1 p2 p3 u0 u1 u2 u3 u4 h0 n0) 0 0 (T1.setTop (mkF m 6 #[.val (.ref r0), .val (.ref r1), .val (.int p2), .val (.int p3)] [(.ref r0)]))
  refine GoesW.step (fun _ k => XS.iloadN X1.here hx rfl (hb hby d4_6) rfl k) ?_
  show GoesW p.tables e below s (Q4 Z r0 r1 p2 p3 u0 u1 u2 u3 u4 h0 n0) 0 0 (T1.setTop (mkF m 7 #[.val (.ref r0), .val (.ref r1), .val (.int p2), .val (.int p3)] [(.int p2), (.ref r0)]))
  have Exa_r0_2 := (A0.wr W1)
  have Fld_r0_from_3 := (F_from.other W1 (Or.inr (slot_ne (Or.inl (hw _ (List.mem_of_getElem? (i := 20) rfl))) (Or.inl (hw _ (List.mem_of_getElem? (i := 11) rfl))) (by decide) (t := .int) (t' := (.array .byte)) (by decide) (by decide))))
  obtain ⟨T4, h4, X4, e4, W4, st4⟩ := putF X1 hx hZ hown (host := "") (Or.inl (hw _ (List.mem_of_getElem? (i := 19) rfl))) Via.refl e1 Fld_r0_from_3 Exa_r0_2 (Or.inl (hw _ (List.mem_of_getElem? (i := 20) rfl))) (hw _ (List.mem_of_getElem? (i := 2) rfl)) (ty := .int) (by decide) rfl rfl (g := (mkF m 7 #[.val (.ref r0), .val (.ref r1), .val (.int p2), .val (.int p3)] [(.int p2), (.ref r0)])) rfl rfl (hb hby d4_7)
  have F4 := Fld_r0_from_3.same W4
  have N4 := Fr.snoc X4 N1 g_r0
  have Z4 : n0 ≤ h4.size := Nat.le_trans Z1 (Keep.of_wr W4).1
  have K4 : Keep h0 h4 [r0] := K1.wr W4 (Or.inl (List.mem_of_getElem? (i := 0) rfl))
  refine GoesW.step st4 ?_
  show GoesW p.tables e below s (Q4 Z r0 r1 p2 p3 u0 u1 u2 u3 u4 h0 n0) 0 0 (T4.setTop (mkF m 10 #[.val (.ref r0), .val (.ref r1), .val (.int p2), .val (.int p3)] []))
  refine GoesW.step (fun _ k => XS.aloadN X4.here hx rfl (hb hby d4_10) rfl rfl k) ?_
  show GoesW p.tables e below s (Q4 Z r0 r1 p2 p3 u0 u1 u2 u3 u4 h0 n0) 0 0 (T4.setTop (mkF m 11 #[.val (.ref r0), .val (.ref r1), .val (.int p2), .val (.int p3)] [(.ref r0)]))
  refine GoesW.step (fun _ k => XS.iloadN X4.here hx rfl (hb hby d4_11) rfl k) ?_
  show GoesW p.tables e below s (Q4 Z r0 r1 p2 p3 u0 u1 u2 u3 u4 h0 n0) 0 0 (T4.setTop (mkF m 12 #[.val (.ref r0), .val (.ref r1), .val (.int p2), .val (.int p3)] [(.int p3), (.ref r0)]))
  have Exa_r0_5 := (Exa_r0_2.wr W4)
  have Fld_r0_to_6 := ((F_to.other W1 (Or.inr (slot_ne (Or.inl (hw _ (List.mem_of_getElem? (i := 22) rfl))) (Or.inl (hw _ (List.mem_of_getElem? (i := 11) rfl))) (by decide) (t := .int) (t' := (.array .byte)) (by decide) (by decide)))).other W4 (Or.inr (slot_ne (Or.inl (hw _ (List.mem_of_getElem? (i := 22) rfl))) (Or.inl (hw _ (List.mem_of_getElem? (i := 20) rfl))) (by decide) (t := .int) (t' := .int) (by decide) (by decide))))
  obtain ⟨T7, h7, X7, e7, W7, st7⟩ := putF X4 hx hZ hown (host := "") (Or.inl (hw _ (List.mem_of_getElem? (i := 21) rfl))) Via.refl e4 Fld_r0_to_6 Exa_r0_5 (Or.inl (hw _ (List.mem_of_getElem? (i := 22) rfl))) (hw _ (List.mem_of_getElem? (i := 2) rfl)) (ty := .int) (by decide) rfl rfl (g := (mkF m 12 #[.val (.ref r0), .val (.ref r1), .val (.int p2), .val (.int p3)] [(.int p3), (.ref r0)])) rfl rfl (hb hby d4_12)
  have F7 := Fld_r0_to_6.same W7
  have N7 := Fr.snoc X7 N4 g_r0
  have Z7 : n0 ≤ h7.size := Nat.le_trans Z4 (Keep.of_wr W7).1
  have K7 : Keep h0 h7 [r0] := K4.wr W7 (Or.inl (List.mem_of_getElem? (i := 0) rfl))
  refine GoesW.step st7 ?_
  show GoesW p.tables e below s (Q4 Z r0 r1 p2 p3 u0 u1 u2 u3 u4 h0 n0) 0 0 (T7.setTop (mkF m 15 #[.val (.ref r0), .val (.ref r1), .val (.int p2), .val (.int p3)] []))
  refine GoesW.step (fun _ k => XS.aloadN X7.here hx rfl (hb hby d4_15) rfl rfl k) ?_
  show GoesW p.tables e below s (Q4 Z r0 r1 p2 p3 u0 u1 u2 u3 u4 h0 n0) 0 0 (T7.setTop (mkF m 16 #[.val (.ref r0), .val (.ref r1), .val (.int p2), .val (.int p3)] [(.ref r0)]))
  refine GoesW.step (fun _ k => XS.iconst X7.here hx rfl (hb hby d4_16) k) ?_
  show GoesW p.tables e below s (Q4 Z r0 r1 p2 p3 u0 u1 u2 u3 u4 h0 n0) 0 0 (T7.setTop (mkF m 17 #[.val (.ref r0), .val (.ref r1), .val (.int p2), .val (.int p3)] [(.int (0 : Int32)), (.ref r0)]))
  have Exa_r0_8 := (Exa_r0_5.wr W7)
  have Fld_r0_hashed_9 := (((F_hashed.other W1 (Or.inr (slot_ne (Or.inl (hw _ (List.mem_of_getElem? (i := 18) rfl))) (Or.inl (hw _ (List.mem_of_getElem? (i := 11) rfl))) (by decide) (t := .boolean) (t' := (.array .byte)) (by decide) (by decide)))).other W4 (Or.inr (slot_ne (Or.inl (hw _ (List.mem_of_getElem? (i := 18) rfl))) (Or.inl (hw _ (List.mem_of_getElem? (i := 20) rfl))) (by decide) (t := .boolean) (t' := .int) (by decide) (by decide)))).other W7 (Or.inr (slot_ne (Or.inl (hw _ (List.mem_of_getElem? (i := 18) rfl))) (Or.inl (hw _ (List.mem_of_getElem? (i := 22) rfl))) (by decide) (t := .boolean) (t' := .int) (by decide) (by decide))))
  obtain ⟨T10, h10, X10, e10, W10, st10⟩ := putFN X7 hx hZ hown (hw _ (List.mem_of_getElem? (i := 17) rfl)) Via.refl e7 Fld_r0_hashed_9 Exa_r0_8 (Or.inl (hw _ (List.mem_of_getElem? (i := 18) rfl))) (hw _ (List.mem_of_getElem? (i := 2) rfl)) (ty := .boolean) (v' := (.int (0 : Int32))) (by decide) (by first | rfl | decide) (by first | rfl | decide) (g := (mkF m 17 #[.val (.ref r0), .val (.ref r1), .val (.int p2), .val (.int p3)] [(.int (0 : Int32)), (.ref r0)])) rfl rfl (hb hby d4_17)
  have F10 := Fld_r0_hashed_9.same W10
  have N10 := Fr.snoc X10 N7 g_r0
  have Z10 : n0 ≤ h10.size := Nat.le_trans Z7 (Keep.of_wr W10).1
  have K10 : Keep h0 h10 [r0] := K7.wr W10 (Or.inl (List.mem_of_getElem? (i := 0) rfl))
  refine GoesW.step st10 ?_
  show GoesW p.tables e below s (Q4 Z r0 r1 p2 p3 u0 u1 u2 u3 u4 h0 n0) 0 0 (T10.setTop (mkF m 20 #[.val (.ref r0), .val (.ref r1), .val (.int p2), .val (.int p3)] []))
  have Fld_r0_bytes_11 := (((F1.other W4 (Or.inr (slot_ne (Or.inl (hw _ (List.mem_of_getElem? (i := 11) rfl))) (Or.inl (hw _ (List.mem_of_getElem? (i := 20) rfl))) (by decide) (t := (.array .byte)) (t' := .int) (by decide) (by decide)))).other W7 (Or.inr (slot_ne (Or.inl (hw _ (List.mem_of_getElem? (i := 11) rfl))) (Or.inl (hw _ (List.mem_of_getElem? (i := 22) rfl))) (by decide) (t := (.array .byte)) (t' := .int) (by decide) (by decide)))).other W10 (Or.inr (slot_ne (Or.inl (hw _ (List.mem_of_getElem? (i := 11) rfl))) (Or.inl (hw _ (List.mem_of_getElem? (i := 18) rfl))) (by decide) (t := (.array .byte)) (t' := .boolean) (by decide) (by decide))))
  have Fld_r0_from_12 := ((F4.other W7 (Or.inr (slot_ne (Or.inl (hw _ (List.mem_of_getElem? (i := 20) rfl))) (Or.inl (hw _ (List.mem_of_getElem? (i := 22) rfl))) (by decide) (t := .int) (t' := .int) (by decide) (by decide)))).other W10 (Or.inr (slot_ne (Or.inl (hw _ (List.mem_of_getElem? (i := 20) rfl))) (Or.inl (hw _ (List.mem_of_getElem? (i := 18) rfl))) (by decide) (t := .int) (t' := .boolean) (by decide) (by decide))))
  have Fld_r0_to_13 := (F7.other W10 (Or.inr (slot_ne (Or.inl (hw _ (List.mem_of_getElem? (i := 22) rfl))) (Or.inl (hw _ (List.mem_of_getElem? (i := 18) rfl))) (by decide) (t := .int) (t' := .boolean) (by decide) (by decide))))
  have Fld_r0_hash_14 := ((((F_hash.other W1 (Or.inr (slot_ne (Or.inl (hw _ (List.mem_of_getElem? (i := 24) rfl))) (Or.inl (hw _ (List.mem_of_getElem? (i := 11) rfl))) (by decide) (t := .int) (t' := (.array .byte)) (by decide) (by decide)))).other W4 (Or.inr (slot_ne (Or.inl (hw _ (List.mem_of_getElem? (i := 24) rfl))) (Or.inl (hw _ (List.mem_of_getElem? (i := 20) rfl))) (by decide) (t := .int) (t' := .int) (by decide) (by decide)))).other W7 (Or.inr (slot_ne (Or.inl (hw _ (List.mem_of_getElem? (i := 24) rfl))) (Or.inl (hw _ (List.mem_of_getElem? (i := 22) rfl))) (by decide) (t := .int) (t' := .int) (by decide) (by decide)))).other W10 (Or.inr (slot_ne (Or.inl (hw _ (List.mem_of_getElem? (i := 24) rfl))) (Or.inl (hw _ (List.mem_of_getElem? (i := 18) rfl))) (by decide) (t := .int) (t' := .boolean) (by decide) (by decide))))
  exact GoesW.retV X10 hx hlk Bd.returns (hb hby d4_20) (by show Q4 Z r0 r1 p2 p3 u0 u1 u2 u3 u4 h0 n0 _ T10.heap _; rw [e10]; exact ⟨rfl, N10, K10, Fld_r0_bytes_11, Fld_r0_from_12, Fld_r0_to_13, F10, Fld_r0_hash_14⟩) (by decide) (by decide)
theorem d3_0 : decode prog_45_method_5_code 0 = .ok (.aload_n 0, 1) := by decide +kernel
theorem d3_1 : decode prog_45_method_5_code 1 = .ok (.getfield 24, 3) := by decide +kernel
theorem d3_4 : decode prog_45_method_5_code 4 = .ok (.ifCond .ne 46, 3) := by decide +kernel
theorem d3_50 : decode prog_45_method_5_code 50 = .ok (.aload_n 0, 1) := by decide +kernel
theorem d3_51 : decode prog_45_method_5_code 51 = .ok (.getfield 37, 3) := by decide +kernel
theorem d3_54 : decode prog_45_method_5_code 54 = .ok (.ireturn, 1) := by decide +kernel
theorem ef_rm3b (m : MethodId) (x0 : Addr) : entryFrame m #[(.ref x0)] 3 = mkF m 0 #[.val (.ref x0), .unset, .unset] [] := by first | (simp [entryFrame, mkF, argsToLocals, Value.category]; done) | rfl
def Q3b (Z : State) (r0 : Addr) (u : Int32) (h0 : Heap) (n0 : Nat) (v : Option Value) (h : Heap) (L : List Loc) : Prop := v = some (.int u) ∧ Fr n0 L ∧ h = h0
set_option maxRecDepth 65536 in
set_option maxHeartbeats 40000000 in
theorem rm3b (l : Launch) (Z : State) (a0 : Array Value) (hw : ∀ d ∈ tables_1, d.before a0 Z = true) (ws : List Jvm.Cond) (r0 : Addr) (u : Int32) (h0 : Heap) (n0 : Nat) (Z0 : n0 ≤ h0.size) (F_hashed : Fld Z h0 r0 "com/example/rankweave/rankweave/io/FieldBytes" "hashed" "Z" (.int (1 : Int32))) (F_hash : Fld Z h0 r0 "com/example/rankweave/rankweave/io/FieldBytes" "hash" "I" (.int u)) :
    MetFree l (⟨"com/example/rankweave/rankweave/io/FieldBytes", "hashCode", "()I"⟩ : MethodName) (head1 (Jvm.Cond.code (⟨"com/example/rankweave/rankweave/io/FieldBytes", "hashCode", "()I"⟩ : MethodName) prog_45_method_5_code 3 (some .int) :: ws) ({ frames := 0, cells := 0, slots := 0, locals := 0 } : Room)) (fun a U => a = #[(.ref r0)] ∧ Z.Warmed39 U.vm ∧ U.heap = h0) (fun _ _ _ _ _ => True) (fun _ U o U' => ∃ v L, o = .returned v ∧ Q3b Z r0 u h0 n0 v U'.heap L ∧ FrameEnd U o U' L ({ frames := 0, cells := 0, slots := 0, locals := 0 } : Room).cells ({ frames := 0, cells := 0, slots := 0, locals := 0 } : Room).slots) := by
  refine MetFree.of_bodySF (plainFor_of_name own_pn0) hisR ?_
  intro p e s m args below meth c s₁ Bd hml0 hP hK
  obtain ⟨rfl, hZ, hh⟩ := hP
  have hx := Bd.exec
  have hby := Bd.bytes
  have hml : c.maxLocals = 3 := hml0
  have hown : s.vm.findClass "com/example/rankweave/rankweave/io/FieldBytes" = some m.cls := findClass_of_methodNamed Bd.named
  have hnm := (name_of_methodNamed Bd.named Bd.method).1
  have hlk : meth.locks = false := BodyLoose.notSynchronized Bd
  have X0 : Stand p l e ({ frames := 0, cells := 0, slots := 0, locals := 0 } : Room) s m #[(.ref r0)] below meth c s₁ [] 0 0 := Stand.of_body Bd
  have e0 : s₁.heap = h0 := by rw [← hh, Bd.state]; rfl
  have N0 := Fr.nil n0
  show GoesW p.tables e below s (Q3b Z r0 u h0 n0) 0 0 (s₁.setTop (entryFrame m #[(.ref r0)] 3))
  rw [ef_rm3b m r0]
  show GoesW p.tables e below s (Q3b Z r0 u h0 n0) 0 0 (s₁.setTop (mkF m 0 #[.val (.ref r0), .unset, .unset] []))
  refine GoesW.step (fun _ k => XS.aloadN X0.here hx rfl (hb hby d3_0) rfl rfl k) ?_
  show GoesW p.tables e below s (Q3b Z r0 u h0 n0) 0 0 (s₁.setTop (mkF m 1 #[.val (.ref r0), .unset, .unset] [(.ref r0)]))
  obtain ⟨T1, X1, e1, st1⟩ := getF X0 hx hZ hown (host := "") (Or.inl (hw _ (List.mem_of_getElem? (i := 17) rfl))) Via.refl e0 F_hashed (g := (mkF m 1 #[.val (.ref r0), .unset, .unset] [(.ref r0)])) rfl rfl (hb hby d3_1)
  refine GoesW.step st1 ?_
  show GoesW p.tables e below s (Q3b Z r0 u h0 n0) 0 0 (T1.setTop (mkF m 4 #[.val (.ref r0), .unset, .unset] [(.int (1 : Int32))]))
  refine GoesW.step (fun _ k => XS.ifYes X1.here hx rfl (pc0 := 4) (pc' := 50) rfl (hb hby d3_4) rfl ((if0 _ _).trans (feq (show ¬ (1 : Int32) = (0 : Int32) by decide)).2) (by decide) (by decide) k) ?_
  show GoesW p.tables e below s (Q3b Z r0 u h0 n0) 0 0 (T1.setTop (mkF m 50 #[.val (.ref r0), .unset, .unset] []))
  refine GoesW.step (fun _ k => XS.aloadN X1.here hx rfl (hb hby d3_50) rfl rfl k) ?_
  show GoesW p.tables e below s (Q3b Z r0 u h0 n0) 0 0 (T1.setTop (mkF m 51 #[.val (.ref r0), .unset, .unset] [(.ref r0)]))
  obtain ⟨T2, X2, e2, st2⟩ := getF X1 hx hZ hown (host := "") (Or.inl (hw _ (List.mem_of_getElem? (i := 23) rfl))) Via.refl e1 F_hash (g := (mkF m 51 #[.val (.ref r0), .unset, .unset] [(.ref r0)])) rfl rfl (hb hby d3_51)
  refine GoesW.step st2 ?_
  show GoesW p.tables e below s (Q3b Z r0 u h0 n0) 0 0 (T2.setTop (mkF m 54 #[.val (.ref r0), .unset, .unset] [(.int u)]))
  exact GoesW.retI X2 hx hlk Bd.returns (hb hby d3_54) (by show Q3b Z r0 u h0 n0 _ T2.heap _; rw [e2]; exact ⟨rfl, N0, rfl⟩) (by decide) (by decide)
theorem d3_7 : decode prog_45_method_5_code 7 = .ok (.iconst 0, 1) := by decide +kernel
theorem d3_8 : decode prog_45_method_5_code 8 = .ok (.istore_n 1, 1) := by decide +kernel
theorem d3_9 : decode prog_45_method_5_code 9 = .ok (.aload_n 0, 1) := by decide +kernel
theorem d3_10 : decode prog_45_method_5_code 10 = .ok (.getfield 17, 3) := by decide +kernel
theorem d3_13 : decode prog_45_method_5_code 13 = .ok (.istore_n 2, 1) := by decide +kernel
theorem d3_14 : decode prog_45_method_5_code 14 = .ok (.iload_n 2, 1) := by decide +kernel
theorem d3_15 : decode prog_45_method_5_code 15 = .ok (.aload_n 0, 1) := by decide +kernel
theorem d3_16 : decode prog_45_method_5_code 16 = .ok (.getfield 21, 3) := by decide +kernel
theorem d3_19 : decode prog_45_method_5_code 19 = .ok (.if_icmp .ge 21, 3) := by decide +kernel
theorem d3_22 : decode prog_45_method_5_code 22 = .ok (.bipush 31, 2) := by decide +kernel
theorem d3_24 : decode prog_45_method_5_code 24 = .ok (.iload_n 1, 1) := by decide +kernel
theorem d3_25 : decode prog_45_method_5_code 25 = .ok (.imul, 1) := by decide +kernel
theorem d3_26 : decode prog_45_method_5_code 26 = .ok (.aload_n 0, 1) := by decide +kernel
theorem d3_27 : decode prog_45_method_5_code 27 = .ok (.getfield 7, 3) := by decide +kernel
theorem d3_30 : decode prog_45_method_5_code 30 = .ok (.iload_n 2, 1) := by decide +kernel
theorem d3_31 : decode prog_45_method_5_code 31 = .ok (.baload, 1) := by decide +kernel
theorem d3_32 : decode prog_45_method_5_code 32 = .ok (.iadd, 1) := by decide +kernel
theorem d3_33 : decode prog_45_method_5_code 33 = .ok (.istore_n 1, 1) := by decide +kernel
theorem d3_34 : decode prog_45_method_5_code 34 = .ok (.iinc 2 1, 3) := by decide +kernel
theorem d3_37 : decode prog_45_method_5_code 37 = .ok (.goto (-23), 3) := by decide +kernel
theorem d3_40 : decode prog_45_method_5_code 40 = .ok (.aload_n 0, 1) := by decide +kernel
theorem d3_41 : decode prog_45_method_5_code 41 = .ok (.iload_n 1, 1) := by decide +kernel
theorem d3_42 : decode prog_45_method_5_code 42 = .ok (.putfield 37, 3) := by decide +kernel
theorem d3_45 : decode prog_45_method_5_code 45 = .ok (.aload_n 0, 1) := by decide +kernel
theorem d3_46 : decode prog_45_method_5_code 46 = .ok (.iconst 1, 1) := by decide +kernel
theorem d3_47 : decode prog_45_method_5_code 47 = .ok (.putfield 24, 3) := by decide +kernel
theorem ef_rm3 (m : MethodId) (x0 : Addr) : entryFrame m #[(.ref x0)] 3 = mkF m 0 #[.val (.ref x0), .unset, .unset] [] := by first | (simp [entryFrame, mkF, argsToLocals, Value.category]; done) | rfl
def Q3 (Z : State) (r0 : Addr) (ab : Addr) (f : Int32) (t : Int32) (u : Value) (kk : ClassId) (n : Int32) (xs : List Int32) (dv : Value) (h0 : Heap) (n0 : Nat) (v : Option Value) (h : Heap) (L : List Loc) : Prop := v = some (.int (own_hash xs f.toNatClampNeg t.toNatClampNeg)) ∧ Fr n0 L ∧ Keep h0 h [r0] ∧ Fld Z h r0 "com/example/rankweave/rankweave/io/FieldBytes" "bytes" "[B" (.ref ab) ∧ Fld Z h r0 "com/example/rankweave/rankweave/io/FieldBytes" "from" "I" (.int f) ∧ Fld Z h r0 "com/example/rankweave/rankweave/io/FieldBytes" "to" "I" (.int t) ∧ Fld Z h r0 "com/example/rankweave/rankweave/io/FieldBytes" "hashed" "Z" (.int (1 : Int32)) ∧ Fld Z h r0 "com/example/rankweave/rankweave/io/FieldBytes" "hash" "I" (.int (own_hash xs f.toNatClampNeg t.toNatClampNeg))
set_option maxRecDepth 65536 in
set_option maxHeartbeats 40000000 in
theorem rm3 (l : Launch) (Z : State) (a0 : Array Value) (hw : ∀ d ∈ tables_1, d.before a0 Z = true) (ws : List Jvm.Cond) (r0 : Addr) (ab : Addr) (f : Int32) (t : Int32) (u : Value) (kk : ClassId) (n : Int32) (xs : List Int32) (dv : Value) (h0 : Heap) (n0 : Nat) (Z0 : n0 ≤ h0.size) (A0 : Exa Z h0 r0 "com/example/rankweave/rankweave/io/FieldBytes") (g_r0 : n0 ≤ r0) (F_bytes : Fld Z h0 r0 "com/example/rankweave/rankweave/io/FieldBytes" "bytes" "[B" (.ref ab)) (F_from : Fld Z h0 r0 "com/example/rankweave/rankweave/io/FieldBytes" "from" "I" (.int f)) (F_to : Fld Z h0 r0 "com/example/rankweave/rankweave/io/FieldBytes" "to" "I" (.int t)) (F_hashed : Fld Z h0 r0 "com/example/rankweave/rankweave/io/FieldBytes" "hashed" "Z" (.int (0 : Int32))) (F_hash : Fld Z h0 r0 "com/example/rankweave/rankweave/io/FieldBytes" "hash" "I" u) (V0 : Arv Z h0 ab kk .byte n (xs.map Value.int) dv) (hn : n.toNatClampNeg = xs.length) (hf : 0 ≤ f.toInt) (hft : f.toInt ≤ t.toInt) (ht : t.toInt ≤ n.toInt) :
    MetFree l (⟨"com/example/rankweave/rankweave/io/FieldBytes", "hashCode", "()I"⟩ : MethodName) (head1 (Jvm.Cond.code (⟨"com/example/rankweave/rankweave/io/FieldBytes", "hashCode", "()I"⟩ : MethodName) prog_45_method_5_code 3 (some .int) :: ws) ({ frames := 0, cells := 0, slots := 0, locals := 0 } : Room)) (fun a U => a = #[(.ref r0)] ∧ Z.Warmed39 U.vm ∧ U.heap = h0) (fun _ _ _ _ _ => True) (fun _ U o U' => ∃ v L, o = .returned v ∧ Q3 Z r0 ab f t u kk n xs dv h0 n0 v U'.heap L ∧ FrameEnd U o U' L ({ frames := 0, cells := 0, slots := 0, locals := 0 } : Room).cells ({ frames := 0, cells := 0, slots := 0, locals := 0 } : Room).slots) := by
  refine MetFree.of_bodySF (plainFor_of_name own_pn0) hisR ?_
  intro p e s m args below meth c s₁ Bd hml0 hP hK
  obtain ⟨rfl, hZ, hh⟩ := hP
  have hx := Bd.exec
  have hby := Bd.bytes
  have hml : c.maxLocals = 3 := hml0
  have hown : s.vm.findClass "com/example/rankweave/rankweave/io/FieldBytes" = some m.cls := findClass_of_methodNamed Bd.named
  have hnm := (name_of_methodNamed Bd.named Bd.method).1
  have hlk : meth.locks = false := BodyLoose.notSynchronized Bd
  have X0 : Stand p l e ({ frames := 0, cells := 0, slots := 0, locals := 0 } : Room) s m #[(.ref r0)] below meth c s₁ [] 0 0 := Stand.of_body Bd
  have e0 : s₁.heap = h0 := by rw [← hh, Bd.state]; rfl
  have N0 := Fr.nil n0
  show GoesW p.tables e below s (Q3 Z r0 ab f t u kk n xs dv h0 n0) 0 0 (s₁.setTop (entryFrame m #[(.ref r0)] 3))
  rw [ef_rm3 m r0]
  show GoesW p.tables e below s (Q3 Z r0 ab f t u kk n xs dv h0 n0) 0 0 (s₁.setTop (mkF m 0 #[.val (.ref r0), .unset, .unset] []))
  refine GoesW.step (fun _ k => XS.aloadN X0.here hx rfl (hb hby d3_0) rfl rfl k) ?_
  show GoesW p.tables e below s (Q3 Z r0 ab f t u kk n xs dv h0 n0) 0 0 (s₁.setTop (mkF m 1 #[.val (.ref r0), .unset, .unset] [(.ref r0)]))
  obtain ⟨T1, X1, e1, st1⟩ := getF X0 hx hZ hown (host := "") (Or.inl (hw _ (List.mem_of_getElem? (i := 17) rfl))) Via.refl e0 F_hashed (g := (mkF m 1 #[.val (.ref r0), .unset, .unset] [(.ref r0)])) rfl rfl (hb hby d3_1)
  refine GoesW.step st1 ?_
  show GoesW p.tables e below s (Q3 Z r0 ab f t u kk n xs dv h0 n0) 0 0 (T1.setTop (mkF m 4 #[.val (.ref r0), .unset, .unset] [(.int (0 : Int32))]))
  refine GoesW.step (fun _ k => XS.ifNo X1.here hx rfl (hb hby d3_4) rfl ((if0 _ _).trans (teq (rfl : (0 : Int32) = (0 : Int32))).2) k) ?_
  show GoesW p.tables e below s (Q3 Z r0 ab f t u kk n xs dv h0 n0) 0 0 (T1.setTop (mkF m 7 #[.val (.ref r0), .unset, .unset] []))
  refine GoesW.step (fun _ k => XS.iconst X1.here hx rfl (hb hby d3_7) k) ?_
  show GoesW p.tables e below s (Q3 Z r0 ab f t u kk n xs dv h0 n0) 0 0 (T1.setTop (mkF m 8 #[.val (.ref r0), .unset, .unset] [(.int (0 : Int32))]))
  refine GoesW.step (fun _ k => XS.istoreN X1.here hx rfl (hb hby d3_8) rfl (l' := #[.val (.ref r0), .val (.int (0 : Int32)), .unset]) rfl k) ?_
  show GoesW p.tables e below s (Q3 Z r0 ab f t u kk n xs dv h0 n0) 0 0 (T1.setTop (mkF m 9 #[.val (.ref r0), .val (.int (0 : Int32)), .unset] []))
  refine GoesW.step (fun _ k => XS.aloadN X1.here hx rfl (hb hby d3_9) rfl rfl k) ?_
  show GoesW p.tables e below s (Q3 Z r0 ab f t u kk n xs dv h0 n0) 0 0 (T1.setTop (mkF m 10 #[.val (.ref r0), .val (.int (0 : Int32)), .unset] [(.ref r0)]))
  obtain ⟨T2, X2, e2, st2⟩ := getF X1 hx hZ hown (host := "") (Or.inl (hw _ (List.mem_of_getElem? (i := 19) rfl))) Via.refl e1 F_from (g := (mkF m 10 #[.val (.ref r0), .val (.int (0 : Int32)), .unset] [(.ref r0)])) rfl rfl (hb hby d3_10)
  refine GoesW.step st2 ?_
  show GoesW p.tables e below s (Q3 Z r0 ab f t u kk n xs dv h0 n0) 0 0 (T2.setTop (mkF m 13 #[.val (.ref r0), .val (.int (0 : Int32)), .unset] [(.int f)]))
  refine GoesW.step (fun _ k => XS.istoreN X2.here hx rfl (hb hby d3_13) rfl (l' := #[.val (.ref r0), .val (.int (0 : Int32)), .val (.int f)]) rfl k) ?_
  show GoesW p.tables e below s (Q3 Z r0 ab f t u kk n xs dv h0 n0) 0 0 (T2.setTop (mkF m 14 #[.val (.ref r0), .val (.int (0 : Int32)), .val (.int f)] []))
  have vvA := V0
  obtain ⟨clA, ArA, aqA, aSA, aNA, aHA, aGA⟩ := vvA
  have hnI : n.toInt = (xs.length : Int) := own_len hn aNA
  have e00 : (0 : Int32).toInt = 0 := rfl
  have fN : f.toInt = (f.toNatClampNeg : Int) := by show f.toInt = (f.toInt.toNat : Int); omega
  have tN : t.toInt = (t.toNatClampNeg : Int) := by show t.toInt = (t.toInt.toNat : Int); omega
  have loop : ∀ (k j : Nat) (i acc : Int32) (TL : State), Stand p l e ({ frames := 0, cells := 0, slots := 0, locals := 0 } : Room) s m #[(.ref r0)] below meth c TL [] 0 0 → TL.heap = h0 → f.toNatClampNeg ≤ j → j + k = t.toNatClampNeg → i.toInt = (j : Int) → acc = own_hash xs f.toNatClampNeg j → GoesW p.tables e below s (Q3 Z r0 ab f t u kk n xs dv h0 n0) 0 0 (TL.setTop (mkF m 14 #[.val (.ref r0), .val (.int acc), .val (.int i)] [])) := by
    intro k
    induction k with
    | zero =>
      intro j i acc TL XL eL hfj hk hi hacc
      have hge : ¬ i < t := by rw [Int32.lt_iff_toInt_lt]; omega
      have hjt : j = t.toNatClampNeg := by omega
      subst hacc
      rw [hjt]
      show GoesW p.tables e below s (Q3 Z r0 ab f t u kk n xs dv h0 n0) 0 0 (TL.setTop (mkF m 14 #[.val (.ref r0), .val (.int (own_hash xs f.toNatClampNeg t.toNatClampNeg)), .val (.int i)] []))
      refine GoesW.step (fun _ k => XS.iloadN XL.here hx rfl (hb hby d3_14) rfl k) ?_
      show GoesW p.tables e below s (Q3 Z r0 ab f t u kk n xs dv h0 n0) 0 0 (TL.setTop (mkF m 15 #[.val (.ref r0), .val (.int (own_hash xs f.toNatClampNeg t.toNatClampNeg)), .val (.int i)] [(.int i)]))
      refine GoesW.step (fun _ k => XS.aloadN XL.here hx rfl (hb hby d3_15) rfl rfl k) ?_
      show GoesW p.tables e below s (Q3 Z r0 ab f t u kk n xs dv h0 n0) 0 0 (TL.setTop (mkF m 16 #[.val (.ref r0), .val (.int (own_hash xs f.toNatClampNeg t.toNatClampNeg)), .val (.int i)] [(.ref r0), (.int i)]))
      obtain ⟨T3, X3, e3, st3⟩ := getF XL hx hZ hown (host := "") (Or.inl (hw _ (List.mem_of_getElem? (i := 21) rfl))) Via.refl eL F_to (g := (mkF m 16 #[.val (.ref r0), .val (.int (own_hash xs f.toNatClampNeg t.toNatClampNeg)), .val (.int i)] [(.ref r0), (.int i)])) rfl rfl (hb hby d3_16)
      refine GoesW.step st3 ?_
      show GoesW p.tables e below s (Q3 Z r0 ab f t u kk n xs dv h0 n0) 0 0 (T3.setTop (mkF m 19 #[.val (.ref r0), .val (.int (own_hash xs f.toNatClampNeg t.toNatClampNeg)), .val (.int i)] [(.int t), (.int i)]))
      refine GoesW.step (fun _ k => XS.icmpYes X3.here hx rfl (pc0 := 19) (pc' := 40) rfl (hb hby d3_19) rfl (flt hge).2.1 (by decide) (by decide) k) ?_
      show GoesW p.tables e below s (Q3 Z r0 ab f t u kk n xs dv h0 n0) 0 0 (T3.setTop (mkF m 40 #[.val (.ref r0), .val (.int (own_hash xs f.toNatClampNeg t.toNatClampNeg)), .val (.int i)] []))
      refine GoesW.step (fun _ k => XS.aloadN X3.here hx rfl (hb hby d3_40) rfl rfl k) ?_
      show GoesW p.tables e below s (Q3 Z r0 ab f t u kk n xs dv h0 n0) 0 0 (T3.setTop (mkF m 41 #[.val (.ref r0), .val (.int (own_hash xs f.toNatClampNeg t.toNatClampNeg)), .val (.int i)] [(.ref r0)]))
      refine GoesW.step (fun _ k => XS.iloadN X3.here hx rfl (hb hby d3_41) rfl k) ?_
      show GoesW p.tables e below s (Q3 Z r0 ab f t u kk n xs dv h0 n0) 0 0 (T3.setTop (mkF m 42 #[.val (.ref r0), .val (.int (own_hash xs f.toNatClampNeg t.toNatClampNeg)), .val (.int i)] [(.int (own_hash xs f.toNatClampNeg t.toNatClampNeg)), (.ref r0)]))
      obtain ⟨T4, h4, X4, e4, W4, st4⟩ := putF X3 hx hZ hown (host := "") (Or.inl (hw _ (List.mem_of_getElem? (i := 23) rfl))) Via.refl e3 F_hash A0 (Or.inl (hw _ (List.mem_of_getElem? (i := 24) rfl))) (hw _ (List.mem_of_getElem? (i := 2) rfl)) (ty := .int) (by decide) rfl rfl (g := (mkF m 42 #[.val (.ref r0), .val (.int (own_hash xs f.toNatClampNeg t.toNatClampNeg)), .val (.int i)] [(.int (own_hash xs f.toNatClampNeg t.toNatClampNeg)), (.ref r0)])) rfl rfl (hb hby d3_42)
      have F4 := F_hash.same W4
      have N4 := Fr.snoc X4 N0 g_r0
      have Z4 : n0 ≤ h4.size := Nat.le_trans Z0 (Keep.of_wr W4).1
      have K4 : Keep h0 h4 [r0] := (Keep.refl h0 [r0]).wr W4 (Or.inl (List.mem_of_getElem? (i := 0) rfl))
      refine GoesW.step st4 ?_
      show GoesW p.tables e below s (Q3 Z r0 ab f t u kk n xs dv h0 n0) 0 0 (T4.setTop (mkF m 45 #[.val (.ref r0), .val (.int (own_hash xs f.toNatClampNeg t.toNatClampNeg)), .val (.int i)] []))
      refine GoesW.step (fun _ k => XS.aloadN X4.here hx rfl (hb hby d3_45) rfl rfl k) ?_
      show GoesW p.tables e below s (Q3 Z r0 ab f t u kk n xs dv h0 n0) 0 0 (T4.setTop (mkF m 46 #[.val (.ref r0), .val (.int (own_hash xs f.toNatClampNeg t.toNatClampNeg)), .val (.int i)] [(.ref r0)]))
      refine GoesW.step (fun _ k => XS.iconst X4.here hx rfl (hb hby d3_46) k) ?_
      show GoesW p.tables e below s (Q3 Z r0 ab f t u kk n xs dv h0 n0) 0 0 (T4.setTop (mkF m 47 #[.val (.ref r0), .val (.int (own_hash xs f.toNatClampNeg t.toNatClampNeg)), .val (.int i)] [(.int (1 : Int32)), (.ref r0)]))
      have Exa_r0_5 := (A0.wr W4)
      have Fld_r0_hashed_6 := (F_hashed.other W4 (Or.inr (slot_ne (Or.inl (hw _ (List.mem_of_getElem? (i := 18) rfl))) (Or.inl (hw _ (List.mem_of_getElem? (i := 24) rfl))) (by decide) (t := .boolean) (t' := .int) (by decide) (by decide))))
      obtain ⟨T7, h7, X7, e7, W7, st7⟩ := putFN X4 hx hZ hown (hw _ (List.mem_of_getElem? (i := 17) rfl)) Via.refl e4 Fld_r0_hashed_6 Exa_r0_5 (Or.inl (hw _ (List.mem_of_getElem? (i := 18) rfl))) (hw _ (List.mem_of_getElem? (i := 2) rfl)) (ty := .boolean) (v' := (.int (1 : Int32))) (by decide) (by first | rfl | decide) (by first | rfl | decide) (g := (mkF m 47 #[.val (.ref r0), .val (.int (own_hash xs f.toNatClampNeg t.toNatClampNeg)), .val (.int i)] [(.int (1 : Int32)), (.ref r0)])) rfl rfl (hb hby d3_47)
      have F7 := Fld_r0_hashed_6.same W7
      have N7 := Fr.snoc X7 N4 g_r0
      have Z7 : n0 ≤ h7.size := Nat.le_trans Z4 (Keep.of_wr W7).1
      have K7 : Keep h0 h7 [r0] := K4.wr W7 (Or.inl (List.mem_of_getElem? (i := 0) rfl))
      refine GoesW.step st7 ?_
      show GoesW p.tables e below s (Q3 Z r0 ab f t u kk n xs dv h0 n0) 0 0 (T7.setTop (mkF m 50 #[.val (.ref r0), .val (.int (own_hash xs f.toNatClampNeg t.toNatClampNeg)), .val (.int i)] []))
      refine GoesW.step (fun _ k => XS.aloadN X7.here hx rfl (hb hby d3_50) rfl rfl k) ?_
      show GoesW p.tables e below s (Q3 Z r0 ab f t u kk n xs dv h0 n0) 0 0 (T7.setTop (mkF m 51 #[.val (.ref r0), .val (.int (own_hash xs f.toNatClampNeg t.toNatClampNeg)), .val (.int i)] [(.ref r0)]))
      have Fld_r0_hash_8 := (F4.other W7 (Or.inr (slot_ne (Or.inl (hw _ (List.mem_of_getElem? (i := 24) rfl))) (Or.inl (hw _ (List.mem_of_getElem? (i := 18) rfl))) (by decide) (t := .int) (t' := .boolean) (by decide) (by decide))))
      obtain ⟨T9, X9, e9, st9⟩ := getF X7 hx hZ hown (host := "") (Or.inl (hw _ (List.mem_of_getElem? (i := 23) rfl))) Via.refl e7 Fld_r0_hash_8 (g := (mkF m 51 #[.val (.ref r0), .val (.int (own_hash xs f.toNatClampNeg t.toNatClampNeg)), .val (.int i)] [(.ref r0)])) rfl rfl (hb hby d3_51)
      refine GoesW.step st9 ?_
      show GoesW p.tables e below s (Q3 Z r0 ab f t u kk n xs dv h0 n0) 0 0 (T9.setTop (mkF m 54 #[.val (.ref r0), .val (.int (own_hash xs f.toNatClampNeg t.toNatClampNeg)), .val (.int i)] [(.int (own_hash xs f.toNatClampNeg t.toNatClampNeg))]))
      have Fld_r0_bytes_10 := ((F_bytes.other W4 (Or.inr (slot_ne (Or.inl (hw _ (List.mem_of_getElem? (i := 11) rfl))) (Or.inl (hw _ (List.mem_of_getElem? (i := 24) rfl))) (by decide) (t := (.array .byte)) (t' := .int) (by decide) (by decide)))).other W7 (Or.inr (slot_ne (Or.inl (hw _ (List.mem_of_getElem? (i := 11) rfl))) (Or.inl (hw _ (List.mem_of_getElem? (i := 18) rfl))) (by decide) (t := (.array .byte)) (t' := .boolean) (by decide) (by decide))))
      have Fld_r0_from_11 := ((F_from.other W4 (Or.inr (slot_ne (Or.inl (hw _ (List.mem_of_getElem? (i := 20) rfl))) (Or.inl (hw _ (List.mem_of_getElem? (i := 24) rfl))) (by decide) (t := .int) (t' := .int) (by decide) (by decide)))).other W7 (Or.inr (slot_ne (Or.inl (hw _ (List.mem_of_getElem? (i := 20) rfl))) (Or.inl (hw _ (List.mem_of_getElem? (i := 18) rfl))) (by decide) (t := .int) (t' := .boolean) (by decide) (by decide))))
      have Fld_r0_to_12 := ((F_to.other W4 (Or.inr (slot_ne (Or.inl (hw _ (List.mem_of_getElem? (i := 22) rfl))) (Or.inl (hw _ (List.mem_of_getElem? (i := 24) rfl))) (by decide) (t := .int) (t' := .int) (by decide) (by decide)))).other W7 (Or.inr (slot_ne (Or.inl (hw _ (List.mem_of_getElem? (i := 22) rfl))) (Or.inl (hw _ (List.mem_of_getElem? (i := 18) rfl))) (by decide) (t := .int) (t' := .boolean) (by decide) (by decide))))
      exact GoesW.retI X9 hx hlk Bd.returns (hb hby d3_54) (by show Q3 Z r0 ab f t u kk n xs dv h0 n0 _ T9.heap _; rw [e9]; exact ⟨rfl, N7, K7, Fld_r0_bytes_10, Fld_r0_from_11, Fld_r0_to_12, F7, Fld_r0_hash_8⟩) (by decide) (by decide)
    | succ k ih =>
      intro j i acc TL XL eL hfj hk hi hacc
      have hlt : i < t := by rw [Int32.lt_iff_toInt_lt]; omega
      have hi0 : ¬ i < 0 := by rw [Int32.lt_iff_toInt_lt]; omega
      have hin : i < n := by rw [Int32.lt_iff_toInt_lt]; omega
      have hj : j < xs.length := by omega
      show GoesW p.tables e below s (Q3 Z r0 ab f t u kk n xs dv h0 n0) 0 0 (TL.setTop (mkF m 14 #[.val (.ref r0), .val (.int acc), .val (.int i)] []))
      refine GoesW.step (fun _ k => XS.iloadN XL.here hx rfl (hb hby d3_14) rfl k) ?_
      show GoesW p.tables e below s (Q3 Z r0 ab f t u kk n xs dv h0 n0) 0 0 (TL.setTop (mkF m 15 #[.val (.ref r0), .val (.int acc), .val (.int i)] [(.int i)]))
      refine GoesW.step (fun _ k => XS.aloadN XL.here hx rfl (hb hby d3_15) rfl rfl k) ?_
      show GoesW p.tables e below s (Q3 Z r0 ab f t u kk n xs dv h0 n0) 0 0 (TL.setTop (mkF m 16 #[.val (.ref r0), .val (.int acc), .val (.int i)] [(.ref r0), (.int i)]))
      obtain ⟨T13, X13, e13, st13⟩ := getF XL hx hZ hown (host := "") (Or.inl (hw _ (List.mem_of_getElem? (i := 21) rfl))) Via.refl eL F_to (g := (mkF m 16 #[.val (.ref r0), .val (.int acc), .val (.int i)] [(.ref r0), (.int i)])) rfl rfl (hb hby d3_16)
      refine GoesW.step st13 ?_
      show GoesW p.tables e below s (Q3 Z r0 ab f t u kk n xs dv h0 n0) 0 0 (T13.setTop (mkF m 19 #[.val (.ref r0), .val (.int acc), .val (.int i)] [(.int t), (.int i)]))
      refine GoesW.step (fun _ k => XS.icmpNo X13.here hx rfl (hb hby d3_19) rfl (tlt hlt).2.1 k) ?_
      show GoesW p.tables e below s (Q3 Z r0 ab f t u kk n xs dv h0 n0) 0 0 (T13.setTop (mkF m 22 #[.val (.ref r0), .val (.int acc), .val (.int i)] []))
      refine GoesW.step (fun _ k => XS.bipush X13.here hx rfl (hb hby d3_22) k) ?_
      show GoesW p.tables e below s (Q3 Z r0 ab f t u kk n xs dv h0 n0) 0 0 (T13.setTop (mkF m 24 #[.val (.ref r0), .val (.int acc), .val (.int i)] [(.int (31 : Int32))]))
      refine GoesW.step (fun _ k => XS.iloadN X13.here hx rfl (hb hby d3_24) rfl k) ?_
      show GoesW p.tables e below s (Q3 Z r0 ab f t u kk n xs dv h0 n0) 0 0 (T13.setTop (mkF m 25 #[.val (.ref r0), .val (.int acc), .val (.int i)] [(.int acc), (.int (31 : Int32))]))
      refine GoesW.step (fun _ k => XS.imul X13.here hx rfl (hb hby d3_25) rfl k) ?_
      show GoesW p.tables e below s (Q3 Z r0 ab f t u kk n xs dv h0 n0) 0 0 (T13.setTop (mkF m 26 #[.val (.ref r0), .val (.int acc), .val (.int i)] [(.int ((31 : Int32) * acc))]))
      refine GoesW.step (fun _ k => XS.aloadN X13.here hx rfl (hb hby d3_26) rfl rfl k) ?_
      show GoesW p.tables e below s (Q3 Z r0 ab f t u kk n xs dv h0 n0) 0 0 (T13.setTop (mkF m 27 #[.val (.ref r0), .val (.int acc), .val (.int i)] [(.ref r0), (.int ((31 : Int32) * acc))]))
      obtain ⟨T14, X14, e14, st14⟩ := getF X13 hx hZ hown (host := "") (Or.inl (hw _ (List.mem_of_getElem? (i := 10) rfl))) Via.refl e13 F_bytes (g := (mkF m 27 #[.val (.ref r0), .val (.int acc), .val (.int i)] [(.ref r0), (.int ((31 : Int32) * acc))])) rfl rfl (hb hby d3_27)
      refine GoesW.step st14 ?_
      show GoesW p.tables e below s (Q3 Z r0 ab f t u kk n xs dv h0 n0) 0 0 (T14.setTop (mkF m 30 #[.val (.ref r0), .val (.int acc), .val (.int i)] [(.ref ab), (.int ((31 : Int32) * acc))]))
      refine GoesW.step (fun _ k => XS.iloadN X14.here hx rfl (hb hby d3_30) rfl k) ?_
      show GoesW p.tables e below s (Q3 Z r0 ab f t u kk n xs dv h0 n0) 0 0 (T14.setTop (mkF m 31 #[.val (.ref r0), .val (.int acc), .val (.int i)] [(.int i), (.ref ab), (.int ((31 : Int32) * acc))]))
      obtain ⟨x, hxj⟩ : ∃ x, x = xs.getD j 0 := ⟨_, rfl⟩
      have hgx : (xs.map Value.int).getD i.toNatClampNeg dv = .int x := by rw [own_clamp hi, hxj]; exact own_at xs dv j hj
      have vv15 := V0
      obtain ⟨cl15, Ar15, aq15, aS15, aN15, aH15, aG15⟩ := vv15
      have hin15 : ¬ (i < 0 ∨ cl15.slots.size ≤ (i).toNatClampNeg) := inb_of aS15 ⟨hi0, hin⟩
      refine GoesW.step (fun _ k => X14.baloadBytes hx (j := i) (v := (.int x)) (by rw [e14]; exact Ar15.1) (State.isArrayOf_alike hZ.alike Ar15.2.1) Ar15.2.2 hin15 (Has.at aH15 hin15 hgx) (g := (mkF m 31 #[.val (.ref r0), .val (.int acc), .val (.int i)] [(.int i), (.ref ab), (.int ((31 : Int32) * acc))])) rfl rfl (hb hby d3_31) _ k) ?_
      show GoesW p.tables e below s (Q3 Z r0 ab f t u kk n xs dv h0 n0) 0 0 (T14.setTop (mkF m 32 #[.val (.ref r0), .val (.int acc), .val (.int i)] [(.int x), (.int ((31 : Int32) * acc))]))
      refine GoesW.step (fun _ k => XS.iadd X14.here hx rfl (hb hby d3_32) rfl k) ?_
      show GoesW p.tables e below s (Q3 Z r0 ab f t u kk n xs dv h0 n0) 0 0 (T14.setTop (mkF m 33 #[.val (.ref r0), .val (.int acc), .val (.int i)] [(.int (((31 : Int32) * acc) + x))]))
      refine GoesW.step (fun _ k => XS.istoreN X14.here hx rfl (hb hby d3_33) rfl (l' := #[.val (.ref r0), .val (.int (((31 : Int32) * acc) + x)), .val (.int i)]) rfl k) ?_
      show GoesW p.tables e below s (Q3 Z r0 ab f t u kk n xs dv h0 n0) 0 0 (T14.setTop (mkF m 34 #[.val (.ref r0), .val (.int (((31 : Int32) * acc) + x)), .val (.int i)] []))
      refine GoesW.step (fun _ k => XS.iinc X14.here hx rfl (hb hby d3_34) rfl (l' := #[.val (.ref r0), .val (.int (((31 : Int32) * acc) + x)), .val (.int (i + (1 : Int32)))]) rfl k) ?_
      show GoesW p.tables e below s (Q3 Z r0 ab f t u kk n xs dv h0 n0) 0 0 (T14.setTop (mkF m 37 #[.val (.ref r0), .val (.int (((31 : Int32) * acc) + x)), .val (.int (i + (1 : Int32)))] []))
      refine GoesW.step (fun _ k => XS.goto X14.here hx rfl (pc0 := 37) (pc' := 14) rfl (hb hby d3_37) (by decide) (by decide) k) ?_
      show GoesW p.tables e below s (Q3 Z r0 ab f t u kk n xs dv h0 n0) 0 0 (T14.setTop (mkF m 14 #[.val (.ref r0), .val (.int (((31 : Int32) * acc) + x)), .val (.int (i + (1 : Int32)))] []))
      exact ih (j + 1) _ _ _ X14 e14 (by omega) (by omega) (own_inc hi (by rw [← Int32.lt_iff_toInt_lt]; exact hlt)) (by rw [own_hash_step xs _ j hfj hj, ← hacc, ← hxj])
  exact loop (t.toNatClampNeg - f.toNatClampNeg) f.toNatClampNeg _ _ _ X2 e2 (Nat.le_refl _) (by omega) fN (own_hash_nil _ _).symm
theorem own_pn1 : plainName "com/example/rankweave/rankweave/io/FieldBytesHashCodePinLaw" = true := by first | (simp [plainName, overriddenIn]; done) | decide +kernel
theorem d7_0 : decode method_2_code 0 = .ok (.iload_n 0, 1) := by decide +kernel
theorem d7_1 : decode method_2_code 1 = .ok (.ifCond .ne 5, 3) := by decide +kernel
theorem d7_4 : decode method_2_code 4 = .ok (.iconst 1, 1) := by decide +kernel
theorem d7_5 : decode method_2_code 5 = .ok (.ireturn, 1) := by decide +kernel
theorem d7_6 : decode method_2_code 6 = .ok (.iload_n 0, 1) := by decide +kernel
theorem d7_7 : decode method_2_code 7 = .ok (.iconst 1, 1) := by decide +kernel
theorem d7_8 : decode method_2_code 8 = .ok (.if_icmp .ne 6, 3) := by decide +kernel
theorem d7_11 : decode method_2_code 11 = .ok (.bipush 31, 2) := by decide +kernel
theorem d7_13 : decode method_2_code 13 = .ok (.ireturn, 1) := by decide +kernel
theorem d7_14 : decode method_2_code 14 = .ok (.iload_n 0, 1) := by decide +kernel
theorem d7_15 : decode method_2_code 15 = .ok (.iconst 2, 1) := by decide +kernel
theorem d7_16 : decode method_2_code 16 = .ok (.if_icmp .ne 7, 3) := by decide +kernel
theorem d7_19 : decode method_2_code 19 = .ok (.sipush 961, 3) := by decide +kernel
theorem d7_22 : decode method_2_code 22 = .ok (.ireturn, 1) := by decide +kernel
theorem d7_23 : decode method_2_code 23 = .ok (.iload_n 0, 1) := by decide +kernel
theorem d7_24 : decode method_2_code 24 = .ok (.iconst 3, 1) := by decide +kernel
theorem d7_25 : decode method_2_code 25 = .ok (.if_icmp .ne 7, 3) := by decide +kernel
theorem d7_28 : decode method_2_code 28 = .ok (.sipush 29791, 3) := by decide +kernel
theorem d7_31 : decode method_2_code 31 = .ok (.ireturn, 1) := by decide +kernel
theorem d7_32 : decode method_2_code 32 = .ok (.iload_n 0, 1) := by decide +kernel
theorem d7_33 : decode method_2_code 33 = .ok (.iconst 4, 1) := by decide +kernel
theorem d7_34 : decode method_2_code 34 = .ok (.if_icmp .ne 6, 3) := by decide +kernel
theorem d7_37 : decode method_2_code 37 = .ok (.ldc 7, 2) := by decide +kernel
theorem d7_39 : decode method_2_code 39 = .ok (.ireturn, 1) := by decide +kernel
theorem d7_40 : decode method_2_code 40 = .ok (.ldc 8, 2) := by decide +kernel
theorem d7_42 : decode method_2_code 42 = .ok (.ireturn, 1) := by decide +kernel
theorem ef_rm7 (m : MethodId) (x0 : Int32) : entryFrame m #[(.int x0)] 1 = mkF m 0 #[.val (.int x0)] [] := by first | (simp [entryFrame, mkF, argsToLocals, Value.category]; done) | rfl
def Q7 (Z : State) (p0 : Int32) (h0 : Heap) (n0 : Nat) (v : Option Value) (h : Heap) (L : List Loc) : Prop := v = some (.int (own_pow p0)) ∧ Fr n0 L ∧ h = h0
set_option maxRecDepth 65536 in
set_option maxHeartbeats 40000000 in
theorem rm7 (l : Launch) (Z : State) (a0 : Array Value) (hw : ∀ d ∈ tables_1, d.before a0 Z = true) (ws : List Jvm.Cond) (p0 : Int32) (h0 : Heap) (n0 : Nat) (Z0 : n0 ≤ h0.size)  :
    MetFree l (⟨"com/example/rankweave/rankweave/io/FieldBytesHashCodePinLaw", "pow31", "(I)I"⟩ : MethodName) (head1 (Jvm.Cond.code (⟨"com/example/rankweave/rankweave/io/FieldBytesHashCodePinLaw", "pow31", "(I)I"⟩ : MethodName) method_2_code 1 (some .int) :: ws) ({ frames := 0, cells := 0, slots := 0, locals := 0 } : Room)) (fun a U => a = #[(.int p0)] ∧ Z.Warmed39 U.vm ∧ U.heap = h0) (fun _ _ _ _ _ => True) (fun _ U o U' => ∃ v L, o = .returned v ∧ Q7 Z p0 h0 n0 v U'.heap L ∧ FrameEnd U o U' L ({ frames := 0, cells := 0, slots := 0, locals := 0 } : Room).cells ({ frames := 0, cells := 0, slots := 0, locals := 0 } : Room).slots) := by
  refine MetFree.of_bodySF (plainFor_of_name own_pn1) hisR ?_
  intro p e s m args below meth c s₁ Bd hml0 hP hK
  obtain ⟨rfl, hZ, hh⟩ := hP
  have hx := Bd.exec
  have hby := Bd.bytes
  have hml : c.maxLocals = 1 := hml0
  have hown : s.vm.findClass "com/example/rankweave/rankweave/io/FieldBytesHashCodePinLaw" = some m.cls := findClass_of_methodNamed Bd.named
  have hnm := (name_of_methodNamed Bd.named Bd.method).1
  have hlk : meth.locks = false := BodyLoose.notSynchronized Bd
  have X0 : Stand p l e ({ frames := 0, cells := 0, slots := 0, locals := 0 } : Room) s m #[(.int p0)] below meth c s₁ [] 0 0 := Stand.of_body Bd
  have e0 : s₁.heap = h0 := by rw [← hh, Bd.state]; rfl
  have N0 := Fr.nil n0
  show GoesW p.tables e below s (Q7 Z p0 h0 n0) 0 0 (s₁.setTop (entryFrame m #[(.int p0)] 1))
  rw [ef_rm7 m p0]
  show GoesW p.tables e below s (Q7 Z p0 h0 n0) 0 0 (s₁.setTop (mkF m 0 #[.val (.int p0)] []))
  refine GoesW.step (fun _ k => XS.iloadN X0.here hx rfl (hb hby d7_0) rfl k) ?_
  show GoesW p.tables e below s (Q7 Z p0 h0 n0) 0 0 (s₁.setTop (mkF m 1 #[.val (.int p0)] [(.int p0)]))
  by_cases h1 : p0 = (0 : Int32)
  · skip
    refine GoesW.step (fun _ k => XS.ifNo X0.here hx rfl (hb hby d7_1) rfl ((if0 _ _).trans (teq h1).2) k) ?_
    show GoesW p.tables e below s (Q7 Z p0 h0 n0) 0 0 (s₁.setTop (mkF m 4 #[.val (.int p0)] []))
    refine GoesW.step (fun _ k => XS.iconst X0.here hx rfl (hb hby d7_4) k) ?_
    show GoesW p.tables e below s (Q7 Z p0 h0 n0) 0 0 (s₁.setTop (mkF m 5 #[.val (.int p0)] [(.int (1 : Int32))]))
    exact GoesW.retI X0 hx hlk Bd.returns (hb hby d7_5) (by show Q7 Z p0 h0 n0 _ s₁.heap _; rw [e0]; exact ⟨by rw [own_pow, if_pos h1], N0, rfl⟩) (by decide) (by decide)
  · skip
    refine GoesW.step (fun _ k => XS.ifYes X0.here hx rfl (pc0 := 1) (pc' := 6) rfl (hb hby d7_1) rfl ((if0 _ _).trans (feq h1).2) (by decide) (by decide) k) ?_
    show GoesW p.tables e below s (Q7 Z p0 h0 n0) 0 0 (s₁.setTop (mkF m 6 #[.val (.int p0)] []))
    refine GoesW.step (fun _ k => XS.iloadN X0.here hx rfl (hb hby d7_6) rfl k) ?_
    show GoesW p.tables e below s (Q7 Z p0 h0 n0) 0 0 (s₁.setTop (mkF m 7 #[.val (.int p0)] [(.int p0)]))
    refine GoesW.step (fun _ k => XS.iconst X0.here hx rfl (hb hby d7_7) k) ?_
    show GoesW p.tables e below s (Q7 Z p0 h0 n0) 0 0 (s₁.setTop (mkF m 8 #[.val (.int p0)] [(.int (1 : Int32)), (.int p0)]))
    by_cases h8 : p0 = (1 : Int32)
    · skip
      refine GoesW.step (fun _ k => XS.icmpNo X0.here hx rfl (hb hby d7_8) rfl (teq h8).2 k) ?_
      show GoesW p.tables e below s (Q7 Z p0 h0 n0) 0 0 (s₁.setTop (mkF m 11 #[.val (.int p0)] []))
      refine GoesW.step (fun _ k => XS.bipush X0.here hx rfl (hb hby d7_11) k) ?_
      show GoesW p.tables e below s (Q7 Z p0 h0 n0) 0 0 (s₁.setTop (mkF m 13 #[.val (.int p0)] [(.int (31 : Int32))]))
      exact GoesW.retI X0 hx hlk Bd.returns (hb hby d7_13) (by show Q7 Z p0 h0 n0 _ s₁.heap _; rw [e0]; exact ⟨by rw [own_pow, if_neg h1, if_pos h8], N0, rfl⟩) (by decide) (by decide)
    · skip
      refine GoesW.step (fun _ k => XS.icmpYes X0.here hx rfl (pc0 := 8) (pc' := 14) rfl (hb hby d7_8) rfl (feq h8).2 (by decide) (by decide) k) ?_
      show GoesW p.tables e below s (Q7 Z p0 h0 n0) 0 0 (s₁.setTop (mkF m 14 #[.val (.int p0)] []))
      refine GoesW.step (fun _ k => XS.iloadN X0.here hx rfl (hb hby d7_14) rfl k) ?_
      show GoesW p.tables e below s (Q7 Z p0 h0 n0) 0 0 (s₁.setTop (mkF m 15 #[.val (.int p0)] [(.int p0)]))
      refine GoesW.step (fun _ k => XS.iconst X0.here hx rfl (hb hby d7_15) k) ?_
      show GoesW p.tables e below s (Q7 Z p0 h0 n0) 0 0 (s₁.setTop (mkF m 16 #[.val (.int p0)] [(.int (2 : Int32)), (.int p0)]))
      by_cases h16 : p0 = (2 : Int32)
      · skip
        refine GoesW.step (fun _ k => XS.icmpNo X0.here hx rfl (hb hby d7_16) rfl (teq h16).2 k) ?_
        show GoesW p.tables e below s (Q7 Z p0 h0 n0) 0 0 (s₁.setTop (mkF m 19 #[.val (.int p0)] []))
        refine GoesW.step (fun _ k => XS.sipush X0.here hx rfl (hb hby d7_19) k) ?_
        show GoesW p.tables e below s (Q7 Z p0 h0 n0) 0 0 (s₁.setTop (mkF m 22 #[.val (.int p0)] [(.int (961 : Int32))]))
        exact GoesW.retI X0 hx hlk Bd.returns (hb hby d7_22) (by show Q7 Z p0 h0 n0 _ s₁.heap _; rw [e0]; exact ⟨by rw [own_pow, if_neg h1, if_neg h8, if_pos h16], N0, rfl⟩) (by decide) (by decide)
      · skip
        refine GoesW.step (fun _ k => XS.icmpYes X0.here hx rfl (pc0 := 16) (pc' := 23) rfl (hb hby d7_16) rfl (feq h16).2 (by decide) (by decide) k) ?_
        show GoesW p.tables e below s (Q7 Z p0 h0 n0) 0 0 (s₁.setTop (mkF m 23 #[.val (.int p0)] []))
        refine GoesW.step (fun _ k => XS.iloadN X0.here hx rfl (hb hby d7_23) rfl k) ?_
        show GoesW p.tables e below s (Q7 Z p0 h0 n0) 0 0 (s₁.setTop (mkF m 24 #[.val (.int p0)] [(.int p0)]))
        refine GoesW.step (fun _ k => XS.iconst X0.here hx rfl (hb hby d7_24) k) ?_
        show GoesW p.tables e below s (Q7 Z p0 h0 n0) 0 0 (s₁.setTop (mkF m 25 #[.val (.int p0)] [(.int (3 : Int32)), (.int p0)]))
        by_cases h25 : p0 = (3 : Int32)
        · skip
          refine GoesW.step (fun _ k => XS.icmpNo X0.here hx rfl (hb hby d7_25) rfl (teq h25).2 k) ?_
          show GoesW p.tables e below s (Q7 Z p0 h0 n0) 0 0 (s₁.setTop (mkF m 28 #[.val (.int p0)] []))
          refine GoesW.step (fun _ k => XS.sipush X0.here hx rfl (hb hby d7_28) k) ?_
          show GoesW p.tables e below s (Q7 Z p0 h0 n0) 0 0 (s₁.setTop (mkF m 31 #[.val (.int p0)] [(.int (29791 : Int32))]))
          exact GoesW.retI X0 hx hlk Bd.returns (hb hby d7_31) (by show Q7 Z p0 h0 n0 _ s₁.heap _; rw [e0]; exact ⟨by rw [own_pow, if_neg h1, if_neg h8, if_neg h16, if_pos h25], N0, rfl⟩) (by decide) (by decide)
        · skip
          refine GoesW.step (fun _ k => XS.icmpYes X0.here hx rfl (pc0 := 25) (pc' := 32) rfl (hb hby d7_25) rfl (feq h25).2 (by decide) (by decide) k) ?_
          show GoesW p.tables e below s (Q7 Z p0 h0 n0) 0 0 (s₁.setTop (mkF m 32 #[.val (.int p0)] []))
          refine GoesW.step (fun _ k => XS.iloadN X0.here hx rfl (hb hby d7_32) rfl k) ?_
          show GoesW p.tables e below s (Q7 Z p0 h0 n0) 0 0 (s₁.setTop (mkF m 33 #[.val (.int p0)] [(.int p0)]))
          refine GoesW.step (fun _ k => XS.iconst X0.here hx rfl (hb hby d7_33) k) ?_
          show GoesW p.tables e below s (Q7 Z p0 h0 n0) 0 0 (s₁.setTop (mkF m 34 #[.val (.int p0)] [(.int (4 : Int32)), (.int p0)]))
          by_cases h34 : p0 = (4 : Int32)
          · skip
            refine GoesW.step (fun _ k => XS.icmpNo X0.here hx rfl (hb hby d7_34) rfl (teq h34).2 k) ?_
            show GoesW p.tables e below s (Q7 Z p0 h0 n0) 0 0 (s₁.setTop (mkF m 37 #[.val (.int p0)] []))
            refine GoesW.step (fun _ k => X0.ldcInt hx hown (mvT hZ (hw _ (List.mem_of_getElem? (i := 40) rfl))) (g := (mkF m 37 #[.val (.int p0)] [])) rfl (hb hby d7_37) _ k) ?_
            show GoesW p.tables e below s (Q7 Z p0 h0 n0) 0 0 (s₁.setTop (mkF m 39 #[.val (.int p0)] [(.int (923521 : Int32))]))
            exact GoesW.retI X0 hx hlk Bd.returns (hb hby d7_39) (by show Q7 Z p0 h0 n0 _ s₁.heap _; rw [e0]; exact ⟨by rw [own_pow, if_neg h1, if_neg h8, if_neg h16, if_neg h25, if_pos h34], N0, rfl⟩) (by decide) (by decide)
          · skip
            refine GoesW.step (fun _ k => XS.icmpYes X0.here hx rfl (pc0 := 34) (pc' := 40) rfl (hb hby d7_34) rfl (feq h34).2 (by decide) (by decide) k) ?_
            show GoesW p.tables e below s (Q7 Z p0 h0 n0) 0 0 (s₁.setTop (mkF m 40 #[.val (.int p0)] []))
            refine GoesW.step (fun _ k => X0.ldcInt hx hown (mvT hZ (hw _ (List.mem_of_getElem? (i := 41) rfl))) (g := (mkF m 40 #[.val (.int p0)] [])) rfl (hb hby d7_40) _ k) ?_
            show GoesW p.tables e below s (Q7 Z p0 h0 n0) 0 0 (s₁.setTop (mkF m 42 #[.val (.int p0)] [(.int (28629151 : Int32))]))
            exact GoesW.retI X0 hx hlk Bd.returns (hb hby d7_42) (by show Q7 Z p0 h0 n0 _ s₁.heap _; rw [e0]; exact ⟨by rw [own_pow, if_neg h1, if_neg h8, if_neg h16, if_neg h25, if_neg h34], N0, rfl⟩) (by decide) (by decide)
theorem own_pd0 : parseMethodDescriptor "(I)I" = some ⟨[.int], some .int⟩ := by decide +kernel
theorem d6_0 : decode method_3_code 0 = .ok (.iload_n 1, 1) := by decide +kernel
theorem d6_1 : decode method_3_code 1 = .ok (.iload_n 2, 1) := by decide +kernel
theorem d6_2 : decode method_3_code 2 = .ok (.if_icmp .lt 8, 3) := by decide +kernel
theorem d6_5 : decode method_3_code 5 = .ok (.iload_n 1, 1) := by decide +kernel
theorem d6_6 : decode method_3_code 6 = .ok (.iload_n 3, 1) := by decide +kernel
theorem d6_7 : decode method_3_code 7 = .ok (.if_icmp .lt 5, 3) := by decide +kernel
theorem d6_10 : decode method_3_code 10 = .ok (.iconst 0, 1) := by decide +kernel
theorem d6_11 : decode method_3_code 11 = .ok (.ireturn, 1) := by decide +kernel
theorem d6_12 : decode method_3_code 12 = .ok (.aload_n 0, 1) := by decide +kernel
theorem d6_13 : decode method_3_code 13 = .ok (.iload_n 1, 1) := by decide +kernel
theorem d6_14 : decode method_3_code 14 = .ok (.baload, 1) := by decide +kernel
theorem d6_15 : decode method_3_code 15 = .ok (.iload_n 3, 1) := by decide +kernel
theorem d6_16 : decode method_3_code 16 = .ok (.iconst 1, 1) := by decide +kernel
theorem d6_17 : decode method_3_code 17 = .ok (.isub, 1) := by decide +kernel
theorem d6_18 : decode method_3_code 18 = .ok (.iload_n 1, 1) := by decide +kernel
theorem d6_19 : decode method_3_code 19 = .ok (.isub, 1) := by decide +kernel
theorem d6_20 : decode method_3_code 20 = .ok (.invokestatic 9, 3) := by decide +kernel
theorem d6_23 : decode method_3_code 23 = .ok (.imul, 1) := by decide +kernel
theorem d6_24 : decode method_3_code 24 = .ok (.ireturn, 1) := by decide +kernel
theorem ef_rm6 (m : MethodId) (x0 : Addr) (x1 : Int32) (x2 : Int32) (x3 : Int32) : entryFrame m #[(.ref x0), (.int x1), (.int x2), (.int x3)] 4 = mkF m 0 #[.val (.ref x0), .val (.int x1), .val (.int x2), .val (.int x3)] [] := by first | (simp [entryFrame, mkF, argsToLocals, Value.category]; done) | rfl
def Q6 (Z : State) (r0 : Addr) (p1 : Int32) (p2 : Int32) (p3 : Int32) (kk : ClassId) (n : Int32) (xs : List Int32) (dv : Value) (x : Int32) (h0 : Heap) (n0 : Nat) (v : Option Value) (h : Heap) (L : List Loc) : Prop := v = some (.int (own_term x p1 p2 p3)) ∧ Fr n0 L ∧ h = h0
set_option maxRecDepth 65536 in
set_option maxHeartbeats 40000000 in
theorem rm6 (l : Launch) (Z : State) (a0 : Array Value) (hw : ∀ d ∈ tables_1, d.before a0 Z = true) (ws : List Jvm.Cond) (r0 : Addr) (p1 : Int32) (p2 : Int32) (p3 : Int32) (kk : ClassId) (n : Int32) (xs : List Int32) (dv : Value) (x : Int32) (h0 : Heap) (n0 : Nat) (Z0 : n0 ≤ h0.size) (V0 : Arv Z h0 r0 kk .byte n (xs.map Value.int) dv) (hi0 : ¬ p1 < 0) (hin : p1 < n) (hgx : (xs.map Value.int).getD p1.toNatClampNeg dv = .int x) :
    MetFree l (⟨"com/example/rankweave/rankweave/io/FieldBytesHashCodePinLaw", "term", "([BIII)I"⟩ : MethodName) (head1 (Jvm.Cond.code (⟨"com/example/rankweave/rankweave/io/FieldBytesHashCodePinLaw", "term", "([BIII)I"⟩ : MethodName) method_3_code 4 (some .int) :: ws) ({ frames := 1, cells := 0, slots := 0, locals := 13 } : Room)) (fun a U => a = #[(.ref r0), (.int p1), (.int p2), (.int p3)] ∧ Z.Warmed39 U.vm ∧ U.heap = h0) (fun _ _ _ _ _ => True) (fun _ U o U' => ∃ v L, o = .returned v ∧ Q6 Z r0 p1 p2 p3 kk n xs dv x h0 n0 v U'.heap L ∧ FrameEnd U o U' L ({ frames := 1, cells := 0, slots := 0, locals := 13 } : Room).cells ({ frames := 1, cells := 0, slots := 0, locals := 13 } : Room).slots) := by
  refine MetFree.of_bodySF (plainFor_of_name own_pn1) hisR ?_
  intro p e s m args below meth c s₁ Bd hml0 hP hK
  obtain ⟨rfl, hZ, hh⟩ := hP
  have hx := Bd.exec
  have hby := Bd.bytes
  have hml : c.maxLocals = 4 := hml0
  have hown : s.vm.findClass "com/example/rankweave/rankweave/io/FieldBytesHashCodePinLaw" = some m.cls := findClass_of_methodNamed Bd.named
  have hnm := (name_of_methodNamed Bd.named Bd.method).1
  have hlk : meth.locks = false := BodyLoose.notSynchronized Bd
  have X0 : Stand p l e ({ frames := 1, cells := 0, slots := 0, locals := 13 } : Room) s m #[(.ref r0), (.int p1), (.int p2), (.int p3)] below meth c s₁ [] 0 0 := Stand.of_body Bd
  have e0 : s₁.heap = h0 := by rw [← hh, Bd.state]; rfl
  have N0 := Fr.nil n0
  show GoesW p.tables e below s (Q6 Z r0 p1 p2 p3 kk n xs dv x h0 n0) 0 0 (s₁.setTop (entryFrame m #[(.ref r0), (.int p1), (.int p2), (.int p3)] 4))
  rw [ef_rm6 m r0 p1 p2 p3]
  show GoesW p.tables e below s (Q6 Z r0 p1 p2 p3 kk n xs dv x h0 n0) 0 0 (s₁.setTop (mkF m 0 #[.val (.ref r0), .val (.int p1), .val (.int p2), .val (.int p3)] []))
  refine GoesW.step (fun _ k => XS.iloadN X0.here hx rfl (hb hby d6_0) rfl k) ?_
  show GoesW p.tables e below s (Q6 Z r0 p1 p2 p3 kk n xs dv x h0 n0) 0 0 (s₁.setTop (mkF m 1 #[.val (.ref r0), .val (.int p1), .val (.int p2), .val (.int p3)] [(.int p1)]))
  refine GoesW.step (fun _ k => XS.iloadN X0.here hx rfl (hb hby d6_1) rfl k) ?_
  show GoesW p.tables e below s (Q6 Z r0 p1 p2 p3 kk n xs dv x h0 n0) 0 0 (s₁.setTop (mkF m 2 #[.val (.ref r0), .val (.int p1), .val (.int p2), .val (.int p3)] [(.int p2), (.int p1)]))
  by_cases h2 : p1 < p2
  · skip
    refine GoesW.step (fun _ k => XS.icmpYes X0.here hx rfl (pc0 := 2) (pc' := 10) rfl (hb hby d6_2) rfl (tlt h2).1 (by decide) (by decide) k) ?_
    show GoesW p.tables e below s (Q6 Z r0 p1 p2 p3 kk n xs dv x h0 n0) 0 0 (s₁.setTop (mkF m 10 #[.val (.ref r0), .val (.int p1), .val (.int p2), .val (.int p3)] []))
    refine GoesW.step (fun _ k => XS.iconst X0.here hx rfl (hb hby d6_10) k) ?_
    show GoesW p.tables e below s (Q6 Z r0 p1 p2 p3 kk n xs dv x h0 n0) 0 0 (s₁.setTop (mkF m 11 #[.val (.ref r0), .val (.int p1), .val (.int p2), .val (.int p3)] [(.int (0 : Int32))]))
    exact GoesW.retI X0 hx hlk Bd.returns (hb hby d6_11) (by show Q6 Z r0 p1 p2 p3 kk n xs dv x h0 n0 _ s₁.heap _; rw [e0]; exact ⟨by rw [own_term, if_pos h2], N0, rfl⟩) (by decide) (by decide)
  · skip
    refine GoesW.step (fun _ k => XS.icmpNo X0.here hx rfl (hb hby d6_2) rfl (flt h2).1 k) ?_
    show GoesW p.tables e below s (Q6 Z r0 p1 p2 p3 kk n xs dv x h0 n0) 0 0 (s₁.setTop (mkF m 5 #[.val (.ref r0), .val (.int p1), .val (.int p2), .val (.int p3)] []))
    refine GoesW.step (fun _ k => XS.iloadN X0.here hx rfl (hb hby d6_5) rfl k) ?_
    show GoesW p.tables e below s (Q6 Z r0 p1 p2 p3 kk n xs dv x h0 n0) 0 0 (s₁.setTop (mkF m 6 #[.val (.ref r0), .val (.int p1), .val (.int p2), .val (.int p3)] [(.int p1)]))
    refine GoesW.step (fun _ k => XS.iloadN X0.here hx rfl (hb hby d6_6) rfl k) ?_
    show GoesW p.tables e below s (Q6 Z r0 p1 p2 p3 kk n xs dv x h0 n0) 0 0 (s₁.setTop (mkF m 7 #[.val (.ref r0), .val (.int p1), .val (.int p2), .val (.int p3)] [(.int p3), (.int p1)]))
    by_cases h7 : p1 < p3
    · skip
      refine GoesW.step (fun _ k => XS.icmpYes X0.here hx rfl (pc0 := 7) (pc' := 12) rfl (hb hby d6_7) rfl (tlt h7).1 (by decide) (by decide) k) ?_
      show GoesW p.tables e below s (Q6 Z r0 p1 p2 p3 kk n xs dv x h0 n0) 0 0 (s₁.setTop (mkF m 12 #[.val (.ref r0), .val (.int p1), .val (.int p2), .val (.int p3)] []))
      refine GoesW.step (fun _ k => XS.aloadN X0.here hx rfl (hb hby d6_12) rfl rfl k) ?_
      show GoesW p.tables e below s (Q6 Z r0 p1 p2 p3 kk n xs dv x h0 n0) 0 0 (s₁.setTop (mkF m 13 #[.val (.ref r0), .val (.int p1), .val (.int p2), .val (.int p3)] [(.ref r0)]))
      refine GoesW.step (fun _ k => XS.iloadN X0.here hx rfl (hb hby d6_13) rfl k) ?_
      show GoesW p.tables e below s (Q6 Z r0 p1 p2 p3 kk n xs dv x h0 n0) 0 0 (s₁.setTop (mkF m 14 #[.val (.ref r0), .val (.int p1), .val (.int p2), .val (.int p3)] [(.int p1), (.ref r0)]))
      have vv1 := V0
      obtain ⟨cl1, Ar1, aq1, aS1, aN1, aH1, aG1⟩ := vv1
      have hin1 : ¬ (p1 < 0 ∨ cl1.slots.size ≤ (p1).toNatClampNeg) := inb_of aS1 ⟨hi0, hin⟩
      refine GoesW.step (fun _ k => X0.baloadBytes hx (j := p1) (v := (.int x)) (by rw [e0]; exact Ar1.1) (State.isArrayOf_alike hZ.alike Ar1.2.1) Ar1.2.2 hin1 (Has.at aH1 hin1 hgx) (g := (mkF m 14 #[.val (.ref r0), .val (.int p1), .val (.int p2), .val (.int p3)] [(.int p1), (.ref r0)])) rfl rfl (hb hby d6_14) _ k) ?_
      show GoesW p.tables e below s (Q6 Z r0 p1 p2 p3 kk n xs dv x h0 n0) 0 0 (s₁.setTop (mkF m 15 #[.val (.ref r0), .val (.int p1), .val (.int p2), .val (.int p3)] [(.int x)]))
      refine GoesW.step (fun _ k => XS.iloadN X0.here hx rfl (hb hby d6_15) rfl k) ?_
      show GoesW p.tables e below s (Q6 Z r0 p1 p2 p3 kk n xs dv x h0 n0) 0 0 (s₁.setTop (mkF m 16 #[.val (.ref r0), .val (.int p1), .val (.int p2), .val (.int p3)] [(.int p3), (.int x)]))
      refine GoesW.step (fun _ k => XS.iconst X0.here hx rfl (hb hby d6_16) k) ?_
      show GoesW p.tables e below s (Q6 Z r0 p1 p2 p3 kk n xs dv x h0 n0) 0 0 (s₁.setTop (mkF m 17 #[.val (.ref r0), .val (.int p1), .val (.int p2), .val (.int p3)] [(.int (1 : Int32)), (.int p3), (.int x)]))
      refine GoesW.step (fun _ k => XS.isub X0.here hx rfl (hb hby d6_17) rfl k) ?_
      show GoesW p.tables e below s (Q6 Z r0 p1 p2 p3 kk n xs dv x h0 n0) 0 0 (s₁.setTop (mkF m 18 #[.val (.ref r0), .val (.int p1), .val (.int p2), .val (.int p3)] [(.int (p3 - (1 : Int32))), (.int x)]))
      refine GoesW.step (fun _ k => XS.iloadN X0.here hx rfl (hb hby d6_18) rfl k) ?_
      show GoesW p.tables e below s (Q6 Z r0 p1 p2 p3 kk n xs dv x h0 n0) 0 0 (s₁.setTop (mkF m 19 #[.val (.ref r0), .val (.int p1), .val (.int p2), .val (.int p3)] [(.int p1), (.int (p3 - (1 : Int32))), (.int x)]))
      refine GoesW.step (fun _ k => XS.isub X0.here hx rfl (hb hby d6_19) rfl k) ?_
      show GoesW p.tables e below s (Q6 Z r0 p1 p2 p3 kk n xs dv x h0 n0) 0 0 (s₁.setTop (mkF m 20 #[.val (.ref r0), .val (.int p1), .val (.int p2), .val (.int p3)] [(.int ((p3 - (1 : Int32)) - p1)), (.int x)]))
      obtain ⟨_, _, ⟨T2, L2, k2, n2⟩, -, X2, ⟨Lc2, hQ2, l2, y2, z2⟩, st2⟩ := Jvm.LawKit.callS X0 hx (y := (⟨"com/example/rankweave/rankweave/io/FieldBytesHashCodePinLaw", "pow31", "(I)I"⟩ : MethodName)) hown (mvT hZ (hw _ (List.mem_of_getElem? (i := 37) rfl))) (mvT hZ (hw _ (List.mem_of_getElem? (i := 38) rfl))) (mvT hZ (hw _ (List.mem_of_getElem? (i := 32) rfl))) (mvT hZ (hw _ (List.mem_of_getElem? (i := 39) rfl))) (by decide) (backOf (W := 1) (rm7 l Z a0 hw [] ((p3 - (1 : Int32)) - p1)  h0 n0 Z0 ) hZ (hw _ (List.mem_of_getElem? (i := 39) rfl)) (hw _ (List.mem_of_getElem? (i := 32) rfl)) (by decide) (by decide)) (g := (mkF m 20 #[.val (.ref r0), .val (.int p1), .val (.int p2), .val (.int p3)] [(.int ((p3 - (1 : Int32)) - p1)), (.int x)])) rfl (by rw [hml]; rfl) (argsL := [(.int ((p3 - (1 : Int32)) - p1))]) (rest := [(.int x)]) (lenOf own_pd0 rfl) rfl (by show 2 * 0 + _ ≤ _; exact Nat.le_of_eq rfl) (hb hby d6_20) (fun _ _ => ⟨rfl, e0, (by decide : 0 + 0 ≤ _), (by decide : 0 + 0 ≤ _)⟩)
      dsimp only [Pt.U, Pt.locs, Pt.cells, Pt.slots] at X2 l2 y2 z2 st2 hQ2
      subst l2 y2 z2
      obtain ⟨rfl, N2q, eq2⟩ := hQ2
      have N2 := Fr.app N0 N2q
      refine GoesW.step st2 ?_
      show GoesW p.tables e below s (Q6 Z r0 p1 p2 p3 kk n xs dv x h0 n0) 0 0 (T2.setTop (mkF m 23 #[.val (.ref r0), .val (.int p1), .val (.int p2), .val (.int p3)] [(.int (own_pow ((p3 - (1 : Int32)) - p1))), (.int x)]))
      refine GoesW.step (fun _ k => XS.imul X2.here hx rfl (hb hby d6_23) rfl k) ?_
      show GoesW p.tables e below s (Q6 Z r0 p1 p2 p3 kk n xs dv x h0 n0) 0 0 (T2.setTop (mkF m 24 #[.val (.ref r0), .val (.int p1), .val (.int p2), .val (.int p3)] [(.int (x * (own_pow ((p3 - (1 : Int32)) - p1))))]))
      exact GoesW.retI X2 hx hlk Bd.returns (hb hby d6_24) (by show Q6 Z r0 p1 p2 p3 kk n xs dv x h0 n0 _ T2.heap _; rw [eq2]; exact ⟨by rw [own_term, if_neg h2, if_pos h7], N2, rfl⟩) (by decide) (by decide)
    · skip
      refine GoesW.step (fun _ k => XS.icmpNo X0.here hx rfl (hb hby d6_7) rfl (flt h7).1 k) ?_
      show GoesW p.tables e below s (Q6 Z r0 p1 p2 p3 kk n xs dv x h0 n0) 0 0 (s₁.setTop (mkF m 10 #[.val (.ref r0), .val (.int p1), .val (.int p2), .val (.int p3)] []))
      refine GoesW.step (fun _ k => XS.iconst X0.here hx rfl (hb hby d6_10) k) ?_
      show GoesW p.tables e below s (Q6 Z r0 p1 p2 p3 kk n xs dv x h0 n0) 0 0 (s₁.setTop (mkF m 11 #[.val (.ref r0), .val (.int p1), .val (.int p2), .val (.int p3)] [(.int (0 : Int32))]))
      exact GoesW.retI X0 hx hlk Bd.returns (hb hby d6_11) (by show Q6 Z r0 p1 p2 p3 kk n xs dv x h0 n0 _ s₁.heap _; rw [e0]; exact ⟨by rw [own_term, if_neg h2, if_neg h7], N0, rfl⟩) (by decide) (by decide)
theorem own_pd1 : parseMethodDescriptor "([BIII)I" = some ⟨[(.array .byte), .int, .int, .int], some .int⟩ := by decide +kernel
theorem d5_0 : decode method_4_code 0 = .ok (.aload_n 0, 1) := by decide +kernel
theorem d5_1 : decode method_4_code 1 = .ok (.iconst 0, 1) := by decide +kernel
theorem d5_2 : decode method_4_code 2 = .ok (.iload_n 1, 1) := by decide +kernel
theorem d5_3 : decode method_4_code 3 = .ok (.iload_n 2, 1) := by decide +kernel
theorem d5_4 : decode method_4_code 4 = .ok (.invokestatic 15, 3) := by decide +kernel
theorem d5_7 : decode method_4_code 7 = .ok (.aload_n 0, 1) := by decide +kernel
theorem d5_8 : decode method_4_code 8 = .ok (.iconst 1, 1) := by decide +kernel
theorem d5_9 : decode method_4_code 9 = .ok (.iload_n 1, 1) := by decide +kernel
theorem d5_10 : decode method_4_code 10 = .ok (.iload_n 2, 1) := by decide +kernel
theorem d5_11 : decode method_4_code 11 = .ok (.invokestatic 15, 3) := by decide +kernel
theorem d5_14 : decode method_4_code 14 = .ok (.iadd, 1) := by decide +kernel
theorem d5_15 : decode method_4_code 15 = .ok (.aload_n 0, 1) := by decide +kernel
theorem d5_16 : decode method_4_code 16 = .ok (.iconst 2, 1) := by decide +kernel
theorem d5_17 : decode method_4_code 17 = .ok (.iload_n 1, 1) := by decide +kernel
theorem d5_18 : decode method_4_code 18 = .ok (.iload_n 2, 1) := by decide +kernel
theorem d5_19 : decode method_4_code 19 = .ok (.invokestatic 15, 3) := by decide +kernel
theorem d5_22 : decode method_4_code 22 = .ok (.iadd, 1) := by decide +kernel
theorem d5_23 : decode method_4_code 23 = .ok (.aload_n 0, 1) := by decide +kernel
theorem d5_24 : decode method_4_code 24 = .ok (.iconst 3, 1) := by decide +kernel
theorem d5_25 : decode method_4_code 25 = .ok (.iload_n 1, 1) := by decide +kernel
theorem d5_26 : decode method_4_code 26 = .ok (.iload_n 2, 1) := by decide +kernel
theorem d5_27 : decode method_4_code 27 = .ok (.invokestatic 15, 3) := by decide +kernel
theorem d5_30 : decode method_4_code 30 = .ok (.iadd, 1) := by decide +kernel
theorem d5_31 : decode method_4_code 31 = .ok (.aload_n 0, 1) := by decide +kernel
theorem d5_32 : decode method_4_code 32 = .ok (.iconst 4, 1) := by decide +kernel
theorem d5_33 : decode method_4_code 33 = .ok (.iload_n 1, 1) := by decide +kernel
theorem d5_34 : decode method_4_code 34 = .ok (.iload_n 2, 1) := by decide +kernel
theorem d5_35 : decode method_4_code 35 = .ok (.invokestatic 15, 3) := by decide +kernel
theorem d5_38 : decode method_4_code 38 = .ok (.iadd, 1) := by decide +kernel
theorem d5_39 : decode method_4_code 39 = .ok (.aload_n 0, 1) := by decide +kernel
theorem d5_40 : decode method_4_code 40 = .ok (.iconst 5, 1) := by decide +kernel
theorem d5_41 : decode method_4_code 41 = .ok (.iload_n 1, 1) := by decide +kernel
theorem d5_42 : decode method_4_code 42 = .ok (.iload_n 2, 1) := by decide +kernel
theorem d5_43 : decode method_4_code 43 = .ok (.invokestatic 15, 3) := by decide +kernel
theorem d5_46 : decode method_4_code 46 = .ok (.iadd, 1) := by decide +kernel
theorem d5_47 : decode method_4_code 47 = .ok (.ireturn, 1) := by decide +kernel
theorem ef_rm5 (m : MethodId) (x0 : Addr) (x1 : Int32) (x2 : Int32) : entryFrame m #[(.ref x0), (.int x1), (.int x2)] 3 = mkF m 0 #[.val (.ref x0), .val (.int x1), .val (.int x2)] [] := by first | (simp [entryFrame, mkF, argsToLocals, Value.category]; done) | rfl
def Q5 (Z : State) (r0 : Addr) (p1 : Int32) (p2 : Int32) (kk : ClassId) (dv : Value) (x0 : Int32) (x1 : Int32) (x2 : Int32) (x3 : Int32) (x4 : Int32) (x5 : Int32) (h0 : Heap) (n0 : Nat) (v : Option Value) (h : Heap) (L : List Loc) : Prop := v = some (.int (own_ref x0 x1 x2 x3 x4 x5 p1 p2)) ∧ Fr n0 L ∧ h = h0
set_option maxRecDepth 65536 in
set_option maxHeartbeats 40000000 in
theorem rm5 (l : Launch) (Z : State) (a0 : Array Value) (hw : ∀ d ∈ tables_1, d.before a0 Z = true) (ws : List Jvm.Cond) (r0 : Addr) (p1 : Int32) (p2 : Int32) (kk : ClassId) (dv : Value) (x0 : Int32) (x1 : Int32) (x2 : Int32) (x3 : Int32) (x4 : Int32) (x5 : Int32) (h0 : Heap) (n0 : Nat) (Z0 : n0 ≤ h0.size) (V0 : Arv Z h0 r0 kk .byte (6 : Int32) [(.int x0), (.int x1), (.int x2), (.int x3), (.int x4), (.int x5)] dv) :
    MetFree l (⟨"com/example/rankweave/rankweave/io/FieldBytesHashCodePinLaw", "ref", "([BII)I"⟩ : MethodName) (head1 (Jvm.Cond.code (⟨"com/example/rankweave/rankweave/io/FieldBytesHashCodePinLaw", "ref", "([BII)I"⟩ : MethodName) method_4_code 3 (some .int) :: ws) ({ frames := 2, cells := 0, slots := 0, locals := 29 } : Room)) (fun a U => a = #[(.ref r0), (.int p1), (.int p2)] ∧ Z.Warmed39 U.vm ∧ U.heap = h0) (fun _ _ _ _ _ => True) (fun _ U o U' => ∃ v L, o = .returned v ∧ Q5 Z r0 p1 p2 kk dv x0 x1 x2 x3 x4 x5 h0 n0 v U'.heap L ∧ FrameEnd U o U' L ({ frames := 2, cells := 0, slots := 0, locals := 29 } : Room).cells ({ frames := 2, cells := 0, slots := 0, locals := 29 } : Room).slots) := by
  refine MetFree.of_bodySF (plainFor_of_name own_pn1) hisR ?_
  intro p e s m args below meth c s₁ Bd hml0 hP hK
  obtain ⟨rfl, hZ, hh⟩ := hP
  have hx := Bd.exec
  have hby := Bd.bytes
  have hml : c.maxLocals = 3 := hml0
  have hown : s.vm.findClass "com/example/rankweave/rankweave/io/FieldBytesHashCodePinLaw" = some m.cls := findClass_of_methodNamed Bd.named
  have hnm := (name_of_methodNamed Bd.named Bd.method).1
  have hlk : meth.locks = false := BodyLoose.notSynchronized Bd
  have X0 : Stand p l e ({ frames := 2, cells := 0, slots := 0, locals := 29 } : Room) s m #[(.ref r0), (.int p1), (.int p2)] below meth c s₁ [] 0 0 := Stand.of_body Bd
  have e0 : s₁.heap = h0 := by rw [← hh, Bd.state]; rfl
  have N0 := Fr.nil n0
  show GoesW p.tables e below s (Q5 Z r0 p1 p2 kk dv x0 x1 x2 x3 x4 x5 h0 n0) 0 0 (s₁.setTop (entryFrame m #[(.ref r0), (.int p1), (.int p2)] 3))
  rw [ef_rm5 m r0 p1 p2]
  show GoesW p.tables e below s (Q5 Z r0 p1 p2 kk dv x0 x1 x2 x3 x4 x5 h0 n0) 0 0 (s₁.setTop (mkF m 0 #[.val (.ref r0), .val (.int p1), .val (.int p2)] []))
  refine GoesW.step (fun _ k => XS.aloadN X0.here hx rfl (hb hby d5_0) rfl rfl k) ?_
  show GoesW p.tables e below s (Q5 Z r0 p1 p2 kk dv x0 x1 x2 x3 x4 x5 h0 n0) 0 0 (s₁.setTop (mkF m 1 #[.val (.ref r0), .val (.int p1), .val (.int p2)] [(.ref r0)]))
  refine GoesW.step (fun _ k => XS.iconst X0.here hx rfl (hb hby d5_1) k) ?_
  show GoesW p.tables e below s (Q5 Z r0 p1 p2 kk dv x0 x1 x2 x3 x4 x5 h0 n0) 0 0 (s₁.setTop (mkF m 2 #[.val (.ref r0), .val (.int p1), .val (.int p2)] [(.int (0 : Int32)), (.ref r0)]))
  refine GoesW.step (fun _ k => XS.iloadN X0.here hx rfl (hb hby d5_2) rfl k) ?_
  show GoesW p.tables e below s (Q5 Z r0 p1 p2 kk dv x0 x1 x2 x3 x4 x5 h0 n0) 0 0 (s₁.setTop (mkF m 3 #[.val (.ref r0), .val (.int p1), .val (.int p2)] [(.int p1), (.int (0 : Int32)), (.ref r0)]))
  refine GoesW.step (fun _ k => XS.iloadN X0.here hx rfl (hb hby d5_3) rfl k) ?_
  show GoesW p.tables e below s (Q5 Z r0 p1 p2 kk dv x0 x1 x2 x3 x4 x5 h0 n0) 0 0 (s₁.setTop (mkF m 4 #[.val (.ref r0), .val (.int p1), .val (.int p2)] [(.int p2), (.int p1), (.int (0 : Int32)), (.ref r0)]))
  obtain ⟨_, _, ⟨T1, L1, k1, n1⟩, -, X1, ⟨Lc1, hQ1, l1, y1, z1⟩, st1⟩ := Jvm.LawKit.callS X0 hx (y := (⟨"com/example/rankweave/rankweave/io/FieldBytesHashCodePinLaw", "term", "([BIII)I"⟩ : MethodName)) hown (mvT hZ (hw _ (List.mem_of_getElem? (i := 34) rfl))) (mvT hZ (hw _ (List.mem_of_getElem? (i := 35) rfl))) (mvT hZ (hw _ (List.mem_of_getElem? (i := 32) rfl))) (mvT hZ (hw _ (List.mem_of_getElem? (i := 36) rfl))) (by decide) (backOf (W := 0) (rm6 l Z a0 hw [] r0 (0 : Int32) p1 p2 kk (6 : Int32) [x0, x1, x2, x3, x4, x5] dv x0 h0 n0 Z0 V0 (by decide) (by decide) rfl) hZ (hw _ (List.mem_of_getElem? (i := 36) rfl)) (hw _ (List.mem_of_getElem? (i := 32) rfl)) (by decide) (by decide)) (g := (mkF m 4 #[.val (.ref r0), .val (.int p1), .val (.int p2)] [(.int p2), (.int p1), (.int (0 : Int32)), (.ref r0)])) rfl (by rw [hml]; rfl) (argsL := [(.ref r0), (.int (0 : Int32)), (.int p1), (.int p2)]) (rest := []) (lenOf own_pd1 rfl) rfl (by show 2 * 0 + _ ≤ _; exact Nat.le_of_eq rfl) (hb hby d5_4) (fun _ _ => ⟨rfl, e0, (by decide : 0 + 0 ≤ _), (by decide : 0 + 0 ≤ _)⟩)
  dsimp only [Pt.U, Pt.locs, Pt.cells, Pt.slots] at X1 l1 y1 z1 st1 hQ1
  subst l1 y1 z1
  obtain ⟨rfl, N1q, eq1⟩ := hQ1
  have N1 := Fr.app N0 N1q
  refine GoesW.step st1 ?_
  show GoesW p.tables e below s (Q5 Z r0 p1 p2 kk dv x0 x1 x2 x3 x4 x5 h0 n0) 0 0 (T1.setTop (mkF m 7 #[.val (.ref r0), .val (.int p1), .val (.int p2)] [(.int (own_term x0 (0 : Int32) p1 p2))]))
  refine GoesW.step (fun _ k => XS.aloadN X1.here hx rfl (hb hby d5_7) rfl rfl k) ?_
  show GoesW p.tables e below s (Q5 Z r0 p1 p2 kk dv x0 x1 x2 x3 x4 x5 h0 n0) 0 0 (T1.setTop (mkF m 8 #[.val (.ref r0), .val (.int p1), .val (.int p2)] [(.ref r0), (.int (own_term x0 (0 : Int32) p1 p2))]))
  refine GoesW.step (fun _ k => XS.iconst X1.here hx rfl (hb hby d5_8) k) ?_
  show GoesW p.tables e below s (Q5 Z r0 p1 p2 kk dv x0 x1 x2 x3 x4 x5 h0 n0) 0 0 (T1.setTop (mkF m 9 #[.val (.ref r0), .val (.int p1), .val (.int p2)] [(.int (1 : Int32)), (.ref r0), (.int (own_term x0 (0 : Int32) p1 p2))]))
  refine GoesW.step (fun _ k => XS.iloadN X1.here hx rfl (hb hby d5_9) rfl k) ?_
  show GoesW p.tables e below s (Q5 Z r0 p1 p2 kk dv x0 x1 x2 x3 x4 x5 h0 n0) 0 0 (T1.setTop (mkF m 10 #[.val (.ref r0), .val (.int p1), .val (.int p2)] [(.int p1), (.int (1 : Int32)), (.ref r0), (.int (own_term x0 (0 : Int32) p1 p2))]))
  refine GoesW.step (fun _ k => XS.iloadN X1.here hx rfl (hb hby d5_10) rfl k) ?_
  show GoesW p.tables e below s (Q5 Z r0 p1 p2 kk dv x0 x1 x2 x3 x4 x5 h0 n0) 0 0 (T1.setTop (mkF m 11 #[.val (.ref r0), .val (.int p1), .val (.int p2)] [(.int p2), (.int p1), (.int (1 : Int32)), (.ref r0), (.int (own_term x0 (0 : Int32) p1 p2))]))
  obtain ⟨_, _, ⟨T2, L2, k2, n2⟩, -, X2, ⟨Lc2, hQ2, l2, y2, z2⟩, st2⟩ := Jvm.LawKit.callS X1 hx (y := (⟨"com/example/rankweave/rankweave/io/FieldBytesHashCodePinLaw", "term", "([BIII)I"⟩ : MethodName)) hown (mvT hZ (hw _ (List.mem_of_getElem? (i := 34) rfl))) (mvT hZ (hw _ (List.mem_of_getElem? (i := 35) rfl))) (mvT hZ (hw _ (List.mem_of_getElem? (i := 32) rfl))) (mvT hZ (hw _ (List.mem_of_getElem? (i := 36) rfl))) (by decide) (backOf (W := 1) (rm6 l Z a0 hw [] r0 (1 : Int32) p1 p2 kk (6 : Int32) [x0, x1, x2, x3, x4, x5] dv x1 h0 n0 Z0 V0 (by decide) (by decide) rfl) hZ (hw _ (List.mem_of_getElem? (i := 36) rfl)) (hw _ (List.mem_of_getElem? (i := 32) rfl)) (by decide) (by decide)) (g := (mkF m 11 #[.val (.ref r0), .val (.int p1), .val (.int p2)] [(.int p2), (.int p1), (.int (1 : Int32)), (.ref r0), (.int (own_term x0 (0 : Int32) p1 p2))])) rfl (by rw [hml]; rfl) (argsL := [(.ref r0), (.int (1 : Int32)), (.int p1), (.int p2)]) (rest := [(.int (own_term x0 (0 : Int32) p1 p2))]) (lenOf own_pd1 rfl) rfl (by show 2 * 0 + _ ≤ _; exact Nat.le_of_eq rfl) (hb hby d5_11) (fun _ _ => ⟨rfl, eq1, (by decide : 0 + 0 ≤ _), (by decide : 0 + 0 ≤ _)⟩)
  dsimp only [Pt.U, Pt.locs, Pt.cells, Pt.slots] at X2 l2 y2 z2 st2 hQ2
  subst l2 y2 z2
  obtain ⟨rfl, N2q, eq2⟩ := hQ2
  have N2 := Fr.app N1 N2q
  refine GoesW.step st2 ?_
  show GoesW p.tables e below s (Q5 Z r0 p1 p2 kk dv x0 x1 x2 x3 x4 x5 h0 n0) 0 0 (T2.setTop (mkF m 14 #[.val (.ref r0), .val (.int p1), .val (.int p2)] [(.int (own_term x1 (1 : Int32) p1 p2)), (.int (own_term x0 (0 : Int32) p1 p2))]))
  refine GoesW.step (fun _ k => XS.iadd X2.here hx rfl (hb hby d5_14) rfl k) ?_
  show GoesW p.tables e below s (Q5 Z r0 p1 p2 kk dv x0 x1 x2 x3 x4 x5 h0 n0) 0 0 (T2.setTop (mkF m 15 #[.val (.ref r0), .val (.int p1), .val (.int p2)] [(.int ((own_term x0 (0 : Int32) p1 p2) + (own_term x1 (1 : Int32) p1 p2)))]))
  refine GoesW.step (fun _ k => XS.aloadN X2.here hx rfl (hb hby d5_15) rfl rfl k) ?_
  show GoesW p.tables e below s (Q5 Z r0 p1 p2 kk dv x0 x1 x2 x3 x4 x5 h0 n0) 0 0 (T2.setTop (mkF m 16 #[.val (.ref r0), .val (.int p1), .val (.int p2)] [(.ref r0), (.int ((own_term x0 (0 : Int32) p1 p2) + (own_term x1 (1 : Int32) p1 p2)))]))
  refine GoesW.step (fun _ k => XS.iconst X2.here hx rfl (hb hby d5_16) k) ?_
  show GoesW p.tables e below s (Q5 Z r0 p1 p2 kk dv x0 x1 x2 x3 x4 x5 h0 n0) 0 0 (T2.setTop (mkF m 17 #[.val (.ref r0), .val (.int p1), .val (.int p2)] [(.int (2 : Int32)), (.ref r0), (.int ((own_term x0 (0 : Int32) p1 p2) + (own_term x1 (1 : Int32) p1 p2)))]))
  refine GoesW.step (fun _ k => XS.iloadN X2.here hx rfl (hb hby d5_17) rfl k) ?_
  show GoesW p.tables e below s (Q5 Z r0 p1 p2 kk dv x0 x1 x2 x3 x4 x5 h0 n0) 0 0 (T2.setTop (mkF m 18 #[.val (.ref r0), .val (.int p1), .val (.int p2)] [(.int p1), (.int (2 : Int32)), (.ref r0), (.int ((own_term x0 (0 : Int32) p1 p2) + (own_term x1 (1 : Int32) p1 p2)))]))
  refine GoesW.step (fun _ k => XS.iloadN X2.here hx rfl (hb hby d5_18) rfl k) ?_
  show GoesW p.tables e below s (Q5 Z r0 p1 p2 kk dv x0 x1 x2 x3 x4 x5 h0 n0) 0 0 (T2.setTop (mkF m 19 #[.val (.ref r0), .val (.int p1), .val (.int p2)] [(.int p2), (.int p1), (.int (2 : Int32)), (.ref r0), (.int ((own_term x0 (0 : Int32) p1 p2) + (own_term x1 (1 : Int32) p1 p2)))]))
  obtain ⟨_, _, ⟨T3, L3, k3, n3⟩, -, X3, ⟨Lc3, hQ3, l3, y3, z3⟩, st3⟩ := Jvm.LawKit.callS X2 hx (y := (⟨"com/example/rankweave/rankweave/io/FieldBytesHashCodePinLaw", "term", "([BIII)I"⟩ : MethodName)) hown (mvT hZ (hw _ (List.mem_of_getElem? (i := 34) rfl))) (mvT hZ (hw _ (List.mem_of_getElem? (i := 35) rfl))) (mvT hZ (hw _ (List.mem_of_getElem? (i := 32) rfl))) (mvT hZ (hw _ (List.mem_of_getElem? (i := 36) rfl))) (by decide) (backOf (W := 1) (rm6 l Z a0 hw [] r0 (2 : Int32) p1 p2 kk (6 : Int32) [x0, x1, x2, x3, x4, x5] dv x2 h0 n0 Z0 V0 (by decide) (by decide) rfl) hZ (hw _ (List.mem_of_getElem? (i := 36) rfl)) (hw _ (List.mem_of_getElem? (i := 32) rfl)) (by decide) (by decide)) (g := (mkF m 19 #[.val (.ref r0), .val (.int p1), .val (.int p2)] [(.int p2), (.int p1), (.int (2 : Int32)), (.ref r0), (.int ((own_term x0 (0 : Int32) p1 p2) + (own_term x1 (1 : Int32) p1 p2)))])) rfl (by rw [hml]; rfl) (argsL := [(.ref r0), (.int (2 : Int32)), (.int p1), (.int p2)]) (rest := [(.int ((own_term x0 (0 : Int32) p1 p2) + (own_term x1 (1 : Int32) p1 p2)))]) (lenOf own_pd1 rfl) rfl (by show 2 * 0 + _ ≤ _; exact Nat.le_of_eq rfl) (hb hby d5_19) (fun _ _ => ⟨rfl, eq2, (by decide : 0 + 0 ≤ _), (by decide : 0 + 0 ≤ _)⟩)
  dsimp only [Pt.U, Pt.locs, Pt.cells, Pt.slots] at X3 l3 y3 z3 st3 hQ3
  subst l3 y3 z3
  obtain ⟨rfl, N3q, eq3⟩ := hQ3
  have N3 := Fr.app N2 N3q
  refine GoesW.step st3 ?_
  show GoesW p.tables e below s (Q5 Z r0 p1 p2 kk dv x0 x1 x2 x3 x4 x5 h0 n0) 0 0 (T3.setTop (mkF m 22 #[.val (.ref r0), .val (.int p1), .val (.int p2)] [(.int (own_term x2 (2 : Int32) p1 p2)), (.int ((own_term x0 (0 : Int32) p1 p2) + (own_term x1 (1 : Int32) p1 p2)))]))
  refine GoesW.step (fun _ k => XS.iadd X3.here hx rfl (hb hby d5_22) rfl k) ?_
  show GoesW p.tables e below s (Q5 Z r0 p1 p2 kk dv x0 x1 x2 x3 x4 x5 h0 n0) 0 0 (T3.setTop (mkF m 23 #[.val (.ref r0), .val (.int p1), .val (.int p2)] [(.int (((own_term x0 (0 : Int32) p1 p2) + (own_term x1 (1 : Int32) p1 p2)) + (own_term x2 (2 : Int32) p1 p2)))]))
  refine GoesW.step (fun _ k => XS.aloadN X3.here hx rfl (hb hby d5_23) rfl rfl k) ?_
  show GoesW p.tables e below s (Q5 Z r0 p1 p2 kk dv x0 x1 x2 x3 x4 x5 h0 n0) 0 0 (T3.setTop (mkF m 24 #[.val (.ref r0), .val (.int p1), .val (.int p2)] [(.ref r0), (.int (((own_term x0 (0 : Int32) p1 p2) + (own_term x1 (1 : Int32) p1 p2)) + (own_term x2 (2 : Int32) p1 p2)))]))
  refine GoesW.step (fun _ k => XS.iconst X3.here hx rfl (hb hby d5_24) k) ?_
  show GoesW p.tables e below s (Q5 Z r0 p1 p2 kk dv x0 x1 x2 x3 x4 x5 h0 n0) 0 0 (T3.setTop (mkF m 25 #[.val (.ref r0), .val (.int p1), .val (.int p2)] [(.int (3 : Int32)), (.ref r0), (.int (((own_term x0 (0 : Int32) p1 p2) + (own_term x1 (1 : Int32) p1 p2)) + (own_term x2 (2 : Int32) p1 p2)))]))
  refine GoesW.step (fun _ k => XS.iloadN X3.here hx rfl (hb hby d5_25) rfl k) ?_
  show GoesW p.tables e below s (Q5 Z r0 p1 p2 kk dv x0 x1 x2 x3 x4 x5 h0 n0) 0 0 (T3.setTop (mkF m 26 #[.val (.ref r0), .val (.int p1), .val (.int p2)] [(.int p1), (.int (3 : Int32)), (.ref r0), (.int (((own_term x0 (0 : Int32) p1 p2) + (own_term x1 (1 : Int32) p1 p2)) + (own_term x2 (2 : Int32) p1 p2)))]))
  refine GoesW.step (fun _ k => XS.iloadN X3.here hx rfl (hb hby d5_26) rfl k) ?_
  show GoesW p.tables e below s (Q5 Z r0 p1 p2 kk dv x0 x1 x2 x3 x4 x5 h0 n0) 0 0 (T3.setTop (mkF m 27 #[.val (.ref r0), .val (.int p1), .val (.int p2)] [(.int p2), (.int p1), (.int (3 : Int32)), (.ref r0), (.int (((own_term x0 (0 : Int32) p1 p2) + (own_term x1 (1 : Int32) p1 p2)) + (own_term x2 (2 : Int32) p1 p2)))]))
  obtain ⟨_, _, ⟨T4, L4, k4, n4⟩, -, X4, ⟨Lc4, hQ4, l4, y4, z4⟩, st4⟩ := Jvm.LawKit.callS X3 hx (y := (⟨"com/example/rankweave/rankweave/io/FieldBytesHashCodePinLaw", "term", "([BIII)I"⟩ : MethodName)) hown (mvT hZ (hw _ (List.mem_of_getElem? (i := 34) rfl))) (mvT hZ (hw _ (List.mem_of_getElem? (i := 35) rfl))) (mvT hZ (hw _ (List.mem_of_getElem? (i := 32) rfl))) (mvT hZ (hw _ (List.mem_of_getElem? (i := 36) rfl))) (by decide) (backOf (W := 1) (rm6 l Z a0 hw [] r0 (3 : Int32) p1 p2 kk (6 : Int32) [x0, x1, x2, x3, x4, x5] dv x3 h0 n0 Z0 V0 (by decide) (by decide) rfl) hZ (hw _ (List.mem_of_getElem? (i := 36) rfl)) (hw _ (List.mem_of_getElem? (i := 32) rfl)) (by decide) (by decide)) (g := (mkF m 27 #[.val (.ref r0), .val (.int p1), .val (.int p2)] [(.int p2), (.int p1), (.int (3 : Int32)), (.ref r0), (.int (((own_term x0 (0 : Int32) p1 p2) + (own_term x1 (1 : Int32) p1 p2)) + (own_term x2 (2 : Int32) p1 p2)))])) rfl (by rw [hml]; rfl) (argsL := [(.ref r0), (.int (3 : Int32)), (.int p1), (.int p2)]) (rest := [(.int (((own_term x0 (0 : Int32) p1 p2) + (own_term x1 (1 : Int32) p1 p2)) + (own_term x2 (2 : Int32) p1 p2)))]) (lenOf own_pd1 rfl) rfl (by show 2 * 0 + _ ≤ _; exact Nat.le_of_eq rfl) (hb hby d5_27) (fun _ _ => ⟨rfl, eq3, (by decide : 0 + 0 ≤ _), (by decide : 0 + 0 ≤ _)⟩)
  dsimp only [Pt.U, Pt.locs, Pt.cells, Pt.slots] at X4 l4 y4 z4 st4 hQ4
  subst l4 y4 z4
  obtain ⟨rfl, N4q, eq4⟩ := hQ4
  have N4 := Fr.app N3 N4q
  refine GoesW.step st4 ?_
  show GoesW p.tables e below s (Q5 Z r0 p1 p2 kk dv x0 x1 x2 x3 x4 x5 h0 n0) 0 0 (T4.setTop (mkF m 30 #[.val (.ref r0), .val (.int p1), .val (.int p2)] [(.int (own_term x3 (3 : Int32) p1 p2)), (.int (((own_term x0 (0 : Int32) p1 p2) + (own_term x1 (1 : Int32) p1 p2)) + (own_term x2 (2 : Int32) p1 p2)))]))
  refine GoesW.step (fun _ k => XS.iadd X4.here hx rfl (hb hby d5_30) rfl k) ?_
  show GoesW p.tables e below s (Q5 Z r0 p1 p2 kk dv x0 x1 x2 x3 x4 x5 h0 n0) 0 0 (T4.setTop (mkF m 31 #[.val (.ref r0), .val (.int p1), .val (.int p2)] [(.int ((((own_term x0 (0 : Int32) p1 p2) + (own_term x1 (1 : Int32) p1 p2)) + (own_term x2 (2 : Int32) p1 p2)) + (own_term x3 (3 : Int32) p1 p2)))]))
  refine GoesW.step (fun _ k => XS.aloadN X4.here hx rfl (hb hby d5_31) rfl rfl k) ?_
  show GoesW p.tables e below s (Q5 Z r0 p1 p2 kk dv x0 x1 x2 x3 x4 x5 h0 n0) 0 0 (T4.setTop (mkF m 32 #[.val (.ref r0), .val (.int p1), .val (.int p2)] [(.ref r0), (.int ((((own_term x0 (0 : Int32) p1 p2) + (own_term x1 (1 : Int32) p1 p2)) + (own_term x2 (2 : Int32) p1 p2)) + (own_term x3 (3 : Int32) p1 p2)))]))
  refine GoesW.step (fun _ k => XS.iconst X4.here hx rfl (hb hby d5_32) k) ?_
  show GoesW p.tables e below s (Q5 Z r0 p1 p2 kk dv x0 x1 x2 x3 x4 x5 h0 n0) 0 0 (T4.setTop (mkF m 33 #[.val (.ref r0), .val (.int p1), .val (.int p2)] [(.int (4 : Int32)), (.ref r0), (.int ((((own_term x0 (0 : Int32) p1 p2) + (own_term x1 (1 : Int32) p1 p2)) + (own_term x2 (2 : Int32) p1 p2)) + (own_term x3 (3 : Int32) p1 p2)))]))
  refine GoesW.step (fun _ k => XS.iloadN X4.here hx rfl (hb hby d5_33) rfl k) ?_
  show GoesW p.tables e below s (Q5 Z r0 p1 p2 kk dv x0 x1 x2 x3 x4 x5 h0 n0) 0 0 (T4.setTop (mkF m 34 #[.val (.ref r0), .val (.int p1), .val (.int p2)] [(.int p1), (.int (4 : Int32)), (.ref r0), (.int ((((own_term x0 (0 : Int32) p1 p2) + (own_term x1 (1 : Int32) p1 p2)) + (own_term x2 (2 : Int32) p1 p2)) + (own_term x3 (3 : Int32) p1 p2)))]))
  refine GoesW.step (fun _ k => XS.iloadN X4.here hx rfl (hb hby d5_34) rfl k) ?_
  show GoesW p.tables e below s (Q5 Z r0 p1 p2 kk dv x0 x1 x2 x3 x4 x5 h0 n0) 0 0 (T4.setTop (mkF m 35 #[.val (.ref r0), .val (.int p1), .val (.int p2)] [(.int p2), (.int p1), (.int (4 : Int32)), (.ref r0), (.int ((((own_term x0 (0 : Int32) p1 p2) + (own_term x1 (1 : Int32) p1 p2)) + (own_term x2 (2 : Int32) p1 p2)) + (own_term x3 (3 : Int32) p1 p2)))]))
  obtain ⟨_, _, ⟨T5, L5, k5, n5⟩, -, X5, ⟨Lc5, hQ5, l5, y5, z5⟩, st5⟩ := Jvm.LawKit.callS X4 hx (y := (⟨"com/example/rankweave/rankweave/io/FieldBytesHashCodePinLaw", "term", "([BIII)I"⟩ : MethodName)) hown (mvT hZ (hw _ (List.mem_of_getElem? (i := 34) rfl))) (mvT hZ (hw _ (List.mem_of_getElem? (i := 35) rfl))) (mvT hZ (hw _ (List.mem_of_getElem? (i := 32) rfl))) (mvT hZ (hw _ (List.mem_of_getElem? (i := 36) rfl))) (by decide) (backOf (W := 1) (rm6 l Z a0 hw [] r0 (4 : Int32) p1 p2 kk (6 : Int32) [x0, x1, x2, x3, x4, x5] dv x4 h0 n0 Z0 V0 (by decide) (by decide) rfl) hZ (hw _ (List.mem_of_getElem? (i := 36) rfl)) (hw _ (List.mem_of_getElem? (i := 32) rfl)) (by decide) (by decide)) (g := (mkF m 35 #[.val (.ref r0), .val (.int p1), .val (.int p2)] [(.int p2), (.int p1), (.int (4 : Int32)), (.ref r0), (.int ((((own_term x0 (0 : Int32) p1 p2) + (own_term x1 (1 : Int32) p1 p2)) + (own_term x2 (2 : Int32) p1 p2)) + (own_term x3 (3 : Int32) p1 p2)))])) rfl (by rw [hml]; rfl) (argsL := [(.ref r0), (.int (4 : Int32)), (.int p1), (.int p2)]) (rest := [(.int ((((own_term x0 (0 : Int32) p1 p2) + (own_term x1 (1 : Int32) p1 p2)) + (own_term x2 (2 : Int32) p1 p2)) + (own_term x3 (3 : Int32) p1 p2)))]) (lenOf own_pd1 rfl) rfl (by show 2 * 0 + _ ≤ _; exact Nat.le_of_eq rfl) (hb hby d5_35) (fun _ _ => ⟨rfl, eq4, (by decide : 0 + 0 ≤ _), (by decide : 0 + 0 ≤ _)⟩)
  dsimp only [Pt.U, Pt.locs, Pt.cells, Pt.slots] at X5 l5 y5 z5 st5 hQ5
  subst l5 y5 z5
  obtain ⟨rfl, N5q, eq5⟩ := hQ5
  have N5 := Fr.app N4 N5q
  refine GoesW.step st5 ?_
  show GoesW p.tables e below s (Q5 Z r0 p1 p2 kk dv x0 x1 x2 x3 x4 x5 h0 n0) 0 0 (T5.setTop (mkF m 38 #[.val (.ref r0), .val (.int p1), .val (.int p2)] [(.int (own_term x4 (4 : Int32) p1 p2)), (.int ((((own_term x0 (0 : Int32) p1 p2) + (own_term x1 (1 : Int32) p1 p2)) + (own_term x2 (2 : Int32) p1 p2)) + (own_term x3 (3 : Int32) p1 p2)))]))
  refine GoesW.step (fun _ k => XS.iadd X5.here hx rfl (hb hby d5_38) rfl k) ?_
  show GoesW p.tables e below s (Q5 Z r0 p1 p2 kk dv x0 x1 x2 x3 x4 x5 h0 n0) 0 0 (T5.setTop (mkF m 39 #[.val (.ref r0), .val (.int p1), .val (.int p2)] [(.int (((((own_term x0 (0 : Int32) p1 p2) + (own_term x1 (1 : Int32) p1 p2)) + (own_term x2 (2 : Int32) p1 p2)) + (own_term x3 (3 : Int32) p1 p2)) + (own_term x4 (4 : Int32) p1 p2)))]))
  refine GoesW.step (fun _ k => XS.aloadN X5.here hx rfl (hb hby d5_39) rfl rfl k) ?_
  show GoesW p.tables e below s (Q5 Z r0 p1 p2 kk dv x0 x1 x2 x3 x4 x5 h0 n0) 0 0 (T5.setTop (mkF m 40 #[.val (.ref r0), .val (.int p1), .val (.int p2)] [(.ref r0), (.int (((((own_term x0 (0 : Int32) p1 p2) + (own_term x1 (1 : Int32) p1 p2)) + (own_term x2 (2 : Int32) p1 p2)) + (own_term x3 (3 : Int32) p1 p2)) + (own_term x4 (4 : Int32) p1 p2)))]))
  refine GoesW.step (fun _ k => XS.iconst X5.here hx rfl (hb hby d5_40) k) ?_
  show GoesW p.tables e below s (Q5 Z r0 p1 p2 kk dv x0 x1 x2 x3 x4 x5 h0 n0) 0 0 (T5.setTop (mkF m 41 #[.val (.ref r0), .val (.int p1), .val (.int p2)] [(.int (5 : Int32)), (.ref r0), (.int (((((own_term x0 (0 : Int32) p1 p2) + (own_term x1 (1 : Int32) p1 p2)) + (own_term x2 (2 : Int32) p1 p2)) + (own_term x3 (3 : Int32) p1 p2)) + (own_term x4 (4 : Int32) p1 p2)))]))
  refine GoesW.step (fun _ k => XS.iloadN X5.here hx rfl (hb hby d5_41) rfl k) ?_
  show GoesW p.tables e below s (Q5 Z r0 p1 p2 kk dv x0 x1 x2 x3 x4 x5 h0 n0) 0 0 (T5.setTop (mkF m 42 #[.val (.ref r0), .val (.int p1), .val (.int p2)] [(.int p1), (.int (5 : Int32)), (.ref r0), (.int (((((own_term x0 (0 : Int32) p1 p2) + (own_term x1 (1 : Int32) p1 p2)) + (own_term x2 (2 : Int32) p1 p2)) + (own_term x3 (3 : Int32) p1 p2)) + (own_term x4 (4 : Int32) p1 p2)))]))
  refine GoesW.step (fun _ k => XS.iloadN X5.here hx rfl (hb hby d5_42) rfl k) ?_
  show GoesW p.tables e below s (Q5 Z r0 p1 p2 kk dv x0 x1 x2 x3 x4 x5 h0 n0) 0 0 (T5.setTop (mkF m 43 #[.val (.ref r0), .val (.int p1), .val (.int p2)] [(.int p2), (.int p1), (.int (5 : Int32)), (.ref r0), (.int (((((own_term x0 (0 : Int32) p1 p2) + (own_term x1 (1 : Int32) p1 p2)) + (own_term x2 (2 : Int32) p1 p2)) + (own_term x3 (3 : Int32) p1 p2)) + (own_term x4 (4 : Int32) p1 p2)))]))
  obtain ⟨_, _, ⟨T6, L6, k6, n6⟩, -, X6, ⟨Lc6, hQ6, l6, y6, z6⟩, st6⟩ := Jvm.LawKit.callS X5 hx (y := (⟨"com/example/rankweave/rankweave/io/FieldBytesHashCodePinLaw", "term", "([BIII)I"⟩ : MethodName)) hown (mvT hZ (hw _ (List.mem_of_getElem? (i := 34) rfl))) (mvT hZ (hw _ (List.mem_of_getElem? (i := 35) rfl))) (mvT hZ (hw _ (List.mem_of_getElem? (i := 32) rfl))) (mvT hZ (hw _ (List.mem_of_getElem? (i := 36) rfl))) (by decide) (backOf (W := 1) (rm6 l Z a0 hw [] r0 (5 : Int32) p1 p2 kk (6 : Int32) [x0, x1, x2, x3, x4, x5] dv x5 h0 n0 Z0 V0 (by decide) (by decide) rfl) hZ (hw _ (List.mem_of_getElem? (i := 36) rfl)) (hw _ (List.mem_of_getElem? (i := 32) rfl)) (by decide) (by decide)) (g := (mkF m 43 #[.val (.ref r0), .val (.int p1), .val (.int p2)] [(.int p2), (.int p1), (.int (5 : Int32)), (.ref r0), (.int (((((own_term x0 (0 : Int32) p1 p2) + (own_term x1 (1 : Int32) p1 p2)) + (own_term x2 (2 : Int32) p1 p2)) + (own_term x3 (3 : Int32) p1 p2)) + (own_term x4 (4 : Int32) p1 p2)))])) rfl (by rw [hml]; rfl) (argsL := [(.ref r0), (.int (5 : Int32)), (.int p1), (.int p2)]) (rest := [(.int (((((own_term x0 (0 : Int32) p1 p2) + (own_term x1 (1 : Int32) p1 p2)) + (own_term x2 (2 : Int32) p1 p2)) + (own_term x3 (3 : Int32) p1 p2)) + (own_term x4 (4 : Int32) p1 p2)))]) (lenOf own_pd1 rfl) rfl (by show 2 * 0 + _ ≤ _; exact Nat.le_of_eq rfl) (hb hby d5_43) (fun _ _ => ⟨rfl, eq5, (by decide : 0 + 0 ≤ _), (by decide : 0 + 0 ≤ _)⟩)
  dsimp only [Pt.U, Pt.locs, Pt.cells, Pt.slots] at X6 l6 y6 z6 st6 hQ6
  subst l6 y6 z6
  obtain ⟨rfl, N6q, eq6⟩ := hQ6
  have N6 := Fr.app N5 N6q
  refine GoesW.step st6 ?_
  show GoesW p.tables e below s (Q5 Z r0 p1 p2 kk dv x0 x1 x2 x3 x4 x5 h0 n0) 0 0 (T6.setTop (mkF m 46 #[.val (.ref r0), .val (.int p1), .val (.int p2)] [(.int (own_term x5 (5 : Int32) p1 p2)), (.int (((((own_term x0 (0 : Int32) p1 p2) + (own_term x1 (1 : Int32) p1 p2)) + (own_term x2 (2 : Int32) p1 p2)) + (own_term x3 (3 : Int32) p1 p2)) + (own_term x4 (4 : Int32) p1 p2)))]))
  refine GoesW.step (fun _ k => XS.iadd X6.here hx rfl (hb hby d5_46) rfl k) ?_
  show GoesW p.tables e below s (Q5 Z r0 p1 p2 kk dv x0 x1 x2 x3 x4 x5 h0 n0) 0 0 (T6.setTop (mkF m 47 #[.val (.ref r0), .val (.int p1), .val (.int p2)] [(.int ((((((own_term x0 (0 : Int32) p1 p2) + (own_term x1 (1 : Int32) p1 p2)) + (own_term x2 (2 : Int32) p1 p2)) + (own_term x3 (3 : Int32) p1 p2)) + (own_term x4 (4 : Int32) p1 p2)) + (own_term x5 (5 : Int32) p1 p2)))]))
  exact GoesW.retI X6 hx hlk Bd.returns (hb hby d5_47) (by show Q5 Z r0 p1 p2 kk dv x0 x1 x2 x3 x4 x5 h0 n0 _ T6.heap _; rw [eq6]; exact ⟨rfl, N6, rfl⟩) (by decide) (by decide)
theorem own_pd2 : parseMethodDescriptor "()V" = some ⟨[], none⟩ := by decide +kernel
theorem own_pd3 : parseMethodDescriptor "()I" = some ⟨[], some .int⟩ := by decide +kernel
theorem own_pd4 : parseMethodDescriptor "([BII)V" = some ⟨[(.array .byte), .int, .int], none⟩ := by decide +kernel
theorem own_pd5 : parseMethodDescriptor "([BII)I" = some ⟨[(.array .byte), .int, .int], some .int⟩ := by decide +kernel
theorem ef_rm0 (m : MethodId) (x0 : Int32) (x1 : Int32) (x2 : Int32) (x3 : Int32) : entryFrame m #[(.int x0), (.int x1), (.int x2), (.int x3)] maxLocals = mkF m 0 #[.val (.int x0), .val (.int x1), .val (.int x2), .val (.int x3), .unset, .unset, .unset, .unset, .unset, .unset, .unset, .unset, .unset, .unset, .unset, .unset, .unset] [] := by first | (simp [entryFrame, mkF, argsToLocals, Value.category, maxLocals]; done) | rfl
def Q0 (Z : State) (p0 : Int32) (p1 : Int32) (p2 : Int32) (p3 : Int32) (h0 : Heap) (n0 : Nat) (v : Option Value) (h : Heap) (L : List Loc) : Prop := v = some (.int (1 : Int32)) ∧ Fr n0 L
set_option maxRecDepth 65536 in
set_option maxHeartbeats 40000000 in
theorem rm0 (l : Launch) (Z : State) (a0 : Array Value) (hw : ∀ d ∈ tables_1, d.before a0 Z = true) (ws : List Jvm.Cond) (p0 : Int32) (p1 : Int32) (p2 : Int32) (p3 : Int32) (h0 : Heap) (n0 : Nat) (Z0 : n0 ≤ h0.size)  :
    MetFree l x (head1 (Jvm.Cond.code x code maxLocals ret :: ws) room_1) (fun a U => a = #[(.int p0), (.int p1), (.int p2), (.int p3)] ∧ Z.Warmed39 U.vm ∧ U.heap = h0) (fun _ _ _ _ _ => True) (fun _ U o U' => ∃ v L, o = .returned v ∧ Q0 Z p0 p1 p2 p3 h0 n0 v U'.heap L ∧ FrameEnd U o U' L room_1.cells room_1.slots) := by
  refine MetFree.of_bodySF (plainFor_of_name own_pn1) hisR ?_
  intro p e s m args below meth c s₁ Bd hml0 hP hK
  obtain ⟨rfl, hZ, hh⟩ := hP
  have hx := Bd.exec
  have hby := Bd.bytes
  have hml : c.maxLocals = 17 := hml0
  have hown : s.vm.findClass "com/example/rankweave/rankweave/io/FieldBytesHashCodePinLaw" = some m.cls := findClass_of_methodNamed Bd.named
  have hnm := (name_of_methodNamed Bd.named Bd.method).1
  have hlk : meth.locks = false := BodyLoose.notSynchronized Bd
  have X0 : Stand p l e room_1 s m #[(.int p0), (.int p1), (.int p2), (.int p3)] below meth c s₁ [] 0 0 := Stand.of_body Bd
  have e0 : s₁.heap = h0 := by rw [← hh, Bd.state]; rfl
  have N0 := Fr.nil n0
  show GoesW p.tables e below s (Q0 Z p0 p1 p2 p3 h0 n0) room_1.cells room_1.slots (s₁.setTop (entryFrame m #[(.int p0), (.int p1), (.int p2), (.int p3)] maxLocals))
  rw [ef_rm0 m p0 p1 p2 p3]
  show GoesW p.tables e below s (Q0 Z p0 p1 p2 p3 h0 n0) room_1.cells room_1.slots (s₁.setTop (mkF m 0 #[.val (.int p0), .val (.int p1), .val (.int p2), .val (.int p3), .unset, .unset, .unset, .unset, .unset, .unset, .unset, .unset, .unset, .unset, .unset, .unset, .unset] []))
  refine GoesW.step (fun _ k => XS.bipush X0.here hx rfl (hb hby at_0) k) ?_
  show GoesW p.tables e below s (Q0 Z p0 p1 p2 p3 h0 n0) room_1.cells room_1.slots (s₁.setTop (mkF m 2 #[.val (.int p0), .val (.int p1), .val (.int p2), .val (.int p3), .unset, .unset, .unset, .unset, .unset, .unset, .unset, .unset, .unset, .unset, .unset, .unset, .unset] [(.int (6 : Int32))]))
  obtain ⟨T1, h1, k1, X1, e1, E1, A1, st1⟩ := newP X0 hx hZ (hw _ (List.mem_of_getElem? (i := 0) rfl)) e0 (g := (mkF m 2 #[.val (.int p0), .val (.int p1), .val (.int p2), .val (.int p3), .unset, .unset, .unset, .unset, .unset, .unset, .unset, .unset, .unset, .unset, .unset, .unset, .unset] [(.int (6 : Int32))])) rfl (hb hby at_2) rfl (by decide) (cap := 6) (by decide) (by decide) (by decide) (by decide)
  obtain ⟨aa, gs1⟩ : ∃ z, z = h0.size := ⟨_, rfl⟩
  rw [← gs1] at A1 st1
  have g_aa : n0 ≤ aa := Nat.le_trans Z0 (Nat.le_of_eq gs1.symm)
  have Z1 : n0 ≤ h1.size := Nat.le_trans Z0 E1.1
  have V_aa : Arv Z h1 aa k1 .byte (6 : Int32) [(.int (0 : Int32)), (.int (0 : Int32)), (.int (0 : Int32)), (.int (0 : Int32)), (.int (0 : Int32)), (.int (0 : Int32))] (.int (0 : Int32)) := (Arv.new A1 (by decide)).pad (pad_rep [] (.int (0 : Int32)) 6)
  refine GoesW.step st1 ?_
  show GoesW p.tables e below s (Q0 Z p0 p1 p2 p3 h0 n0) room_1.cells room_1.slots (T1.setTop (mkF m 4 #[.val (.int p0), .val (.int p1), .val (.int p2), .val (.int p3), .unset, .unset, .unset, .unset, .unset, .unset, .unset, .unset, .unset, .unset, .unset, .unset, .unset] [(.ref aa)]))
  refine GoesW.step (fun _ k => XS.astore X1.here hx rfl (hb hby at_4) rfl rfl (l' := #[.val (.int p0), .val (.int p1), .val (.int p2), .val (.int p3), .val (.ref aa), .unset, .unset, .unset, .unset, .unset, .unset, .unset, .unset, .unset, .unset, .unset, .unset]) rfl k) ?_
  show GoesW p.tables e below s (Q0 Z p0 p1 p2 p3 h0 n0) room_1.cells room_1.slots (T1.setTop (mkF m 6 #[.val (.int p0), .val (.int p1), .val (.int p2), .val (.int p3), .val (.ref aa), .unset, .unset, .unset, .unset, .unset, .unset, .unset, .unset, .unset, .unset, .unset, .unset] []))
  refine GoesW.step (fun _ k => XS.aload X1.here hx rfl (hb hby at_6) rfl rfl k) ?_
  show GoesW p.tables e below s (Q0 Z p0 p1 p2 p3 h0 n0) room_1.cells room_1.slots (T1.setTop (mkF m 8 #[.val (.int p0), .val (.int p1), .val (.int p2), .val (.int p3), .val (.ref aa), .unset, .unset, .unset, .unset, .unset, .unset, .unset, .unset, .unset, .unset, .unset, .unset] [(.ref aa)]))
  refine GoesW.step (fun _ k => XS.iconst X1.here hx rfl (hb hby at_8) k) ?_
  show GoesW p.tables e below s (Q0 Z p0 p1 p2 p3 h0 n0) room_1.cells room_1.slots (T1.setTop (mkF m 9 #[.val (.int p0), .val (.int p1), .val (.int p2), .val (.int p3), .val (.ref aa), .unset, .unset, .unset, .unset, .unset, .unset, .unset, .unset, .unset, .unset, .unset, .unset] [(.int (0 : Int32)), (.ref aa)]))
  refine GoesW.step (fun _ k => XS.iloadN X1.here hx rfl (hb hby at_9) rfl k) ?_
  show GoesW p.tables e below s (Q0 Z p0 p1 p2 p3 h0 n0) room_1.cells room_1.slots (T1.setTop (mkF m 10 #[.val (.int p0), .val (.int p1), .val (.int p2), .val (.int p3), .val (.ref aa), .unset, .unset, .unset, .unset, .unset, .unset, .unset, .unset, .unset, .unset, .unset, .unset] [(.int p0), (.int (0 : Int32)), (.ref aa)]))
  refine GoesW.step (fun _ k => XS.i2b X1.here hx rfl (hb hby at_10) rfl k) ?_
  show GoesW p.tables e below s (Q0 Z p0 p1 p2 p3 h0 n0) room_1.cells room_1.slots (T1.setTop (mkF m 11 #[.val (.int p0), .val (.int p1), .val (.int p2), .val (.int p3), .val (.ref aa), .unset, .unset, .unset, .unset, .unset, .unset, .unset, .unset, .unset, .unset, .unset, .unset] [(.int (p0.toInt8.toInt32)), (.int (0 : Int32)), (.ref aa)]))
  generalize hea_0 : (p0.toInt8.toInt32) = ea_0
  show GoesW p.tables e below s (Q0 Z p0 p1 p2 p3 h0 n0) room_1.cells room_1.slots (T1.setTop (mkF m 11 #[.val (.int p0), .val (.int p1), .val (.int p2), .val (.int p3), .val (.ref aa), .unset, .unset, .unset, .unset, .unset, .unset, .unset, .unset, .unset, .unset, .unset, .unset] [(.int ea_0), (.int (0 : Int32)), (.ref aa)]))
  have vv2 := V_aa
  obtain ⟨cl2, Ar2, aq2, aS2, aN2, aH2, aG2⟩ := vv2
  have hin2 : ¬ ((0 : Int32) < 0 ∨ cl2.slots.size ≤ ((0 : Int32)).toNatClampNeg) := inb_of aS2 ⟨by decide, by decide⟩
  obtain ⟨T3, h3, X3, e3, W3, st3⟩ := stB X1 hx hZ e1 Ar2 (j := (0 : Int32)) hin2 (g := (mkF m 11 #[.val (.int p0), .val (.int p1), .val (.int p2), .val (.int p3), .val (.ref aa), .unset, .unset, .unset, .unset, .unset, .unset, .unset, .unset, .unset, .unset, .unset, .unset] [(.int ea_0), (.int (0 : Int32)), (.ref aa)])) rfl rfl (hb hby at_11)
  obtain ⟨a_0, ha_0⟩ : ∃ z : Int32, z = nar .byte ea_0 := ⟨_, rfl⟩
  rw [← ha_0] at W3
  have fa_0 : fits .byte (.int a_0) = true := by rw [ha_0]; exact fits_nar_byte _
  have V3 : Arv Z h3 aa k1 .byte (6 : Int32) [(.int a_0), (.int (0 : Int32)), (.int (0 : Int32)), (.int (0 : Int32)), (.int (0 : Int32)), (.int (0 : Int32))] (.int (0 : Int32)) := Arv.set Ar2 aq2 aS2 aN2 aH2 aG2 fa_0 W3 0 rfl (Nat.le_of_ble_eq_true rfl)
  have N3 := Fr.snoc X3 N0 g_aa
  have Z3 : n0 ≤ h3.size := Nat.le_trans Z1 (Keep.of_wr W3).1
  refine GoesW.step st3 ?_
  show GoesW p.tables e below s (Q0 Z p0 p1 p2 p3 h0 n0) room_1.cells room_1.slots (T3.setTop (mkF m 12 #[.val (.int p0), .val (.int p1), .val (.int p2), .val (.int p3), .val (.ref aa), .unset, .unset, .unset, .unset, .unset, .unset, .unset, .unset, .unset, .unset, .unset, .unset] []))
  refine GoesW.step (fun _ k => XS.aload X3.here hx rfl (hb hby at_12) rfl rfl k) ?_
  show GoesW p.tables e below s (Q0 Z p0 p1 p2 p3 h0 n0) room_1.cells room_1.slots (T3.setTop (mkF m 14 #[.val (.int p0), .val (.int p1), .val (.int p2), .val (.int p3), .val (.ref aa), .unset, .unset, .unset, .unset, .unset, .unset, .unset, .unset, .unset, .unset, .unset, .unset] [(.ref aa)]))
  refine GoesW.step (fun _ k => XS.iconst X3.here hx rfl (hb hby at_14) k) ?_
  show GoesW p.tables e below s (Q0 Z p0 p1 p2 p3 h0 n0) room_1.cells room_1.slots (T3.setTop (mkF m 15 #[.val (.int p0), .val (.int p1), .val (.int p2), .val (.int p3), .val (.ref aa), .unset, .unset, .unset, .unset, .unset, .unset, .unset, .unset, .unset, .unset, .unset, .unset] [(.int (1 : Int32)), (.ref aa)]))
  refine GoesW.step (fun _ k => XS.iloadN X3.here hx rfl (hb hby at_15) rfl k) ?_
  show GoesW p.tables e below s (Q0 Z p0 p1 p2 p3 h0 n0) room_1.cells room_1.slots (T3.setTop (mkF m 16 #[.val (.int p0), .val (.int p1), .val (.int p2), .val (.int p3), .val (.ref aa), .unset, .unset, .unset, .unset, .unset, .unset, .unset, .unset, .unset, .unset, .unset, .unset] [(.int p0), (.int (1 : Int32)), (.ref aa)]))
  refine GoesW.step (fun _ k => XS.bipush X3.here hx rfl (hb hby at_16) k) ?_
  show GoesW p.tables e below s (Q0 Z p0 p1 p2 p3 h0 n0) room_1.cells room_1.slots (T3.setTop (mkF m 18 #[.val (.int p0), .val (.int p1), .val (.int p2), .val (.int p3), .val (.ref aa), .unset, .unset, .unset, .unset, .unset, .unset, .unset, .unset, .unset, .unset, .unset, .unset] [(.int (8 : Int32)), (.int p0), (.int (1 : Int32)), (.ref aa)]))
  refine GoesW.step (fun _ k => XS.ishr X3.here hx rfl (hb hby at_18) rfl k) ?_
  show GoesW p.tables e below s (Q0 Z p0 p1 p2 p3 h0 n0) room_1.cells room_1.slots (T3.setTop (mkF m 19 #[.val (.int p0), .val (.int p1), .val (.int p2), .val (.int p3), .val (.ref aa), .unset, .unset, .unset, .unset, .unset, .unset, .unset, .unset, .unset, .unset, .unset, .unset] [(.int (p0 >>> ((8 : Int32) &&& 31))), (.int (1 : Int32)), (.ref aa)]))
  refine GoesW.step (fun _ k => XS.i2b X3.here hx rfl (hb hby at_19) rfl k) ?_
  show GoesW p.tables e below s (Q0 Z p0 p1 p2 p3 h0 n0) room_1.cells room_1.slots (T3.setTop (mkF m 20 #[.val (.int p0), .val (.int p1), .val (.int p2), .val (.int p3), .val (.ref aa), .unset, .unset, .unset, .unset, .unset, .unset, .unset, .unset, .unset, .unset, .unset, .unset] [(.int ((p0 >>> ((8 : Int32) &&& 31)).toInt8.toInt32)), (.int (1 : Int32)), (.ref aa)]))
  generalize hea_1 : ((p0 >>> ((8 : Int32) &&& 31)).toInt8.toInt32) = ea_1
  show GoesW p.tables e below s (Q0 Z p0 p1 p2 p3 h0 n0) room_1.cells room_1.slots (T3.setTop (mkF m 20 #[.val (.int p0), .val (.int p1), .val (.int p2), .val (.int p3), .val (.ref aa), .unset, .unset, .unset, .unset, .unset, .unset, .unset, .unset, .unset, .unset, .unset, .unset] [(.int ea_1), (.int (1 : Int32)), (.ref aa)]))
  have vv4 := V3
  obtain ⟨cl4, Ar4, aq4, aS4, aN4, aH4, aG4⟩ := vv4
  have hin4 : ¬ ((1 : Int32) < 0 ∨ cl4.slots.size ≤ ((1 : Int32)).toNatClampNeg) := inb_of aS4 ⟨by decide, by decide⟩
  obtain ⟨T5, h5, X5, e5, W5, st5⟩ := stB X3 hx hZ e3 Ar4 (j := (1 : Int32)) hin4 (g := (mkF m 20 #[.val (.int p0), .val (.int p1), .val (.int p2), .val (.int p3), .val (.ref aa), .unset, .unset, .unset, .unset, .unset, .unset, .unset, .unset, .unset, .unset, .unset, .unset] [(.int ea_1), (.int (1 : Int32)), (.ref aa)])) rfl rfl (hb hby at_20)
  obtain ⟨a_1, ha_1⟩ : ∃ z : Int32, z = nar .byte ea_1 := ⟨_, rfl⟩
  rw [← ha_1] at W5
  have fa_1 : fits .byte (.int a_1) = true := by rw [ha_1]; exact fits_nar_byte _
  have V5 : Arv Z h5 aa k1 .byte (6 : Int32) [(.int a_0), (.int a_1), (.int (0 : Int32)), (.int (0 : Int32)), (.int (0 : Int32)), (.int (0 : Int32))] (.int (0 : Int32)) := Arv.set Ar4 aq4 aS4 aN4 aH4 aG4 fa_1 W5 1 rfl (Nat.le_of_ble_eq_true rfl)
  have N5 := Fr.snoc X5 N3 g_aa
  have Z5 : n0 ≤ h5.size := Nat.le_trans Z3 (Keep.of_wr W5).1
  refine GoesW.step st5 ?_
  show GoesW p.tables e below s (Q0 Z p0 p1 p2 p3 h0 n0) room_1.cells room_1.slots (T5.setTop (mkF m 21 #[.val (.int p0), .val (.int p1), .val (.int p2), .val (.int p3), .val (.ref aa), .unset, .unset, .unset, .unset, .unset, .unset, .unset, .unset, .unset, .unset, .unset, .unset] []))
  refine GoesW.step (fun _ k => XS.aload X5.here hx rfl (hb hby at_21) rfl rfl k) ?_
  show GoesW p.tables e below s (Q0 Z p0 p1 p2 p3 h0 n0) room_1.cells room_1.slots (T5.setTop (mkF m 23 #[.val (.int p0), .val (.int p1), .val (.int p2), .val (.int p3), .val (.ref aa), .unset, .unset, .unset, .unset, .unset, .unset, .unset, .unset, .unset, .unset, .unset, .unset] [(.ref aa)]))
  refine GoesW.step (fun _ k => XS.iconst X5.here hx rfl (hb hby at_23) k) ?_
  show GoesW p.tables e below s (Q0 Z p0 p1 p2 p3 h0 n0) room_1.cells room_1.slots (T5.setTop (mkF m 24 #[.val (.int p0), .val (.int p1), .val (.int p2), .val (.int p3), .val (.ref aa), .unset, .unset, .unset, .unset, .unset, .unset, .unset, .unset, .unset, .unset, .unset, .unset] [(.int (2 : Int32)), (.ref aa)]))
  refine GoesW.step (fun _ k => XS.iloadN X5.here hx rfl (hb hby at_24) rfl k) ?_
  show GoesW p.tables e below s (Q0 Z p0 p1 p2 p3 h0 n0) room_1.cells room_1.slots (T5.setTop (mkF m 25 #[.val (.int p0), .val (.int p1), .val (.int p2), .val (.int p3), .val (.ref aa), .unset, .unset, .unset, .unset, .unset, .unset, .unset, .unset, .unset, .unset, .unset, .unset] [(.int p0), (.int (2 : Int32)), (.ref aa)]))
  refine GoesW.step (fun _ k => XS.bipush X5.here hx rfl (hb hby at_25) k) ?_
  show GoesW p.tables e below s (Q0 Z p0 p1 p2 p3 h0 n0) room_1.cells room_1.slots (T5.setTop (mkF m 27 #[.val (.int p0), .val (.int p1), .val (.int p2), .val (.int p3), .val (.ref aa), .unset, .unset, .unset, .unset, .unset, .unset, .unset, .unset, .unset, .unset, .unset, .unset] [(.int (16 : Int32)), (.int p0), (.int (2 : Int32)), (.ref aa)]))
  refine GoesW.step (fun _ k => XS.ishr X5.here hx rfl (hb hby at_27) rfl k) ?_
  show GoesW p.tables e below s (Q0 Z p0 p1 p2 p3 h0 n0) room_1.cells room_1.slots (T5.setTop (mkF m 28 #[.val (.int p0), .val (.int p1), .val (.int p2), .val (.int p3), .val (.ref aa), .unset, .unset, .unset, .unset, .unset, .unset, .unset, .unset, .unset, .unset, .unset, .unset] [(.int (p0 >>> ((16 : Int32) &&& 31))), (.int (2 : Int32)), (.ref aa)]))
  refine GoesW.step (fun _ k => XS.i2b X5.here hx rfl (hb hby at_28) rfl k) ?_
  show GoesW p.tables e below s (Q0 Z p0 p1 p2 p3 h0 n0) room_1.cells room_1.slots (T5.setTop (mkF m 29 #[.val (.int p0), .val (.int p1), .val (.int p2), .val (.int p3), .val (.ref aa), .unset, .unset, .unset, .unset, .unset, .unset, .unset, .unset, .unset, .unset, .unset, .unset] [(.int ((p0 >>> ((16 : Int32) &&& 31)).toInt8.toInt32)), (.int (2 : Int32)), (.ref aa)]))
  generalize hea_2 : ((p0 >>> ((16 : Int32) &&& 31)).toInt8.toInt32) = ea_2
  show GoesW p.tables e below s (Q0 Z p0 p1 p2 p3 h0 n0) room_1.cells room_1.slots (T5.setTop (mkF m 29 #[.val (.int p0), .val (.int p1), .val (.int p2), .val (.int p3), .val (.ref aa), .unset, .unset, .unset, .unset, .unset, .unset, .unset, .unset, .unset, .unset, .unset, .unset] [(.int ea_2), (.int (2 : Int32)), (.ref aa)]))
  have vv6 := V5
  obtain ⟨cl6, Ar6, aq6, aS6, aN6, aH6, aG6⟩ := vv6
  have hin6 : ¬ ((2 : Int32) < 0 ∨ cl6.slots.size ≤ ((2 : Int32)).toNatClampNeg) := inb_of aS6 ⟨by decide, by decide⟩
  obtain ⟨T7, h7, X7, e7, W7, st7⟩ := stB X5 hx hZ e5 Ar6 (j := (2 : Int32)) hin6 (g := (mkF m 29 #[.val (.int p0), .val (.int p1), .val (.int p2), .val (.int p3), .val (.ref aa), .unset, .unset, .unset, .unset, .unset, .unset, .unset, .unset, .unset, .unset, .unset, .unset] [(.int ea_2), (.int (2 : Int32)), (.ref aa)])) rfl rfl (hb hby at_29)
  obtain ⟨a_2, ha_2⟩ : ∃ z : Int32, z = nar .byte ea_2 := ⟨_, rfl⟩
  rw [← ha_2] at W7
  have fa_2 : fits .byte (.int a_2) = true := by rw [ha_2]; exact fits_nar_byte _
  have V7 : Arv Z h7 aa k1 .byte (6 : Int32) [(.int a_0), (.int a_1), (.int a_2), (.int (0 : Int32)), (.int (0 : Int32)), (.int (0 : Int32))] (.int (0 : Int32)) := Arv.set Ar6 aq6 aS6 aN6 aH6 aG6 fa_2 W7 2 rfl (Nat.le_of_ble_eq_true rfl)
  have N7 := Fr.snoc X7 N5 g_aa
  have Z7 : n0 ≤ h7.size := Nat.le_trans Z5 (Keep.of_wr W7).1
  refine GoesW.step st7 ?_
  show GoesW p.tables e below s (Q0 Z p0 p1 p2 p3 h0 n0) room_1.cells room_1.slots (T7.setTop (mkF m 30 #[.val (.int p0), .val (.int p1), .val (.int p2), .val (.int p3), .val (.ref aa), .unset, .unset, .unset, .unset, .unset, .unset, .unset, .unset, .unset, .unset, .unset, .unset] []))
  refine GoesW.step (fun _ k => XS.aload X7.here hx rfl (hb hby at_30) rfl rfl k) ?_
  show GoesW p.tables e below s (Q0 Z p0 p1 p2 p3 h0 n0) room_1.cells room_1.slots (T7.setTop (mkF m 32 #[.val (.int p0), .val (.int p1), .val (.int p2), .val (.int p3), .val (.ref aa), .unset, .unset, .unset, .unset, .unset, .unset, .unset, .unset, .unset, .unset, .unset, .unset] [(.ref aa)]))
  refine GoesW.step (fun _ k => XS.iconst X7.here hx rfl (hb hby at_32) k) ?_
  show GoesW p.tables e below s (Q0 Z p0 p1 p2 p3 h0 n0) room_1.cells room_1.slots (T7.setTop (mkF m 33 #[.val (.int p0), .val (.int p1), .val (.int p2), .val (.int p3), .val (.ref aa), .unset, .unset, .unset, .unset, .unset, .unset, .unset, .unset, .unset, .unset, .unset, .unset] [(.int (3 : Int32)), (.ref aa)]))
  refine GoesW.step (fun _ k => XS.iloadN X7.here hx rfl (hb hby at_33) rfl k) ?_
  show GoesW p.tables e below s (Q0 Z p0 p1 p2 p3 h0 n0) room_1.cells room_1.slots (T7.setTop (mkF m 34 #[.val (.int p0), .val (.int p1), .val (.int p2), .val (.int p3), .val (.ref aa), .unset, .unset, .unset, .unset, .unset, .unset, .unset, .unset, .unset, .unset, .unset, .unset] [(.int p0), (.int (3 : Int32)), (.ref aa)]))
  refine GoesW.step (fun _ k => XS.bipush X7.here hx rfl (hb hby at_34) k) ?_
  show GoesW p.tables e below s (Q0 Z p0 p1 p2 p3 h0 n0) room_1.cells room_1.slots (T7.setTop (mkF m 36 #[.val (.int p0), .val (.int p1), .val (.int p2), .val (.int p3), .val (.ref aa), .unset, .unset, .unset, .unset, .unset, .unset, .unset, .unset, .unset, .unset, .unset, .unset] [(.int (24 : Int32)), (.int p0), (.int (3 : Int32)), (.ref aa)]))
  refine GoesW.step (fun _ k => XS.ishr X7.here hx rfl (hb hby at_36) rfl k) ?_
  show GoesW p.tables e below s (Q0 Z p0 p1 p2 p3 h0 n0) room_1.cells room_1.slots (T7.setTop (mkF m 37 #[.val (.int p0), .val (.int p1), .val (.int p2), .val (.int p3), .val (.ref aa), .unset, .unset, .unset, .unset, .unset, .unset, .unset, .unset, .unset, .unset, .unset, .unset] [(.int (p0 >>> ((24 : Int32) &&& 31))), (.int (3 : Int32)), (.ref aa)]))
  refine GoesW.step (fun _ k => XS.i2b X7.here hx rfl (hb hby at_37) rfl k) ?_
  show GoesW p.tables e below s (Q0 Z p0 p1 p2 p3 h0 n0) room_1.cells room_1.slots (T7.setTop (mkF m 38 #[.val (.int p0), .val (.int p1), .val (.int p2), .val (.int p3), .val (.ref aa), .unset, .unset, .unset, .unset, .unset, .unset, .unset, .unset, .unset, .unset, .unset, .unset] [(.int ((p0 >>> ((24 : Int32) &&& 31)).toInt8.toInt32)), (.int (3 : Int32)), (.ref aa)]))
  generalize hea_3 : ((p0 >>> ((24 : Int32) &&& 31)).toInt8.toInt32) = ea_3
  show GoesW p.tables e below s (Q0 Z p0 p1 p2 p3 h0 n0) room_1.cells room_1.slots (T7.setTop (mkF m 38 #[.val (.int p0), .val (.int p1), .val (.int p2), .val (.int p3), .val (.ref aa), .unset, .unset, .unset, .unset, .unset, .unset, .unset, .unset, .unset, .unset, .unset, .unset] [(.int ea_3), (.int (3 : Int32)), (.ref aa)]))
  have vv8 := V7
  obtain ⟨cl8, Ar8, aq8, aS8, aN8, aH8, aG8⟩ := vv8
  have hin8 : ¬ ((3 : Int32) < 0 ∨ cl8.slots.size ≤ ((3 : Int32)).toNatClampNeg) := inb_of aS8 ⟨by decide, by decide⟩
  obtain ⟨T9, h9, X9, e9, W9, st9⟩ := stB X7 hx hZ e7 Ar8 (j := (3 : Int32)) hin8 (g := (mkF m 38 #[.val (.int p0), .val (.int p1), .val (.int p2), .val (.int p3), .val (.ref aa), .unset, .unset, .unset, .unset, .unset, .unset, .unset, .unset, .unset, .unset, .unset, .unset] [(.int ea_3), (.int (3 : Int32)), (.ref aa)])) rfl rfl (hb hby at_38)
  obtain ⟨a_3, ha_3⟩ : ∃ z : Int32, z = nar .byte ea_3 := ⟨_, rfl⟩
  rw [← ha_3] at W9
  have fa_3 : fits .byte (.int a_3) = true := by rw [ha_3]; exact fits_nar_byte _
  have V9 : Arv Z h9 aa k1 .byte (6 : Int32) [(.int a_0), (.int a_1), (.int a_2), (.int a_3), (.int (0 : Int32)), (.int (0 : Int32))] (.int (0 : Int32)) := Arv.set Ar8 aq8 aS8 aN8 aH8 aG8 fa_3 W9 3 rfl (Nat.le_of_ble_eq_true rfl)
  have N9 := Fr.snoc X9 N7 g_aa
  have Z9 : n0 ≤ h9.size := Nat.le_trans Z7 (Keep.of_wr W9).1
  refine GoesW.step st9 ?_
  show GoesW p.tables e below s (Q0 Z p0 p1 p2 p3 h0 n0) room_1.cells room_1.slots (T9.setTop (mkF m 39 #[.val (.int p0), .val (.int p1), .val (.int p2), .val (.int p3), .val (.ref aa), .unset, .unset, .unset, .unset, .unset, .unset, .unset, .unset, .unset, .unset, .unset, .unset] []))
  refine GoesW.step (fun _ k => XS.aload X9.here hx rfl (hb hby at_39) rfl rfl k) ?_
  show GoesW p.tables e below s (Q0 Z p0 p1 p2 p3 h0 n0) room_1.cells room_1.slots (T9.setTop (mkF m 41 #[.val (.int p0), .val (.int p1), .val (.int p2), .val (.int p3), .val (.ref aa), .unset, .unset, .unset, .unset, .unset, .unset, .unset, .unset, .unset, .unset, .unset, .unset] [(.ref aa)]))
  refine GoesW.step (fun _ k => XS.iconst X9.here hx rfl (hb hby at_41) k) ?_
  show GoesW p.tables e below s (Q0 Z p0 p1 p2 p3 h0 n0) room_1.cells room_1.slots (T9.setTop (mkF m 42 #[.val (.int p0), .val (.int p1), .val (.int p2), .val (.int p3), .val (.ref aa), .unset, .unset, .unset, .unset, .unset, .unset, .unset, .unset, .unset, .unset, .unset, .unset] [(.int (4 : Int32)), (.ref aa)]))
  refine GoesW.step (fun _ k => XS.iloadN X9.here hx rfl (hb hby at_42) rfl k) ?_
  show GoesW p.tables e below s (Q0 Z p0 p1 p2 p3 h0 n0) room_1.cells room_1.slots (T9.setTop (mkF m 43 #[.val (.int p0), .val (.int p1), .val (.int p2), .val (.int p3), .val (.ref aa), .unset, .unset, .unset, .unset, .unset, .unset, .unset, .unset, .unset, .unset, .unset, .unset] [(.int p1), (.int (4 : Int32)), (.ref aa)]))
  refine GoesW.step (fun _ k => XS.i2b X9.here hx rfl (hb hby at_43) rfl k) ?_
  show GoesW p.tables e below s (Q0 Z p0 p1 p2 p3 h0 n0) room_1.cells room_1.slots (T9.setTop (mkF m 44 #[.val (.int p0), .val (.int p1), .val (.int p2), .val (.int p3), .val (.ref aa), .unset, .unset, .unset, .unset, .unset, .unset, .unset, .unset, .unset, .unset, .unset, .unset] [(.int (p1.toInt8.toInt32)), (.int (4 : Int32)), (.ref aa)]))
  generalize hea_4 : (p1.toInt8.toInt32) = ea_4
  show GoesW p.tables e below s (Q0 Z p0 p1 p2 p3 h0 n0) room_1.cells room_1.slots (T9.setTop (mkF m 44 #[.val (.int p0), .val (.int p1), .val (.int p2), .val (.int p3), .val (.ref aa), .unset, .unset, .unset, .unset, .unset, .unset, .unset, .unset, .unset, .unset, .unset, .unset] [(.int ea_4), (.int (4 : Int32)), (.ref aa)]))
  have vv10 := V9
  obtain ⟨cl10, Ar10, aq10, aS10, aN10, aH10, aG10⟩ := vv10
  have hin10 : ¬ ((4 : Int32) < 0 ∨ cl10.slots.size ≤ ((4 : Int32)).toNatClampNeg) := inb_of aS10 ⟨by decide, by decide⟩
  obtain ⟨T11, h11, X11, e11, W11, st11⟩ := stB X9 hx hZ e9 Ar10 (j := (4 : Int32)) hin10 (g := (mkF m 44 #[.val (.int p0), .val (.int p1), .val (.int p2), .val (.int p3), .val (.ref aa), .unset, .unset, .unset, .unset, .unset, .unset, .unset, .unset, .unset, .unset, .unset, .unset] [(.int ea_4), (.int (4 : Int32)), (.ref aa)])) rfl rfl (hb hby at_44)
  obtain ⟨a_4, ha_4⟩ : ∃ z : Int32, z = nar .byte ea_4 := ⟨_, rfl⟩
  rw [← ha_4] at W11
  have fa_4 : fits .byte (.int a_4) = true := by rw [ha_4]; exact fits_nar_byte _
  have V11 : Arv Z h11 aa k1 .byte (6 : Int32) [(.int a_0), (.int a_1), (.int a_2), (.int a_3), (.int a_4), (.int (0 : Int32))] (.int (0 : Int32)) := Arv.set Ar10 aq10 aS10 aN10 aH10 aG10 fa_4 W11 4 rfl (Nat.le_of_ble_eq_true rfl)
  have N11 := Fr.snoc X11 N9 g_aa
  have Z11 : n0 ≤ h11.size := Nat.le_trans Z9 (Keep.of_wr W11).1
  refine GoesW.step st11 ?_
  show GoesW p.tables e below s (Q0 Z p0 p1 p2 p3 h0 n0) room_1.cells room_1.slots (T11.setTop (mkF m 45 #[.val (.int p0), .val (.int p1), .val (.int p2), .val (.int p3), .val (.ref aa), .unset, .unset, .unset, .unset, .unset, .unset, .unset, .unset, .unset, .unset, .unset, .unset] []))
  refine GoesW.step (fun _ k => XS.aload X11.here hx rfl (hb hby at_45) rfl rfl k) ?_
  show GoesW p.tables e below s (Q0 Z p0 p1 p2 p3 h0 n0) room_1.cells room_1.slots (T11.setTop (mkF m 47 #[.val (.int p0), .val (.int p1), .val (.int p2), .val (.int p3), .val (.ref aa), .unset, .unset, .unset, .unset, .unset, .unset, .unset, .unset, .unset, .unset, .unset, .unset] [(.ref aa)]))
  refine GoesW.step (fun _ k => XS.iconst X11.here hx rfl (hb hby at_47) k) ?_
  show GoesW p.tables e below s (Q0 Z p0 p1 p2 p3 h0 n0) room_1.cells room_1.slots (T11.setTop (mkF m 48 #[.val (.int p0), .val (.int p1), .val (.int p2), .val (.int p3), .val (.ref aa), .unset, .unset, .unset, .unset, .unset, .unset, .unset, .unset, .unset, .unset, .unset, .unset] [(.int (5 : Int32)), (.ref aa)]))
  refine GoesW.step (fun _ k => XS.iloadN X11.here hx rfl (hb hby at_48) rfl k) ?_
  show GoesW p.tables e below s (Q0 Z p0 p1 p2 p3 h0 n0) room_1.cells room_1.slots (T11.setTop (mkF m 49 #[.val (.int p0), .val (.int p1), .val (.int p2), .val (.int p3), .val (.ref aa), .unset, .unset, .unset, .unset, .unset, .unset, .unset, .unset, .unset, .unset, .unset, .unset] [(.int p1), (.int (5 : Int32)), (.ref aa)]))
  refine GoesW.step (fun _ k => XS.bipush X11.here hx rfl (hb hby at_49) k) ?_
  show GoesW p.tables e below s (Q0 Z p0 p1 p2 p3 h0 n0) room_1.cells room_1.slots (T11.setTop (mkF m 51 #[.val (.int p0), .val (.int p1), .val (.int p2), .val (.int p3), .val (.ref aa), .unset, .unset, .unset, .unset, .unset, .unset, .unset, .unset, .unset, .unset, .unset, .unset] [(.int (8 : Int32)), (.int p1), (.int (5 : Int32)), (.ref aa)]))
  refine GoesW.step (fun _ k => XS.ishr X11.here hx rfl (hb hby at_51) rfl k) ?_
  show GoesW p.tables e below s (Q0 Z p0 p1 p2 p3 h0 n0) room_1.cells room_1.slots (T11.setTop (mkF m 52 #[.val (.int p0), .val (.int p1), .val (.int p2), .val (.int p3), .val (.ref aa), .unset, .unset, .unset, .unset, .unset, .unset, .unset, .unset, .unset, .unset, .unset, .unset] [(.int (p1 >>> ((8 : Int32) &&& 31))), (.int (5 : Int32)), (.ref aa)]))
  refine GoesW.step (fun _ k => XS.i2b X11.here hx rfl (hb hby at_52) rfl k) ?_
  show GoesW p.tables e below s (Q0 Z p0 p1 p2 p3 h0 n0) room_1.cells room_1.slots (T11.setTop (mkF m 53 #[.val (.int p0), .val (.int p1), .val (.int p2), .val (.int p3), .val (.ref aa), .unset, .unset, .unset, .unset, .unset, .unset, .unset, .unset, .unset, .unset, .unset, .unset] [(.int ((p1 >>> ((8 : Int32) &&& 31)).toInt8.toInt32)), (.int (5 : Int32)), (.ref aa)]))
  generalize hea_5 : ((p1 >>> ((8 : Int32) &&& 31)).toInt8.toInt32) = ea_5
  show GoesW p.tables e below s (Q0 Z p0 p1 p2 p3 h0 n0) room_1.cells room_1.slots (T11.setTop (mkF m 53 #[.val (.int p0), .val (.int p1), .val (.int p2), .val (.int p3), .val (.ref aa), .unset, .unset, .unset, .unset, .unset, .unset, .unset, .unset, .unset, .unset, .unset, .unset] [(.int ea_5), (.int (5 : Int32)), (.ref aa)]))
  have vv12 := V11
  obtain ⟨cl12, Ar12, aq12, aS12, aN12, aH12, aG12⟩ := vv12
  have hin12 : ¬ ((5 : Int32) < 0 ∨ cl12.slots.size ≤ ((5 : Int32)).toNatClampNeg) := inb_of aS12 ⟨by decide, by decide⟩
  obtain ⟨T13, h13, X13, e13, W13, st13⟩ := stB X11 hx hZ e11 Ar12 (j := (5 : Int32)) hin12 (g := (mkF m 53 #[.val (.int p0), .val (.int p1), .val (.int p2), .val (.int p3), .val (.ref aa), .unset, .unset, .unset, .unset, .unset, .unset, .unset, .unset, .unset, .unset, .unset, .unset] [(.int ea_5), (.int (5 : Int32)), (.ref aa)])) rfl rfl (hb hby at_53)
  obtain ⟨a_5, ha_5⟩ : ∃ z : Int32, z = nar .byte ea_5 := ⟨_, rfl⟩
  rw [← ha_5] at W13
  have fa_5 : fits .byte (.int a_5) = true := by rw [ha_5]; exact fits_nar_byte _
  have V13 : Arv Z h13 aa k1 .byte (6 : Int32) [(.int a_0), (.int a_1), (.int a_2), (.int a_3), (.int a_4), (.int a_5)] (.int (0 : Int32)) := Arv.set Ar12 aq12 aS12 aN12 aH12 aG12 fa_5 W13 5 rfl (Nat.le_of_ble_eq_true rfl)
  have N13 := Fr.snoc X13 N11 g_aa
  have Z13 : n0 ≤ h13.size := Nat.le_trans Z11 (Keep.of_wr W13).1
  refine GoesW.step st13 ?_
  show GoesW p.tables e below s (Q0 Z p0 p1 p2 p3 h0 n0) room_1.cells room_1.slots (T13.setTop (mkF m 54 #[.val (.int p0), .val (.int p1), .val (.int p2), .val (.int p3), .val (.ref aa), .unset, .unset, .unset, .unset, .unset, .unset, .unset, .unset, .unset, .unset, .unset, .unset] []))
  refine GoesW.step (fun _ k => XS.iloadN X13.here hx rfl (hb hby at_54) rfl k) ?_
  show GoesW p.tables e below s (Q0 Z p0 p1 p2 p3 h0 n0) room_1.cells room_1.slots (T13.setTop (mkF m 55 #[.val (.int p0), .val (.int p1), .val (.int p2), .val (.int p3), .val (.ref aa), .unset, .unset, .unset, .unset, .unset, .unset, .unset, .unset, .unset, .unset, .unset, .unset] [(.int p1)]))
  refine GoesW.step (fun _ k => XS.bipush X13.here hx rfl (hb hby at_55) k) ?_
  show GoesW p.tables e below s (Q0 Z p0 p1 p2 p3 h0 n0) room_1.cells room_1.slots (T13.setTop (mkF m 57 #[.val (.int p0), .val (.int p1), .val (.int p2), .val (.int p3), .val (.ref aa), .unset, .unset, .unset, .unset, .unset, .unset, .unset, .unset, .unset, .unset, .unset, .unset] [(.int (16 : Int32)), (.int p1)]))
  refine GoesW.step (fun _ k => XS.iushr X13.here hx rfl (hb hby at_57) rfl k) ?_
  show GoesW p.tables e below s (Q0 Z p0 p1 p2 p3 h0 n0) room_1.cells room_1.slots (T13.setTop (mkF m 58 #[.val (.int p0), .val (.int p1), .val (.int p2), .val (.int p3), .val (.ref aa), .unset, .unset, .unset, .unset, .unset, .unset, .unset, .unset, .unset, .unset, .unset, .unset] [(.int ((p1.toUInt32 >>> ((16 : Int32) &&& 31).toUInt32).toInt32))]))
  refine GoesW.step (fun _ k => XS.i2b X13.here hx rfl (hb hby at_58) rfl k) ?_
  show GoesW p.tables e below s (Q0 Z p0 p1 p2 p3 h0 n0) room_1.cells room_1.slots (T13.setTop (mkF m 59 #[.val (.int p0), .val (.int p1), .val (.int p2), .val (.int p3), .val (.ref aa), .unset, .unset, .unset, .unset, .unset, .unset, .unset, .unset, .unset, .unset, .unset, .unset] [(.int (((p1.toUInt32 >>> ((16 : Int32) &&& 31).toUInt32).toInt32).toInt8.toInt32))]))
  generalize hxx : (((p1.toUInt32 >>> ((16 : Int32) &&& 31).toUInt32).toInt32).toInt8.toInt32) = xx
  show GoesW p.tables e below s (Q0 Z p0 p1 p2 p3 h0 n0) room_1.cells room_1.slots (T13.setTop (mkF m 59 #[.val (.int p0), .val (.int p1), .val (.int p2), .val (.int p3), .val (.ref aa), .unset, .unset, .unset, .unset, .unset, .unset, .unset, .unset, .unset, .unset, .unset, .unset] [(.int xx)]))
  refine GoesW.step (fun _ k => XS.istore X13.here hx rfl (hb hby at_59) rfl (l' := #[.val (.int p0), .val (.int p1), .val (.int p2), .val (.int p3), .val (.ref aa), .val (.int xx), .unset, .unset, .unset, .unset, .unset, .unset, .unset, .unset, .unset, .unset, .unset]) rfl k) ?_
  show GoesW p.tables e below s (Q0 Z p0 p1 p2 p3 h0 n0) room_1.cells room_1.slots (T13.setTop (mkF m 61 #[.val (.int p0), .val (.int p1), .val (.int p2), .val (.int p3), .val (.ref aa), .val (.int xx), .unset, .unset, .unset, .unset, .unset, .unset, .unset, .unset, .unset, .unset, .unset] []))
  refine GoesW.step (fun _ k => XS.iloadN X13.here hx rfl (hb hby at_61) rfl k) ?_
  show GoesW p.tables e below s (Q0 Z p0 p1 p2 p3 h0 n0) room_1.cells room_1.slots (T13.setTop (mkF m 62 #[.val (.int p0), .val (.int p1), .val (.int p2), .val (.int p3), .val (.ref aa), .val (.int xx), .unset, .unset, .unset, .unset, .unset, .unset, .unset, .unset, .unset, .unset, .unset] [(.int p1)]))
  refine GoesW.step (fun _ k => XS.bipush X13.here hx rfl (hb hby at_62) k) ?_
  show GoesW p.tables e below s (Q0 Z p0 p1 p2 p3 h0 n0) room_1.cells room_1.slots (T13.setTop (mkF m 64 #[.val (.int p0), .val (.int p1), .val (.int p2), .val (.int p3), .val (.ref aa), .val (.int xx), .unset, .unset, .unset, .unset, .unset, .unset, .unset, .unset, .unset, .unset, .unset] [(.int (24 : Int32)), (.int p1)]))
  refine GoesW.step (fun _ k => XS.iushr X13.here hx rfl (hb hby at_64) rfl k) ?_
  show GoesW p.tables e below s (Q0 Z p0 p1 p2 p3 h0 n0) room_1.cells room_1.slots (T13.setTop (mkF m 65 #[.val (.int p0), .val (.int p1), .val (.int p2), .val (.int p3), .val (.ref aa), .val (.int xx), .unset, .unset, .unset, .unset, .unset, .unset, .unset, .unset, .unset, .unset, .unset] [(.int ((p1.toUInt32 >>> ((24 : Int32) &&& 31).toUInt32).toInt32))]))
  refine GoesW.step (fun _ k => XS.i2b X13.here hx rfl (hb hby at_65) rfl k) ?_
  show GoesW p.tables e below s (Q0 Z p0 p1 p2 p3 h0 n0) room_1.cells room_1.slots (T13.setTop (mkF m 66 #[.val (.int p0), .val (.int p1), .val (.int p2), .val (.int p3), .val (.ref aa), .val (.int xx), .unset, .unset, .unset, .unset, .unset, .unset, .unset, .unset, .unset, .unset, .unset] [(.int (((p1.toUInt32 >>> ((24 : Int32) &&& 31).toUInt32).toInt32).toInt8.toInt32))]))
  generalize hyy : (((p1.toUInt32 >>> ((24 : Int32) &&& 31).toUInt32).toInt32).toInt8.toInt32) = yy
  show GoesW p.tables e below s (Q0 Z p0 p1 p2 p3 h0 n0) room_1.cells room_1.slots (T13.setTop (mkF m 66 #[.val (.int p0), .val (.int p1), .val (.int p2), .val (.int p3), .val (.ref aa), .val (.int xx), .unset, .unset, .unset, .unset, .unset, .unset, .unset, .unset, .unset, .unset, .unset] [(.int yy)]))
  refine GoesW.step (fun _ k => XS.istore X13.here hx rfl (hb hby at_66) rfl (l' := #[.val (.int p0), .val (.int p1), .val (.int p2), .val (.int p3), .val (.ref aa), .val (.int xx), .val (.int yy), .unset, .unset, .unset, .unset, .unset, .unset, .unset, .unset, .unset, .unset]) rfl k) ?_
  show GoesW p.tables e below s (Q0 Z p0 p1 p2 p3 h0 n0) room_1.cells room_1.slots (T13.setTop (mkF m 68 #[.val (.int p0), .val (.int p1), .val (.int p2), .val (.int p3), .val (.ref aa), .val (.int xx), .val (.int yy), .unset, .unset, .unset, .unset, .unset, .unset, .unset, .unset, .unset, .unset] []))
  refine GoesW.step (fun _ k => XS.bipush X13.here hx rfl (hb hby at_68) k) ?_
  show GoesW p.tables e below s (Q0 Z p0 p1 p2 p3 h0 n0) room_1.cells room_1.slots (T13.setTop (mkF m 70 #[.val (.int p0), .val (.int p1), .val (.int p2), .val (.int p3), .val (.ref aa), .val (.int xx), .val (.int yy), .unset, .unset, .unset, .unset, .unset, .unset, .unset, .unset, .unset, .unset] [(.int (6 : Int32))]))
  obtain ⟨T14, h14, k14, X14, e14, E14, A14, st14⟩ := newP X13 hx hZ (hw _ (List.mem_of_getElem? (i := 0) rfl)) e13 (g := (mkF m 70 #[.val (.int p0), .val (.int p1), .val (.int p2), .val (.int p3), .val (.ref aa), .val (.int xx), .val (.int yy), .unset, .unset, .unset, .unset, .unset, .unset, .unset, .unset, .unset, .unset] [(.int (6 : Int32))])) rfl (hb hby at_70) rfl (by decide) (cap := 6) (by decide) (by decide) (by decide) (by decide)
  obtain ⟨cc, gs14⟩ : ∃ z, z = h13.size := ⟨_, rfl⟩
  rw [← gs14] at A14 st14
  have g_cc : n0 ≤ cc := Nat.le_trans Z13 (Nat.le_of_eq gs14.symm)
  have ne_aa_cc : aa ≠ cc := Nat.ne_of_lt (Nat.lt_of_lt_of_le V13.lt (Nat.le_of_eq gs14.symm))
  have Z14 : n0 ≤ h14.size := Nat.le_trans Z13 E14.1
  have V_cc : Arv Z h14 cc k14 .byte (6 : Int32) [(.int (0 : Int32)), (.int (0 : Int32)), (.int (0 : Int32)), (.int (0 : Int32)), (.int (0 : Int32)), (.int (0 : Int32))] (.int (0 : Int32)) := (Arv.new A14 (by decide)).pad (pad_rep [] (.int (0 : Int32)) 6)
  refine GoesW.step st14 ?_
  show GoesW p.tables e below s (Q0 Z p0 p1 p2 p3 h0 n0) room_1.cells room_1.slots (T14.setTop (mkF m 72 #[.val (.int p0), .val (.int p1), .val (.int p2), .val (.int p3), .val (.ref aa), .val (.int xx), .val (.int yy), .unset, .unset, .unset, .unset, .unset, .unset, .unset, .unset, .unset, .unset] [(.ref cc)]))
  refine GoesW.step (fun _ k => XS.astore X14.here hx rfl (hb hby at_72) rfl rfl (l' := #[.val (.int p0), .val (.int p1), .val (.int p2), .val (.int p3), .val (.ref aa), .val (.int xx), .val (.int yy), .val (.ref cc), .unset, .unset, .unset, .unset, .unset, .unset, .unset, .unset, .unset]) rfl k) ?_
  show GoesW p.tables e below s (Q0 Z p0 p1 p2 p3 h0 n0) room_1.cells room_1.slots (T14.setTop (mkF m 74 #[.val (.int p0), .val (.int p1), .val (.int p2), .val (.int p3), .val (.ref aa), .val (.int xx), .val (.int yy), .val (.ref cc), .unset, .unset, .unset, .unset, .unset, .unset, .unset, .unset, .unset] []))
  refine GoesW.step (fun _ k => XS.aload X14.here hx rfl (hb hby at_74) rfl rfl k) ?_
  show GoesW p.tables e below s (Q0 Z p0 p1 p2 p3 h0 n0) room_1.cells room_1.slots (T14.setTop (mkF m 76 #[.val (.int p0), .val (.int p1), .val (.int p2), .val (.int p3), .val (.ref aa), .val (.int xx), .val (.int yy), .val (.ref cc), .unset, .unset, .unset, .unset, .unset, .unset, .unset, .unset, .unset] [(.ref cc)]))
  refine GoesW.step (fun _ k => XS.iconst X14.here hx rfl (hb hby at_76) k) ?_
  show GoesW p.tables e below s (Q0 Z p0 p1 p2 p3 h0 n0) room_1.cells room_1.slots (T14.setTop (mkF m 77 #[.val (.int p0), .val (.int p1), .val (.int p2), .val (.int p3), .val (.ref aa), .val (.int xx), .val (.int yy), .val (.ref cc), .unset, .unset, .unset, .unset, .unset, .unset, .unset, .unset, .unset] [(.int (0 : Int32)), (.ref cc)]))
  refine GoesW.step (fun _ k => XS.aload X14.here hx rfl (hb hby at_77) rfl rfl k) ?_
  show GoesW p.tables e below s (Q0 Z p0 p1 p2 p3 h0 n0) room_1.cells room_1.slots (T14.setTop (mkF m 79 #[.val (.int p0), .val (.int p1), .val (.int p2), .val (.int p3), .val (.ref aa), .val (.int xx), .val (.int yy), .val (.ref cc), .unset, .unset, .unset, .unset, .unset, .unset, .unset, .unset, .unset] [(.ref aa), (.int (0 : Int32)), (.ref cc)]))
  refine GoesW.step (fun _ k => XS.iconst X14.here hx rfl (hb hby at_79) k) ?_
  show GoesW p.tables e below s (Q0 Z p0 p1 p2 p3 h0 n0) room_1.cells room_1.slots (T14.setTop (mkF m 80 #[.val (.int p0), .val (.int p1), .val (.int p2), .val (.int p3), .val (.ref aa), .val (.int xx), .val (.int yy), .val (.ref cc), .unset, .unset, .unset, .unset, .unset, .unset, .unset, .unset, .unset] [(.int (5 : Int32)), (.ref aa), (.int (0 : Int32)), (.ref cc)]))
  have Arv_aa_15 := (V13.ext E14)
  have vv16 := Arv_aa_15
  obtain ⟨cl16, Ar16, aq16, aS16, aN16, aH16, aG16⟩ := vv16
  have hin16 : ¬ ((5 : Int32) < 0 ∨ cl16.slots.size ≤ ((5 : Int32)).toNatClampNeg) := inb_of aS16 ⟨by decide, by decide⟩
  refine GoesW.step (fun _ k => X14.baloadBytes hx (j := (5 : Int32)) (v := (.int a_5)) (by rw [e14]; exact Ar16.1) (State.isArrayOf_alike hZ.alike Ar16.2.1) Ar16.2.2 hin16 (Has.at aH16 hin16 rfl) (g := (mkF m 80 #[.val (.int p0), .val (.int p1), .val (.int p2), .val (.int p3), .val (.ref aa), .val (.int xx), .val (.int yy), .val (.ref cc), .unset, .unset, .unset, .unset, .unset, .unset, .unset, .unset, .unset] [(.int (5 : Int32)), (.ref aa), (.int (0 : Int32)), (.ref cc)])) rfl rfl (hb hby at_80) _ k) ?_
  show GoesW p.tables e below s (Q0 Z p0 p1 p2 p3 h0 n0) room_1.cells room_1.slots (T14.setTop (mkF m 81 #[.val (.int p0), .val (.int p1), .val (.int p2), .val (.int p3), .val (.ref aa), .val (.int xx), .val (.int yy), .val (.ref cc), .unset, .unset, .unset, .unset, .unset, .unset, .unset, .unset, .unset] [(.int a_5), (.int (0 : Int32)), (.ref cc)]))
  refine GoesW.step (fun _ k => XS.iload X14.here hx rfl (hb hby at_81) rfl k) ?_
  show GoesW p.tables e below s (Q0 Z p0 p1 p2 p3 h0 n0) room_1.cells room_1.slots (T14.setTop (mkF m 83 #[.val (.int p0), .val (.int p1), .val (.int p2), .val (.int p3), .val (.ref aa), .val (.int xx), .val (.int yy), .val (.ref cc), .unset, .unset, .unset, .unset, .unset, .unset, .unset, .unset, .unset] [(.int xx), (.int a_5), (.int (0 : Int32)), (.ref cc)]))
  refine GoesW.step (fun _ k => XS.ixor X14.here hx rfl (hb hby at_83) rfl k) ?_
  show GoesW p.tables e below s (Q0 Z p0 p1 p2 p3 h0 n0) room_1.cells room_1.slots (T14.setTop (mkF m 84 #[.val (.int p0), .val (.int p1), .val (.int p2), .val (.int p3), .val (.ref aa), .val (.int xx), .val (.int yy), .val (.ref cc), .unset, .unset, .unset, .unset, .unset, .unset, .unset, .unset, .unset] [(.int (a_5 ^^^ xx)), (.int (0 : Int32)), (.ref cc)]))
  refine GoesW.step (fun _ k => XS.i2b X14.here hx rfl (hb hby at_84) rfl k) ?_
  show GoesW p.tables e below s (Q0 Z p0 p1 p2 p3 h0 n0) room_1.cells room_1.slots (T14.setTop (mkF m 85 #[.val (.int p0), .val (.int p1), .val (.int p2), .val (.int p3), .val (.ref aa), .val (.int xx), .val (.int yy), .val (.ref cc), .unset, .unset, .unset, .unset, .unset, .unset, .unset, .unset, .unset] [(.int ((a_5 ^^^ xx).toInt8.toInt32)), (.int (0 : Int32)), (.ref cc)]))
  generalize hec_0 : ((a_5 ^^^ xx).toInt8.toInt32) = ec_0
  show GoesW p.tables e below s (Q0 Z p0 p1 p2 p3 h0 n0) room_1.cells room_1.slots (T14.setTop (mkF m 85 #[.val (.int p0), .val (.int p1), .val (.int p2), .val (.int p3), .val (.ref aa), .val (.int xx), .val (.int yy), .val (.ref cc), .unset, .unset, .unset, .unset, .unset, .unset, .unset, .unset, .unset] [(.int ec_0), (.int (0 : Int32)), (.ref cc)]))
  have vv17 := V_cc
  obtain ⟨cl17, Ar17, aq17, aS17, aN17, aH17, aG17⟩ := vv17
  have hin17 : ¬ ((0 : Int32) < 0 ∨ cl17.slots.size ≤ ((0 : Int32)).toNatClampNeg) := inb_of aS17 ⟨by decide, by decide⟩
  obtain ⟨T18, h18, X18, e18, W18, st18⟩ := stB X14 hx hZ e14 Ar17 (j := (0 : Int32)) hin17 (g := (mkF m 85 #[.val (.int p0), .val (.int p1), .val (.int p2), .val (.int p3), .val (.ref aa), .val (.int xx), .val (.int yy), .val (.ref cc), .unset, .unset, .unset, .unset, .unset, .unset, .unset, .unset, .unset] [(.int ec_0), (.int (0 : Int32)), (.ref cc)])) rfl rfl (hb hby at_85)
  obtain ⟨c_0, hc_0⟩ : ∃ z : Int32, z = nar .byte ec_0 := ⟨_, rfl⟩
  rw [← hc_0] at W18
  have fc_0 : fits .byte (.int c_0) = true := by rw [hc_0]; exact fits_nar_byte _
  have V18 : Arv Z h18 cc k14 .byte (6 : Int32) [(.int c_0), (.int (0 : Int32)), (.int (0 : Int32)), (.int (0 : Int32)), (.int (0 : Int32)), (.int (0 : Int32))] (.int (0 : Int32)) := Arv.set Ar17 aq17 aS17 aN17 aH17 aG17 fc_0 W18 0 rfl (Nat.le_of_ble_eq_true rfl)
  have N18 := Fr.snoc X18 N13 g_cc
  have Z18 : n0 ≤ h18.size := Nat.le_trans Z14 (Keep.of_wr W18).1
  refine GoesW.step st18 ?_
  show GoesW p.tables e below s (Q0 Z p0 p1 p2 p3 h0 n0) room_1.cells room_1.slots (T18.setTop (mkF m 86 #[.val (.int p0), .val (.int p1), .val (.int p2), .val (.int p3), .val (.ref aa), .val (.int xx), .val (.int yy), .val (.ref cc), .unset, .unset, .unset, .unset, .unset, .unset, .unset, .unset, .unset] []))
  refine GoesW.step (fun _ k => XS.aload X18.here hx rfl (hb hby at_86) rfl rfl k) ?_
  show GoesW p.tables e below s (Q0 Z p0 p1 p2 p3 h0 n0) room_1.cells room_1.slots (T18.setTop (mkF m 88 #[.val (.int p0), .val (.int p1), .val (.int p2), .val (.int p3), .val (.ref aa), .val (.int xx), .val (.int yy), .val (.ref cc), .unset, .unset, .unset, .unset, .unset, .unset, .unset, .unset, .unset] [(.ref cc)]))
  refine GoesW.step (fun _ k => XS.iconst X18.here hx rfl (hb hby at_88) k) ?_
  show GoesW p.tables e below s (Q0 Z p0 p1 p2 p3 h0 n0) room_1.cells room_1.slots (T18.setTop (mkF m 89 #[.val (.int p0), .val (.int p1), .val (.int p2), .val (.int p3), .val (.ref aa), .val (.int xx), .val (.int yy), .val (.ref cc), .unset, .unset, .unset, .unset, .unset, .unset, .unset, .unset, .unset] [(.int (1 : Int32)), (.ref cc)]))
  refine GoesW.step (fun _ k => XS.aload X18.here hx rfl (hb hby at_89) rfl rfl k) ?_
  show GoesW p.tables e below s (Q0 Z p0 p1 p2 p3 h0 n0) room_1.cells room_1.slots (T18.setTop (mkF m 91 #[.val (.int p0), .val (.int p1), .val (.int p2), .val (.int p3), .val (.ref aa), .val (.int xx), .val (.int yy), .val (.ref cc), .unset, .unset, .unset, .unset, .unset, .unset, .unset, .unset, .unset] [(.ref aa), (.int (1 : Int32)), (.ref cc)]))
  refine GoesW.step (fun _ k => XS.iconst X18.here hx rfl (hb hby at_91) k) ?_
  show GoesW p.tables e below s (Q0 Z p0 p1 p2 p3 h0 n0) room_1.cells room_1.slots (T18.setTop (mkF m 92 #[.val (.int p0), .val (.int p1), .val (.int p2), .val (.int p3), .val (.ref aa), .val (.int xx), .val (.int yy), .val (.ref cc), .unset, .unset, .unset, .unset, .unset, .unset, .unset, .unset, .unset] [(.int (4 : Int32)), (.ref aa), (.int (1 : Int32)), (.ref cc)]))
  have Arv_aa_19 := (Arv_aa_15.other W18 ne_aa_cc)
  have vv20 := Arv_aa_19
  obtain ⟨cl20, Ar20, aq20, aS20, aN20, aH20, aG20⟩ := vv20
  have hin20 : ¬ ((4 : Int32) < 0 ∨ cl20.slots.size ≤ ((4 : Int32)).toNatClampNeg) := inb_of aS20 ⟨by decide, by decide⟩
  refine GoesW.step (fun _ k => X18.baloadBytes hx (j := (4 : Int32)) (v := (.int a_4)) (by rw [e18]; exact Ar20.1) (State.isArrayOf_alike hZ.alike Ar20.2.1) Ar20.2.2 hin20 (Has.at aH20 hin20 rfl) (g := (mkF m 92 #[.val (.int p0), .val (.int p1), .val (.int p2), .val (.int p3), .val (.ref aa), .val (.int xx), .val (.int yy), .val (.ref cc), .unset, .unset, .unset, .unset, .unset, .unset, .unset, .unset, .unset] [(.int (4 : Int32)), (.ref aa), (.int (1 : Int32)), (.ref cc)])) rfl rfl (hb hby at_92) _ k) ?_
  show GoesW p.tables e below s (Q0 Z p0 p1 p2 p3 h0 n0) room_1.cells room_1.slots (T18.setTop (mkF m 93 #[.val (.int p0), .val (.int p1), .val (.int p2), .val (.int p3), .val (.ref aa), .val (.int xx), .val (.int yy), .val (.ref cc), .unset, .unset, .unset, .unset, .unset, .unset, .unset, .unset, .unset] [(.int a_4), (.int (1 : Int32)), (.ref cc)]))
  refine GoesW.step (fun _ k => XS.iload X18.here hx rfl (hb hby at_93) rfl k) ?_
  show GoesW p.tables e below s (Q0 Z p0 p1 p2 p3 h0 n0) room_1.cells room_1.slots (T18.setTop (mkF m 95 #[.val (.int p0), .val (.int p1), .val (.int p2), .val (.int p3), .val (.ref aa), .val (.int xx), .val (.int yy), .val (.ref cc), .unset, .unset, .unset, .unset, .unset, .unset, .unset, .unset, .unset] [(.int xx), (.int a_4), (.int (1 : Int32)), (.ref cc)]))
  refine GoesW.step (fun _ k => XS.ixor X18.here hx rfl (hb hby at_95) rfl k) ?_
  show GoesW p.tables e below s (Q0 Z p0 p1 p2 p3 h0 n0) room_1.cells room_1.slots (T18.setTop (mkF m 96 #[.val (.int p0), .val (.int p1), .val (.int p2), .val (.int p3), .val (.ref aa), .val (.int xx), .val (.int yy), .val (.ref cc), .unset, .unset, .unset, .unset, .unset, .unset, .unset, .unset, .unset] [(.int (a_4 ^^^ xx)), (.int (1 : Int32)), (.ref cc)]))
  refine GoesW.step (fun _ k => XS.i2b X18.here hx rfl (hb hby at_96) rfl k) ?_
  show GoesW p.tables e below s (Q0 Z p0 p1 p2 p3 h0 n0) room_1.cells room_1.slots (T18.setTop (mkF m 97 #[.val (.int p0), .val (.int p1), .val (.int p2), .val (.int p3), .val (.ref aa), .val (.int xx), .val (.int yy), .val (.ref cc), .unset, .unset, .unset, .unset, .unset, .unset, .unset, .unset, .unset] [(.int ((a_4 ^^^ xx).toInt8.toInt32)), (.int (1 : Int32)), (.ref cc)]))
  generalize hec_1 : ((a_4 ^^^ xx).toInt8.toInt32) = ec_1
  show GoesW p.tables e below s (Q0 Z p0 p1 p2 p3 h0 n0) room_1.cells room_1.slots (T18.setTop (mkF m 97 #[.val (.int p0), .val (.int p1), .val (.int p2), .val (.int p3), .val (.ref aa), .val (.int xx), .val (.int yy), .val (.ref cc), .unset, .unset, .unset, .unset, .unset, .unset, .unset, .unset, .unset] [(.int ec_1), (.int (1 : Int32)), (.ref cc)]))
  have vv21 := V18
  obtain ⟨cl21, Ar21, aq21, aS21, aN21, aH21, aG21⟩ := vv21
  have hin21 : ¬ ((1 : Int32) < 0 ∨ cl21.slots.size ≤ ((1 : Int32)).toNatClampNeg) := inb_of aS21 ⟨by decide, by decide⟩
  obtain ⟨T22, h22, X22, e22, W22, st22⟩ := stB X18 hx hZ e18 Ar21 (j := (1 : Int32)) hin21 (g := (mkF m 97 #[.val (.int p0), .val (.int p1), .val (.int p2), .val (.int p3), .val (.ref aa), .val (.int xx), .val (.int yy), .val (.ref cc), .unset, .unset, .unset, .unset, .unset, .unset, .unset, .unset, .unset] [(.int ec_1), (.int (1 : Int32)), (.ref cc)])) rfl rfl (hb hby at_97)
  obtain ⟨c_1, hc_1⟩ : ∃ z : Int32, z = nar .byte ec_1 := ⟨_, rfl⟩
  rw [← hc_1] at W22
  have fc_1 : fits .byte (.int c_1) = true := by rw [hc_1]; exact fits_nar_byte _
  have V22 : Arv Z h22 cc k14 .byte (6 : Int32) [(.int c_0), (.int c_1), (.int (0 : Int32)), (.int (0 : Int32)), (.int (0 : Int32)), (.int (0 : Int32))] (.int (0 : Int32)) := Arv.set Ar21 aq21 aS21 aN21 aH21 aG21 fc_1 W22 1 rfl (Nat.le_of_ble_eq_true rfl)
  have N22 := Fr.snoc X22 N18 g_cc
  have Z22 : n0 ≤ h22.size := Nat.le_trans Z18 (Keep.of_wr W22).1
  refine GoesW.step st22 ?_
  show GoesW p.tables e below s (Q0 Z p0 p1 p2 p3 h0 n0) room_1.cells room_1.slots (T22.setTop (mkF m 98 #[.val (.int p0), .val (.int p1), .val (.int p2), .val (.int p3), .val (.ref aa), .val (.int xx), .val (.int yy), .val (.ref cc), .unset, .unset, .unset, .unset, .unset, .unset, .unset, .unset, .unset] []))
  refine GoesW.step (fun _ k => XS.aload X22.here hx rfl (hb hby at_98) rfl rfl k) ?_
  show GoesW p.tables e below s (Q0 Z p0 p1 p2 p3 h0 n0) room_1.cells room_1.slots (T22.setTop (mkF m 100 #[.val (.int p0), .val (.int p1), .val (.int p2), .val (.int p3), .val (.ref aa), .val (.int xx), .val (.int yy), .val (.ref cc), .unset, .unset, .unset, .unset, .unset, .unset, .unset, .unset, .unset] [(.ref cc)]))
  refine GoesW.step (fun _ k => XS.iconst X22.here hx rfl (hb hby at_100) k) ?_
  show GoesW p.tables e below s (Q0 Z p0 p1 p2 p3 h0 n0) room_1.cells room_1.slots (T22.setTop (mkF m 101 #[.val (.int p0), .val (.int p1), .val (.int p2), .val (.int p3), .val (.ref aa), .val (.int xx), .val (.int yy), .val (.ref cc), .unset, .unset, .unset, .unset, .unset, .unset, .unset, .unset, .unset] [(.int (2 : Int32)), (.ref cc)]))
  refine GoesW.step (fun _ k => XS.aload X22.here hx rfl (hb hby at_101) rfl rfl k) ?_
  show GoesW p.tables e below s (Q0 Z p0 p1 p2 p3 h0 n0) room_1.cells room_1.slots (T22.setTop (mkF m 103 #[.val (.int p0), .val (.int p1), .val (.int p2), .val (.int p3), .val (.ref aa), .val (.int xx), .val (.int yy), .val (.ref cc), .unset, .unset, .unset, .unset, .unset, .unset, .unset, .unset, .unset] [(.ref aa), (.int (2 : Int32)), (.ref cc)]))
  refine GoesW.step (fun _ k => XS.iconst X22.here hx rfl (hb hby at_103) k) ?_
  show GoesW p.tables e below s (Q0 Z p0 p1 p2 p3 h0 n0) room_1.cells room_1.slots (T22.setTop (mkF m 104 #[.val (.int p0), .val (.int p1), .val (.int p2), .val (.int p3), .val (.ref aa), .val (.int xx), .val (.int yy), .val (.ref cc), .unset, .unset, .unset, .unset, .unset, .unset, .unset, .unset, .unset] [(.int (3 : Int32)), (.ref aa), (.int (2 : Int32)), (.ref cc)]))
  have Arv_aa_23 := (Arv_aa_19.other W22 ne_aa_cc)
  have vv24 := Arv_aa_23
  obtain ⟨cl24, Ar24, aq24, aS24, aN24, aH24, aG24⟩ := vv24
  have hin24 : ¬ ((3 : Int32) < 0 ∨ cl24.slots.size ≤ ((3 : Int32)).toNatClampNeg) := inb_of aS24 ⟨by decide, by decide⟩
  refine GoesW.step (fun _ k => X22.baloadBytes hx (j := (3 : Int32)) (v := (.int a_3)) (by rw [e22]; exact Ar24.1) (State.isArrayOf_alike hZ.alike Ar24.2.1) Ar24.2.2 hin24 (Has.at aH24 hin24 rfl) (g := (mkF m 104 #[.val (.int p0), .val (.int p1), .val (.int p2), .val (.int p3), .val (.ref aa), .val (.int xx), .val (.int yy), .val (.ref cc), .unset, .unset, .unset, .unset, .unset, .unset, .unset, .unset, .unset] [(.int (3 : Int32)), (.ref aa), (.int (2 : Int32)), (.ref cc)])) rfl rfl (hb hby at_104) _ k) ?_
  show GoesW p.tables e below s (Q0 Z p0 p1 p2 p3 h0 n0) room_1.cells room_1.slots (T22.setTop (mkF m 105 #[.val (.int p0), .val (.int p1), .val (.int p2), .val (.int p3), .val (.ref aa), .val (.int xx), .val (.int yy), .val (.ref cc), .unset, .unset, .unset, .unset, .unset, .unset, .unset, .unset, .unset] [(.int a_3), (.int (2 : Int32)), (.ref cc)]))
  refine GoesW.step (fun _ k => XS.iload X22.here hx rfl (hb hby at_105) rfl k) ?_
  show GoesW p.tables e below s (Q0 Z p0 p1 p2 p3 h0 n0) room_1.cells room_1.slots (T22.setTop (mkF m 107 #[.val (.int p0), .val (.int p1), .val (.int p2), .val (.int p3), .val (.ref aa), .val (.int xx), .val (.int yy), .val (.ref cc), .unset, .unset, .unset, .unset, .unset, .unset, .unset, .unset, .unset] [(.int xx), (.int a_3), (.int (2 : Int32)), (.ref cc)]))
  refine GoesW.step (fun _ k => XS.ixor X22.here hx rfl (hb hby at_107) rfl k) ?_
  show GoesW p.tables e below s (Q0 Z p0 p1 p2 p3 h0 n0) room_1.cells room_1.slots (T22.setTop (mkF m 108 #[.val (.int p0), .val (.int p1), .val (.int p2), .val (.int p3), .val (.ref aa), .val (.int xx), .val (.int yy), .val (.ref cc), .unset, .unset, .unset, .unset, .unset, .unset, .unset, .unset, .unset] [(.int (a_3 ^^^ xx)), (.int (2 : Int32)), (.ref cc)]))
  refine GoesW.step (fun _ k => XS.i2b X22.here hx rfl (hb hby at_108) rfl k) ?_
  show GoesW p.tables e below s (Q0 Z p0 p1 p2 p3 h0 n0) room_1.cells room_1.slots (T22.setTop (mkF m 109 #[.val (.int p0), .val (.int p1), .val (.int p2), .val (.int p3), .val (.ref aa), .val (.int xx), .val (.int yy), .val (.ref cc), .unset, .unset, .unset, .unset, .unset, .unset, .unset, .unset, .unset] [(.int ((a_3 ^^^ xx).toInt8.toInt32)), (.int (2 : Int32)), (.ref cc)]))
  generalize hec_2 : ((a_3 ^^^ xx).toInt8.toInt32) = ec_2
  show GoesW p.tables e below s (Q0 Z p0 p1 p2 p3 h0 n0) room_1.cells room_1.slots (T22.setTop (mkF m 109 #[.val (.int p0), .val (.int p1), .val (.int p2), .val (.int p3), .val (.ref aa), .val (.int xx), .val (.int yy), .val (.ref cc), .unset, .unset, .unset, .unset, .unset, .unset, .unset, .unset, .unset] [(.int ec_2), (.int (2 : Int32)), (.ref cc)]))
  have vv25 := V22
  obtain ⟨cl25, Ar25, aq25, aS25, aN25, aH25, aG25⟩ := vv25
  have hin25 : ¬ ((2 : Int32) < 0 ∨ cl25.slots.size ≤ ((2 : Int32)).toNatClampNeg) := inb_of aS25 ⟨by decide, by decide⟩
  obtain ⟨T26, h26, X26, e26, W26, st26⟩ := stB X22 hx hZ e22 Ar25 (j := (2 : Int32)) hin25 (g := (mkF m 109 #[.val (.int p0), .val (.int p1), .val (.int p2), .val (.int p3), .val (.ref aa), .val (.int xx), .val (.int yy), .val (.ref cc), .unset, .unset, .unset, .unset, .unset, .unset, .unset, .unset, .unset] [(.int ec_2), (.int (2 : Int32)), (.ref cc)])) rfl rfl (hb hby at_109)
  obtain ⟨c_2, hc_2⟩ : ∃ z : Int32, z = nar .byte ec_2 := ⟨_, rfl⟩
  rw [← hc_2] at W26
  have fc_2 : fits .byte (.int c_2) = true := by rw [hc_2]; exact fits_nar_byte _
  have V26 : Arv Z h26 cc k14 .byte (6 : Int32) [(.int c_0), (.int c_1), (.int c_2), (.int (0 : Int32)), (.int (0 : Int32)), (.int (0 : Int32))] (.int (0 : Int32)) := Arv.set Ar25 aq25 aS25 aN25 aH25 aG25 fc_2 W26 2 rfl (Nat.le_of_ble_eq_true rfl)
  have N26 := Fr.snoc X26 N22 g_cc
  have Z26 : n0 ≤ h26.size := Nat.le_trans Z22 (Keep.of_wr W26).1
  refine GoesW.step st26 ?_
  show GoesW p.tables e below s (Q0 Z p0 p1 p2 p3 h0 n0) room_1.cells room_1.slots (T26.setTop (mkF m 110 #[.val (.int p0), .val (.int p1), .val (.int p2), .val (.int p3), .val (.ref aa), .val (.int xx), .val (.int yy), .val (.ref cc), .unset, .unset, .unset, .unset, .unset, .unset, .unset, .unset, .unset] []))
  refine GoesW.step (fun _ k => XS.aload X26.here hx rfl (hb hby at_110) rfl rfl k) ?_
  show GoesW p.tables e below s (Q0 Z p0 p1 p2 p3 h0 n0) room_1.cells room_1.slots (T26.setTop (mkF m 112 #[.val (.int p0), .val (.int p1), .val (.int p2), .val (.int p3), .val (.ref aa), .val (.int xx), .val (.int yy), .val (.ref cc), .unset, .unset, .unset, .unset, .unset, .unset, .unset, .unset, .unset] [(.ref cc)]))
  refine GoesW.step (fun _ k => XS.iconst X26.here hx rfl (hb hby at_112) k) ?_
  show GoesW p.tables e below s (Q0 Z p0 p1 p2 p3 h0 n0) room_1.cells room_1.slots (T26.setTop (mkF m 113 #[.val (.int p0), .val (.int p1), .val (.int p2), .val (.int p3), .val (.ref aa), .val (.int xx), .val (.int yy), .val (.ref cc), .unset, .unset, .unset, .unset, .unset, .unset, .unset, .unset, .unset] [(.int (3 : Int32)), (.ref cc)]))
  refine GoesW.step (fun _ k => XS.aload X26.here hx rfl (hb hby at_113) rfl rfl k) ?_
  show GoesW p.tables e below s (Q0 Z p0 p1 p2 p3 h0 n0) room_1.cells room_1.slots (T26.setTop (mkF m 115 #[.val (.int p0), .val (.int p1), .val (.int p2), .val (.int p3), .val (.ref aa), .val (.int xx), .val (.int yy), .val (.ref cc), .unset, .unset, .unset, .unset, .unset, .unset, .unset, .unset, .unset] [(.ref aa), (.int (3 : Int32)), (.ref cc)]))
  refine GoesW.step (fun _ k => XS.iconst X26.here hx rfl (hb hby at_115) k) ?_
  show GoesW p.tables e below s (Q0 Z p0 p1 p2 p3 h0 n0) room_1.cells room_1.slots (T26.setTop (mkF m 116 #[.val (.int p0), .val (.int p1), .val (.int p2), .val (.int p3), .val (.ref aa), .val (.int xx), .val (.int yy), .val (.ref cc), .unset, .unset, .unset, .unset, .unset, .unset, .unset, .unset, .unset] [(.int (2 : Int32)), (.ref aa), (.int (3 : Int32)), (.ref cc)]))
  have Arv_aa_27 := (Arv_aa_23.other W26 ne_aa_cc)
  have vv28 := Arv_aa_27
  obtain ⟨cl28, Ar28, aq28, aS28, aN28, aH28, aG28⟩ := vv28
  have hin28 : ¬ ((2 : Int32) < 0 ∨ cl28.slots.size ≤ ((2 : Int32)).toNatClampNeg) := inb_of aS28 ⟨by decide, by decide⟩
  refine GoesW.step (fun _ k => X26.baloadBytes hx (j := (2 : Int32)) (v := (.int a_2)) (by rw [e26]; exact Ar28.1) (State.isArrayOf_alike hZ.alike Ar28.2.1) Ar28.2.2 hin28 (Has.at aH28 hin28 rfl) (g := (mkF m 116 #[.val (.int p0), .val (.int p1), .val (.int p2), .val (.int p3), .val (.ref aa), .val (.int xx), .val (.int yy), .val (.ref cc), .unset, .unset, .unset, .unset, .unset, .unset, .unset, .unset, .unset] [(.int (2 : Int32)), (.ref aa), (.int (3 : Int32)), (.ref cc)])) rfl rfl (hb hby at_116) _ k) ?_
  show GoesW p.tables e below s (Q0 Z p0 p1 p2 p3 h0 n0) room_1.cells room_1.slots (T26.setTop (mkF m 117 #[.val (.int p0), .val (.int p1), .val (.int p2), .val (.int p3), .val (.ref aa), .val (.int xx), .val (.int yy), .val (.ref cc), .unset, .unset, .unset, .unset, .unset, .unset, .unset, .unset, .unset] [(.int a_2), (.int (3 : Int32)), (.ref cc)]))
  refine GoesW.step (fun _ k => XS.iload X26.here hx rfl (hb hby at_117) rfl k) ?_
  show GoesW p.tables e below s (Q0 Z p0 p1 p2 p3 h0 n0) room_1.cells room_1.slots (T26.setTop (mkF m 119 #[.val (.int p0), .val (.int p1), .val (.int p2), .val (.int p3), .val (.ref aa), .val (.int xx), .val (.int yy), .val (.ref cc), .unset, .unset, .unset, .unset, .unset, .unset, .unset, .unset, .unset] [(.int yy), (.int a_2), (.int (3 : Int32)), (.ref cc)]))
  refine GoesW.step (fun _ k => XS.ixor X26.here hx rfl (hb hby at_119) rfl k) ?_
  show GoesW p.tables e below s (Q0 Z p0 p1 p2 p3 h0 n0) room_1.cells room_1.slots (T26.setTop (mkF m 120 #[.val (.int p0), .val (.int p1), .val (.int p2), .val (.int p3), .val (.ref aa), .val (.int xx), .val (.int yy), .val (.ref cc), .unset, .unset, .unset, .unset, .unset, .unset, .unset, .unset, .unset] [(.int (a_2 ^^^ yy)), (.int (3 : Int32)), (.ref cc)]))
  refine GoesW.step (fun _ k => XS.i2b X26.here hx rfl (hb hby at_120) rfl k) ?_
  show GoesW p.tables e below s (Q0 Z p0 p1 p2 p3 h0 n0) room_1.cells room_1.slots (T26.setTop (mkF m 121 #[.val (.int p0), .val (.int p1), .val (.int p2), .val (.int p3), .val (.ref aa), .val (.int xx), .val (.int yy), .val (.ref cc), .unset, .unset, .unset, .unset, .unset, .unset, .unset, .unset, .unset] [(.int ((a_2 ^^^ yy).toInt8.toInt32)), (.int (3 : Int32)), (.ref cc)]))
  generalize hec_3 : ((a_2 ^^^ yy).toInt8.toInt32) = ec_3
  show GoesW p.tables e below s (Q0 Z p0 p1 p2 p3 h0 n0) room_1.cells room_1.slots (T26.setTop (mkF m 121 #[.val (.int p0), .val (.int p1), .val (.int p2), .val (.int p3), .val (.ref aa), .val (.int xx), .val (.int yy), .val (.ref cc), .unset, .unset, .unset, .unset, .unset, .unset, .unset, .unset, .unset] [(.int ec_3), (.int (3 : Int32)), (.ref cc)]))
  have vv29 := V26
  obtain ⟨cl29, Ar29, aq29, aS29, aN29, aH29, aG29⟩ := vv29
  have hin29 : ¬ ((3 : Int32) < 0 ∨ cl29.slots.size ≤ ((3 : Int32)).toNatClampNeg) := inb_of aS29 ⟨by decide, by decide⟩
  obtain ⟨T30, h30, X30, e30, W30, st30⟩ := stB X26 hx hZ e26 Ar29 (j := (3 : Int32)) hin29 (g := (mkF m 121 #[.val (.int p0), .val (.int p1), .val (.int p2), .val (.int p3), .val (.ref aa), .val (.int xx), .val (.int yy), .val (.ref cc), .unset, .unset, .unset, .unset, .unset, .unset, .unset, .unset, .unset] [(.int ec_3), (.int (3 : Int32)), (.ref cc)])) rfl rfl (hb hby at_121)
  obtain ⟨c_3, hc_3⟩ : ∃ z : Int32, z = nar .byte ec_3 := ⟨_, rfl⟩
  rw [← hc_3] at W30
  have fc_3 : fits .byte (.int c_3) = true := by rw [hc_3]; exact fits_nar_byte _
  have V30 : Arv Z h30 cc k14 .byte (6 : Int32) [(.int c_0), (.int c_1), (.int c_2), (.int c_3), (.int (0 : Int32)), (.int (0 : Int32))] (.int (0 : Int32)) := Arv.set Ar29 aq29 aS29 aN29 aH29 aG29 fc_3 W30 3 rfl (Nat.le_of_ble_eq_true rfl)
  have N30 := Fr.snoc X30 N26 g_cc
  have Z30 : n0 ≤ h30.size := Nat.le_trans Z26 (Keep.of_wr W30).1
  refine GoesW.step st30 ?_
  show GoesW p.tables e below s (Q0 Z p0 p1 p2 p3 h0 n0) room_1.cells room_1.slots (T30.setTop (mkF m 122 #[.val (.int p0), .val (.int p1), .val (.int p2), .val (.int p3), .val (.ref aa), .val (.int xx), .val (.int yy), .val (.ref cc), .unset, .unset, .unset, .unset, .unset, .unset, .unset, .unset, .unset] []))
  refine GoesW.step (fun _ k => XS.aload X30.here hx rfl (hb hby at_122) rfl rfl k) ?_
  show GoesW p.tables e below s (Q0 Z p0 p1 p2 p3 h0 n0) room_1.cells room_1.slots (T30.setTop (mkF m 124 #[.val (.int p0), .val (.int p1), .val (.int p2), .val (.int p3), .val (.ref aa), .val (.int xx), .val (.int yy), .val (.ref cc), .unset, .unset, .unset, .unset, .unset, .unset, .unset, .unset, .unset] [(.ref cc)]))
  refine GoesW.step (fun _ k => XS.iconst X30.here hx rfl (hb hby at_124) k) ?_
  show GoesW p.tables e below s (Q0 Z p0 p1 p2 p3 h0 n0) room_1.cells room_1.slots (T30.setTop (mkF m 125 #[.val (.int p0), .val (.int p1), .val (.int p2), .val (.int p3), .val (.ref aa), .val (.int xx), .val (.int yy), .val (.ref cc), .unset, .unset, .unset, .unset, .unset, .unset, .unset, .unset, .unset] [(.int (4 : Int32)), (.ref cc)]))
  refine GoesW.step (fun _ k => XS.aload X30.here hx rfl (hb hby at_125) rfl rfl k) ?_
  show GoesW p.tables e below s (Q0 Z p0 p1 p2 p3 h0 n0) room_1.cells room_1.slots (T30.setTop (mkF m 127 #[.val (.int p0), .val (.int p1), .val (.int p2), .val (.int p3), .val (.ref aa), .val (.int xx), .val (.int yy), .val (.ref cc), .unset, .unset, .unset, .unset, .unset, .unset, .unset, .unset, .unset] [(.ref aa), (.int (4 : Int32)), (.ref cc)]))
  refine GoesW.step (fun _ k => XS.iconst X30.here hx rfl (hb hby at_127) k) ?_
  show GoesW p.tables e below s (Q0 Z p0 p1 p2 p3 h0 n0) room_1.cells room_1.slots (T30.setTop (mkF m 128 #[.val (.int p0), .val (.int p1), .val (.int p2), .val (.int p3), .val (.ref aa), .val (.int xx), .val (.int yy), .val (.ref cc), .unset, .unset, .unset, .unset, .unset, .unset, .unset, .unset, .unset] [(.int (1 : Int32)), (.ref aa), (.int (4 : Int32)), (.ref cc)]))
  have Arv_aa_31 := (Arv_aa_27.other W30 ne_aa_cc)
  have vv32 := Arv_aa_31
  obtain ⟨cl32, Ar32, aq32, aS32, aN32, aH32, aG32⟩ := vv32
  have hin32 : ¬ ((1 : Int32) < 0 ∨ cl32.slots.size ≤ ((1 : Int32)).toNatClampNeg) := inb_of aS32 ⟨by decide, by decide⟩
  refine GoesW.step (fun _ k => X30.baloadBytes hx (j := (1 : Int32)) (v := (.int a_1)) (by rw [e30]; exact Ar32.1) (State.isArrayOf_alike hZ.alike Ar32.2.1) Ar32.2.2 hin32 (Has.at aH32 hin32 rfl) (g := (mkF m 128 #[.val (.int p0), .val (.int p1), .val (.int p2), .val (.int p3), .val (.ref aa), .val (.int xx), .val (.int yy), .val (.ref cc), .unset, .unset, .unset, .unset, .unset, .unset, .unset, .unset, .unset] [(.int (1 : Int32)), (.ref aa), (.int (4 : Int32)), (.ref cc)])) rfl rfl (hb hby at_128) _ k) ?_
  show GoesW p.tables e below s (Q0 Z p0 p1 p2 p3 h0 n0) room_1.cells room_1.slots (T30.setTop (mkF m 129 #[.val (.int p0), .val (.int p1), .val (.int p2), .val (.int p3), .val (.ref aa), .val (.int xx), .val (.int yy), .val (.ref cc), .unset, .unset, .unset, .unset, .unset, .unset, .unset, .unset, .unset] [(.int a_1), (.int (4 : Int32)), (.ref cc)]))
  refine GoesW.step (fun _ k => XS.iload X30.here hx rfl (hb hby at_129) rfl k) ?_
  show GoesW p.tables e below s (Q0 Z p0 p1 p2 p3 h0 n0) room_1.cells room_1.slots (T30.setTop (mkF m 131 #[.val (.int p0), .val (.int p1), .val (.int p2), .val (.int p3), .val (.ref aa), .val (.int xx), .val (.int yy), .val (.ref cc), .unset, .unset, .unset, .unset, .unset, .unset, .unset, .unset, .unset] [(.int yy), (.int a_1), (.int (4 : Int32)), (.ref cc)]))
  refine GoesW.step (fun _ k => XS.ixor X30.here hx rfl (hb hby at_131) rfl k) ?_
  show GoesW p.tables e below s (Q0 Z p0 p1 p2 p3 h0 n0) room_1.cells room_1.slots (T30.setTop (mkF m 132 #[.val (.int p0), .val (.int p1), .val (.int p2), .val (.int p3), .val (.ref aa), .val (.int xx), .val (.int yy), .val (.ref cc), .unset, .unset, .unset, .unset, .unset, .unset, .unset, .unset, .unset] [(.int (a_1 ^^^ yy)), (.int (4 : Int32)), (.ref cc)]))
  refine GoesW.step (fun _ k => XS.i2b X30.here hx rfl (hb hby at_132) rfl k) ?_
  show GoesW p.tables e below s (Q0 Z p0 p1 p2 p3 h0 n0) room_1.cells room_1.slots (T30.setTop (mkF m 133 #[.val (.int p0), .val (.int p1), .val (.int p2), .val (.int p3), .val (.ref aa), .val (.int xx), .val (.int yy), .val (.ref cc), .unset, .unset, .unset, .unset, .unset, .unset, .unset, .unset, .unset] [(.int ((a_1 ^^^ yy).toInt8.toInt32)), (.int (4 : Int32)), (.ref cc)]))
  generalize hec_4 : ((a_1 ^^^ yy).toInt8.toInt32) = ec_4
  show GoesW p.tables e below s (Q0 Z p0 p1 p2 p3 h0 n0) room_1.cells room_1.slots (T30.setTop (mkF m 133 #[.val (.int p0), .val (.int p1), .val (.int p2), .val (.int p3), .val (.ref aa), .val (.int xx), .val (.int yy), .val (.ref cc), .unset, .unset, .unset, .unset, .unset, .unset, .unset, .unset, .unset] [(.int ec_4), (.int (4 : Int32)), (.ref cc)]))
  have vv33 := V30
  obtain ⟨cl33, Ar33, aq33, aS33, aN33, aH33, aG33⟩ := vv33
  have hin33 : ¬ ((4 : Int32) < 0 ∨ cl33.slots.size ≤ ((4 : Int32)).toNatClampNeg) := inb_of aS33 ⟨by decide, by decide⟩
  obtain ⟨T34, h34, X34, e34, W34, st34⟩ := stB X30 hx hZ e30 Ar33 (j := (4 : Int32)) hin33 (g := (mkF m 133 #[.val (.int p0), .val (.int p1), .val (.int p2), .val (.int p3), .val (.ref aa), .val (.int xx), .val (.int yy), .val (.ref cc), .unset, .unset, .unset, .unset, .unset, .unset, .unset, .unset, .unset] [(.int ec_4), (.int (4 : Int32)), (.ref cc)])) rfl rfl (hb hby at_133)
  obtain ⟨c_4, hc_4⟩ : ∃ z : Int32, z = nar .byte ec_4 := ⟨_, rfl⟩
  rw [← hc_4] at W34
  have fc_4 : fits .byte (.int c_4) = true := by rw [hc_4]; exact fits_nar_byte _
  have V34 : Arv Z h34 cc k14 .byte (6 : Int32) [(.int c_0), (.int c_1), (.int c_2), (.int c_3), (.int c_4), (.int (0 : Int32))] (.int (0 : Int32)) := Arv.set Ar33 aq33 aS33 aN33 aH33 aG33 fc_4 W34 4 rfl (Nat.le_of_ble_eq_true rfl)
  have N34 := Fr.snoc X34 N30 g_cc
  have Z34 : n0 ≤ h34.size := Nat.le_trans Z30 (Keep.of_wr W34).1
  refine GoesW.step st34 ?_
  show GoesW p.tables e below s (Q0 Z p0 p1 p2 p3 h0 n0) room_1.cells room_1.slots (T34.setTop (mkF m 134 #[.val (.int p0), .val (.int p1), .val (.int p2), .val (.int p3), .val (.ref aa), .val (.int xx), .val (.int yy), .val (.ref cc), .unset, .unset, .unset, .unset, .unset, .unset, .unset, .unset, .unset] []))
  refine GoesW.step (fun _ k => XS.aload X34.here hx rfl (hb hby at_134) rfl rfl k) ?_
  show GoesW p.tables e below s (Q0 Z p0 p1 p2 p3 h0 n0) room_1.cells room_1.slots (T34.setTop (mkF m 136 #[.val (.int p0), .val (.int p1), .val (.int p2), .val (.int p3), .val (.ref aa), .val (.int xx), .val (.int yy), .val (.ref cc), .unset, .unset, .unset, .unset, .unset, .unset, .unset, .unset, .unset] [(.ref cc)]))
  refine GoesW.step (fun _ k => XS.iconst X34.here hx rfl (hb hby at_136) k) ?_
  show GoesW p.tables e below s (Q0 Z p0 p1 p2 p3 h0 n0) room_1.cells room_1.slots (T34.setTop (mkF m 137 #[.val (.int p0), .val (.int p1), .val (.int p2), .val (.int p3), .val (.ref aa), .val (.int xx), .val (.int yy), .val (.ref cc), .unset, .unset, .unset, .unset, .unset, .unset, .unset, .unset, .unset] [(.int (5 : Int32)), (.ref cc)]))
  refine GoesW.step (fun _ k => XS.aload X34.here hx rfl (hb hby at_137) rfl rfl k) ?_
  show GoesW p.tables e below s (Q0 Z p0 p1 p2 p3 h0 n0) room_1.cells room_1.slots (T34.setTop (mkF m 139 #[.val (.int p0), .val (.int p1), .val (.int p2), .val (.int p3), .val (.ref aa), .val (.int xx), .val (.int yy), .val (.ref cc), .unset, .unset, .unset, .unset, .unset, .unset, .unset, .unset, .unset] [(.ref aa), (.int (5 : Int32)), (.ref cc)]))
  refine GoesW.step (fun _ k => XS.iconst X34.here hx rfl (hb hby at_139) k) ?_
  show GoesW p.tables e below s (Q0 Z p0 p1 p2 p3 h0 n0) room_1.cells room_1.slots (T34.setTop (mkF m 140 #[.val (.int p0), .val (.int p1), .val (.int p2), .val (.int p3), .val (.ref aa), .val (.int xx), .val (.int yy), .val (.ref cc), .unset, .unset, .unset, .unset, .unset, .unset, .unset, .unset, .unset] [(.int (0 : Int32)), (.ref aa), (.int (5 : Int32)), (.ref cc)]))
  have Arv_aa_35 := (Arv_aa_31.other W34 ne_aa_cc)
  have vv36 := Arv_aa_35
  obtain ⟨cl36, Ar36, aq36, aS36, aN36, aH36, aG36⟩ := vv36
  have hin36 : ¬ ((0 : Int32) < 0 ∨ cl36.slots.size ≤ ((0 : Int32)).toNatClampNeg) := inb_of aS36 ⟨by decide, by decide⟩
  refine GoesW.step (fun _ k => X34.baloadBytes hx (j := (0 : Int32)) (v := (.int a_0)) (by rw [e34]; exact Ar36.1) (State.isArrayOf_alike hZ.alike Ar36.2.1) Ar36.2.2 hin36 (Has.at aH36 hin36 rfl) (g := (mkF m 140 #[.val (.int p0), .val (.int p1), .val (.int p2), .val (.int p3), .val (.ref aa), .val (.int xx), .val (.int yy), .val (.ref cc), .unset, .unset, .unset, .unset, .unset, .unset, .unset, .unset, .unset] [(.int (0 : Int32)), (.ref aa), (.int (5 : Int32)), (.ref cc)])) rfl rfl (hb hby at_140) _ k) ?_
  show GoesW p.tables e below s (Q0 Z p0 p1 p2 p3 h0 n0) room_1.cells room_1.slots (T34.setTop (mkF m 141 #[.val (.int p0), .val (.int p1), .val (.int p2), .val (.int p3), .val (.ref aa), .val (.int xx), .val (.int yy), .val (.ref cc), .unset, .unset, .unset, .unset, .unset, .unset, .unset, .unset, .unset] [(.int a_0), (.int (5 : Int32)), (.ref cc)]))
  refine GoesW.step (fun _ k => XS.iload X34.here hx rfl (hb hby at_141) rfl k) ?_
  show GoesW p.tables e below s (Q0 Z p0 p1 p2 p3 h0 n0) room_1.cells room_1.slots (T34.setTop (mkF m 143 #[.val (.int p0), .val (.int p1), .val (.int p2), .val (.int p3), .val (.ref aa), .val (.int xx), .val (.int yy), .val (.ref cc), .unset, .unset, .unset, .unset, .unset, .unset, .unset, .unset, .unset] [(.int yy), (.int a_0), (.int (5 : Int32)), (.ref cc)]))
  refine GoesW.step (fun _ k => XS.ixor X34.here hx rfl (hb hby at_143) rfl k) ?_
  show GoesW p.tables e below s (Q0 Z p0 p1 p2 p3 h0 n0) room_1.cells room_1.slots (T34.setTop (mkF m 144 #[.val (.int p0), .val (.int p1), .val (.int p2), .val (.int p3), .val (.ref aa), .val (.int xx), .val (.int yy), .val (.ref cc), .unset, .unset, .unset, .unset, .unset, .unset, .unset, .unset, .unset] [(.int (a_0 ^^^ yy)), (.int (5 : Int32)), (.ref cc)]))
  refine GoesW.step (fun _ k => XS.i2b X34.here hx rfl (hb hby at_144) rfl k) ?_
  show GoesW p.tables e below s (Q0 Z p0 p1 p2 p3 h0 n0) room_1.cells room_1.slots (T34.setTop (mkF m 145 #[.val (.int p0), .val (.int p1), .val (.int p2), .val (.int p3), .val (.ref aa), .val (.int xx), .val (.int yy), .val (.ref cc), .unset, .unset, .unset, .unset, .unset, .unset, .unset, .unset, .unset] [(.int ((a_0 ^^^ yy).toInt8.toInt32)), (.int (5 : Int32)), (.ref cc)]))
  generalize hec_5 : ((a_0 ^^^ yy).toInt8.toInt32) = ec_5
  show GoesW p.tables e below s (Q0 Z p0 p1 p2 p3 h0 n0) room_1.cells room_1.slots (T34.setTop (mkF m 145 #[.val (.int p0), .val (.int p1), .val (.int p2), .val (.int p3), .val (.ref aa), .val (.int xx), .val (.int yy), .val (.ref cc), .unset, .unset, .unset, .unset, .unset, .unset, .unset, .unset, .unset] [(.int ec_5), (.int (5 : Int32)), (.ref cc)]))
  have vv37 := V34
  obtain ⟨cl37, Ar37, aq37, aS37, aN37, aH37, aG37⟩ := vv37
  have hin37 : ¬ ((5 : Int32) < 0 ∨ cl37.slots.size ≤ ((5 : Int32)).toNatClampNeg) := inb_of aS37 ⟨by decide, by decide⟩
  obtain ⟨T38, h38, X38, e38, W38, st38⟩ := stB X34 hx hZ e34 Ar37 (j := (5 : Int32)) hin37 (g := (mkF m 145 #[.val (.int p0), .val (.int p1), .val (.int p2), .val (.int p3), .val (.ref aa), .val (.int xx), .val (.int yy), .val (.ref cc), .unset, .unset, .unset, .unset, .unset, .unset, .unset, .unset, .unset] [(.int ec_5), (.int (5 : Int32)), (.ref cc)])) rfl rfl (hb hby at_145)
  obtain ⟨c_5, hc_5⟩ : ∃ z : Int32, z = nar .byte ec_5 := ⟨_, rfl⟩
  rw [← hc_5] at W38
  have fc_5 : fits .byte (.int c_5) = true := by rw [hc_5]; exact fits_nar_byte _
  have V38 : Arv Z h38 cc k14 .byte (6 : Int32) [(.int c_0), (.int c_1), (.int c_2), (.int c_3), (.int c_4), (.int c_5)] (.int (0 : Int32)) := Arv.set Ar37 aq37 aS37 aN37 aH37 aG37 fc_5 W38 5 rfl (Nat.le_of_ble_eq_true rfl)
  have N38 := Fr.snoc X38 N34 g_cc
  have Z38 : n0 ≤ h38.size := Nat.le_trans Z34 (Keep.of_wr W38).1
  refine GoesW.step st38 ?_
  show GoesW p.tables e below s (Q0 Z p0 p1 p2 p3 h0 n0) room_1.cells room_1.slots (T38.setTop (mkF m 146 #[.val (.int p0), .val (.int p1), .val (.int p2), .val (.int p3), .val (.ref aa), .val (.int xx), .val (.int yy), .val (.ref cc), .unset, .unset, .unset, .unset, .unset, .unset, .unset, .unset, .unset] []))
  refine GoesW.step (fun _ k => XS.iloadN X38.here hx rfl (hb hby at_146) rfl k) ?_
  show GoesW p.tables e below s (Q0 Z p0 p1 p2 p3 h0 n0) room_1.cells room_1.slots (T38.setTop (mkF m 147 #[.val (.int p0), .val (.int p1), .val (.int p2), .val (.int p3), .val (.ref aa), .val (.int xx), .val (.int yy), .val (.ref cc), .unset, .unset, .unset, .unset, .unset, .unset, .unset, .unset, .unset] [(.int p2)]))
  refine GoesW.step (fun _ k => XS.sipush X38.here hx rfl (hb hby at_147) k) ?_
  show GoesW p.tables e below s (Q0 Z p0 p1 p2 p3 h0 n0) room_1.cells room_1.slots (T38.setTop (mkF m 150 #[.val (.int p0), .val (.int p1), .val (.int p2), .val (.int p3), .val (.ref aa), .val (.int xx), .val (.int yy), .val (.ref cc), .unset, .unset, .unset, .unset, .unset, .unset, .unset, .unset, .unset] [(.int (255 : Int32)), (.int p2)]))
  refine GoesW.step (fun _ k => XS.iand X38.here hx rfl (hb hby at_150) rfl k) ?_
  show GoesW p.tables e below s (Q0 Z p0 p1 p2 p3 h0 n0) room_1.cells room_1.slots (T38.setTop (mkF m 151 #[.val (.int p0), .val (.int p1), .val (.int p2), .val (.int p3), .val (.ref aa), .val (.int xx), .val (.int yy), .val (.ref cc), .unset, .unset, .unset, .unset, .unset, .unset, .unset, .unset, .unset] [(.int (p2 &&& (255 : Int32)))]))
  refine GoesW.step (fun _ k => XS.bipush X38.here hx rfl (hb hby at_151) k) ?_
  show GoesW p.tables e below s (Q0 Z p0 p1 p2 p3 h0 n0) room_1.cells room_1.slots (T38.setTop (mkF m 153 #[.val (.int p0), .val (.int p1), .val (.int p2), .val (.int p3), .val (.ref aa), .val (.int xx), .val (.int yy), .val (.ref cc), .unset, .unset, .unset, .unset, .unset, .unset, .unset, .unset, .unset] [(.int (7 : Int32)), (.int (p2 &&& (255 : Int32)))]))
  refine GoesW.step (fun _ k => iremM X38 hx rfl (hb hby at_153) rfl (by decide) k) ?_
  show GoesW p.tables e below s (Q0 Z p0 p1 p2 p3 h0 n0) room_1.cells room_1.slots (T38.setTop (mkF m 154 #[.val (.int p0), .val (.int p1), .val (.int p2), .val (.int p3), .val (.ref aa), .val (.int xx), .val (.int yy), .val (.ref cc), .unset, .unset, .unset, .unset, .unset, .unset, .unset, .unset, .unset] [(.int ((p2 &&& (255 : Int32)) % (7 : Int32)))]))
  generalize hf1 : ((p2 &&& (255 : Int32)) % (7 : Int32)) = f1
  show GoesW p.tables e below s (Q0 Z p0 p1 p2 p3 h0 n0) room_1.cells room_1.slots (T38.setTop (mkF m 154 #[.val (.int p0), .val (.int p1), .val (.int p2), .val (.int p3), .val (.ref aa), .val (.int xx), .val (.int yy), .val (.ref cc), .unset, .unset, .unset, .unset, .unset, .unset, .unset, .unset, .unset] [(.int f1)]))
  refine GoesW.step (fun _ k => XS.istore X38.here hx rfl (hb hby at_154) rfl (l' := #[.val (.int p0), .val (.int p1), .val (.int p2), .val (.int p3), .val (.ref aa), .val (.int xx), .val (.int yy), .val (.ref cc), .val (.int f1), .unset, .unset, .unset, .unset, .unset, .unset, .unset, .unset]) rfl k) ?_
  show GoesW p.tables e below s (Q0 Z p0 p1 p2 p3 h0 n0) room_1.cells room_1.slots (T38.setTop (mkF m 156 #[.val (.int p0), .val (.int p1), .val (.int p2), .val (.int p3), .val (.ref aa), .val (.int xx), .val (.int yy), .val (.ref cc), .val (.int f1), .unset, .unset, .unset, .unset, .unset, .unset, .unset, .unset] []))
  have f1B : 0 ≤ f1.toInt ∧ f1.toInt < 7 := by rw [← hf1]; exact own_f7 p2
  refine GoesW.step (fun _ k => XS.iload X38.here hx rfl (hb hby at_156) rfl k) ?_
  show GoesW p.tables e below s (Q0 Z p0 p1 p2 p3 h0 n0) room_1.cells room_1.slots (T38.setTop (mkF m 158 #[.val (.int p0), .val (.int p1), .val (.int p2), .val (.int p3), .val (.ref aa), .val (.int xx), .val (.int yy), .val (.ref cc), .val (.int f1), .unset, .unset, .unset, .unset, .unset, .unset, .unset, .unset] [(.int f1)]))
  refine GoesW.step (fun _ k => XS.iloadN X38.here hx rfl (hb hby at_158) rfl k) ?_
  show GoesW p.tables e below s (Q0 Z p0 p1 p2 p3 h0 n0) room_1.cells room_1.slots (T38.setTop (mkF m 159 #[.val (.int p0), .val (.int p1), .val (.int p2), .val (.int p3), .val (.ref aa), .val (.int xx), .val (.int yy), .val (.ref cc), .val (.int f1), .unset, .unset, .unset, .unset, .unset, .unset, .unset, .unset] [(.int p2), (.int f1)]))
  refine GoesW.step (fun _ k => XS.bipush X38.here hx rfl (hb hby at_159) k) ?_
  show GoesW p.tables e below s (Q0 Z p0 p1 p2 p3 h0 n0) room_1.cells room_1.slots (T38.setTop (mkF m 161 #[.val (.int p0), .val (.int p1), .val (.int p2), .val (.int p3), .val (.ref aa), .val (.int xx), .val (.int yy), .val (.ref cc), .val (.int f1), .unset, .unset, .unset, .unset, .unset, .unset, .unset, .unset] [(.int (8 : Int32)), (.int p2), (.int f1)]))
  refine GoesW.step (fun _ k => XS.iushr X38.here hx rfl (hb hby at_161) rfl k) ?_
  show GoesW p.tables e below s (Q0 Z p0 p1 p2 p3 h0 n0) room_1.cells room_1.slots (T38.setTop (mkF m 162 #[.val (.int p0), .val (.int p1), .val (.int p2), .val (.int p3), .val (.ref aa), .val (.int xx), .val (.int yy), .val (.ref cc), .val (.int f1), .unset, .unset, .unset, .unset, .unset, .unset, .unset, .unset] [(.int ((p2.toUInt32 >>> ((8 : Int32) &&& 31).toUInt32).toInt32)), (.int f1)]))
  refine GoesW.step (fun _ k => XS.sipush X38.here hx rfl (hb hby at_162) k) ?_
  show GoesW p.tables e below s (Q0 Z p0 p1 p2 p3 h0 n0) room_1.cells room_1.slots (T38.setTop (mkF m 165 #[.val (.int p0), .val (.int p1), .val (.int p2), .val (.int p3), .val (.ref aa), .val (.int xx), .val (.int yy), .val (.ref cc), .val (.int f1), .unset, .unset, .unset, .unset, .unset, .unset, .unset, .unset] [(.int (255 : Int32)), (.int ((p2.toUInt32 >>> ((8 : Int32) &&& 31).toUInt32).toInt32)), (.int f1)]))
  refine GoesW.step (fun _ k => XS.iand X38.here hx rfl (hb hby at_165) rfl k) ?_
  show GoesW p.tables e below s (Q0 Z p0 p1 p2 p3 h0 n0) room_1.cells room_1.slots (T38.setTop (mkF m 166 #[.val (.int p0), .val (.int p1), .val (.int p2), .val (.int p3), .val (.ref aa), .val (.int xx), .val (.int yy), .val (.ref cc), .val (.int f1), .unset, .unset, .unset, .unset, .unset, .unset, .unset, .unset] [(.int (((p2.toUInt32 >>> ((8 : Int32) &&& 31).toUInt32).toInt32) &&& (255 : Int32))), (.int f1)]))
  refine GoesW.step (fun _ k => XS.bipush X38.here hx rfl (hb hby at_166) k) ?_
  show GoesW p.tables e below s (Q0 Z p0 p1 p2 p3 h0 n0) room_1.cells room_1.slots (T38.setTop (mkF m 168 #[.val (.int p0), .val (.int p1), .val (.int p2), .val (.int p3), .val (.ref aa), .val (.int xx), .val (.int yy), .val (.ref cc), .val (.int f1), .unset, .unset, .unset, .unset, .unset, .unset, .unset, .unset] [(.int (7 : Int32)), (.int (((p2.toUInt32 >>> ((8 : Int32) &&& 31).toUInt32).toInt32) &&& (255 : Int32))), (.int f1)]))
  refine GoesW.step (fun _ k => XS.iload X38.here hx rfl (hb hby at_168) rfl k) ?_
  show GoesW p.tables e below s (Q0 Z p0 p1 p2 p3 h0 n0) room_1.cells room_1.slots (T38.setTop (mkF m 170 #[.val (.int p0), .val (.int p1), .val (.int p2), .val (.int p3), .val (.ref aa), .val (.int xx), .val (.int yy), .val (.ref cc), .val (.int f1), .unset, .unset, .unset, .unset, .unset, .unset, .unset, .unset] [(.int f1), (.int (7 : Int32)), (.int (((p2.toUInt32 >>> ((8 : Int32) &&& 31).toUInt32).toInt32) &&& (255 : Int32))), (.int f1)]))
  refine GoesW.step (fun _ k => XS.isub X38.here hx rfl (hb hby at_170) rfl k) ?_
  show GoesW p.tables e below s (Q0 Z p0 p1 p2 p3 h0 n0) room_1.cells room_1.slots (T38.setTop (mkF m 171 #[.val (.int p0), .val (.int p1), .val (.int p2), .val (.int p3), .val (.ref aa), .val (.int xx), .val (.int yy), .val (.ref cc), .val (.int f1), .unset, .unset, .unset, .unset, .unset, .unset, .unset, .unset] [(.int ((7 : Int32) - f1)), (.int (((p2.toUInt32 >>> ((8 : Int32) &&& 31).toUInt32).toInt32) &&& (255 : Int32))), (.int f1)]))
  generalize hdt1 : (((p2.toUInt32 >>> ((8 : Int32) &&& 31).toUInt32).toInt32) &&& (255 : Int32)) = dt1
  show GoesW p.tables e below s (Q0 Z p0 p1 p2 p3 h0 n0) room_1.cells room_1.slots (T38.setTop (mkF m 171 #[.val (.int p0), .val (.int p1), .val (.int p2), .val (.int p3), .val (.ref aa), .val (.int xx), .val (.int yy), .val (.ref cc), .val (.int f1), .unset, .unset, .unset, .unset, .unset, .unset, .unset, .unset] [(.int ((7 : Int32) - f1)), (.int dt1), (.int f1)]))
  have mt1 := own_m7 dt1 f1 f1B (by rw [← hdt1]; exact own_m8 _)
  refine GoesW.step (fun _ k => iremM X38 hx rfl (hb hby at_171) rfl mt1.1 k) ?_
  show GoesW p.tables e below s (Q0 Z p0 p1 p2 p3 h0 n0) room_1.cells room_1.slots (T38.setTop (mkF m 172 #[.val (.int p0), .val (.int p1), .val (.int p2), .val (.int p3), .val (.ref aa), .val (.int xx), .val (.int yy), .val (.ref cc), .val (.int f1), .unset, .unset, .unset, .unset, .unset, .unset, .unset, .unset] [(.int (dt1 % ((7 : Int32) - f1))), (.int f1)]))
  refine GoesW.step (fun _ k => XS.iadd X38.here hx rfl (hb hby at_172) rfl k) ?_
  show GoesW p.tables e below s (Q0 Z p0 p1 p2 p3 h0 n0) room_1.cells room_1.slots (T38.setTop (mkF m 173 #[.val (.int p0), .val (.int p1), .val (.int p2), .val (.int p3), .val (.ref aa), .val (.int xx), .val (.int yy), .val (.ref cc), .val (.int f1), .unset, .unset, .unset, .unset, .unset, .unset, .unset, .unset] [(.int (f1 + (dt1 % ((7 : Int32) - f1))))]))
  generalize ht1 : (f1 + (dt1 % ((7 : Int32) - f1))) = t1
  show GoesW p.tables e below s (Q0 Z p0 p1 p2 p3 h0 n0) room_1.cells room_1.slots (T38.setTop (mkF m 173 #[.val (.int p0), .val (.int p1), .val (.int p2), .val (.int p3), .val (.ref aa), .val (.int xx), .val (.int yy), .val (.ref cc), .val (.int f1), .unset, .unset, .unset, .unset, .unset, .unset, .unset, .unset] [(.int t1)]))
  rw [ht1] at mt1
  refine GoesW.step (fun _ k => XS.istore X38.here hx rfl (hb hby at_173) rfl (l' := #[.val (.int p0), .val (.int p1), .val (.int p2), .val (.int p3), .val (.ref aa), .val (.int xx), .val (.int yy), .val (.ref cc), .val (.int f1), .val (.int t1), .unset, .unset, .unset, .unset, .unset, .unset, .unset]) rfl k) ?_
  show GoesW p.tables e below s (Q0 Z p0 p1 p2 p3 h0 n0) room_1.cells room_1.slots (T38.setTop (mkF m 175 #[.val (.int p0), .val (.int p1), .val (.int p2), .val (.int p3), .val (.ref aa), .val (.int xx), .val (.int yy), .val (.ref cc), .val (.int f1), .val (.int t1), .unset, .unset, .unset, .unset, .unset, .unset, .unset] []))
  refine GoesW.step (fun _ k => XS.iloadN X38.here hx rfl (hb hby at_175) rfl k) ?_
  show GoesW p.tables e below s (Q0 Z p0 p1 p2 p3 h0 n0) room_1.cells room_1.slots (T38.setTop (mkF m 176 #[.val (.int p0), .val (.int p1), .val (.int p2), .val (.int p3), .val (.ref aa), .val (.int xx), .val (.int yy), .val (.ref cc), .val (.int f1), .val (.int t1), .unset, .unset, .unset, .unset, .unset, .unset, .unset] [(.int p3)]))
  refine GoesW.step (fun _ k => XS.sipush X38.here hx rfl (hb hby at_176) k) ?_
  show GoesW p.tables e below s (Q0 Z p0 p1 p2 p3 h0 n0) room_1.cells room_1.slots (T38.setTop (mkF m 179 #[.val (.int p0), .val (.int p1), .val (.int p2), .val (.int p3), .val (.ref aa), .val (.int xx), .val (.int yy), .val (.ref cc), .val (.int f1), .val (.int t1), .unset, .unset, .unset, .unset, .unset, .unset, .unset] [(.int (255 : Int32)), (.int p3)]))
  refine GoesW.step (fun _ k => XS.iand X38.here hx rfl (hb hby at_179) rfl k) ?_
  show GoesW p.tables e below s (Q0 Z p0 p1 p2 p3 h0 n0) room_1.cells room_1.slots (T38.setTop (mkF m 180 #[.val (.int p0), .val (.int p1), .val (.int p2), .val (.int p3), .val (.ref aa), .val (.int xx), .val (.int yy), .val (.ref cc), .val (.int f1), .val (.int t1), .unset, .unset, .unset, .unset, .unset, .unset, .unset] [(.int (p3 &&& (255 : Int32)))]))
  refine GoesW.step (fun _ k => XS.bipush X38.here hx rfl (hb hby at_180) k) ?_
  show GoesW p.tables e below s (Q0 Z p0 p1 p2 p3 h0 n0) room_1.cells room_1.slots (T38.setTop (mkF m 182 #[.val (.int p0), .val (.int p1), .val (.int p2), .val (.int p3), .val (.ref aa), .val (.int xx), .val (.int yy), .val (.ref cc), .val (.int f1), .val (.int t1), .unset, .unset, .unset, .unset, .unset, .unset, .unset] [(.int (7 : Int32)), (.int (p3 &&& (255 : Int32)))]))
  refine GoesW.step (fun _ k => iremM X38 hx rfl (hb hby at_182) rfl (by decide) k) ?_
  show GoesW p.tables e below s (Q0 Z p0 p1 p2 p3 h0 n0) room_1.cells room_1.slots (T38.setTop (mkF m 183 #[.val (.int p0), .val (.int p1), .val (.int p2), .val (.int p3), .val (.ref aa), .val (.int xx), .val (.int yy), .val (.ref cc), .val (.int f1), .val (.int t1), .unset, .unset, .unset, .unset, .unset, .unset, .unset] [(.int ((p3 &&& (255 : Int32)) % (7 : Int32)))]))
  generalize hf2 : ((p3 &&& (255 : Int32)) % (7 : Int32)) = f2
  show GoesW p.tables e below s (Q0 Z p0 p1 p2 p3 h0 n0) room_1.cells room_1.slots (T38.setTop (mkF m 183 #[.val (.int p0), .val (.int p1), .val (.int p2), .val (.int p3), .val (.ref aa), .val (.int xx), .val (.int yy), .val (.ref cc), .val (.int f1), .val (.int t1), .unset, .unset, .unset, .unset, .unset, .unset, .unset] [(.int f2)]))
  refine GoesW.step (fun _ k => XS.istore X38.here hx rfl (hb hby at_183) rfl (l' := #[.val (.int p0), .val (.int p1), .val (.int p2), .val (.int p3), .val (.ref aa), .val (.int xx), .val (.int yy), .val (.ref cc), .val (.int f1), .val (.int t1), .val (.int f2), .unset, .unset, .unset, .unset, .unset, .unset]) rfl k) ?_
  show GoesW p.tables e below s (Q0 Z p0 p1 p2 p3 h0 n0) room_1.cells room_1.slots (T38.setTop (mkF m 185 #[.val (.int p0), .val (.int p1), .val (.int p2), .val (.int p3), .val (.ref aa), .val (.int xx), .val (.int yy), .val (.ref cc), .val (.int f1), .val (.int t1), .val (.int f2), .unset, .unset, .unset, .unset, .unset, .unset] []))
  have f2B : 0 ≤ f2.toInt ∧ f2.toInt < 7 := by rw [← hf2]; exact own_f7 p3
  refine GoesW.step (fun _ k => XS.iload X38.here hx rfl (hb hby at_185) rfl k) ?_
  show GoesW p.tables e below s (Q0 Z p0 p1 p2 p3 h0 n0) room_1.cells room_1.slots (T38.setTop (mkF m 187 #[.val (.int p0), .val (.int p1), .val (.int p2), .val (.int p3), .val (.ref aa), .val (.int xx), .val (.int yy), .val (.ref cc), .val (.int f1), .val (.int t1), .val (.int f2), .unset, .unset, .unset, .unset, .unset, .unset] [(.int f2)]))
  refine GoesW.step (fun _ k => XS.iloadN X38.here hx rfl (hb hby at_187) rfl k) ?_
  show GoesW p.tables e below s (Q0 Z p0 p1 p2 p3 h0 n0) room_1.cells room_1.slots (T38.setTop (mkF m 188 #[.val (.int p0), .val (.int p1), .val (.int p2), .val (.int p3), .val (.ref aa), .val (.int xx), .val (.int yy), .val (.ref cc), .val (.int f1), .val (.int t1), .val (.int f2), .unset, .unset, .unset, .unset, .unset, .unset] [(.int p3), (.int f2)]))
  refine GoesW.step (fun _ k => XS.bipush X38.here hx rfl (hb hby at_188) k) ?_
  show GoesW p.tables e below s (Q0 Z p0 p1 p2 p3 h0 n0) room_1.cells room_1.slots (T38.setTop (mkF m 190 #[.val (.int p0), .val (.int p1), .val (.int p2), .val (.int p3), .val (.ref aa), .val (.int xx), .val (.int yy), .val (.ref cc), .val (.int f1), .val (.int t1), .val (.int f2), .unset, .unset, .unset, .unset, .unset, .unset] [(.int (8 : Int32)), (.int p3), (.int f2)]))
  refine GoesW.step (fun _ k => XS.iushr X38.here hx rfl (hb hby at_190) rfl k) ?_
  show GoesW p.tables e below s (Q0 Z p0 p1 p2 p3 h0 n0) room_1.cells room_1.slots (T38.setTop (mkF m 191 #[.val (.int p0), .val (.int p1), .val (.int p2), .val (.int p3), .val (.ref aa), .val (.int xx), .val (.int yy), .val (.ref cc), .val (.int f1), .val (.int t1), .val (.int f2), .unset, .unset, .unset, .unset, .unset, .unset] [(.int ((p3.toUInt32 >>> ((8 : Int32) &&& 31).toUInt32).toInt32)), (.int f2)]))
  refine GoesW.step (fun _ k => XS.sipush X38.here hx rfl (hb hby at_191) k) ?_
  show GoesW p.tables e below s (Q0 Z p0 p1 p2 p3 h0 n0) room_1.cells room_1.slots (T38.setTop (mkF m 194 #[.val (.int p0), .val (.int p1), .val (.int p2), .val (.int p3), .val (.ref aa), .val (.int xx), .val (.int yy), .val (.ref cc), .val (.int f1), .val (.int t1), .val (.int f2), .unset, .unset, .unset, .unset, .unset, .unset] [(.int (255 : Int32)), (.int ((p3.toUInt32 >>> ((8 : Int32) &&& 31).toUInt32).toInt32)), (.int f2)]))
  refine GoesW.step (fun _ k => XS.iand X38.here hx rfl (hb hby at_194) rfl k) ?_
  show GoesW p.tables e below s (Q0 Z p0 p1 p2 p3 h0 n0) room_1.cells room_1.slots (T38.setTop (mkF m 195 #[.val (.int p0), .val (.int p1), .val (.int p2), .val (.int p3), .val (.ref aa), .val (.int xx), .val (.int yy), .val (.ref cc), .val (.int f1), .val (.int t1), .val (.int f2), .unset, .unset, .unset, .unset, .unset, .unset] [(.int (((p3.toUInt32 >>> ((8 : Int32) &&& 31).toUInt32).toInt32) &&& (255 : Int32))), (.int f2)]))
  refine GoesW.step (fun _ k => XS.bipush X38.here hx rfl (hb hby at_195) k) ?_
  show GoesW p.tables e below s (Q0 Z p0 p1 p2 p3 h0 n0) room_1.cells room_1.slots (T38.setTop (mkF m 197 #[.val (.int p0), .val (.int p1), .val (.int p2), .val (.int p3), .val (.ref aa), .val (.int xx), .val (.int yy), .val (.ref cc), .val (.int f1), .val (.int t1), .val (.int f2), .unset, .unset, .unset, .unset, .unset, .unset] [(.int (7 : Int32)), (.int (((p3.toUInt32 >>> ((8 : Int32) &&& 31).toUInt32).toInt32) &&& (255 : Int32))), (.int f2)]))
  refine GoesW.step (fun _ k => XS.iload X38.here hx rfl (hb hby at_197) rfl k) ?_
  show GoesW p.tables e below s (Q0 Z p0 p1 p2 p3 h0 n0) room_1.cells room_1.slots (T38.setTop (mkF m 199 #[.val (.int p0), .val (.int p1), .val (.int p2), .val (.int p3), .val (.ref aa), .val (.int xx), .val (.int yy), .val (.ref cc), .val (.int f1), .val (.int t1), .val (.int f2), .unset, .unset, .unset, .unset, .unset, .unset] [(.int f2), (.int (7 : Int32)), (.int (((p3.toUInt32 >>> ((8 : Int32) &&& 31).toUInt32).toInt32) &&& (255 : Int32))), (.int f2)]))
  refine GoesW.step (fun _ k => XS.isub X38.here hx rfl (hb hby at_199) rfl k) ?_
  show GoesW p.tables e below s (Q0 Z p0 p1 p2 p3 h0 n0) room_1.cells room_1.slots (T38.setTop (mkF m 200 #[.val (.int p0), .val (.int p1), .val (.int p2), .val (.int p3), .val (.ref aa), .val (.int xx), .val (.int yy), .val (.ref cc), .val (.int f1), .val (.int t1), .val (.int f2), .unset, .unset, .unset, .unset, .unset, .unset] [(.int ((7 : Int32) - f2)), (.int (((p3.toUInt32 >>> ((8 : Int32) &&& 31).toUInt32).toInt32) &&& (255 : Int32))), (.int f2)]))
  generalize hdt2 : (((p3.toUInt32 >>> ((8 : Int32) &&& 31).toUInt32).toInt32) &&& (255 : Int32)) = dt2
  show GoesW p.tables e below s (Q0 Z p0 p1 p2 p3 h0 n0) room_1.cells room_1.slots (T38.setTop (mkF m 200 #[.val (.int p0), .val (.int p1), .val (.int p2), .val (.int p3), .val (.ref aa), .val (.int xx), .val (.int yy), .val (.ref cc), .val (.int f1), .val (.int t1), .val (.int f2), .unset, .unset, .unset, .unset, .unset, .unset] [(.int ((7 : Int32) - f2)), (.int dt2), (.int f2)]))
  have mt2 := own_m7 dt2 f2 f2B (by rw [← hdt2]; exact own_m8 _)
  refine GoesW.step (fun _ k => iremM X38 hx rfl (hb hby at_200) rfl mt2.1 k) ?_
  show GoesW p.tables e below s (Q0 Z p0 p1 p2 p3 h0 n0) room_1.cells room_1.slots (T38.setTop (mkF m 201 #[.val (.int p0), .val (.int p1), .val (.int p2), .val (.int p3), .val (.ref aa), .val (.int xx), .val (.int yy), .val (.ref cc), .val (.int f1), .val (.int t1), .val (.int f2), .unset, .unset, .unset, .unset, .unset, .unset] [(.int (dt2 % ((7 : Int32) - f2))), (.int f2)]))
  refine GoesW.step (fun _ k => XS.iadd X38.here hx rfl (hb hby at_201) rfl k) ?_
  show GoesW p.tables e below s (Q0 Z p0 p1 p2 p3 h0 n0) room_1.cells room_1.slots (T38.setTop (mkF m 202 #[.val (.int p0), .val (.int p1), .val (.int p2), .val (.int p3), .val (.ref aa), .val (.int xx), .val (.int yy), .val (.ref cc), .val (.int f1), .val (.int t1), .val (.int f2), .unset, .unset, .unset, .unset, .unset, .unset] [(.int (f2 + (dt2 % ((7 : Int32) - f2))))]))
  generalize ht2 : (f2 + (dt2 % ((7 : Int32) - f2))) = t2
  show GoesW p.tables e below s (Q0 Z p0 p1 p2 p3 h0 n0) room_1.cells room_1.slots (T38.setTop (mkF m 202 #[.val (.int p0), .val (.int p1), .val (.int p2), .val (.int p3), .val (.ref aa), .val (.int xx), .val (.int yy), .val (.ref cc), .val (.int f1), .val (.int t1), .val (.int f2), .unset, .unset, .unset, .unset, .unset, .unset] [(.int t2)]))
  rw [ht2] at mt2
  refine GoesW.step (fun _ k => XS.istore X38.here hx rfl (hb hby at_202) rfl (l' := #[.val (.int p0), .val (.int p1), .val (.int p2), .val (.int p3), .val (.ref aa), .val (.int xx), .val (.int yy), .val (.ref cc), .val (.int f1), .val (.int t1), .val (.int f2), .val (.int t2), .unset, .unset, .unset, .unset, .unset]) rfl k) ?_
  show GoesW p.tables e below s (Q0 Z p0 p1 p2 p3 h0 n0) room_1.cells room_1.slots (T38.setTop (mkF m 204 #[.val (.int p0), .val (.int p1), .val (.int p2), .val (.int p3), .val (.ref aa), .val (.int xx), .val (.int yy), .val (.ref cc), .val (.int f1), .val (.int t1), .val (.int f2), .val (.int t2), .unset, .unset, .unset, .unset, .unset] []))
  obtain ⟨T39, h39, X39, e39, E39, A39, D39, -, st39⟩ := newO X38 hx hZ hown (hw _ (List.mem_of_getElem? (i := 1) rfl)) (hw _ (List.mem_of_getElem? (i := 2) rfl)) (hw _ (List.mem_of_getElem? (i := 3) rfl)) e38 (g := (mkF m 204 #[.val (.int p0), .val (.int p1), .val (.int p2), .val (.int p3), .val (.ref aa), .val (.int xx), .val (.int yy), .val (.ref cc), .val (.int f1), .val (.int t1), .val (.int f2), .val (.int t2), .unset, .unset, .unset, .unset, .unset] [])) rfl (hb hby at_204) (by decide) (by decide)
  obtain ⟨kx, gs39⟩ : ∃ z, z = h38.size := ⟨_, rfl⟩
  rw [← gs39] at A39 D39 st39
  have g_kx : n0 ≤ kx := Nat.le_trans Z38 (Nat.le_of_eq gs39.symm)
  have ne_aa_kx : aa ≠ kx := Nat.ne_of_lt (Nat.lt_of_lt_of_le (Arv_aa_35.other W38 ne_aa_cc).lt (Nat.le_of_eq gs39.symm))
  have ne_cc_kx : cc ≠ kx := Nat.ne_of_lt (Nat.lt_of_lt_of_le V38.lt (Nat.le_of_eq gs39.symm))
  have Z39 : n0 ≤ h39.size := Nat.le_trans Z38 E39.1
  have F_bytes_kx : Fld Z h39 kx "com/example/rankweave/rankweave/io/FieldBytes" "bytes" "[B" .null := D39 (Or.inl (hw _ (List.mem_of_getElem? (i := 11) rfl))) (ty := (.array .byte)) (by decide)
  have F_hashed_kx : Fld Z h39 kx "com/example/rankweave/rankweave/io/FieldBytes" "hashed" "Z" (.int (0 : Int32)) := D39 (Or.inl (hw _ (List.mem_of_getElem? (i := 18) rfl))) (ty := .boolean) (by decide)
  have F_from_kx : Fld Z h39 kx "com/example/rankweave/rankweave/io/FieldBytes" "from" "I" (.int (0 : Int32)) := D39 (Or.inl (hw _ (List.mem_of_getElem? (i := 20) rfl))) (ty := .int) (by decide)
  have F_to_kx : Fld Z h39 kx "com/example/rankweave/rankweave/io/FieldBytes" "to" "I" (.int (0 : Int32)) := D39 (Or.inl (hw _ (List.mem_of_getElem? (i := 22) rfl))) (ty := .int) (by decide)
  have F_hash_kx : Fld Z h39 kx "com/example/rankweave/rankweave/io/FieldBytes" "hash" "I" (.int (0 : Int32)) := D39 (Or.inl (hw _ (List.mem_of_getElem? (i := 24) rfl))) (ty := .int) (by decide)
  refine GoesW.step st39 ?_
  show GoesW p.tables e below s (Q0 Z p0 p1 p2 p3 h0 n0) room_1.cells room_1.slots (T39.setTop (mkF m 207 #[.val (.int p0), .val (.int p1), .val (.int p2), .val (.int p3), .val (.ref aa), .val (.int xx), .val (.int yy), .val (.ref cc), .val (.int f1), .val (.int t1), .val (.int f2), .val (.int t2), .unset, .unset, .unset, .unset, .unset] [(.ref kx)]))
  refine GoesW.step (fun _ k => XS.dup X39.here hx rfl (hb hby at_207) rfl rfl k) ?_
  show GoesW p.tables e below s (Q0 Z p0 p1 p2 p3 h0 n0) room_1.cells room_1.slots (T39.setTop (mkF m 208 #[.val (.int p0), .val (.int p1), .val (.int p2), .val (.int p3), .val (.ref aa), .val (.int xx), .val (.int yy), .val (.ref cc), .val (.int f1), .val (.int t1), .val (.int f2), .val (.int t2), .unset, .unset, .unset, .unset, .unset] [(.ref kx), (.ref kx)]))
  obtain ⟨_, _, ⟨T40, L40, k40, n40⟩, -, X40, ⟨Lc40, hQ40, l40, y40, z40⟩, st40⟩ := X39.specialBack hx (y := (⟨"com/example/rankweave/rankweave/io/FieldBytes", "<init>", "()V"⟩ : MethodName)) rfl hown (mvT hZ (hw _ (List.mem_of_getElem? (i := 4) rfl))) (mvT hZ (hw _ (List.mem_of_getElem? (i := 5) rfl))) (mvT hZ (hw _ (List.mem_of_getElem? (i := 6) rfl))) (by decide) (backOf (W := 1) (rm1 l Z a0 hw [] kx  h39 n0 Z39 A39 g_kx F_bytes_kx F_from_kx F_to_kx F_hashed_kx F_hash_kx) hZ (hw _ (List.mem_of_getElem? (i := 6) rfl)) (hw _ (List.mem_of_getElem? (i := 3) rfl)) (by decide) (by decide)) (g := (mkF m 208 #[.val (.int p0), .val (.int p1), .val (.int p2), .val (.int p3), .val (.ref aa), .val (.int xx), .val (.int yy), .val (.ref cc), .val (.int f1), .val (.int t1), .val (.int f2), .val (.int t2), .unset, .unset, .unset, .unset, .unset] [(.ref kx), (.ref kx)])) rfl (by rw [hml]; rfl) (Steps.refl _) (a := kx) (argsL := []) (rest := [(.ref kx)]) (lenOf own_pd2 rfl) rfl (by show 2 * 0 + _ ≤ _; exact Nat.le_of_eq rfl) (hb hby at_208) (fun _ _ => ⟨rfl, e39, (by decide : 3 + 1 ≤ _), (by decide : 17 + 0 ≤ _)⟩)
  dsimp only [Pt.U, Pt.locs, Pt.cells, Pt.slots] at X40 l40 y40 z40 st40 hQ40
  subst l40 y40 z40
  obtain ⟨rfl, N40q, K40q, Fb40, Fc40, Fd40, Fe40, bb40, kb40, Fa40, Vb40⟩ := hQ40
  have N40 := Fr.app N38 N40q
  have Z40 : n0 ≤ T40.heap.size := Nat.le_trans Z39 K40q.1
  refine GoesW.step (fun _ k => st40.trans k) ?_
  show GoesW p.tables e below s (Q0 Z p0 p1 p2 p3 h0 n0) room_1.cells room_1.slots (T40.setTop (mkF m 211 #[.val (.int p0), .val (.int p1), .val (.int p2), .val (.int p3), .val (.ref aa), .val (.int xx), .val (.int yy), .val (.ref cc), .val (.int f1), .val (.int t1), .val (.int f2), .val (.int t2), .unset, .unset, .unset, .unset, .unset] [(.ref kx)]))
  refine GoesW.step (fun _ k => XS.astore X40.here hx rfl (hb hby at_211) rfl rfl (l' := #[.val (.int p0), .val (.int p1), .val (.int p2), .val (.int p3), .val (.ref aa), .val (.int xx), .val (.int yy), .val (.ref cc), .val (.int f1), .val (.int t1), .val (.int f2), .val (.int t2), .val (.ref kx), .unset, .unset, .unset, .unset]) rfl k) ?_
  show GoesW p.tables e below s (Q0 Z p0 p1 p2 p3 h0 n0) room_1.cells room_1.slots (T40.setTop (mkF m 213 #[.val (.int p0), .val (.int p1), .val (.int p2), .val (.int p3), .val (.ref aa), .val (.int xx), .val (.int yy), .val (.ref cc), .val (.int f1), .val (.int t1), .val (.int f2), .val (.int t2), .val (.ref kx), .unset, .unset, .unset, .unset] []))
  refine GoesW.step (fun _ k => XS.aload X40.here hx rfl (hb hby at_213) rfl rfl k) ?_
  show GoesW p.tables e below s (Q0 Z p0 p1 p2 p3 h0 n0) room_1.cells room_1.slots (T40.setTop (mkF m 215 #[.val (.int p0), .val (.int p1), .val (.int p2), .val (.int p3), .val (.ref aa), .val (.int xx), .val (.int yy), .val (.ref cc), .val (.int f1), .val (.int t1), .val (.int f2), .val (.int t2), .val (.ref kx), .unset, .unset, .unset, .unset] [(.ref kx)]))
  have Exa_kx_41 := (A39.keep K40q)
  obtain ⟨cq42, kq42, q42a, q42b, q42c⟩ := isOf hZ rfl Exa_kx_41
  obtain ⟨_, _, ⟨T42, L42, k42, n42⟩, -, X42, ⟨Lc42, hQ42, l42, y42, z42⟩, st42⟩ := X40.virtualBack hx (y := (⟨"com/example/rankweave/rankweave/io/FieldBytes", "hashCode", "()I"⟩ : MethodName)) (z := (⟨"com/example/rankweave/rankweave/io/FieldBytes", "hashCode", "()I"⟩ : MethodName)) hown (mvT hZ (hw _ (List.mem_of_getElem? (i := 12) rfl))) (mvT hZ (hw _ (List.mem_of_getElem? (i := 13) rfl))) (notFace_of_selects (args := #[]) (mvT hZ (hw _ (List.mem_of_getElem? (i := 15) rfl)))) (mvT hZ (hw _ (List.mem_of_getElem? (i := 15) rfl))) (mvT hZ (hw _ (List.mem_of_getElem? (i := 14) rfl))) (by decide) (backOf (W := 0) (rm3 l Z a0 hw [] kx bb40 (0 : Int32) (0 : Int32) (.int (0 : Int32)) kb40 (0 : Int32) [] (.int (0 : Int32)) T40.heap n0 Z40 Exa_kx_41 g_kx Fa40 Fb40 Fc40 Fd40 Fe40 Vb40 rfl (by decide) (by decide) (by decide)) hZ (hw _ (List.mem_of_getElem? (i := 16) rfl)) (hw _ (List.mem_of_getElem? (i := 3) rfl)) (by decide) (by decide)) q42a q42c (g := (mkF m 215 #[.val (.int p0), .val (.int p1), .val (.int p2), .val (.int p3), .val (.ref aa), .val (.int xx), .val (.int yy), .val (.ref cc), .val (.int f1), .val (.int t1), .val (.int f2), .val (.int t2), .val (.ref kx), .unset, .unset, .unset, .unset] [(.ref kx)])) rfl (by rw [hml]; rfl) (Steps.refl _) (argsL := []) (rest := []) (lenOf own_pd3 rfl) rfl (by show 2 * 0 + _ ≤ _; exact Nat.le_of_eq rfl) (hb hby at_215) (fun _ _ => ⟨rfl, rfl, (by decide : 4 + 0 ≤ _), (by decide : 17 + 0 ≤ _)⟩)
  dsimp only [Pt.U, Pt.locs, Pt.cells, Pt.slots] at X42 l42 y42 z42 st42 hQ42
  subst l42 y42 z42
  obtain ⟨rfl, N42q, K42q, Fa42, Fb42, Fc42, Fd42, Fe42⟩ := hQ42
  have N42 := Fr.app N40 N42q
  have Z42 : n0 ≤ T42.heap.size := Nat.le_trans Z40 K42q.1
  refine GoesW.step (fun _ k => st42.trans k) ?_
  show GoesW p.tables e below s (Q0 Z p0 p1 p2 p3 h0 n0) room_1.cells room_1.slots (T42.setTop (mkF m 218 #[.val (.int p0), .val (.int p1), .val (.int p2), .val (.int p3), .val (.ref aa), .val (.int xx), .val (.int yy), .val (.ref cc), .val (.int f1), .val (.int t1), .val (.int f2), .val (.int t2), .val (.ref kx), .unset, .unset, .unset, .unset] [(.int (own_hash [] (0 : Int32).toNatClampNeg (0 : Int32).toNatClampNeg))]))
  rw [show (own_hash [] (0 : Int32).toNatClampNeg (0 : Int32).toNatClampNeg) = (0 : Int32) from rfl]
  show GoesW p.tables e below s (Q0 Z p0 p1 p2 p3 h0 n0) room_1.cells room_1.slots (T42.setTop (mkF m 218 #[.val (.int p0), .val (.int p1), .val (.int p2), .val (.int p3), .val (.ref aa), .val (.int xx), .val (.int yy), .val (.ref cc), .val (.int f1), .val (.int t1), .val (.int f2), .val (.int t2), .val (.ref kx), .unset, .unset, .unset, .unset] [(.int (0 : Int32))]))
  refine GoesW.step (fun _ k => XS.istore X42.here hx rfl (hb hby at_218) rfl (l' := #[.val (.int p0), .val (.int p1), .val (.int p2), .val (.int p3), .val (.ref aa), .val (.int xx), .val (.int yy), .val (.ref cc), .val (.int f1), .val (.int t1), .val (.int f2), .val (.int t2), .val (.ref kx), .val (.int (0 : Int32)), .unset, .unset, .unset]) rfl k) ?_
  show GoesW p.tables e below s (Q0 Z p0 p1 p2 p3 h0 n0) room_1.cells room_1.slots (T42.setTop (mkF m 220 #[.val (.int p0), .val (.int p1), .val (.int p2), .val (.int p3), .val (.ref aa), .val (.int xx), .val (.int yy), .val (.ref cc), .val (.int f1), .val (.int t1), .val (.int f2), .val (.int t2), .val (.ref kx), .val (.int (0 : Int32)), .unset, .unset, .unset] []))
  refine GoesW.step (fun _ k => XS.aload X42.here hx rfl (hb hby at_220) rfl rfl k) ?_
  show GoesW p.tables e below s (Q0 Z p0 p1 p2 p3 h0 n0) room_1.cells room_1.slots (T42.setTop (mkF m 222 #[.val (.int p0), .val (.int p1), .val (.int p2), .val (.int p3), .val (.ref aa), .val (.int xx), .val (.int yy), .val (.ref cc), .val (.int f1), .val (.int t1), .val (.int f2), .val (.int t2), .val (.ref kx), .val (.int (0 : Int32)), .unset, .unset, .unset] [(.ref kx)]))
  refine GoesW.step (fun _ k => XS.aload X42.here hx rfl (hb hby at_222) rfl rfl k) ?_
  show GoesW p.tables e below s (Q0 Z p0 p1 p2 p3 h0 n0) room_1.cells room_1.slots (T42.setTop (mkF m 224 #[.val (.int p0), .val (.int p1), .val (.int p2), .val (.int p3), .val (.ref aa), .val (.int xx), .val (.int yy), .val (.ref cc), .val (.int f1), .val (.int t1), .val (.int f2), .val (.int t2), .val (.ref kx), .val (.int (0 : Int32)), .unset, .unset, .unset] [(.ref aa), (.ref kx)]))
  refine GoesW.step (fun _ k => XS.iload X42.here hx rfl (hb hby at_224) rfl k) ?_
  show GoesW p.tables e below s (Q0 Z p0 p1 p2 p3 h0 n0) room_1.cells room_1.slots (T42.setTop (mkF m 226 #[.val (.int p0), .val (.int p1), .val (.int p2), .val (.int p3), .val (.ref aa), .val (.int xx), .val (.int yy), .val (.ref cc), .val (.int f1), .val (.int t1), .val (.int f2), .val (.int t2), .val (.ref kx), .val (.int (0 : Int32)), .unset, .unset, .unset] [(.int f1), (.ref aa), (.ref kx)]))
  refine GoesW.step (fun _ k => XS.iload X42.here hx rfl (hb hby at_226) rfl k) ?_
  show GoesW p.tables e below s (Q0 Z p0 p1 p2 p3 h0 n0) room_1.cells room_1.slots (T42.setTop (mkF m 228 #[.val (.int p0), .val (.int p1), .val (.int p2), .val (.int p3), .val (.ref aa), .val (.int xx), .val (.int yy), .val (.ref cc), .val (.int f1), .val (.int t1), .val (.int f2), .val (.int t2), .val (.ref kx), .val (.int (0 : Int32)), .unset, .unset, .unset] [(.int t1), (.int f1), (.ref aa), (.ref kx)]))
  have Exa_kx_43 := (Exa_kx_41.keep K42q)
  obtain ⟨cq44, kq44, q44a, q44b, q44c⟩ := isOf hZ rfl Exa_kx_43
  obtain ⟨_, _, ⟨T44, L44, k44, n44⟩, -, X44, ⟨Lc44, hQ44, l44, y44, z44⟩, st44⟩ := X42.virtualBack hx (y := (⟨"com/example/rankweave/rankweave/io/FieldBytes", "view", "([BII)V"⟩ : MethodName)) (z := (⟨"com/example/rankweave/rankweave/io/FieldBytes", "view", "([BII)V"⟩ : MethodName)) hown (mvT hZ (hw _ (List.mem_of_getElem? (i := 25) rfl))) (mvT hZ (hw _ (List.mem_of_getElem? (i := 26) rfl))) (notFace_of_selects (args := #[]) (mvT hZ (hw _ (List.mem_of_getElem? (i := 28) rfl)))) (mvT hZ (hw _ (List.mem_of_getElem? (i := 28) rfl))) (mvT hZ (hw _ (List.mem_of_getElem? (i := 27) rfl))) (by decide) (backOf (W := 0) (rm4 l Z a0 hw [] kx aa f1 t1 (.ref bb40) (.int (0 : Int32)) (.int (0 : Int32)) (.int (1 : Int32)) (.int (own_hash [] (0 : Int32).toNatClampNeg (0 : Int32).toNatClampNeg)) T42.heap n0 Z42 Exa_kx_43 g_kx Fa42 Fb42 Fc42 Fd42 Fe42) hZ (hw _ (List.mem_of_getElem? (i := 29) rfl)) (hw _ (List.mem_of_getElem? (i := 3) rfl)) (by decide) (by decide)) q44a q44c (g := (mkF m 228 #[.val (.int p0), .val (.int p1), .val (.int p2), .val (.int p3), .val (.ref aa), .val (.int xx), .val (.int yy), .val (.ref cc), .val (.int f1), .val (.int t1), .val (.int f2), .val (.int t2), .val (.ref kx), .val (.int (0 : Int32)), .unset, .unset, .unset] [(.int t1), (.int f1), (.ref aa), (.ref kx)])) rfl (by rw [hml]; rfl) (Steps.refl _) (argsL := [(.ref aa), (.int f1), (.int t1)]) (rest := []) (lenOf own_pd4 rfl) rfl (by show 2 * 0 + _ ≤ _; exact Nat.le_of_eq rfl) (hb hby at_228) (fun _ _ => ⟨rfl, rfl, (by decide : 4 + 0 ≤ _), (by decide : 17 + 0 ≤ _)⟩)
  dsimp only [Pt.U, Pt.locs, Pt.cells, Pt.slots] at X44 l44 y44 z44 st44 hQ44
  subst l44 y44 z44
  obtain ⟨rfl, N44q, K44q, Fa44, Fb44, Fc44, Fd44, Fe44⟩ := hQ44
  have N44 := Fr.app N42 N44q
  have Z44 : n0 ≤ T44.heap.size := Nat.le_trans Z42 K44q.1
  refine GoesW.step (fun _ k => st44.trans k) ?_
  show GoesW p.tables e below s (Q0 Z p0 p1 p2 p3 h0 n0) room_1.cells room_1.slots (T44.setTop (mkF m 231 #[.val (.int p0), .val (.int p1), .val (.int p2), .val (.int p3), .val (.ref aa), .val (.int xx), .val (.int yy), .val (.ref cc), .val (.int f1), .val (.int t1), .val (.int f2), .val (.int t2), .val (.ref kx), .val (.int (0 : Int32)), .unset, .unset, .unset] []))
  refine GoesW.step (fun _ k => XS.aload X44.here hx rfl (hb hby at_231) rfl rfl k) ?_
  show GoesW p.tables e below s (Q0 Z p0 p1 p2 p3 h0 n0) room_1.cells room_1.slots (T44.setTop (mkF m 233 #[.val (.int p0), .val (.int p1), .val (.int p2), .val (.int p3), .val (.ref aa), .val (.int xx), .val (.int yy), .val (.ref cc), .val (.int f1), .val (.int t1), .val (.int f2), .val (.int t2), .val (.ref kx), .val (.int (0 : Int32)), .unset, .unset, .unset] [(.ref kx)]))
  have Exa_kx_45 := (Exa_kx_43.keep K44q)
  have Arv_aa_46 := (((((Arv_aa_35.other W38 ne_aa_cc).ext E39).keep K40q (ninS ne_aa_kx nin0)).keep K42q (ninS ne_aa_kx nin0)).keep K44q (ninS ne_aa_kx nin0))
  obtain ⟨cq47, kq47, q47a, q47b, q47c⟩ := isOf hZ rfl Exa_kx_45
  obtain ⟨_, _, ⟨T47, L47, k47, n47⟩, -, X47, ⟨Lc47, hQ47, l47, y47, z47⟩, st47⟩ := X44.virtualBack hx (y := (⟨"com/example/rankweave/rankweave/io/FieldBytes", "hashCode", "()I"⟩ : MethodName)) (z := (⟨"com/example/rankweave/rankweave/io/FieldBytes", "hashCode", "()I"⟩ : MethodName)) hown (mvT hZ (hw _ (List.mem_of_getElem? (i := 12) rfl))) (mvT hZ (hw _ (List.mem_of_getElem? (i := 13) rfl))) (notFace_of_selects (args := #[]) (mvT hZ (hw _ (List.mem_of_getElem? (i := 15) rfl)))) (mvT hZ (hw _ (List.mem_of_getElem? (i := 15) rfl))) (mvT hZ (hw _ (List.mem_of_getElem? (i := 14) rfl))) (by decide) (backOf (W := 0) (rm3 l Z a0 hw [] kx aa f1 t1 (.int (own_hash [] (0 : Int32).toNatClampNeg (0 : Int32).toNatClampNeg)) k1 (6 : Int32) [a_0, a_1, a_2, a_3, a_4, a_5] (.int (0 : Int32)) T44.heap n0 Z44 Exa_kx_45 g_kx Fa44 Fb44 Fc44 Fd44 Fe44 Arv_aa_46 rfl f1B.1 mt1.2.1 (by have q6 : (6 : Int32).toInt = 6 := rfl; have := mt1.2.2; omega)) hZ (hw _ (List.mem_of_getElem? (i := 16) rfl)) (hw _ (List.mem_of_getElem? (i := 3) rfl)) (by decide) (by decide)) q47a q47c (g := (mkF m 233 #[.val (.int p0), .val (.int p1), .val (.int p2), .val (.int p3), .val (.ref aa), .val (.int xx), .val (.int yy), .val (.ref cc), .val (.int f1), .val (.int t1), .val (.int f2), .val (.int t2), .val (.ref kx), .val (.int (0 : Int32)), .unset, .unset, .unset] [(.ref kx)])) rfl (by rw [hml]; rfl) (Steps.refl _) (argsL := []) (rest := []) (lenOf own_pd3 rfl) rfl (by show 2 * 0 + _ ≤ _; exact Nat.le_of_eq rfl) (hb hby at_233) (fun _ _ => ⟨rfl, rfl, (by decide : 4 + 0 ≤ _), (by decide : 17 + 0 ≤ _)⟩)
  dsimp only [Pt.U, Pt.locs, Pt.cells, Pt.slots] at X47 l47 y47 z47 st47 hQ47
  subst l47 y47 z47
  obtain ⟨rfl, N47q, K47q, Fa47, Fb47, Fc47, Fd47, Fe47⟩ := hQ47
  have N47 := Fr.app N44 N47q
  have Z47 : n0 ≤ T47.heap.size := Nat.le_trans Z44 K47q.1
  refine GoesW.step (fun _ k => st47.trans k) ?_
  show GoesW p.tables e below s (Q0 Z p0 p1 p2 p3 h0 n0) room_1.cells room_1.slots (T47.setTop (mkF m 236 #[.val (.int p0), .val (.int p1), .val (.int p2), .val (.int p3), .val (.ref aa), .val (.int xx), .val (.int yy), .val (.ref cc), .val (.int f1), .val (.int t1), .val (.int f2), .val (.int t2), .val (.ref kx), .val (.int (0 : Int32)), .unset, .unset, .unset] [(.int (own_hash [a_0, a_1, a_2, a_3, a_4, a_5] f1.toNatClampNeg t1.toNatClampNeg))]))
  refine GoesW.step (fun _ k => XS.istore X47.here hx rfl (hb hby at_236) rfl (l' := #[.val (.int p0), .val (.int p1), .val (.int p2), .val (.int p3), .val (.ref aa), .val (.int xx), .val (.int yy), .val (.ref cc), .val (.int f1), .val (.int t1), .val (.int f2), .val (.int t2), .val (.ref kx), .val (.int (0 : Int32)), .val (.int (own_hash [a_0, a_1, a_2, a_3, a_4, a_5] f1.toNatClampNeg t1.toNatClampNeg)), .unset, .unset]) rfl k) ?_
  show GoesW p.tables e below s (Q0 Z p0 p1 p2 p3 h0 n0) room_1.cells room_1.slots (T47.setTop (mkF m 238 #[.val (.int p0), .val (.int p1), .val (.int p2), .val (.int p3), .val (.ref aa), .val (.int xx), .val (.int yy), .val (.ref cc), .val (.int f1), .val (.int t1), .val (.int f2), .val (.int t2), .val (.ref kx), .val (.int (0 : Int32)), .val (.int (own_hash [a_0, a_1, a_2, a_3, a_4, a_5] f1.toNatClampNeg t1.toNatClampNeg)), .unset, .unset] []))
  refine GoesW.step (fun _ k => XS.aload X47.here hx rfl (hb hby at_238) rfl rfl k) ?_
  show GoesW p.tables e below s (Q0 Z p0 p1 p2 p3 h0 n0) room_1.cells room_1.slots (T47.setTop (mkF m 240 #[.val (.int p0), .val (.int p1), .val (.int p2), .val (.int p3), .val (.ref aa), .val (.int xx), .val (.int yy), .val (.ref cc), .val (.int f1), .val (.int t1), .val (.int f2), .val (.int t2), .val (.ref kx), .val (.int (0 : Int32)), .val (.int (own_hash [a_0, a_1, a_2, a_3, a_4, a_5] f1.toNatClampNeg t1.toNatClampNeg)), .unset, .unset] [(.ref kx)]))
  have Exa_kx_49 := (Exa_kx_45.keep K47q)
  obtain ⟨cq48, kq48, q48a, q48b, q48c⟩ := isOf hZ rfl Exa_kx_49
  obtain ⟨_, _, ⟨T48, L48, k48, n48⟩, -, X48, ⟨Lc48, hQ48, l48, y48, z48⟩, st48⟩ := X47.virtualBack hx (y := (⟨"com/example/rankweave/rankweave/io/FieldBytes", "hashCode", "()I"⟩ : MethodName)) (z := (⟨"com/example/rankweave/rankweave/io/FieldBytes", "hashCode", "()I"⟩ : MethodName)) hown (mvT hZ (hw _ (List.mem_of_getElem? (i := 12) rfl))) (mvT hZ (hw _ (List.mem_of_getElem? (i := 13) rfl))) (notFace_of_selects (args := #[]) (mvT hZ (hw _ (List.mem_of_getElem? (i := 15) rfl)))) (mvT hZ (hw _ (List.mem_of_getElem? (i := 15) rfl))) (mvT hZ (hw _ (List.mem_of_getElem? (i := 14) rfl))) (by decide) (backOf (W := 0) (rm3b l Z a0 hw [] kx (own_hash [a_0, a_1, a_2, a_3, a_4, a_5] f1.toNatClampNeg t1.toNatClampNeg) T47.heap n0 Z47 Fd47 Fe47) hZ (hw _ (List.mem_of_getElem? (i := 16) rfl)) (hw _ (List.mem_of_getElem? (i := 3) rfl)) (by decide) (by decide)) q48a q48c (g := (mkF m 240 #[.val (.int p0), .val (.int p1), .val (.int p2), .val (.int p3), .val (.ref aa), .val (.int xx), .val (.int yy), .val (.ref cc), .val (.int f1), .val (.int t1), .val (.int f2), .val (.int t2), .val (.ref kx), .val (.int (0 : Int32)), .val (.int (own_hash [a_0, a_1, a_2, a_3, a_4, a_5] f1.toNatClampNeg t1.toNatClampNeg)), .unset, .unset] [(.ref kx)])) rfl (by rw [hml]; rfl) (Steps.refl _) (argsL := []) (rest := []) (lenOf own_pd3 rfl) rfl (by show 2 * 0 + _ ≤ _; exact Nat.le_of_eq rfl) (hb hby at_240) (fun _ _ => ⟨rfl, rfl, (by decide : 4 + 0 ≤ _), (by decide : 17 + 0 ≤ _)⟩)
  dsimp only [Pt.U, Pt.locs, Pt.cells, Pt.slots] at X48 l48 y48 z48 st48 hQ48
  subst l48 y48 z48
  obtain ⟨rfl, N48q, eq48⟩ := hQ48
  have N48 := Fr.app N47 N48q
  refine GoesW.step (fun _ k => st48.trans k) ?_
  show GoesW p.tables e below s (Q0 Z p0 p1 p2 p3 h0 n0) room_1.cells room_1.slots (T48.setTop (mkF m 243 #[.val (.int p0), .val (.int p1), .val (.int p2), .val (.int p3), .val (.ref aa), .val (.int xx), .val (.int yy), .val (.ref cc), .val (.int f1), .val (.int t1), .val (.int f2), .val (.int t2), .val (.ref kx), .val (.int (0 : Int32)), .val (.int (own_hash [a_0, a_1, a_2, a_3, a_4, a_5] f1.toNatClampNeg t1.toNatClampNeg)), .unset, .unset] [(.int (own_hash [a_0, a_1, a_2, a_3, a_4, a_5] f1.toNatClampNeg t1.toNatClampNeg))]))
  refine GoesW.step (fun _ k => XS.istore X48.here hx rfl (hb hby at_243) rfl (l' := #[.val (.int p0), .val (.int p1), .val (.int p2), .val (.int p3), .val (.ref aa), .val (.int xx), .val (.int yy), .val (.ref cc), .val (.int f1), .val (.int t1), .val (.int f2), .val (.int t2), .val (.ref kx), .val (.int (0 : Int32)), .val (.int (own_hash [a_0, a_1, a_2, a_3, a_4, a_5] f1.toNatClampNeg t1.toNatClampNeg)), .val (.int (own_hash [a_0, a_1, a_2, a_3, a_4, a_5] f1.toNatClampNeg t1.toNatClampNeg)), .unset]) rfl k) ?_
  show GoesW p.tables e below s (Q0 Z p0 p1 p2 p3 h0 n0) room_1.cells room_1.slots (T48.setTop (mkF m 245 #[.val (.int p0), .val (.int p1), .val (.int p2), .val (.int p3), .val (.ref aa), .val (.int xx), .val (.int yy), .val (.ref cc), .val (.int f1), .val (.int t1), .val (.int f2), .val (.int t2), .val (.ref kx), .val (.int (0 : Int32)), .val (.int (own_hash [a_0, a_1, a_2, a_3, a_4, a_5] f1.toNatClampNeg t1.toNatClampNeg)), .val (.int (own_hash [a_0, a_1, a_2, a_3, a_4, a_5] f1.toNatClampNeg t1.toNatClampNeg)), .unset] []))
  refine GoesW.step (fun _ k => XS.aload X48.here hx rfl (hb hby at_245) rfl rfl k) ?_
  show GoesW p.tables e below s (Q0 Z p0 p1 p2 p3 h0 n0) room_1.cells room_1.slots (T48.setTop (mkF m 247 #[.val (.int p0), .val (.int p1), .val (.int p2), .val (.int p3), .val (.ref aa), .val (.int xx), .val (.int yy), .val (.ref cc), .val (.int f1), .val (.int t1), .val (.int f2), .val (.int t2), .val (.ref kx), .val (.int (0 : Int32)), .val (.int (own_hash [a_0, a_1, a_2, a_3, a_4, a_5] f1.toNatClampNeg t1.toNatClampNeg)), .val (.int (own_hash [a_0, a_1, a_2, a_3, a_4, a_5] f1.toNatClampNeg t1.toNatClampNeg)), .unset] [(.ref kx)]))
  refine GoesW.step (fun _ k => XS.aload X48.here hx rfl (hb hby at_247) rfl rfl k) ?_
  show GoesW p.tables e below s (Q0 Z p0 p1 p2 p3 h0 n0) room_1.cells room_1.slots (T48.setTop (mkF m 249 #[.val (.int p0), .val (.int p1), .val (.int p2), .val (.int p3), .val (.ref aa), .val (.int xx), .val (.int yy), .val (.ref cc), .val (.int f1), .val (.int t1), .val (.int f2), .val (.int t2), .val (.ref kx), .val (.int (0 : Int32)), .val (.int (own_hash [a_0, a_1, a_2, a_3, a_4, a_5] f1.toNatClampNeg t1.toNatClampNeg)), .val (.int (own_hash [a_0, a_1, a_2, a_3, a_4, a_5] f1.toNatClampNeg t1.toNatClampNeg)), .unset] [(.ref cc), (.ref kx)]))
  refine GoesW.step (fun _ k => XS.iload X48.here hx rfl (hb hby at_249) rfl k) ?_
  show GoesW p.tables e below s (Q0 Z p0 p1 p2 p3 h0 n0) room_1.cells room_1.slots (T48.setTop (mkF m 251 #[.val (.int p0), .val (.int p1), .val (.int p2), .val (.int p3), .val (.ref aa), .val (.int xx), .val (.int yy), .val (.ref cc), .val (.int f1), .val (.int t1), .val (.int f2), .val (.int t2), .val (.ref kx), .val (.int (0 : Int32)), .val (.int (own_hash [a_0, a_1, a_2, a_3, a_4, a_5] f1.toNatClampNeg t1.toNatClampNeg)), .val (.int (own_hash [a_0, a_1, a_2, a_3, a_4, a_5] f1.toNatClampNeg t1.toNatClampNeg)), .unset] [(.int f2), (.ref cc), (.ref kx)]))
  refine GoesW.step (fun _ k => XS.iload X48.here hx rfl (hb hby at_251) rfl k) ?_
  show GoesW p.tables e below s (Q0 Z p0 p1 p2 p3 h0 n0) room_1.cells room_1.slots (T48.setTop (mkF m 253 #[.val (.int p0), .val (.int p1), .val (.int p2), .val (.int p3), .val (.ref aa), .val (.int xx), .val (.int yy), .val (.ref cc), .val (.int f1), .val (.int t1), .val (.int f2), .val (.int t2), .val (.ref kx), .val (.int (0 : Int32)), .val (.int (own_hash [a_0, a_1, a_2, a_3, a_4, a_5] f1.toNatClampNeg t1.toNatClampNeg)), .val (.int (own_hash [a_0, a_1, a_2, a_3, a_4, a_5] f1.toNatClampNeg t1.toNatClampNeg)), .unset] [(.int t2), (.int f2), (.ref cc), (.ref kx)]))
  obtain ⟨cq50, kq50, q50a, q50b, q50c⟩ := isOf hZ eq48 Exa_kx_49
  obtain ⟨_, _, ⟨T50, L50, k50, n50⟩, -, X50, ⟨Lc50, hQ50, l50, y50, z50⟩, st50⟩ := X48.virtualBack hx (y := (⟨"com/example/rankweave/rankweave/io/FieldBytes", "view", "([BII)V"⟩ : MethodName)) (z := (⟨"com/example/rankweave/rankweave/io/FieldBytes", "view", "([BII)V"⟩ : MethodName)) hown (mvT hZ (hw _ (List.mem_of_getElem? (i := 25) rfl))) (mvT hZ (hw _ (List.mem_of_getElem? (i := 26) rfl))) (notFace_of_selects (args := #[]) (mvT hZ (hw _ (List.mem_of_getElem? (i := 28) rfl)))) (mvT hZ (hw _ (List.mem_of_getElem? (i := 28) rfl))) (mvT hZ (hw _ (List.mem_of_getElem? (i := 27) rfl))) (by decide) (backOf (W := 0) (rm4 l Z a0 hw [] kx cc f2 t2 (.ref aa) (.int f1) (.int t1) (.int (1 : Int32)) (.int (own_hash [a_0, a_1, a_2, a_3, a_4, a_5] f1.toNatClampNeg t1.toNatClampNeg)) T47.heap n0 Z47 Exa_kx_49 g_kx Fa47 Fb47 Fc47 Fd47 Fe47) hZ (hw _ (List.mem_of_getElem? (i := 29) rfl)) (hw _ (List.mem_of_getElem? (i := 3) rfl)) (by decide) (by decide)) q50a q50c (g := (mkF m 253 #[.val (.int p0), .val (.int p1), .val (.int p2), .val (.int p3), .val (.ref aa), .val (.int xx), .val (.int yy), .val (.ref cc), .val (.int f1), .val (.int t1), .val (.int f2), .val (.int t2), .val (.ref kx), .val (.int (0 : Int32)), .val (.int (own_hash [a_0, a_1, a_2, a_3, a_4, a_5] f1.toNatClampNeg t1.toNatClampNeg)), .val (.int (own_hash [a_0, a_1, a_2, a_3, a_4, a_5] f1.toNatClampNeg t1.toNatClampNeg)), .unset] [(.int t2), (.int f2), (.ref cc), (.ref kx)])) rfl (by rw [hml]; rfl) (Steps.refl _) (argsL := [(.ref cc), (.int f2), (.int t2)]) (rest := []) (lenOf own_pd4 rfl) rfl (by show 2 * 0 + _ ≤ _; exact Nat.le_of_eq rfl) (hb hby at_253) (fun _ _ => ⟨rfl, eq48, (by decide : 4 + 0 ≤ _), (by decide : 17 + 0 ≤ _)⟩)
  dsimp only [Pt.U, Pt.locs, Pt.cells, Pt.slots] at X50 l50 y50 z50 st50 hQ50
  subst l50 y50 z50
  obtain ⟨rfl, N50q, K50q, Fa50, Fb50, Fc50, Fd50, Fe50⟩ := hQ50
  have N50 := Fr.app N48 N50q
  have Z50 : n0 ≤ T50.heap.size := Nat.le_trans Z47 K50q.1
  refine GoesW.step (fun _ k => st50.trans k) ?_
  show GoesW p.tables e below s (Q0 Z p0 p1 p2 p3 h0 n0) room_1.cells room_1.slots (T50.setTop (mkF m 256 #[.val (.int p0), .val (.int p1), .val (.int p2), .val (.int p3), .val (.ref aa), .val (.int xx), .val (.int yy), .val (.ref cc), .val (.int f1), .val (.int t1), .val (.int f2), .val (.int t2), .val (.ref kx), .val (.int (0 : Int32)), .val (.int (own_hash [a_0, a_1, a_2, a_3, a_4, a_5] f1.toNatClampNeg t1.toNatClampNeg)), .val (.int (own_hash [a_0, a_1, a_2, a_3, a_4, a_5] f1.toNatClampNeg t1.toNatClampNeg)), .unset] []))
  refine GoesW.step (fun _ k => XS.aload X50.here hx rfl (hb hby at_256) rfl rfl k) ?_
  show GoesW p.tables e below s (Q0 Z p0 p1 p2 p3 h0 n0) room_1.cells room_1.slots (T50.setTop (mkF m 258 #[.val (.int p0), .val (.int p1), .val (.int p2), .val (.int p3), .val (.ref aa), .val (.int xx), .val (.int yy), .val (.ref cc), .val (.int f1), .val (.int t1), .val (.int f2), .val (.int t2), .val (.ref kx), .val (.int (0 : Int32)), .val (.int (own_hash [a_0, a_1, a_2, a_3, a_4, a_5] f1.toNatClampNeg t1.toNatClampNeg)), .val (.int (own_hash [a_0, a_1, a_2, a_3, a_4, a_5] f1.toNatClampNeg t1.toNatClampNeg)), .unset] [(.ref kx)]))
  have Exa_kx_51 := (Exa_kx_49.keep K50q)
  have Arv_cc_52 := ((((((V38.ext E39).keep K40q (ninS ne_cc_kx nin0)).keep K42q (ninS ne_cc_kx nin0)).keep K44q (ninS ne_cc_kx nin0)).keep K47q (ninS ne_cc_kx nin0)).keep K50q (ninS ne_cc_kx nin0))
  obtain ⟨cq53, kq53, q53a, q53b, q53c⟩ := isOf hZ rfl Exa_kx_51
  obtain ⟨_, _, ⟨T53, L53, k53, n53⟩, -, X53, ⟨Lc53, hQ53, l53, y53, z53⟩, st53⟩ := X50.virtualBack hx (y := (⟨"com/example/rankweave/rankweave/io/FieldBytes", "hashCode", "()I"⟩ : MethodName)) (z := (⟨"com/example/rankweave/rankweave/io/FieldBytes", "hashCode", "()I"⟩ : MethodName)) hown (mvT hZ (hw _ (List.mem_of_getElem? (i := 12) rfl))) (mvT hZ (hw _ (List.mem_of_getElem? (i := 13) rfl))) (notFace_of_selects (args := #[]) (mvT hZ (hw _ (List.mem_of_getElem? (i := 15) rfl)))) (mvT hZ (hw _ (List.mem_of_getElem? (i := 15) rfl))) (mvT hZ (hw _ (List.mem_of_getElem? (i := 14) rfl))) (by decide) (backOf (W := 0) (rm3 l Z a0 hw [] kx cc f2 t2 (.int (own_hash [a_0, a_1, a_2, a_3, a_4, a_5] f1.toNatClampNeg t1.toNatClampNeg)) k14 (6 : Int32) [c_0, c_1, c_2, c_3, c_4, c_5] (.int (0 : Int32)) T50.heap n0 Z50 Exa_kx_51 g_kx Fa50 Fb50 Fc50 Fd50 Fe50 Arv_cc_52 rfl f2B.1 mt2.2.1 (by have q6 : (6 : Int32).toInt = 6 := rfl; have := mt2.2.2; omega)) hZ (hw _ (List.mem_of_getElem? (i := 16) rfl)) (hw _ (List.mem_of_getElem? (i := 3) rfl)) (by decide) (by decide)) q53a q53c (g := (mkF m 258 #[.val (.int p0), .val (.int p1), .val (.int p2), .val (.int p3), .val (.ref aa), .val (.int xx), .val (.int yy), .val (.ref cc), .val (.int f1), .val (.int t1), .val (.int f2), .val (.int t2), .val (.ref kx), .val (.int (0 : Int32)), .val (.int (own_hash [a_0, a_1, a_2, a_3, a_4, a_5] f1.toNatClampNeg t1.toNatClampNeg)), .val (.int (own_hash [a_0, a_1, a_2, a_3, a_4, a_5] f1.toNatClampNeg t1.toNatClampNeg)), .unset] [(.ref kx)])) rfl (by rw [hml]; rfl) (Steps.refl _) (argsL := []) (rest := []) (lenOf own_pd3 rfl) rfl (by show 2 * 0 + _ ≤ _; exact Nat.le_of_eq rfl) (hb hby at_258) (fun _ _ => ⟨rfl, rfl, (by decide : 4 + 0 ≤ _), (by decide : 17 + 0 ≤ _)⟩)
  dsimp only [Pt.U, Pt.locs, Pt.cells, Pt.slots] at X53 l53 y53 z53 st53 hQ53
  subst l53 y53 z53
  obtain ⟨rfl, N53q, K53q, Fa53, Fb53, Fc53, Fd53, Fe53⟩ := hQ53
  have N53 := Fr.app N50 N53q
  have Z53 : n0 ≤ T53.heap.size := Nat.le_trans Z50 K53q.1
  refine GoesW.step (fun _ k => st53.trans k) ?_
  show GoesW p.tables e below s (Q0 Z p0 p1 p2 p3 h0 n0) room_1.cells room_1.slots (T53.setTop (mkF m 261 #[.val (.int p0), .val (.int p1), .val (.int p2), .val (.int p3), .val (.ref aa), .val (.int xx), .val (.int yy), .val (.ref cc), .val (.int f1), .val (.int t1), .val (.int f2), .val (.int t2), .val (.ref kx), .val (.int (0 : Int32)), .val (.int (own_hash [a_0, a_1, a_2, a_3, a_4, a_5] f1.toNatClampNeg t1.toNatClampNeg)), .val (.int (own_hash [a_0, a_1, a_2, a_3, a_4, a_5] f1.toNatClampNeg t1.toNatClampNeg)), .unset] [(.int (own_hash [c_0, c_1, c_2, c_3, c_4, c_5] f2.toNatClampNeg t2.toNatClampNeg))]))
  refine GoesW.step (fun _ k => XS.istore X53.here hx rfl (hb hby at_261) rfl (l' := #[.val (.int p0), .val (.int p1), .val (.int p2), .val (.int p3), .val (.ref aa), .val (.int xx), .val (.int yy), .val (.ref cc), .val (.int f1), .val (.int t1), .val (.int f2), .val (.int t2), .val (.ref kx), .val (.int (0 : Int32)), .val (.int (own_hash [a_0, a_1, a_2, a_3, a_4, a_5] f1.toNatClampNeg t1.toNatClampNeg)), .val (.int (own_hash [a_0, a_1, a_2, a_3, a_4, a_5] f1.toNatClampNeg t1.toNatClampNeg)), .val (.int (own_hash [c_0, c_1, c_2, c_3, c_4, c_5] f2.toNatClampNeg t2.toNatClampNeg))]) rfl k) ?_
  show GoesW p.tables e below s (Q0 Z p0 p1 p2 p3 h0 n0) room_1.cells room_1.slots (T53.setTop (mkF m 263 #[.val (.int p0), .val (.int p1), .val (.int p2), .val (.int p3), .val (.ref aa), .val (.int xx), .val (.int yy), .val (.ref cc), .val (.int f1), .val (.int t1), .val (.int f2), .val (.int t2), .val (.ref kx), .val (.int (0 : Int32)), .val (.int (own_hash [a_0, a_1, a_2, a_3, a_4, a_5] f1.toNatClampNeg t1.toNatClampNeg)), .val (.int (own_hash [a_0, a_1, a_2, a_3, a_4, a_5] f1.toNatClampNeg t1.toNatClampNeg)), .val (.int (own_hash [c_0, c_1, c_2, c_3, c_4, c_5] f2.toNatClampNeg t2.toNatClampNeg))] []))
  refine GoesW.step (fun _ k => XS.iload X53.here hx rfl (hb hby at_263) rfl k) ?_
  show GoesW p.tables e below s (Q0 Z p0 p1 p2 p3 h0 n0) room_1.cells room_1.slots (T53.setTop (mkF m 265 #[.val (.int p0), .val (.int p1), .val (.int p2), .val (.int p3), .val (.ref aa), .val (.int xx), .val (.int yy), .val (.ref cc), .val (.int f1), .val (.int t1), .val (.int f2), .val (.int t2), .val (.ref kx), .val (.int (0 : Int32)), .val (.int (own_hash [a_0, a_1, a_2, a_3, a_4, a_5] f1.toNatClampNeg t1.toNatClampNeg)), .val (.int (own_hash [a_0, a_1, a_2, a_3, a_4, a_5] f1.toNatClampNeg t1.toNatClampNeg)), .val (.int (own_hash [c_0, c_1, c_2, c_3, c_4, c_5] f2.toNatClampNeg t2.toNatClampNeg))] [(.int (0 : Int32))]))
  refine GoesW.step (fun _ k => XS.ifNo X53.here hx rfl (hb hby at_265) rfl ((if0 _ _).trans (teq (rfl : (0 : Int32) = (0 : Int32))).2) k) ?_
  show GoesW p.tables e below s (Q0 Z p0 p1 p2 p3 h0 n0) room_1.cells room_1.slots (T53.setTop (mkF m 268 #[.val (.int p0), .val (.int p1), .val (.int p2), .val (.int p3), .val (.ref aa), .val (.int xx), .val (.int yy), .val (.ref cc), .val (.int f1), .val (.int t1), .val (.int f2), .val (.int t2), .val (.ref kx), .val (.int (0 : Int32)), .val (.int (own_hash [a_0, a_1, a_2, a_3, a_4, a_5] f1.toNatClampNeg t1.toNatClampNeg)), .val (.int (own_hash [a_0, a_1, a_2, a_3, a_4, a_5] f1.toNatClampNeg t1.toNatClampNeg)), .val (.int (own_hash [c_0, c_1, c_2, c_3, c_4, c_5] f2.toNatClampNeg t2.toNatClampNeg))] []))
  refine GoesW.step (fun _ k => XS.iload X53.here hx rfl (hb hby at_268) rfl k) ?_
  show GoesW p.tables e below s (Q0 Z p0 p1 p2 p3 h0 n0) room_1.cells room_1.slots (T53.setTop (mkF m 270 #[.val (.int p0), .val (.int p1), .val (.int p2), .val (.int p3), .val (.ref aa), .val (.int xx), .val (.int yy), .val (.ref cc), .val (.int f1), .val (.int t1), .val (.int f2), .val (.int t2), .val (.ref kx), .val (.int (0 : Int32)), .val (.int (own_hash [a_0, a_1, a_2, a_3, a_4, a_5] f1.toNatClampNeg t1.toNatClampNeg)), .val (.int (own_hash [a_0, a_1, a_2, a_3, a_4, a_5] f1.toNatClampNeg t1.toNatClampNeg)), .val (.int (own_hash [c_0, c_1, c_2, c_3, c_4, c_5] f2.toNatClampNeg t2.toNatClampNeg))] [(.int (own_hash [a_0, a_1, a_2, a_3, a_4, a_5] f1.toNatClampNeg t1.toNatClampNeg))]))
  refine GoesW.step (fun _ k => XS.aload X53.here hx rfl (hb hby at_270) rfl rfl k) ?_
  show GoesW p.tables e below s (Q0 Z p0 p1 p2 p3 h0 n0) room_1.cells room_1.slots (T53.setTop (mkF m 272 #[.val (.int p0), .val (.int p1), .val (.int p2), .val (.int p3), .val (.ref aa), .val (.int xx), .val (.int yy), .val (.ref cc), .val (.int f1), .val (.int t1), .val (.int f2), .val (.int t2), .val (.ref kx), .val (.int (0 : Int32)), .val (.int (own_hash [a_0, a_1, a_2, a_3, a_4, a_5] f1.toNatClampNeg t1.toNatClampNeg)), .val (.int (own_hash [a_0, a_1, a_2, a_3, a_4, a_5] f1.toNatClampNeg t1.toNatClampNeg)), .val (.int (own_hash [c_0, c_1, c_2, c_3, c_4, c_5] f2.toNatClampNeg t2.toNatClampNeg))] [(.ref aa), (.int (own_hash [a_0, a_1, a_2, a_3, a_4, a_5] f1.toNatClampNeg t1.toNatClampNeg))]))
  refine GoesW.step (fun _ k => XS.iload X53.here hx rfl (hb hby at_272) rfl k) ?_
  show GoesW p.tables e below s (Q0 Z p0 p1 p2 p3 h0 n0) room_1.cells room_1.slots (T53.setTop (mkF m 274 #[.val (.int p0), .val (.int p1), .val (.int p2), .val (.int p3), .val (.ref aa), .val (.int xx), .val (.int yy), .val (.ref cc), .val (.int f1), .val (.int t1), .val (.int f2), .val (.int t2), .val (.ref kx), .val (.int (0 : Int32)), .val (.int (own_hash [a_0, a_1, a_2, a_3, a_4, a_5] f1.toNatClampNeg t1.toNatClampNeg)), .val (.int (own_hash [a_0, a_1, a_2, a_3, a_4, a_5] f1.toNatClampNeg t1.toNatClampNeg)), .val (.int (own_hash [c_0, c_1, c_2, c_3, c_4, c_5] f2.toNatClampNeg t2.toNatClampNeg))] [(.int f1), (.ref aa), (.int (own_hash [a_0, a_1, a_2, a_3, a_4, a_5] f1.toNatClampNeg t1.toNatClampNeg))]))
  refine GoesW.step (fun _ k => XS.iload X53.here hx rfl (hb hby at_274) rfl k) ?_
  show GoesW p.tables e below s (Q0 Z p0 p1 p2 p3 h0 n0) room_1.cells room_1.slots (T53.setTop (mkF m 276 #[.val (.int p0), .val (.int p1), .val (.int p2), .val (.int p3), .val (.ref aa), .val (.int xx), .val (.int yy), .val (.ref cc), .val (.int f1), .val (.int t1), .val (.int f2), .val (.int t2), .val (.ref kx), .val (.int (0 : Int32)), .val (.int (own_hash [a_0, a_1, a_2, a_3, a_4, a_5] f1.toNatClampNeg t1.toNatClampNeg)), .val (.int (own_hash [a_0, a_1, a_2, a_3, a_4, a_5] f1.toNatClampNeg t1.toNatClampNeg)), .val (.int (own_hash [c_0, c_1, c_2, c_3, c_4, c_5] f2.toNatClampNeg t2.toNatClampNeg))] [(.int t1), (.int f1), (.ref aa), (.int (own_hash [a_0, a_1, a_2, a_3, a_4, a_5] f1.toNatClampNeg t1.toNatClampNeg))]))
  have Arv_aa_54 := (((Arv_aa_46.keep K47q (ninS ne_aa_kx nin0)).keep K50q (ninS ne_aa_kx nin0)).keep K53q (ninS ne_aa_kx nin0))
  obtain ⟨_, _, ⟨T55, L55, k55, n55⟩, -, X55, ⟨Lc55, hQ55, l55, y55, z55⟩, st55⟩ := Jvm.LawKit.callS X53 hx (y := (⟨"com/example/rankweave/rankweave/io/FieldBytesHashCodePinLaw", "ref", "([BII)I"⟩ : MethodName)) hown (mvT hZ (hw _ (List.mem_of_getElem? (i := 30) rfl))) (mvT hZ (hw _ (List.mem_of_getElem? (i := 31) rfl))) (mvT hZ (hw _ (List.mem_of_getElem? (i := 32) rfl))) (mvT hZ (hw _ (List.mem_of_getElem? (i := 33) rfl))) (by decide) (backOf (W := 1) (rm5 l Z a0 hw [] aa f1 t1 k1 (.int (0 : Int32)) a_0 a_1 a_2 a_3 a_4 a_5 T53.heap n0 Z53 Arv_aa_54) hZ (hw _ (List.mem_of_getElem? (i := 33) rfl)) (hw _ (List.mem_of_getElem? (i := 32) rfl)) (by decide) (by decide)) (g := (mkF m 276 #[.val (.int p0), .val (.int p1), .val (.int p2), .val (.int p3), .val (.ref aa), .val (.int xx), .val (.int yy), .val (.ref cc), .val (.int f1), .val (.int t1), .val (.int f2), .val (.int t2), .val (.ref kx), .val (.int (0 : Int32)), .val (.int (own_hash [a_0, a_1, a_2, a_3, a_4, a_5] f1.toNatClampNeg t1.toNatClampNeg)), .val (.int (own_hash [a_0, a_1, a_2, a_3, a_4, a_5] f1.toNatClampNeg t1.toNatClampNeg)), .val (.int (own_hash [c_0, c_1, c_2, c_3, c_4, c_5] f2.toNatClampNeg t2.toNatClampNeg))] [(.int t1), (.int f1), (.ref aa), (.int (own_hash [a_0, a_1, a_2, a_3, a_4, a_5] f1.toNatClampNeg t1.toNatClampNeg))])) rfl (by rw [hml]; rfl) (argsL := [(.ref aa), (.int f1), (.int t1)]) (rest := [(.int (own_hash [a_0, a_1, a_2, a_3, a_4, a_5] f1.toNatClampNeg t1.toNatClampNeg))]) (lenOf own_pd5 rfl) rfl (by show 2 * 0 + _ ≤ _; exact Nat.le_of_eq rfl) (hb hby at_276) (fun _ _ => ⟨rfl, rfl, (by decide : 4 + 0 ≤ _), (by decide : 17 + 0 ≤ _)⟩)
  dsimp only [Pt.U, Pt.locs, Pt.cells, Pt.slots] at X55 l55 y55 z55 st55 hQ55
  subst l55 y55 z55
  obtain ⟨rfl, N55q, eq55⟩ := hQ55
  have N55 := Fr.app N53 N55q
  refine GoesW.step st55 ?_
  show GoesW p.tables e below s (Q0 Z p0 p1 p2 p3 h0 n0) room_1.cells room_1.slots (T55.setTop (mkF m 279 #[.val (.int p0), .val (.int p1), .val (.int p2), .val (.int p3), .val (.ref aa), .val (.int xx), .val (.int yy), .val (.ref cc), .val (.int f1), .val (.int t1), .val (.int f2), .val (.int t2), .val (.ref kx), .val (.int (0 : Int32)), .val (.int (own_hash [a_0, a_1, a_2, a_3, a_4, a_5] f1.toNatClampNeg t1.toNatClampNeg)), .val (.int (own_hash [a_0, a_1, a_2, a_3, a_4, a_5] f1.toNatClampNeg t1.toNatClampNeg)), .val (.int (own_hash [c_0, c_1, c_2, c_3, c_4, c_5] f2.toNatClampNeg t2.toNatClampNeg))] [(.int (own_ref a_0 a_1 a_2 a_3 a_4 a_5 f1 t1)), (.int (own_hash [a_0, a_1, a_2, a_3, a_4, a_5] f1.toNatClampNeg t1.toNatClampNeg))]))
  refine GoesW.step (fun _ k => XS.icmpNo X55.here hx rfl (hb hby at_279) rfl (teq (own_eq a_0 a_1 a_2 a_3 a_4 a_5 f1 t1 f1B.1 mt1.2.1 mt1.2.2)).2 k) ?_
  show GoesW p.tables e below s (Q0 Z p0 p1 p2 p3 h0 n0) room_1.cells room_1.slots (T55.setTop (mkF m 282 #[.val (.int p0), .val (.int p1), .val (.int p2), .val (.int p3), .val (.ref aa), .val (.int xx), .val (.int yy), .val (.ref cc), .val (.int f1), .val (.int t1), .val (.int f2), .val (.int t2), .val (.ref kx), .val (.int (0 : Int32)), .val (.int (own_hash [a_0, a_1, a_2, a_3, a_4, a_5] f1.toNatClampNeg t1.toNatClampNeg)), .val (.int (own_hash [a_0, a_1, a_2, a_3, a_4, a_5] f1.toNatClampNeg t1.toNatClampNeg)), .val (.int (own_hash [c_0, c_1, c_2, c_3, c_4, c_5] f2.toNatClampNeg t2.toNatClampNeg))] []))
  refine GoesW.step (fun _ k => XS.iload X55.here hx rfl (hb hby at_282) rfl k) ?_
  show GoesW p.tables e below s (Q0 Z p0 p1 p2 p3 h0 n0) room_1.cells room_1.slots (T55.setTop (mkF m 284 #[.val (.int p0), .val (.int p1), .val (.int p2), .val (.int p3), .val (.ref aa), .val (.int xx), .val (.int yy), .val (.ref cc), .val (.int f1), .val (.int t1), .val (.int f2), .val (.int t2), .val (.ref kx), .val (.int (0 : Int32)), .val (.int (own_hash [a_0, a_1, a_2, a_3, a_4, a_5] f1.toNatClampNeg t1.toNatClampNeg)), .val (.int (own_hash [a_0, a_1, a_2, a_3, a_4, a_5] f1.toNatClampNeg t1.toNatClampNeg)), .val (.int (own_hash [c_0, c_1, c_2, c_3, c_4, c_5] f2.toNatClampNeg t2.toNatClampNeg))] [(.int (own_hash [a_0, a_1, a_2, a_3, a_4, a_5] f1.toNatClampNeg t1.toNatClampNeg))]))
  refine GoesW.step (fun _ k => XS.iload X55.here hx rfl (hb hby at_284) rfl k) ?_
  show GoesW p.tables e below s (Q0 Z p0 p1 p2 p3 h0 n0) room_1.cells room_1.slots (T55.setTop (mkF m 286 #[.val (.int p0), .val (.int p1), .val (.int p2), .val (.int p3), .val (.ref aa), .val (.int xx), .val (.int yy), .val (.ref cc), .val (.int f1), .val (.int t1), .val (.int f2), .val (.int t2), .val (.ref kx), .val (.int (0 : Int32)), .val (.int (own_hash [a_0, a_1, a_2, a_3, a_4, a_5] f1.toNatClampNeg t1.toNatClampNeg)), .val (.int (own_hash [a_0, a_1, a_2, a_3, a_4, a_5] f1.toNatClampNeg t1.toNatClampNeg)), .val (.int (own_hash [c_0, c_1, c_2, c_3, c_4, c_5] f2.toNatClampNeg t2.toNatClampNeg))] [(.int (own_hash [a_0, a_1, a_2, a_3, a_4, a_5] f1.toNatClampNeg t1.toNatClampNeg)), (.int (own_hash [a_0, a_1, a_2, a_3, a_4, a_5] f1.toNatClampNeg t1.toNatClampNeg))]))
  refine GoesW.step (fun _ k => XS.icmpNo X55.here hx rfl (hb hby at_286) rfl (teq (rfl : (own_hash [a_0, a_1, a_2, a_3, a_4, a_5] f1.toNatClampNeg t1.toNatClampNeg) = (own_hash [a_0, a_1, a_2, a_3, a_4, a_5] f1.toNatClampNeg t1.toNatClampNeg))).2 k) ?_
  show GoesW p.tables e below s (Q0 Z p0 p1 p2 p3 h0 n0) room_1.cells room_1.slots (T55.setTop (mkF m 289 #[.val (.int p0), .val (.int p1), .val (.int p2), .val (.int p3), .val (.ref aa), .val (.int xx), .val (.int yy), .val (.ref cc), .val (.int f1), .val (.int t1), .val (.int f2), .val (.int t2), .val (.ref kx), .val (.int (0 : Int32)), .val (.int (own_hash [a_0, a_1, a_2, a_3, a_4, a_5] f1.toNatClampNeg t1.toNatClampNeg)), .val (.int (own_hash [a_0, a_1, a_2, a_3, a_4, a_5] f1.toNatClampNeg t1.toNatClampNeg)), .val (.int (own_hash [c_0, c_1, c_2, c_3, c_4, c_5] f2.toNatClampNeg t2.toNatClampNeg))] []))
  refine GoesW.step (fun _ k => XS.iload X55.here hx rfl (hb hby at_289) rfl k) ?_
  show GoesW p.tables e below s (Q0 Z p0 p1 p2 p3 h0 n0) room_1.cells room_1.slots (T55.setTop (mkF m 291 #[.val (.int p0), .val (.int p1), .val (.int p2), .val (.int p3), .val (.ref aa), .val (.int xx), .val (.int yy), .val (.ref cc), .val (.int f1), .val (.int t1), .val (.int f2), .val (.int t2), .val (.ref kx), .val (.int (0 : Int32)), .val (.int (own_hash [a_0, a_1, a_2, a_3, a_4, a_5] f1.toNatClampNeg t1.toNatClampNeg)), .val (.int (own_hash [a_0, a_1, a_2, a_3, a_4, a_5] f1.toNatClampNeg t1.toNatClampNeg)), .val (.int (own_hash [c_0, c_1, c_2, c_3, c_4, c_5] f2.toNatClampNeg t2.toNatClampNeg))] [(.int (own_hash [c_0, c_1, c_2, c_3, c_4, c_5] f2.toNatClampNeg t2.toNatClampNeg))]))
  refine GoesW.step (fun _ k => XS.aload X55.here hx rfl (hb hby at_291) rfl rfl k) ?_
  show GoesW p.tables e below s (Q0 Z p0 p1 p2 p3 h0 n0) room_1.cells room_1.slots (T55.setTop (mkF m 293 #[.val (.int p0), .val (.int p1), .val (.int p2), .val (.int p3), .val (.ref aa), .val (.int xx), .val (.int yy), .val (.ref cc), .val (.int f1), .val (.int t1), .val (.int f2), .val (.int t2), .val (.ref kx), .val (.int (0 : Int32)), .val (.int (own_hash [a_0, a_1, a_2, a_3, a_4, a_5] f1.toNatClampNeg t1.toNatClampNeg)), .val (.int (own_hash [a_0, a_1, a_2, a_3, a_4, a_5] f1.toNatClampNeg t1.toNatClampNeg)), .val (.int (own_hash [c_0, c_1, c_2, c_3, c_4, c_5] f2.toNatClampNeg t2.toNatClampNeg))] [(.ref cc), (.int (own_hash [c_0, c_1, c_2, c_3, c_4, c_5] f2.toNatClampNeg t2.toNatClampNeg))]))
  refine GoesW.step (fun _ k => XS.iload X55.here hx rfl (hb hby at_293) rfl k) ?_
  show GoesW p.tables e below s (Q0 Z p0 p1 p2 p3 h0 n0) room_1.cells room_1.slots (T55.setTop (mkF m 295 #[.val (.int p0), .val (.int p1), .val (.int p2), .val (.int p3), .val (.ref aa), .val (.int xx), .val (.int yy), .val (.ref cc), .val (.int f1), .val (.int t1), .val (.int f2), .val (.int t2), .val (.ref kx), .val (.int (0 : Int32)), .val (.int (own_hash [a_0, a_1, a_2, a_3, a_4, a_5] f1.toNatClampNeg t1.toNatClampNeg)), .val (.int (own_hash [a_0, a_1, a_2, a_3, a_4, a_5] f1.toNatClampNeg t1.toNatClampNeg)), .val (.int (own_hash [c_0, c_1, c_2, c_3, c_4, c_5] f2.toNatClampNeg t2.toNatClampNeg))] [(.int f2), (.ref cc), (.int (own_hash [c_0, c_1, c_2, c_3, c_4, c_5] f2.toNatClampNeg t2.toNatClampNeg))]))
  refine GoesW.step (fun _ k => XS.iload X55.here hx rfl (hb hby at_295) rfl k) ?_
  show GoesW p.tables e below s (Q0 Z p0 p1 p2 p3 h0 n0) room_1.cells room_1.slots (T55.setTop (mkF m 297 #[.val (.int p0), .val (.int p1), .val (.int p2), .val (.int p3), .val (.ref aa), .val (.int xx), .val (.int yy), .val (.ref cc), .val (.int f1), .val (.int t1), .val (.int f2), .val (.int t2), .val (.ref kx), .val (.int (0 : Int32)), .val (.int (own_hash [a_0, a_1, a_2, a_3, a_4, a_5] f1.toNatClampNeg t1.toNatClampNeg)), .val (.int (own_hash [a_0, a_1, a_2, a_3, a_4, a_5] f1.toNatClampNeg t1.toNatClampNeg)), .val (.int (own_hash [c_0, c_1, c_2, c_3, c_4, c_5] f2.toNatClampNeg t2.toNatClampNeg))] [(.int t2), (.int f2), (.ref cc), (.int (own_hash [c_0, c_1, c_2, c_3, c_4, c_5] f2.toNatClampNeg t2.toNatClampNeg))]))
  have Arv_cc_56 := (Arv_cc_52.keep K53q (ninS ne_cc_kx nin0))
  obtain ⟨_, _, ⟨T57, L57, k57, n57⟩, -, X57, ⟨Lc57, hQ57, l57, y57, z57⟩, st57⟩ := Jvm.LawKit.callS X55 hx (y := (⟨"com/example/rankweave/rankweave/io/FieldBytesHashCodePinLaw", "ref", "([BII)I"⟩ : MethodName)) hown (mvT hZ (hw _ (List.mem_of_getElem? (i := 30) rfl))) (mvT hZ (hw _ (List.mem_of_getElem? (i := 31) rfl))) (mvT hZ (hw _ (List.mem_of_getElem? (i := 32) rfl))) (mvT hZ (hw _ (List.mem_of_getElem? (i := 33) rfl))) (by decide) (backOf (W := 1) (rm5 l Z a0 hw [] cc f2 t2 k14 (.int (0 : Int32)) c_0 c_1 c_2 c_3 c_4 c_5 T53.heap n0 Z53 Arv_cc_56) hZ (hw _ (List.mem_of_getElem? (i := 33) rfl)) (hw _ (List.mem_of_getElem? (i := 32) rfl)) (by decide) (by decide)) (g := (mkF m 297 #[.val (.int p0), .val (.int p1), .val (.int p2), .val (.int p3), .val (.ref aa), .val (.int xx), .val (.int yy), .val (.ref cc), .val (.int f1), .val (.int t1), .val (.int f2), .val (.int t2), .val (.ref kx), .val (.int (0 : Int32)), .val (.int (own_hash [a_0, a_1, a_2, a_3, a_4, a_5] f1.toNatClampNeg t1.toNatClampNeg)), .val (.int (own_hash [a_0, a_1, a_2, a_3, a_4, a_5] f1.toNatClampNeg t1.toNatClampNeg)), .val (.int (own_hash [c_0, c_1, c_2, c_3, c_4, c_5] f2.toNatClampNeg t2.toNatClampNeg))] [(.int t2), (.int f2), (.ref cc), (.int (own_hash [c_0, c_1, c_2, c_3, c_4, c_5] f2.toNatClampNeg t2.toNatClampNeg))])) rfl (by rw [hml]; rfl) (argsL := [(.ref cc), (.int f2), (.int t2)]) (rest := [(.int (own_hash [c_0, c_1, c_2, c_3, c_4, c_5] f2.toNatClampNeg t2.toNatClampNeg))]) (lenOf own_pd5 rfl) rfl (by show 2 * 0 + _ ≤ _; exact Nat.le_of_eq rfl) (hb hby at_297) (fun _ _ => ⟨rfl, eq55, (by decide : 4 + 0 ≤ _), (by decide : 17 + 0 ≤ _)⟩)
  dsimp only [Pt.U, Pt.locs, Pt.cells, Pt.slots] at X57 l57 y57 z57 st57 hQ57
  subst l57 y57 z57
  obtain ⟨rfl, N57q, eq57⟩ := hQ57
  have N57 := Fr.app N55 N57q
  refine GoesW.step st57 ?_
  show GoesW p.tables e below s (Q0 Z p0 p1 p2 p3 h0 n0) room_1.cells room_1.slots (T57.setTop (mkF m 300 #[.val (.int p0), .val (.int p1), .val (.int p2), .val (.int p3), .val (.ref aa), .val (.int xx), .val (.int yy), .val (.ref cc), .val (.int f1), .val (.int t1), .val (.int f2), .val (.int t2), .val (.ref kx), .val (.int (0 : Int32)), .val (.int (own_hash [a_0, a_1, a_2, a_3, a_4, a_5] f1.toNatClampNeg t1.toNatClampNeg)), .val (.int (own_hash [a_0, a_1, a_2, a_3, a_4, a_5] f1.toNatClampNeg t1.toNatClampNeg)), .val (.int (own_hash [c_0, c_1, c_2, c_3, c_4, c_5] f2.toNatClampNeg t2.toNatClampNeg))] [(.int (own_ref c_0 c_1 c_2 c_3 c_4 c_5 f2 t2)), (.int (own_hash [c_0, c_1, c_2, c_3, c_4, c_5] f2.toNatClampNeg t2.toNatClampNeg))]))
  refine GoesW.step (fun _ k => XS.icmpNo X57.here hx rfl (hb hby at_300) rfl (teq (own_eq c_0 c_1 c_2 c_3 c_4 c_5 f2 t2 f2B.1 mt2.2.1 mt2.2.2)).2 k) ?_
  show GoesW p.tables e below s (Q0 Z p0 p1 p2 p3 h0 n0) room_1.cells room_1.slots (T57.setTop (mkF m 303 #[.val (.int p0), .val (.int p1), .val (.int p2), .val (.int p3), .val (.ref aa), .val (.int xx), .val (.int yy), .val (.ref cc), .val (.int f1), .val (.int t1), .val (.int f2), .val (.int t2), .val (.ref kx), .val (.int (0 : Int32)), .val (.int (own_hash [a_0, a_1, a_2, a_3, a_4, a_5] f1.toNatClampNeg t1.toNatClampNeg)), .val (.int (own_hash [a_0, a_1, a_2, a_3, a_4, a_5] f1.toNatClampNeg t1.toNatClampNeg)), .val (.int (own_hash [c_0, c_1, c_2, c_3, c_4, c_5] f2.toNatClampNeg t2.toNatClampNeg))] []))
  refine GoesW.step (fun _ k => XS.iconst X57.here hx rfl (hb hby at_303) k) ?_
  show GoesW p.tables e below s (Q0 Z p0 p1 p2 p3 h0 n0) room_1.cells room_1.slots (T57.setTop (mkF m 304 #[.val (.int p0), .val (.int p1), .val (.int p2), .val (.int p3), .val (.ref aa), .val (.int xx), .val (.int yy), .val (.ref cc), .val (.int f1), .val (.int t1), .val (.int f2), .val (.int t2), .val (.ref kx), .val (.int (0 : Int32)), .val (.int (own_hash [a_0, a_1, a_2, a_3, a_4, a_5] f1.toNatClampNeg t1.toNatClampNeg)), .val (.int (own_hash [a_0, a_1, a_2, a_3, a_4, a_5] f1.toNatClampNeg t1.toNatClampNeg)), .val (.int (own_hash [c_0, c_1, c_2, c_3, c_4, c_5] f2.toNatClampNeg t2.toNatClampNeg))] [(.int (1 : Int32))]))
  refine GoesW.step (fun _ k => XS.goto X57.here hx rfl (pc0 := 304) (pc' := 308) rfl (hb hby at_304) (by decide) (by decide) k) ?_
  show GoesW p.tables e below s (Q0 Z p0 p1 p2 p3 h0 n0) room_1.cells room_1.slots (T57.setTop (mkF m 308 #[.val (.int p0), .val (.int p1), .val (.int p2), .val (.int p3), .val (.ref aa), .val (.int xx), .val (.int yy), .val (.ref cc), .val (.int f1), .val (.int t1), .val (.int f2), .val (.int t2), .val (.ref kx), .val (.int (0 : Int32)), .val (.int (own_hash [a_0, a_1, a_2, a_3, a_4, a_5] f1.toNatClampNeg t1.toNatClampNeg)), .val (.int (own_hash [a_0, a_1, a_2, a_3, a_4, a_5] f1.toNatClampNeg t1.toNatClampNeg)), .val (.int (own_hash [c_0, c_1, c_2, c_3, c_4, c_5] f2.toNatClampNeg t2.toNatClampNeg))] [(.int (1 : Int32))]))
  exact GoesW.retZ X57 hx hlk (t := .boolean) Bd.returns (by simp) rfl (hb hby at_308) (by show Q0 Z p0 p1 p2 p3 h0 n0 _ T57.heap _; rw [eq57]; exact ⟨rfl, N57⟩) (by decide) (by decide)
set_option maxRecDepth 65536 in
set_option maxHeartbeats 40000000 in
theorem comes_1 {Post : Tables → Env → Array Value → State → Outcome → State → Prop} (hpost : ∀ tb e args s v u, (limb_1_1.after args s (.returned v) u = true ∧ limb_1_2.after args s (.returned v) u = true ∧ True) → FrameEnd s (.returned v) u (Jvm.fieldLocs frame_1_writes args s ++ Jvm.arrayLocs frame_1_arrays args s ++ Jvm.staticLocs frame_1_statics s) 16 128 → Post tb e args s (.returned v) u) :
    ArmFor flags0 classFile x code maxLocals ret World_1 tables_1 room_1 Calls_1 rest_1 Pre_1 Post := by
  intro l hfl _ _ p e ha hc hk s m args below hf hA hF happ hP
  obtain ⟨hcalls, hrest, hpre⟩ := hP
  obtain ⟨-, -, -, hnamed, -, -, -, hat⟩ := (Spec.applies_iff hf).mp happ
  obtain ⟨hg, hn⟩ := and_e (Cond.before_iff.mp (show (Jvm.Cond.and given_1 narrow_1).before args s = true from hpre))
  obtain ⟨gc, gr0⟩ := and_e hg
  obtain ⟨w0, w1, w2, w3, rfl⟩ : ∃ w0 w1 w2 w3 : Value, args = #[w0, w1, w2, w3] := by
    have hs : args.size = 4 := by simpa [Cond.value, given_1] using gc
    obtain ⟨L⟩ := args
    match L, hs with
    | [w0, w1, w2, w3], _ => exact ⟨w0, w1, w2, w3, rfl⟩
  have hw := fun d (hd : d ∈ tables_1) => atoms_spec (ws := Jvm.Cond.code x code maxLocals ret :: tables_1) hat d (List.mem_cons_of_mem _ hd)
  have hfit : Fit s := fun {y c} hc i hi => by
    obtain ⟨ha, rfl⟩ := Array.getElem?_eq_some_iff.mp hc
    have q := List.all_eq_true.mp ((Array.all_eq_true_iff_forall_mem.mp hF) _ (Array.getElem_mem ha)) i (List.mem_range.mpr hi)
    simpa [Array.getElem?_eq_getElem hi] using q
  obtain ⟨ga0, gr1⟩ := and_e gr0
  obtain ⟨i0, ei0⟩ := is_v ga0
  obtain rfl : w0 = (.int i0) := Option.some.inj ei0
  obtain ⟨ga1, gr2⟩ := and_e gr1
  obtain ⟨i1, ei1⟩ := is_v ga1
  obtain rfl : w1 = (.int i1) := Option.some.inj ei1
  obtain ⟨ga2, gr3⟩ := and_e gr2
  obtain ⟨i2, ei2⟩ := is_v ga2
  obtain rfl : w2 = (.int i2) := Option.some.inj ei2
  obtain ⟨i3, ei3⟩ := is_v gr3
  obtain rfl : w3 = (.int i3) := Option.some.inj ei3
  obtain ⟨n, o, h1, h2, h3, _, L, rfl, ⟨rfl, N⟩, hq⟩ := rm0 l s _ hw tables_1 i0 i1 i2 i3 s.heap s.heap.size (Nat.le_refl _) p e ha hc hk s m _ below hf ((Spec.applies_iff_loose hf).mp happ).1 ⟨rfl, State.Warmed39.refl s, rfl⟩ trivial
  refine ⟨n, _, h1, h2, h3, hpost _ _ _ _ _ _ ⟨Cond.after_iff.mpr rfl, Cond.after_iff.mpr (eq_i res_at (Term.int_eval (1)) rfl), trivial⟩ ⟨hq.1, hq.2.1, (hq.2.2.sift fun y hy => Or.inr (N y hy)).mono (by decide) (by decide)⟩⟩
theorem main_1_1 : Claimed_1_1 := comes_1 fun _ _ _ _ _ _ h hF => ⟨h.1, hF⟩
theorem main_1_2 : Claimed_1_2 := comes_1 fun _ _ _ _ _ _ h hF => ⟨h.2.1, hF⟩
end Jvm.Pilot.@@N@@
namespace Jvm.Pilot.@@N@@
open Jvm Jvm.ClassFile Sem Op Lib Jvm.Free Jvm.Stand Jvm.Pilot.@@N@@.Jvm.D
/-! MADE BY PROGRAM (witnessworld.py) out of the Statement's table words and the real class files: 10 classes; the members and pool entries that the words name. The judged class is class 1, her method 4. -/
namespace start1
open Jvm.ClassFile
def u (s : String) : CpInfo := .utf8 (stringToUtf16 s)
/-- a pool by its gaps: so many unusable entries, then the entry; so many at the end -/
def gap : Nat → List CpInfo → List CpInfo
  | 0, r => r
  | n + 1, r => .unusable :: gap n r
def poolList (es : List (Nat × CpInfo)) (last : Nat) : List CpInfo := es.foldr (fun e r => gap e.1 (e.2 :: r)) (gap last [])
def pool (es : List (Nat × CpInfo)) (last : Nat) : Array CpInfo := ⟨poolList es last⟩
def fileOf (pool : Array CpInfo) (this : Nat) (attrs : Array Attribute := #[]) (ms : Array MethodInfo := #[]) (fl : Nat := 33) (sup : Nat := 0) (ifs : Array Nat := #[]) (fds : Array FieldInfo := #[]) : ClassFile where
  minorVersion := 0
  majorVersion := 65
  constantPool := pool
  accessFlags := fl
  thisClass := this
  superClass := sup
  interfaces := ifs
  fields := fds
  methods := ms
  attributes := attrs
def plain (name : String) (sup : Option ClassId) : Class where
  name := name
  kind := .ordinary
  loader := none
  accessFlags := 33
  super := sup
  interfaces := #[]
  cf := none
  fields := #[]
  methods := #[]
  instanceTypes := #[]
  staticTypes := #[]
  resolved := #[]
  callSites := []
  init := .initialized
  statics := none
  mirror := none

def pool0 : Array CpInfo := pool [(5, u "<init>"), (0, u "()V"), (1, .class_ 10), (1, u "java/lang/Object")] 113

def k0c0 : Code := { maxStack := 0, maxLocals := 1, code := object_method_1_code, exceptionTable := #[], attributes := #[] }
def k0m0 : Method := { name := "<init>", desc := "()V", sig := { parameters := [], returnType := none }, accessFlags := 1, code := some k0c0 }
/-- java/lang/Object -/
def k0 : Class := { plain "java/lang/Object" none with
  accessFlags := 33
  interfaces := #[]
  cf := some (fileOf pool0 8 #[] #[{ accessFlags := 1, nameIndex := 5, descriptorIndex := 6, attributes := #[] }] 33 0 #[] #[])
  fields := #[]
  methods := #[k0m0]
  instanceTypes := #[]
  staticTypes := #[]
  resolved := Array.replicate 124 none
  statics := none }

def pool1 : Array CpInfo := pool [(2, .class_ 4), (0, .nameAndType 5 6), (0, u "java/lang/Object"), (0, u "<init>"), (0, u "()V"), (0, .integer 923521), (0, .integer 28629151), (0, .methodref 10 11), (0, .class_ 12), (0, .nameAndType 13 14), (0, u "com/example/rankweave/rankweave/io/FieldBytesHashCodePinLaw"), (0, u "pow31"), (0, u "(I)I"), (0, .methodref 10 16), (0, .nameAndType 17 18), (0, u "term"), (0, u "([BIII)I"), (0, .class_ 20), (0, u "com/example/rankweave/rankweave/io/FieldBytes"), (0, .methodref 19 3), (0, .methodref 19 23), (0, .nameAndType 24 25), (0, u "hashCode"), (0, u "()I"), (0, .methodref 19 27), (0, .nameAndType 28 29), (0, u "view"), (0, u "([BII)V"), (0, .methodref 10 31), (0, .nameAndType 32 33), (0, u "ref"), (0, u "([BII)I"), (3, u "law"), (0, u "(IIII)Z")] 4

def k1m0 : Method := { name := "<init>", desc := "()V", sig := { parameters := [], returnType := none }, accessFlags := 1, code := none }
def k1c1 : Code := { maxStack := 2, maxLocals := 1, code := method_2_code, exceptionTable := #[], attributes := #[] }
def k1m1 : Method := { name := "pow31", desc := "(I)I", sig := { parameters := [.int], returnType := some .int }, accessFlags := 10, code := some k1c1 }
def k1c2 : Code := { maxStack := 3, maxLocals := 4, code := method_3_code, exceptionTable := #[], attributes := #[] }
def k1m2 : Method := { name := "term", desc := "([BIII)I", sig := { parameters := [(.array .byte), .int, .int, .int], returnType := some .int }, accessFlags := 10, code := some k1c2 }
def k1c3 : Code := { maxStack := 5, maxLocals := 3, code := method_4_code, exceptionTable := #[], attributes := #[] }
def k1m3 : Method := { name := "ref", desc := "([BII)I", sig := { parameters := [(.array .byte), .int, .int], returnType := some .int }, accessFlags := 10, code := some k1c3 }
def k1c4 : Code := { maxStack := 4, maxLocals := 17, code := code, exceptionTable := #[], attributes := #[] }
def k1m4 : Method := { name := "law", desc := "(IIII)Z", sig := { parameters := [.int, .int, .int, .int], returnType := some .boolean }, accessFlags := 9, code := some k1c4 }
/-- com/example/rankweave/rankweave/io/FieldBytesHashCodePinLaw -/
def k1 : Class := { plain "com/example/rankweave/rankweave/io/FieldBytesHashCodePinLaw" (some 0) with
  accessFlags := 49
  interfaces := #[]
  cf := some (fileOf pool1 10 #[] #[{ accessFlags := 1, nameIndex := 5, descriptorIndex := 6, attributes := #[] }, { accessFlags := 10, nameIndex := 13, descriptorIndex := 14, attributes := #[] }, { accessFlags := 10, nameIndex := 17, descriptorIndex := 18, attributes := #[] }, { accessFlags := 10, nameIndex := 32, descriptorIndex := 33, attributes := #[] }, { accessFlags := 9, nameIndex := 37, descriptorIndex := 38, attributes := #[] }] 49 2 #[] #[])
  fields := #[]
  methods := #[k1m0, k1m1, k1m2, k1m3, k1m4]
  instanceTypes := #[]
  staticTypes := #[]
  resolved := Array.replicate 43 none
  statics := none }

def pool2 : Array CpInfo := pool [(1, .class_ 2), (0, u "java/lang/Comparable"), (0, .class_ 4), (0, u "java/lang/Object")] 7

/-- java/lang/Comparable -/
def k2 : Class := { plain "java/lang/Comparable" (some 0) with
  accessFlags := 1537
  interfaces := #[]
  cf := some (fileOf pool2 1 #[] #[] 1537 3 #[] #[])
  fields := #[]
  methods := #[]
  instanceTypes := #[]
  staticTypes := #[]
  resolved := Array.replicate 12 none
  statics := none }

def pool3 : Array CpInfo := pool [(1, .methodref 2 3), (0, .class_ 4), (0, .nameAndType 5 6), (0, u "java/lang/Object"), (0, u "<init>"), (0, u "()V"), (0, .fieldref 8 9), (0, .class_ 10), (0, .nameAndType 11 12), (0, u "com/example/rankweave/rankweave/io/FieldBytes"), (0, u "bytes"), (0, u "[B"), (2, u "view"), (0, u "([BII)V"), (0, .fieldref 8 18), (0, .nameAndType 19 20), (0, u "from"), (0, u "I"), (0, .fieldref 8 22), (0, .nameAndType 23 20), (0, u "to"), (0, .fieldref 8 25), (0, .nameAndType 26 27), (0, u "hashed"), (0, u "Z"), (9, .fieldref 8 38), (0, .nameAndType 39 20), (0, u "hash"), (8, .class_ 49), (0, u "java/lang/Comparable"), (4, u "hashCode"), (0, u "()I")] 9

def k3c0 : Code := { maxStack := 2, maxLocals := 1, code := prog_45_method_1_code, exceptionTable := #[], attributes := #[] }
def k3m0 : Method := { name := "<init>", desc := "()V", sig := { parameters := [], returnType := none }, accessFlags := 0, code := some k3c0 }
def k3c1 : Code := { maxStack := 2, maxLocals := 4, code := prog_45_method_3_code, exceptionTable := #[], attributes := #[] }
def k3m1 : Method := { name := "view", desc := "([BII)V", sig := { parameters := [(.array .byte), .int, .int], returnType := none }, accessFlags := 0, code := some k3c1 }
def k3c2 : Code := { maxStack := 3, maxLocals := 3, code := prog_45_method_5_code, exceptionTable := #[], attributes := #[] }
def k3m2 : Method := { name := "hashCode", desc := "()I", sig := { parameters := [], returnType := some .int }, accessFlags := 1, code := some k3c2 }
/-- com/example/rankweave/rankweave/io/FieldBytes -/
def k3 : Class := { plain "com/example/rankweave/rankweave/io/FieldBytes" (some 0) with
  accessFlags := 48
  interfaces := #[2]
  cf := some (fileOf pool3 8 #[] #[{ accessFlags := 0, nameIndex := 5, descriptorIndex := 6, attributes := #[] }, { accessFlags := 0, nameIndex := 15, descriptorIndex := 16, attributes := #[] }, { accessFlags := 1, nameIndex := 54, descriptorIndex := 55, attributes := #[] }] 48 2 #[48] #[{ accessFlags := 2, nameIndex := 11, descriptorIndex := 12, attributes := #[] }, { accessFlags := 2, nameIndex := 19, descriptorIndex := 20, attributes := #[] }, { accessFlags := 2, nameIndex := 23, descriptorIndex := 20, attributes := #[] }, { accessFlags := 2, nameIndex := 39, descriptorIndex := 20, attributes := #[] }, { accessFlags := 2, nameIndex := 26, descriptorIndex := 27, attributes := #[] }])
  fields := #[{ name := "bytes", type := (.array .byte), accessFlags := 2, slot := 0, constantValue := 0 }, { name := "from", type := .int, accessFlags := 2, slot := 1, constantValue := 0 }, { name := "to", type := .int, accessFlags := 2, slot := 2, constantValue := 0 }, { name := "hash", type := .int, accessFlags := 2, slot := 3, constantValue := 0 }, { name := "hashed", type := .boolean, accessFlags := 2, slot := 4, constantValue := 0 }]
  methods := #[k3m0, k3m1, k3m2]
  instanceTypes := #[(.array .byte), .int, .int, .int, .boolean]
  staticTypes := #[]
  resolved := Array.replicate 65 none
  statics := none }

def pool4 : Array CpInfo := pool [(1, u "java/lang/Cloneable"), (0, .class_ 1), (0, u "java/lang/Object"), (0, .class_ 3)] 3

/-- java/lang/Cloneable -/
def k4 : Class := { plain "java/lang/Cloneable" (some 0) with
  accessFlags := 1537
  interfaces := #[]
  cf := some (fileOf pool4 2 #[] #[] 1537 4 #[] #[])
  fields := #[]
  methods := #[]
  instanceTypes := #[]
  staticTypes := #[]
  resolved := Array.replicate 8 none
  statics := none }

def pool5 : Array CpInfo := pool [(1, u "java/io/Serializable"), (0, .class_ 1), (0, u "java/lang/Object"), (0, .class_ 3)] 3

/-- java/io/Serializable -/
def k5 : Class := { plain "java/io/Serializable" (some 0) with
  accessFlags := 1537
  interfaces := #[]
  cf := some (fileOf pool5 2 #[] #[] 1537 4 #[] #[])
  fields := #[]
  methods := #[]
  instanceTypes := #[]
  staticTypes := #[]
  resolved := Array.replicate 8 none
  statics := none }

/-- the primitive byte -/
def k6 : Class := { plain "byte" none with kind := .primitive 'B', accessFlags := 0x411 }
/-- [B -/
def k7 : Class := { plain "[B" (some 0) with kind := .array 6 .byte, interfaces := #[4, 5], accessFlags := 1041 }

/-- the primitive int -/
def k8 : Class := { plain "int" none with kind := .primitive 'I', accessFlags := 0x411 }
/-- [I -/
def k9 : Class := { plain "[I" (some 0) with kind := .array 8 .int, interfaces := #[4, 5], accessFlags := 1041 }

def heap : Heap := #[]
def classes : Array Class := #[k0, k1, k2, k3, k4, k5, k6, k7, k8, k9]
def interned : List (Array UInt16 × Addr) := []
def slotsUsed : Nat := 0
def theMethod : MethodId := ⟨1, 4⟩
def args0 : Array Value := #[.int 5, .int 3, .int 7, .int 2]
def aboutOver (below : List Frame) : State where
  vm := { classes := classes, interned := interned.toArray }
  heap := heap
  slotsUsed := slotsUsed
  threads := #[{ frames := .invoking theMethod args0 :: below }]
def below0 : List Frame := [.native { method := ⟨0, 0⟩, args := #[] }]
def about1 : State := aboutOver below0
def p0 : Program := .bare "" "" ""
def e0 : Env := launch0.env 0 0 0
theorem w_frames : about1.frames = Frame.invoking theMethod args0 :: below0 := rfl
set_option maxRecDepth 65536 in
theorem w_args : argsFit about1.vm theMethod args0 = true := by decide +kernel
set_option maxRecDepth 65536 in
theorem w_heap : heapFits about1 = true := by decide +kernel
set_option maxRecDepth 65536 in
theorem w_runnable : about1.curStatus? = some .runnable := by decide +kernel
set_option maxRecDepth 65536 in
theorem w_alone : about1.alone = true := by decide +kernel
set_option maxRecDepth 65536 in
theorem w_named : about1.methodNamed? x = some theMethod := by decide +kernel
set_option maxRecDepth 65536 in
theorem w_hears : about1.hears theMethod below0 = true := by decide +kernel
set_option maxRecDepth 65536 in
theorem w_ripe : about1.ripe theMethod args0 below0 = true := by decide +kernel
theorem w_running : about1.status = .running := rfl
set_option maxRecDepth 65536 in
theorem w_room : about1.hasRoom e0.platform room_1 = true :=
  launch0.hasRoom_least _ room_1 (by decide +kernel) (by decide +kernel) (by decide +kernel) (by decide +kernel) (by decide +kernel) (by decide +kernel)
theorem allAtoms_all (ts : List Jvm.Cond) (a : Array Jvm.Value) (st : Jvm.State) : (allAtoms ts).before a st = ts.all (fun c => c.before a st) := by
  induction ts with
  | nil => rfl
  | cons c t ih =>
    show (Jvm.Cond.and c (allAtoms t)).before a st = _
    rw [Jvm.Cond.before_and, ih, List.all_cons]
def words1 : List Jvm.Cond := Jvm.Cond.code x code maxLocals ret :: tables_1
/-- a 'code' word, met by the world's own term for the bytes: nothing is compared byte by byte -/
theorem code_word {y : MethodName} {bytes : ByteArray} {mx : Nat} {rt : Option FieldType} {a : Array Value} {s : State} {m : MethodId} {meth : Method} {c : Code} (h1 : s.methodNamed? y = some m) (h2 : s.vm.method? m = some meth) (h3 : meth.code = some c) (h4 : c.code = bytes)
    (h5 : (c.maxLocals == mx && c.exceptionTable.isEmpty && decide (c.maxStack ≤ mostOperands) && decide (meth.sig.returnType = rt) && !meth.locks && decide (parseMethodDescriptor y.desc = some meth.sig)) = true) : (Jvm.Cond.code y bytes mx rt).before a s = true := by
  simp only [Bool.and_eq_true, beq_iff_eq, Bool.not_eq_true', decide_eq_true_eq] at h5
  obtain ⟨⟨⟨⟨⟨g1, g2⟩, g3⟩, g4⟩, g5⟩, g6⟩ := h5
  simp [Cond.before, Cond.holds, Cond.value, h1, h2, h3, h4, g1, g2, g3, g4, g5, g6]
def isCode : Jvm.Cond → Bool
  | .code _ _ _ _ => true
  | _ => false
theorem all_split {L : List Jvm.Cond} {P : Jvm.Cond → Bool} (h1 : L.all (fun c => isCode c || P c) = true) (h2 : ∀ c ∈ L.filter isCode, P c = true) : L.all P = true := by
  refine List.all_eq_true.mpr fun c hc => ?_
  have h := List.all_eq_true.mp h1 c hc
  rcases Bool.eq_false_or_eq_true (isCode c) with hi | hi
  · exact h2 c (List.mem_filter.mpr ⟨hc, hi⟩)
  · simpa [hi] using h
set_option maxRecDepth 65536 in
theorem w_c0 : (Jvm.Cond.code x code maxLocals ret).before args0 about1 = true := code_word (m := ⟨1, 4⟩) (meth := k1m4) (c := k1c4) (by decide +kernel) rfl rfl rfl (by decide +kernel)
set_option maxRecDepth 65536 in
theorem w_c1 : (Jvm.Cond.code ({ cls := "com/example/rankweave/rankweave/io/FieldBytes", name := "<init>", desc := "()V" } : Jvm.MethodName) prog_45_method_1_code (1 : Nat) (Option.none : Option Jvm.ClassFile.FieldType)).before args0 about1 = true := code_word (m := ⟨3, 0⟩) (meth := k3m0) (c := k3c0) (by decide +kernel) rfl rfl rfl (by decide +kernel)
set_option maxRecDepth 65536 in
theorem w_c2 : (Jvm.Cond.code ({ cls := "java/lang/Object", name := "<init>", desc := "()V" } : Jvm.MethodName) object_method_1_code (1 : Nat) (Option.none : Option Jvm.ClassFile.FieldType)).before args0 about1 = true := code_word (m := ⟨0, 0⟩) (meth := k0m0) (c := k0c0) (by decide +kernel) rfl rfl rfl (by decide +kernel)
set_option maxRecDepth 65536 in
theorem w_c3 : (Jvm.Cond.code ({ cls := "com/example/rankweave/rankweave/io/FieldBytes", name := "hashCode", desc := "()I" } : Jvm.MethodName) prog_45_method_5_code (3 : Nat) (Option.some Jvm.ClassFile.FieldType.int)).before args0 about1 = true := code_word (m := ⟨3, 2⟩) (meth := k3m2) (c := k3c2) (by decide +kernel) rfl rfl rfl (by decide +kernel)
set_option maxRecDepth 65536 in
theorem w_c4 : (Jvm.Cond.code ({ cls := "com/example/rankweave/rankweave/io/FieldBytes", name := "view", desc := "([BII)V" } : Jvm.MethodName) prog_45_method_3_code (4 : Nat) (Option.none : Option Jvm.ClassFile.FieldType)).before args0 about1 = true := code_word (m := ⟨3, 1⟩) (meth := k3m1) (c := k3c1) (by decide +kernel) rfl rfl rfl (by decide +kernel)
set_option maxRecDepth 65536 in
theorem w_c5 : (Jvm.Cond.code ({ cls := "com/example/rankweave/rankweave/io/FieldBytesHashCodePinLaw", name := "ref", desc := "([BII)I" } : Jvm.MethodName) method_4_code (3 : Nat) (Option.some Jvm.ClassFile.FieldType.int)).before args0 about1 = true := code_word (m := ⟨1, 3⟩) (meth := k1m3) (c := k1c3) (by decide +kernel) rfl rfl rfl (by decide +kernel)
set_option maxRecDepth 65536 in
theorem w_c6 : (Jvm.Cond.code ({ cls := "com/example/rankweave/rankweave/io/FieldBytesHashCodePinLaw", name := "term", desc := "([BIII)I" } : Jvm.MethodName) method_3_code (4 : Nat) (Option.some Jvm.ClassFile.FieldType.int)).before args0 about1 = true := code_word (m := ⟨1, 2⟩) (meth := k1m2) (c := k1c2) (by decide +kernel) rfl rfl rfl (by decide +kernel)
set_option maxRecDepth 65536 in
theorem w_c7 : (Jvm.Cond.code ({ cls := "com/example/rankweave/rankweave/io/FieldBytesHashCodePinLaw", name := "pow31", desc := "(I)I" } : Jvm.MethodName) method_2_code (1 : Nat) (Option.some Jvm.ClassFile.FieldType.int)).before args0 about1 = true := code_word (m := ⟨1, 1⟩) (meth := k1m1) (c := k1c1) (by decide +kernel) rfl rfl rfl (by decide +kernel)
def codes1 : List Jvm.Cond := [Jvm.Cond.code x code maxLocals ret, Jvm.Cond.code ({ cls := "com/example/rankweave/rankweave/io/FieldBytes", name := "<init>", desc := "()V" } : Jvm.MethodName) prog_45_method_1_code (1 : Nat) (Option.none : Option Jvm.ClassFile.FieldType), Jvm.Cond.code ({ cls := "java/lang/Object", name := "<init>", desc := "()V" } : Jvm.MethodName) object_method_1_code (1 : Nat) (Option.none : Option Jvm.ClassFile.FieldType), Jvm.Cond.code ({ cls := "com/example/rankweave/rankweave/io/FieldBytes", name := "hashCode", desc := "()I" } : Jvm.MethodName) prog_45_method_5_code (3 : Nat) (Option.some Jvm.ClassFile.FieldType.int), Jvm.Cond.code ({ cls := "com/example/rankweave/rankweave/io/FieldBytes", name := "view", desc := "([BII)V" } : Jvm.MethodName) prog_45_method_3_code (4 : Nat) (Option.none : Option Jvm.ClassFile.FieldType), Jvm.Cond.code ({ cls := "com/example/rankweave/rankweave/io/FieldBytesHashCodePinLaw", name := "ref", desc := "([BII)I" } : Jvm.MethodName) method_4_code (3 : Nat) (Option.some Jvm.ClassFile.FieldType.int), Jvm.Cond.code ({ cls := "com/example/rankweave/rankweave/io/FieldBytesHashCodePinLaw", name := "term", desc := "([BIII)I" } : Jvm.MethodName) method_3_code (4 : Nat) (Option.some Jvm.ClassFile.FieldType.int), Jvm.Cond.code ({ cls := "com/example/rankweave/rankweave/io/FieldBytesHashCodePinLaw", name := "pow31", desc := "(I)I" } : Jvm.MethodName) method_2_code (1 : Nat) (Option.some Jvm.ClassFile.FieldType.int)]
set_option maxRecDepth 65536 in
theorem codes_eq : words1.filter isCode = codes1 := rfl
theorem w_codes : ∀ c ∈ words1.filter isCode, c.before args0 about1 = true := by
  rw [codes_eq]
  intro c hc
  simp only [codes1, List.mem_cons, List.not_mem_nil, or_false] at hc
  rcases hc with rfl | rfl | rfl | rfl | rfl | rfl | rfl | rfl
  · exact w_c0
  · exact w_c1
  · exact w_c2
  · exact w_c3
  · exact w_c4
  · exact w_c5
  · exact w_c6
  · exact w_c7
set_option maxRecDepth 65536 in
theorem w_t1 : (words1.take 24).all (fun c => isCode c || c.before args0 about1) = true := by decide +kernel
set_option maxRecDepth 65536 in
theorem w_t2 : (words1.drop 24).all (fun c => isCode c || c.before args0 about1) = true := by decide +kernel
theorem w_tables : (allAtoms (Jvm.Cond.code x code maxLocals ret :: tables_1)).before args0 about1 = true := by
  rw [allAtoms_all]
  show words1.all (fun c => c.before args0 about1) = true
  refine all_split ?_ w_codes
  rw [← List.take_append_drop 24 words1, List.all_append, w_t1, w_t2]
  rfl
set_option maxRecDepth 65536 in
theorem w_case : (Jvm.Cond.and given_1 narrow_1).before args0 about1 = true := by decide +kernel
theorem w_applies : (headSpec (Jvm.Cond.code x code maxLocals ret :: tables_1) room_1).applies x e0.platform about1 = true :=
  (Spec.applies_iff w_frames).mpr ⟨w_running, w_runnable, w_alone, w_named, w_hears, w_ripe, w_room, w_tables⟩
theorem atStart : AtStart classFile x code maxLocals ret World_1 tables_1 room_1 Calls_1 rest_1 Pre_1 launch0 p0 e0 about1 theMethod args0 below0 :=
  ⟨lists_1, trivial, launch0.admits_env _ _ _, launch0.least_env, fairChoices_fair.cas, fairChoices_fair.clock, w_frames, w_args, w_heap, w_applies, trivial, trivial, w_case⟩
end start1
theorem witness_1 : WitnessClaimed_1 := ⟨start1.p0, start1.e0, start1.about1, start1.theMethod, start1.args0, start1.below0, start1.atStart⟩
end Jvm.Pilot.@@N@@
