import JvmDerived
import JvmDerived.Pilot.@@N@@Statement
import JvmDerived.Pilot.@@N@@Code
set_option linter.unusedVariables false
set_option linter.unusedSimpArgs false
namespace Jvm.RoadKit
open Sem ClassFile Op Lib Jvm.Stand Jvm.Free Jvm.LawKit
/-- from S the run goes on and returns; what it leaves is said by Q -/
def GoesW (tb : Tables) (e : Env) (below : List Frame) (s : State) (Q : Option Value → Heap → List Loc → Prop) (kc ks : Nat) (S : State) : Prop :=
  ∃ t o, Steps tb e below S t ∧ t.status = .running ∧ Ended t below o ∧ ∃ v L, o = .returned v ∧ Q v t.heap L ∧ FrameEnd s o t L kc ks
theorem GoesW.step {tb : Tables} {e : Env} {below : List Frame} {s : State} {Q : Option Value → Heap → List Loc → Prop} {kc ks : Nat} {S S' : State} (f : ∀ t, Steps tb e below S' t → Steps tb e below S t) (h : GoesW tb e below s Q kc ks S') : GoesW tb e below s Q kc ks S := by
  obtain ⟨t, o, h1, h2⟩ := h
  exact ⟨t, o, f t h1, h2⟩
/-- 0 where the branch is taken, 1 where it isn't: what 'if<c> +7; iconst_1; goto +4; iconst_0' leaves -/
def nb (b : Bool) : Int32 := if b then 0 else 1
theorem nb_01 (b : Bool) : nb b = 0 ∨ nb b = 1 := by cases b <;> simp [nb]
theorem nar_nb (b : Bool) : narrow .boolean (.int (nb b)) = .int (nb b) := by cases b <;> rfl
theorem fits_nb (b : Bool) : fits .boolean (.int (nb b)) = true := by cases b <;> rfl
theorem diam0 {tb : Tables} [Ours tb] {e : Env} {below : List Frame} {T target : State} {m : MethodId} {c : Code} {g : JFrame} (h : At T m c below) (hx : tb.exec = Jvm.exec) (hg : g.method = m) {cd : ClassFile.Cond} {x : Int32} {rest : List Value} {pc0 : Nat} (hpc : g.pc = pc0)
    (hd : decode c.code pc0 = .ok (.ifCond cd 7, 3)) (hs : g.stack = .int x :: rest) (hd1 : decode c.code (pc0 + 3) = .ok (.iconst 1, 1)) (hd2 : decode c.code (pc0 + 4) = .ok (.goto 4, 3)) (hd3 : decode c.code (pc0 + 7) = .ok (.iconst 0, 1))
    (hr : Steps tb e below (T.setTop { g with pc := pc0 + 8, stack := .int (nb (ifCond.holds cd x)) :: rest }) target) : Steps tb e below (T.setTop g) target := by
  subst hpc
  cases hb : ifCond.holds cd x with
  | true =>
    rw [hb] at hr
    refine XS.ifYes h hx hg (pc0 := g.pc) (pc' := g.pc + 7) rfl hd hs hb (by omega) (by omega) ?_
    exact XS.iconst (g := { g with pc := g.pc + 7, stack := rest }) h hx hg hd3 hr
  | false =>
    rw [hb] at hr
    refine XS.ifNo h hx hg hd hs hb ?_
    refine XS.iconst (g := { g with pc := g.pc + 3, stack := rest }) h hx hg hd1 ?_
    exact XS.goto (g := { g with pc := g.pc + 4, stack := .int 1 :: rest }) h hx hg (pc0 := g.pc + 4) (pc' := g.pc + 8) rfl hd2 (by omega) (by omega) hr
theorem diam2 {tb : Tables} [Ours tb] {e : Env} {below : List Frame} {T target : State} {m : MethodId} {c : Code} {g : JFrame} (h : At T m c below) (hx : tb.exec = Jvm.exec) (hg : g.method = m) {cd : ClassFile.Cond} {x y : Int32} {rest : List Value} {pc0 : Nat} (hpc : g.pc = pc0)
    (hd : decode c.code pc0 = .ok (.if_icmp cd 7, 3)) (hs : g.stack = .int y :: .int x :: rest) (hd1 : decode c.code (pc0 + 3) = .ok (.iconst 1, 1)) (hd2 : decode c.code (pc0 + 4) = .ok (.goto 4, 3)) (hd3 : decode c.code (pc0 + 7) = .ok (.iconst 0, 1))
    (hr : Steps tb e below (T.setTop { g with pc := pc0 + 8, stack := .int (nb (if_icmp.holds cd x y)) :: rest }) target) : Steps tb e below (T.setTop g) target := by
  subst hpc
  cases hb : if_icmp.holds cd x y with
  | true =>
    rw [hb] at hr
    refine XS.icmpYes h hx hg (pc0 := g.pc) (pc' := g.pc + 7) rfl hd hs hb (by omega) (by omega) ?_
    exact XS.iconst (g := { g with pc := g.pc + 7, stack := rest }) h hx hg hd3 hr
  | false =>
    rw [hb] at hr
    refine XS.icmpNo h hx hg hd hs hb ?_
    refine XS.iconst (g := { g with pc := g.pc + 3, stack := rest }) h hx hg hd1 ?_
    exact XS.goto (g := { g with pc := g.pc + 4, stack := .int 1 :: rest }) h hx hg (pc0 := g.pc + 4) (pc' := g.pc + 8) rfl hd2 (by omega) (by omega) hr
section New
variable {p : Program} {l : Launch} {e : Env} {R : Room} {s : State} {m : MethodId} {args : Array Value} {below : List Frame} {meth : Method} {c : Code} {T : State} {locs : List Loc} {cells slots : Nat} {Q : Option Value → Heap → List Loc → Prop} {kc ks : Nat}
theorem upS (X : Stand p l e R s m args below meth c T locs cells slots) {k n : Nat} (hc : cells ≤ k) (hn : slots ≤ n) : Stand p l e R s m args below meth c T locs k n := { X with same := X.same.mono hc hn }
theorem GoesW.out (X : Stand p l e R s m args below meth c T locs cells slots) {v : Option Value} {S : State} (hlk : meth.locks = false) (hv : meth.sig.returnType = none → v = none)
    (hst : ∀ fs, (∀ (f : JFrame) (acts : List Action), f.method = m → f.locked = none → f.entered = [] → (doReturn e (T.setTop f) acts v).1 = T.setFrames fs) → Steps p.tables e below S (T.setFrames fs)) (hq : Q v T.heap locs) (hc : cells ≤ kc) (hs : slots ≤ ks) : GoesW p.tables e below s Q kc ks S := by
  obtain ⟨fs, hr, hrun, hended, hW, hsame⟩ := X.leave (v := v) hv hlk
  exact ⟨_, _, hst fs hr, hrun, hended, _, _, rfl, hq, ⟨_, rfl⟩, hW, hsame.mono hc hs⟩
theorem GoesW.retI (X : Stand p l e R s m args below meth c T locs cells slots) (hx : p.tables.exec = Jvm.exec) (hlk : meth.locks = false) {pc : Nat} {Ls : Array Slot} {z : Int32} {rest : List Value} (hret : meth.sig.returnType = some .int) (hd : decode c.code pc = .ok (.ireturn, 1)) (hq : Q (some (.int z)) T.heap locs) (hc : cells ≤ kc) (hs : slots ≤ ks) :
    GoesW p.tables e below s Q kc ks (T.setTop (mkF m pc Ls (.int z :: rest))) :=
  GoesW.out X hlk (fun h => by rw [hret] at h; cases h) (fun fs hr => retOut X hx hret rfl (Or.inl ⟨rfl, Or.inl rfl, _, rfl⟩) hd hr) hq hc hs
theorem GoesW.retZ (X : Stand p l e R s m args below meth c T locs cells slots) (hx : p.tables.exec = Jvm.exec) (hlk : meth.locks = false) {pc : Nat} {Ls : Array Slot} {z : Int32} {t : FieldType} {rest : List Value} (hret : meth.sig.returnType = some t) (ht : t = .int ∨ t = .boolean ∨ t = .byte ∨ t = .char ∨ t = .short) (hn : narrow t (.int z) = .int z) (hd : decode c.code pc = .ok (.ireturn, 1)) (hq : Q (some (.int z)) T.heap locs) (hc : cells ≤ kc) (hs : slots ≤ ks) :
    GoesW p.tables e below s Q kc ks (T.setTop (mkF m pc Ls (.int z :: rest))) :=
  GoesW.out X hlk (fun h => by rw [hret] at h; cases h) (fun fs hr => retOut X hx hret hn (Or.inl ⟨rfl, ht, _, rfl⟩) hd hr) hq hc hs
theorem GoesW.retJ (X : Stand p l e R s m args below meth c T locs cells slots) (hx : p.tables.exec = Jvm.exec) (hlk : meth.locks = false) {pc : Nat} {Ls : Array Slot} {z : Int64} {rest : List Value} (hret : meth.sig.returnType = some .long) (hd : decode c.code pc = .ok (.lreturn, 1)) (hq : Q (some (.long z)) T.heap locs) (hc : cells ≤ kc) (hs : slots ≤ ks) :
    GoesW p.tables e below s Q kc ks (T.setTop (mkF m pc Ls (.long z :: rest))) :=
  GoesW.out X hlk (fun h => by rw [hret] at h; cases h) (fun fs hr => retOut X hx hret rfl (Or.inr (Or.inl ⟨rfl, rfl, _, rfl⟩)) hd hr) hq hc hs
theorem GoesW.retA (X : Stand p l e R s m args below meth c T locs cells slots) (hx : p.tables.exec = Jvm.exec) (hlk : meth.locks = false) {pc : Nat} {Ls : Array Slot} {w : Value} {t : FieldType} {rest : List Value} (hret : meth.sig.returnType = some t) (ht : t.isReference = true) (hw : w.isRef = true) (hd : decode c.code pc = .ok (.areturn, 1)) (hq : Q (some w) T.heap locs) (hc : cells ≤ kc) (hs : slots ≤ ks) :
    GoesW p.tables e below s Q kc ks (T.setTop (mkF m pc Ls (w :: rest))) :=
  GoesW.out X hlk (fun h => by rw [hret] at h; cases h) (fun fs hr => retOut X hx hret (by cases t <;> first | (cases ht; done) | rfl) (Or.inr (Or.inr (Or.inr (Or.inr ⟨rfl, ht, hw⟩)))) hd hr) hq hc hs
theorem GoesW.retV (X : Stand p l e R s m args below meth c T locs cells slots) (hx : p.tables.exec = Jvm.exec) (hlk : meth.locks = false) {pc : Nat} {Ls : Array Slot} (hret : meth.sig.returnType = none) (hd : decode c.code pc = .ok (.return_, 1)) (hq : Q none T.heap locs) (hc : cells ≤ kc) (hs : slots ≤ ks) :
    GoesW p.tables e below s Q kc ks (T.setTop (mkF m pc Ls [])) :=
  GoesW.out X hlk (fun _ => rfl) (fun fs hr => X.returnOut hx hret hd hr) hq hc hs
end New
end Jvm.RoadKit
namespace Jvm.Pilot.@@N@@
open Jvm Jvm.ClassFile Sem Op Lib Jvm.Free Jvm.Stand Jvm.LawKit Jvm.RoadKit Bundle Jvm.Pilot.@@N@@.Jvm.D
theorem own_ext {h h' : Heap} (K : Keep h h' []) : Ext h h' := ⟨K.1, fun a c q => K.2.1 a c q nin0⟩
theorem own_root {Z : State} {a0 : Array Value} {O K : String} {n : Nat} (w : (Jvm.Cond.noSuperclass O).before a0 Z = true) (wi : (Jvm.Cond.instantiable K n).before a0 Z = true) (hn : O ≠ K) : NS Z O K := by
  obtain ⟨c, k, h1, h2, h3, -, -⟩ := Cond.noSuperclass_spec w
  obtain ⟨t, kt, g1, -⟩ := Cond.instantiable_spec wi
  have ne := ids_ne h1 g1 hn
  refine ⟨c, t, h1, g1, fun fuel => ?_⟩
  cases fuel with
  | zero => rfl
  | succ f => simp [Vm.isSubclassAux, ne, h2, h3]
theorem own_no {Z : State} {a0 : Array Value} {C S K : String} {m : Nat} (w : (Jvm.Cond.superclass C S).before a0 Z = true) (wi : (Jvm.Cond.instantiable K m).before a0 Z = true) (n : NS Z C K) (hn : C ≠ K) : ∃ c t, Z.vm.findClass C = some c ∧ Z.vm.findClass K = some t ∧ Z.vm.assignable c t = false := by
  obtain ⟨c, t, h0, g0, n3⟩ := n
  obtain ⟨p, k, kp, h1, h2, h3, h4, h5, -, h7⟩ := Cond.superclass_spec h0 w
  obtain ⟨t', k', g1, g2, g3, g4, -⟩ := Cond.instantiable_spec wi
  cases g0.symm.trans g1
  have g5 : k'.isInterface = false := (Bool.or_eq_false_iff.mp g4).1
  have ne := ids_ne h0 g0 hn
  refine ⟨c, t, h0, g0, ?_⟩
  show Z.vm.assignableAux (255 + 1) c t = false
  simp [Vm.assignableAux, ne, h2, g2, h5, g3, g5, Vm.isSubclass, n3]
def own_cmp (xs ys : List Int32) : Nat → Nat → Nat → Bool
  | _, _, 0 => true
  | i, j, k + 1 => decide (xs.getD i 0 = ys.getD j 0) && own_cmp xs ys (i + 1) (j + 1) k
def own_eqv (xs ys : List Int32) (f t g u : Int32) : Int32 := if t - f = u - g then (if own_cmp xs ys f.toNatClampNeg g.toNatClampNeg (t - f).toNatClampNeg = true then 1 else 0) else 0
def own_atv (xs ys : List Int32) (f g n j : Int32) : Int32 := if j < n then nb (if_icmp.holds .ne (xs.getD (f + j).toNatClampNeg 0) (ys.getD (g + j).toNatClampNeg 0)) else 1
def own_sb (xs ys : List Int32) (f t g u : Int32) : Int32 := if t - f = u - g then (if own_atv xs ys f g (t - f) 0 = 0 then 0 else if own_atv xs ys f g (t - f) 1 = 0 then 0 else if own_atv xs ys f g (t - f) 2 = 0 then 0 else if own_atv xs ys f g (t - f) 3 = 0 then 0 else 1) else 0
theorem own_nb {a b : Int32} : nb (if_icmp.holds .ne a b) = if a = b then 1 else 0 := by
  by_cases q : a = b
  · rw [if_pos q, (teq q).2]; rfl
  · rw [if_neg q, (feq q).2]; rfl
theorem own_idx {f : Int32} {j : Int32} {J : Nat} (hj : j.toInt = (J : Int)) (h0 : 0 ≤ f.toInt) (h1 : f.toInt ≤ 4) (hJ : J ≤ 3) : (f + j).toNatClampNeg = f.toNatClampNeg + J := by
  show (f + j).toInt.toNat = f.toInt.toNat + J
  have a := c_iadd f j
  have r := rng32 (f + j)
  omega
theorem own_i5 (z : Int32) (h : 0 ≤ z.toInt ∧ z.toInt < 5) : z = 0 ∨ z = 1 ∨ z = 2 ∨ z = 3 ∨ z = 4 := by
  have : z.toInt = 0 ∨ z.toInt = 1 ∨ z.toInt = 2 ∨ z.toInt = 3 ∨ z.toInt = 4 := by omega
  simp only [← Int32.toInt_inj]
  exact this
theorem own_same (xs ys : List Int32) (f t g u : Int32) (f0 : 0 ≤ f.toInt) (ft : f.toInt ≤ t.toInt) (t4 : t.toInt ≤ 4) (g0 : 0 ≤ g.toInt) (gu : g.toInt ≤ u.toInt) (u4 : u.toInt ≤ 4) : own_eqv xs ys f t g u = own_sb xs ys f t g u := by
  unfold own_eqv own_sb
  by_cases q : t - f = u - g
  · rw [if_pos q, if_pos q]
    have s := c_isub t f
    have r := rng32 (t - f)
    have hn := own_i5 (t - f) (by omega)
    have i0f := own_idx (f := f) (j := 0) (J := 0) rfl f0 (by omega) (by omega)
    have i1f := own_idx (f := f) (j := 1) (J := 1) rfl f0 (by omega) (by omega)
    have i2f := own_idx (f := f) (j := 2) (J := 2) rfl f0 (by omega) (by omega)
    have i3f := own_idx (f := f) (j := 3) (J := 3) rfl f0 (by omega) (by omega)
    have i0g := own_idx (f := g) (j := 0) (J := 0) rfl g0 (by omega) (by omega)
    have i1g := own_idx (f := g) (j := 1) (J := 1) rfl g0 (by omega) (by omega)
    have i2g := own_idx (f := g) (j := 2) (J := 2) rfl g0 (by omega) (by omega)
    have i3g := own_idx (f := g) (j := 3) (J := 3) rfl g0 (by omega) (by omega)
    unfold own_atv
    simp only [own_nb, i0f, i1f, i2f, i3f, i0g, i1g, i2g, i3g]
    generalize f.toNatClampNeg = F
    generalize g.toNatClampNeg = G
    generalize t - f = n at hn ⊢
    by_cases c0 : xs.getD (F + 0) 0 = ys.getD (G + 0) 0 <;> by_cases c1 : xs.getD (F + 1) 0 = ys.getD (G + 1) 0 <;> by_cases c2 : xs.getD (F + 2) 0 = ys.getD (G + 2) 0 <;> by_cases c3 : xs.getD (F + 3) 0 = ys.getD (G + 3) 0
    all_goals
      simp only [Nat.add_zero] at c0
      rcases hn with rfl | rfl | rfl | rfl | rfl
    all_goals simp [own_cmp, c0, c1, c2, c3, Nat.add_assoc, -List.getD_eq_getElem?_getD]
  · rw [if_neg q, if_neg q]
theorem own_at (xs : List Int32) (dv : Value) (j : Nat) (hj : j < xs.length) : (xs.map Value.int).getD j dv = .int (xs.getD j 0) := by
  simp [List.getD_eq_getElem?_getD, List.getElem?_eq_getElem hj]
theorem own_clamp {i : Int32} {j : Nat} (h : i.toInt = (j : Int)) : i.toNatClampNeg = j := by
  show i.toInt.toNat = j
  omega
theorem own_len {n : Int32} {k : Nat} (h : n.toNatClampNeg = k) (h0 : ¬ n < 0) : n.toInt = (k : Int) := by
  have h1 : n.toInt.toNat = k := h
  rw [Int32.lt_iff_toInt_lt] at h0
  have e0 : (0 : Int32).toInt = 0 := rfl
  omega
theorem own_inc {i : Int32} {j : Nat} {n : Int32} (h : i.toInt = (j : Int)) (hn : i.toInt < n.toInt) : (i + (1 : Int32)).toInt = ((j + 1 : Nat) : Int) := by
  have e1 : (1 : Int32).toInt = 1 := rfl
  have r := rng32 n
  have r2 := rng32 (i + 1)
  have s := c_iadd i 1
  omega
theorem own_in {f t n j : Int32} (f0 : 0 ≤ f.toInt) (ft : f.toInt ≤ t.toInt) (tn : t.toInt ≤ n.toInt) (n4 : n.toInt ≤ 4) (j0 : 0 ≤ j.toInt) (j3 : j.toInt ≤ 3) (h : j < t - f) : ¬ f + j < 0 ∧ f + j < n := by
  rw [Int32.lt_iff_toInt_lt] at h
  simp only [Int32.lt_iff_toInt_lt]
  have e0 : (0 : Int32).toInt = 0 := rfl
  have a := c_iadd f j
  have s := c_isub t f
  have r1 := rng32 (f + j)
  have r2 := rng32 (t - f)
  omega
theorem own_get {xs : List Int32} {dv : Value} {i n : Int32} (hn : n.toNatClampNeg = xs.length) (h : ¬ i < 0 ∧ i < n) : (xs.map Value.int).getD i.toNatClampNeg dv = .int (xs.getD i.toNatClampNeg 0) := by
  refine own_at xs dv _ ?_
  rw [← hn]
  show i.toInt.toNat < n.toInt.toNat
  obtain ⟨h1, h2⟩ := h
  rw [Int32.lt_iff_toInt_lt] at h1 h2
  have e0 : (0 : Int32).toInt = 0 := rfl
  omega
theorem own_m5 (x f : Int32) (hf : 0 ≤ f.toInt ∧ f.toInt < 5) (hx : 0 ≤ x.toInt) : (5 : Int32) - f ≠ 0 ∧ f.toInt ≤ (f + x % (5 - f)).toInt ∧ (f + x % (5 - f)).toInt ≤ 4 := by
  have e7 : (5 : Int32).toInt = 5 := rfl
  have s := c_isub 5 f
  have r := rng32 ((5 : Int32) - f)
  have d : ((5 : Int32) - f).toInt = 5 - f.toInt := by omega
  have q := (c_iremV x (5 - f)).1 hx (by omega)
  have a := c_iadd f (x % (5 - f))
  have ra := rng32 (f + x % (5 - f))
  refine ⟨fun h => ?_, by omega, by omega⟩
  rw [h] at d
  have e0 : (0 : Int32).toInt = 0 := rfl
  omega
theorem own_m3 (x : Int32) : 0 ≤ (x &&& 7).toInt := by rw [c_mask x 7 3 (by decide) (by decide)]; omega
theorem own_f5 (x : Int32) : 0 ≤ ((x &&& 7) % 5).toInt ∧ ((x &&& 7) % 5).toInt < 5 := by
  have q := (c_iremV (x &&& 7) 5).1 (own_m3 x) (by decide)
  exact ⟨q.1, q.2.1⟩
theorem own_box {p : Int32} (h1 : ¬ p < (-128 : Int32)) (h2 : ¬ (127 : Int32) < p) {c : Cell} (S : c.slots.size = (256 : Int32).toNatClampNeg) : ¬ (p + (128 : Int32) < 0 ∨ c.slots.size ≤ (p + (128 : Int32)).toNatClampNeg) := by
  refine inb_of S ?_
  simp only [Int32.lt_iff_toInt_lt] at h1 h2 ⊢
  have e0 : (0 : Int32).toInt = 0 := rfl
  have e1 : (-128 : Int32).toInt = -128 := rfl
  have e2 : (127 : Int32).toInt = 127 := rfl
  have e3 : (128 : Int32).toInt = 128 := rfl
  have e4 : (256 : Int32).toInt = 256 := rfl
  have a := c_iadd p 128
  have r := rng32 (p + 128)
  omega
theorem own_refl (xs : List Int32) : ∀ (k i : Nat), own_cmp xs xs i i k = true
  | 0, _ => rfl
  | k + 1, i => by simp [own_cmp, own_refl xs k (i + 1)]
theorem own_eqself (xs : List Int32) (f t : Int32) : own_eqv xs xs f t f t = 1 := by
  unfold own_eqv
  rw [if_pos rfl, if_pos (own_refl xs _ _)]
theorem own_pn0 : plainName "com/example/rankweave/rankweave/io/FieldBytes" = true := by first | (simp [plainName, overriddenIn]; done) | decide +kernel
theorem d1_0 : decode prog_45_method_1_code 0 = .ok (.aload_n 0, 1) := by decide +kernel
theorem d1_1 : decode prog_45_method_1_code 1 = .ok (.invokespecial 1, 3) := by decide +kernel
theorem d1_4 : decode prog_45_method_1_code 4 = .ok (.aload_n 0, 1) := by decide +kernel
theorem d1_5 : decode prog_45_method_1_code 5 = .ok (.iconst 0, 1) := by decide +kernel
theorem d1_6 : decode prog_45_method_1_code 6 = .ok (.newarray .byte, 2) := by decide +kernel
theorem d1_8 : decode prog_45_method_1_code 8 = .ok (.putfield 7, 3) := by decide +kernel
theorem d1_11 : decode prog_45_method_1_code 11 = .ok (.return_, 1) := by decide +kernel
theorem ef_rm1 (m : MethodId) (x0 : Addr) : entryFrame m #[(.ref x0)] 1 = mkF m 0 #[.val (.ref x0)] [] := by first | (simp [entryFrame, mkF, argsToLocals, Value.category]; done) | rfl
def Q1 (Z : State) (r0 : Addr) (h0 : Heap) (n0 : Nat) (v : Option Value) (h : Heap) (L : List Loc) : Prop := v = none ∧ Fr n0 L ∧ Keep h0 h [r0] ∧ Fld Z h r0 "com/example/rankweave/rankweave/io/FieldBytes" "from" "I" (.int (0 : Int32)) ∧ Fld Z h r0 "com/example/rankweave/rankweave/io/FieldBytes" "to" "I" (.int (0 : Int32)) ∧ Fld Z h r0 "com/example/rankweave/rankweave/io/FieldBytes" "hashed" "Z" (.int (0 : Int32)) ∧ ∃ (bb : Addr) (kk : ClassId), Fld Z h r0 "com/example/rankweave/rankweave/io/FieldBytes" "bytes" "[B" (.ref bb) ∧ Arv Z h bb kk .byte (0 : Int32) [] (.int (0 : Int32))
set_option maxRecDepth 65536 in
set_option maxHeartbeats 40000000 in
theorem rm1 (l : Launch) (Z : State) (a0 : Array Value) (hw : ∀ d ∈ tables_1, d.before a0 Z = true) (ws : List Jvm.Cond) (r0 : Addr) (h0 : Heap) (n0 : Nat) (Z0 : n0 ≤ h0.size) (A0 : Exa Z h0 r0 "com/example/rankweave/rankweave/io/FieldBytes") (g_r0 : n0 ≤ r0) (F_bytes : Fld Z h0 r0 "com/example/rankweave/rankweave/io/FieldBytes" "bytes" "[B" .null) (F_from : Fld Z h0 r0 "com/example/rankweave/rankweave/io/FieldBytes" "from" "I" (.int (0 : Int32))) (F_to : Fld Z h0 r0 "com/example/rankweave/rankweave/io/FieldBytes" "to" "I" (.int (0 : Int32))) (F_hashed : Fld Z h0 r0 "com/example/rankweave/rankweave/io/FieldBytes" "hashed" "Z" (.int (0 : Int32))) :
    MetFree l (⟨"com/example/rankweave/rankweave/io/FieldBytes", "<init>", "()V"⟩ : MethodName) (head1 (Jvm.Cond.code (⟨"com/example/rankweave/rankweave/io/FieldBytes", "<init>", "()V"⟩ : MethodName) prog_45_method_1_code 1 none :: ws) ({ frames := 1, cells := 1, slots := 0, locals := 12 } : Room)) (fun a U => a = #[(.ref r0)] ∧ Z.Warmed39 U.vm ∧ U.heap = h0) (fun _ _ _ _ _ => True) (fun _ U o U' => ∃ v L, o = .returned v ∧ Q1 Z r0 h0 n0 v U'.heap L ∧ FrameEnd U o U' L ({ frames := 1, cells := 1, slots := 0, locals := 12 } : Room).cells ({ frames := 1, cells := 1, slots := 0, locals := 12 } : Room).slots) := by
  refine MetFree.of_bodySF (plainFor_of_name own_pn0) hisR ?_
  intro p e s m args below meth c s₁ Bd hml0 hP hK
  obtain ⟨rfl, hZ, hh⟩ := hP
  have hx := Bd.exec
  have hby := Bd.bytes
  have hml : c.maxLocals = 1 := hml0
  have hown : s.vm.findClass "com/example/rankweave/rankweave/io/FieldBytes" = some m.cls := findClass_of_methodNamed Bd.named
  have hnm := (name_of_methodNamed Bd.named Bd.method).1
  have hlk : meth.locks = false := BodyLoose.notSynchronized Bd
  have X0 : Stand p l e ({ frames := 1, cells := 1, slots := 0, locals := 12 } : Room) s m #[(.ref r0)] below meth c s₁ [] 0 0 := Stand.of_body Bd
  have e0 : s₁.heap = h0 := by rw [← hh, Bd.state]; rfl
  have N0 := Fr.nil n0
  show GoesW p.tables e below s (Q1 Z r0 h0 n0) 1 0 (s₁.setTop (entryFrame m #[(.ref r0)] 1))
  rw [ef_rm1 m r0]
  show GoesW p.tables e below s (Q1 Z r0 h0 n0) 1 0 (s₁.setTop (mkF m 0 #[.val (.ref r0)] []))
  refine GoesW.step (fun _ k => XS.aloadN X0.here hx rfl (hb hby d1_0) rfl rfl k) ?_
  show GoesW p.tables e below s (Q1 Z r0 h0 n0) 1 0 (s₁.setTop (mkF m 1 #[.val (.ref r0)] [(.ref r0)]))
  obtain ⟨T1, X1, e1, st1⟩ := initO X0 hx hZ hown (hw _ (List.mem_of_getElem? (i := 7) rfl)) (hw _ (List.mem_of_getElem? (i := 8) rfl)) (hw _ (List.mem_of_getElem? (i := 9) rfl)) e0 (g := (mkF m 1 #[.val (.ref r0)] [(.ref r0)])) rfl (by rw [hml]; rfl) rfl (hb hby d1_1) (by decide) (W := 0) (by show 2 * 0 + _ ≤ _; exact Nat.le_of_eq rfl) (by decide)
  refine GoesW.step st1 ?_
  show GoesW p.tables e below s (Q1 Z r0 h0 n0) 1 0 (T1.setTop (mkF m 4 #[.val (.ref r0)] []))
  refine GoesW.step (fun _ k => XS.aloadN X1.here hx rfl (hb hby d1_4) rfl rfl k) ?_
  show GoesW p.tables e below s (Q1 Z r0 h0 n0) 1 0 (T1.setTop (mkF m 5 #[.val (.ref r0)] [(.ref r0)]))
  refine GoesW.step (fun _ k => XS.iconst X1.here hx rfl (hb hby d1_5) k) ?_
  show GoesW p.tables e below s (Q1 Z r0 h0 n0) 1 0 (T1.setTop (mkF m 6 #[.val (.ref r0)] [(.int (0 : Int32)), (.ref r0)]))
  obtain ⟨T2, h2, k2, X2, e2, E2, A2, st2⟩ := newP X1 hx hZ (hw _ (List.mem_of_getElem? (i := 0) rfl)) e1 (g := (mkF m 6 #[.val (.ref r0)] [(.int (0 : Int32)), (.ref r0)])) rfl (hb hby d1_6) rfl (by decide) (cap := 0) (by decide) (by decide) (by decide) (by decide)
  obtain ⟨b2, gs2⟩ : ∃ z, z = h0.size := ⟨_, rfl⟩
  rw [← gs2] at A2 st2
  have g_b2 : n0 ≤ b2 := Nat.le_trans Z0 (Nat.le_of_eq gs2.symm)
  have sz_b2 : h0.size ≤ b2 := Nat.le_trans (Keep.refl h0 [r0]).1 (Nat.le_of_eq gs2.symm)
  have ne_r0_b2 : r0 ≠ b2 := Nat.ne_of_lt (Nat.lt_of_lt_of_le A0.lt (Nat.le_of_eq gs2.symm))
  have Z2 : n0 ≤ h2.size := Nat.le_trans Z0 E2.1
  have K2 : Keep h0 h2 [r0] := (Keep.refl h0 [r0]).ext E2
  have V_b2 : Arv Z h2 b2 k2 .byte (0 : Int32) [] (.int (0 : Int32)) := (Arv.new A2 (by decide))
  refine GoesW.step st2 ?_
  show GoesW p.tables e below s (Q1 Z r0 h0 n0) 1 0 (T2.setTop (mkF m 8 #[.val (.ref r0)] [(.ref b2), (.ref r0)]))
  have Exa_r0_3 := (A0.ext E2)
  have Fld_r0_bytes_4 := (F_bytes.ext E2)
  obtain ⟨T5, h5, X5, e5, W5, st5⟩ := putF X2 hx hZ hown (host := "") (Or.inl (hw _ (List.mem_of_getElem? (i := 10) rfl))) Via.refl e2 Fld_r0_bytes_4 Exa_r0_3 (Or.inl (hw _ (List.mem_of_getElem? (i := 11) rfl))) (hw _ (List.mem_of_getElem? (i := 2) rfl)) (ty := (.array .byte)) (by decide) rfl rfl (g := (mkF m 8 #[.val (.ref r0)] [(.ref b2), (.ref r0)])) rfl rfl (hb hby d1_8)
  have F5 := Fld_r0_bytes_4.same W5
  have N5 := Fr.snoc X5 N0 g_r0
  have Z5 : n0 ≤ h5.size := Nat.le_trans Z2 (Keep.of_wr W5).1
  have K5 : Keep h0 h5 [r0] := K2.wr W5 (Or.inl (List.mem_of_getElem? (i := 0) rfl))
  refine GoesW.step st5 ?_
  show GoesW p.tables e below s (Q1 Z r0 h0 n0) 1 0 (T5.setTop (mkF m 11 #[.val (.ref r0)] []))
  have Fld_r0_from_6 := ((F_from.ext E2).other W5 (Or.inr (slot_ne (Or.inl (hw _ (List.mem_of_getElem? (i := 18) rfl))) (Or.inl (hw _ (List.mem_of_getElem? (i := 11) rfl))) (by decide) (t := .int) (t' := (.array .byte)) (by decide) (by decide))))
  have Fld_r0_to_7 := ((F_to.ext E2).other W5 (Or.inr (slot_ne (Or.inl (hw _ (List.mem_of_getElem? (i := 20) rfl))) (Or.inl (hw _ (List.mem_of_getElem? (i := 11) rfl))) (by decide) (t := .int) (t' := (.array .byte)) (by decide) (by decide))))
  have Fld_r0_hashed_8 := ((F_hashed.ext E2).other W5 (Or.inr (slot_ne (Or.inl (hw _ (List.mem_of_getElem? (i := 22) rfl))) (Or.inl (hw _ (List.mem_of_getElem? (i := 11) rfl))) (by decide) (t := .boolean) (t' := (.array .byte)) (by decide) (by decide))))
  have Arv_b2_9 := (V_b2.other W5 (Ne.symm ne_r0_b2))
  exact GoesW.retV X5 hx hlk Bd.returns (hb hby d1_11) (by show Q1 Z r0 h0 n0 _ T5.heap _; rw [e5]; exact ⟨rfl, N5, K5, Fld_r0_from_6, Fld_r0_to_7, Fld_r0_hashed_8, b2, k2, F5, Arv_b2_9⟩) (by decide) (by decide)
theorem d3_0 : decode prog_45_method_3_code 0 = .ok (.aload_n 0, 1) := by decide +kernel
theorem d3_1 : decode prog_45_method_3_code 1 = .ok (.aload_n 1, 1) := by decide +kernel
theorem d3_2 : decode prog_45_method_3_code 2 = .ok (.putfield 7, 3) := by decide +kernel
theorem d3_5 : decode prog_45_method_3_code 5 = .ok (.aload_n 0, 1) := by decide +kernel
theorem d3_6 : decode prog_45_method_3_code 6 = .ok (.iload_n 2, 1) := by decide +kernel
theorem d3_7 : decode prog_45_method_3_code 7 = .ok (.putfield 17, 3) := by decide +kernel
theorem d3_10 : decode prog_45_method_3_code 10 = .ok (.aload_n 0, 1) := by decide +kernel
theorem d3_11 : decode prog_45_method_3_code 11 = .ok (.iload_n 3, 1) := by decide +kernel
theorem d3_12 : decode prog_45_method_3_code 12 = .ok (.putfield 21, 3) := by decide +kernel
theorem d3_15 : decode prog_45_method_3_code 15 = .ok (.aload_n 0, 1) := by decide +kernel
theorem d3_16 : decode prog_45_method_3_code 16 = .ok (.iconst 0, 1) := by decide +kernel
theorem d3_17 : decode prog_45_method_3_code 17 = .ok (.putfield 24, 3) := by decide +kernel
theorem d3_20 : decode prog_45_method_3_code 20 = .ok (.return_, 1) := by decide +kernel
theorem ef_rm3 (m : MethodId) (x0 : Addr) (x1 : Addr) (x2 : Int32) (x3 : Int32) : entryFrame m #[(.ref x0), (.ref x1), (.int x2), (.int x3)] 4 = mkF m 0 #[.val (.ref x0), .val (.ref x1), .val (.int x2), .val (.int x3)] [] := by first | (simp [entryFrame, mkF, argsToLocals, Value.category]; done) | rfl
def Q3 (Z : State) (r0 : Addr) (r1 : Addr) (p2 : Int32) (p3 : Int32) (u0 : Value) (u1 : Value) (u2 : Value) (u3 : Value) (h0 : Heap) (n0 : Nat) (v : Option Value) (h : Heap) (L : List Loc) : Prop := v = none ∧ Fr n0 L ∧ Keep h0 h [r0] ∧ Fld Z h r0 "com/example/rankweave/rankweave/io/FieldBytes" "bytes" "[B" (.ref r1) ∧ Fld Z h r0 "com/example/rankweave/rankweave/io/FieldBytes" "from" "I" (.int p2) ∧ Fld Z h r0 "com/example/rankweave/rankweave/io/FieldBytes" "to" "I" (.int p3)
set_option maxRecDepth 65536 in
set_option maxHeartbeats 40000000 in
theorem rm3 (l : Launch) (Z : State) (a0 : Array Value) (hw : ∀ d ∈ tables_1, d.before a0 Z = true) (ws : List Jvm.Cond) (r0 : Addr) (r1 : Addr) (p2 : Int32) (p3 : Int32) (u0 : Value) (u1 : Value) (u2 : Value) (u3 : Value) (h0 : Heap) (n0 : Nat) (Z0 : n0 ≤ h0.size) (A0 : Exa Z h0 r0 "com/example/rankweave/rankweave/io/FieldBytes") (g_r0 : n0 ≤ r0) (F_bytes : Fld Z h0 r0 "com/example/rankweave/rankweave/io/FieldBytes" "bytes" "[B" u0) (F_from : Fld Z h0 r0 "com/example/rankweave/rankweave/io/FieldBytes" "from" "I" u1) (F_to : Fld Z h0 r0 "com/example/rankweave/rankweave/io/FieldBytes" "to" "I" u2) (F_hashed : Fld Z h0 r0 "com/example/rankweave/rankweave/io/FieldBytes" "hashed" "Z" u3) :
    MetFree l (⟨"com/example/rankweave/rankweave/io/FieldBytes", "view", "([BII)V"⟩ : MethodName) (head1 (Jvm.Cond.code (⟨"com/example/rankweave/rankweave/io/FieldBytes", "view", "([BII)V"⟩ : MethodName) prog_45_method_3_code 4 none :: ws) ({ frames := 0, cells := 0, slots := 0, locals := 0 } : Room)) (fun a U => a = #[(.ref r0), (.ref r1), (.int p2), (.int p3)] ∧ Z.Warmed39 U.vm ∧ U.heap = h0) (fun _ _ _ _ _ => True) (fun _ U o U' => ∃ v L, o = .returned v ∧ Q3 Z r0 r1 p2 p3 u0 u1 u2 u3 h0 n0 v U'.heap L ∧ FrameEnd U o U' L ({ frames := 0, cells := 0, slots := 0, locals := 0 } : Room).cells ({ frames := 0, cells := 0, slots := 0, locals := 0 } : Room).slots) := by
  refine MetFree.of_bodySF (plainFor_of_name own_pn0) hisR ?_
  intro p e s m args below meth c s₁ Bd hml0 hP hK
  obtain ⟨rfl, hZ, hh⟩ := hP
  have hx := Bd.exec
  have hby := Bd.bytes
  have hml : c.maxLocals = 4 := hml0
  have hown : s.vm.findClass "com/example/rankweave/rankweave/io/FieldBytes" = some m.cls := findClass_of_methodNamed Bd.named
  have hnm := (name_of_methodNamed Bd.named Bd.method).1
  have hlk : meth.locks = false := BodyLoose.notSynchronized Bd
  have X0 : Stand p l e ({ frames := 0, cells := 0, slots := 0, locals := 0 } : Room) s m #[(.ref r0), (.ref r1), (.int p2), (.int p3)] below meth c s₁ [] 0 0 := Stand.of_body Bd
  have e0 : s₁.heap = h0 := by rw [← hh, Bd.state]; rfl
  have N0 := Fr.nil n0
  show GoesW p.tables e below s (Q3 Z r0 r1 p2 p3 u0 u1 u2 u3 h0 n0) 0 0 (s₁.setTop (entryFrame m #[(.ref r0), (.ref r1), (.int p2), (.int p3)] 4))
  rw [ef_rm3 m r0 r1 p2 p3]
  show GoesW p.tables e below s (Q3 Z r0 r1 p2 p3 u0 u1 u2 u3 h0 n0) 0 0 (s₁.setTop (mkF m 0 #[.val (.ref r0), .val (.ref r1), .val (.int p2), .val (.int p3)] []))
  refine GoesW.step (fun _ k => XS.aloadN X0.here hx rfl (hb hby d3_0) rfl rfl k) ?_
  show GoesW p.tables e below s (Q3 Z r0 r1 p2 p3 u0 u1 u2 u3 h0 n0) 0 0 (s₁.setTop (mkF m 1 #[.val (.ref r0), .val (.ref r1), .val (.int p2), .val (.int p3)] [(.ref r0)]))
  refine GoesW.step (fun _ k => XS.aloadN X0.here hx rfl (hb hby d3_1) rfl rfl k) ?_
  show GoesW p.tables e below s (Q3 Z r0 r1 p2 p3 u0 u1 u2 u3 h0 n0) 0 0 (s₁.setTop (mkF m 2 #[.val (.ref r0), .val (.ref r1), .val (.int p2), .val (.int p3)] [(.ref r1), (.ref r0)]))
  obtain ⟨T1, h1, X1, e1, W1, st1⟩ := putF X0 hx hZ hown (host := "") (Or.inl (hw _ (List.mem_of_getElem? (i := 10) rfl))) Via.refl e0 F_bytes A0 (Or.inl (hw _ (List.mem_of_getElem? (i := 11) rfl))) (hw _ (List.mem_of_getElem? (i := 2) rfl)) (ty := (.array .byte)) (by decide) rfl rfl (g := (mkF m 2 #[.val (.ref r0), .val (.ref r1), .val (.int p2), .val (.int p3)] [(.ref r1), (.ref r0)])) rfl rfl (hb hby d3_2)
  have F1 := F_bytes.same W1
  have N1 := Fr.snoc X1 N0 g_r0
  have Z1 : n0 ≤ h1.size := Nat.le_trans Z0 (Keep.of_wr W1).1
  have K1 : Keep h0 h1 [r0] := (Keep.refl h0 [r0]).wr W1 (Or.inl (List.mem_of_getElem? (i := 0) rfl))
  refine GoesW.step st1 ?_
  show GoesW p.tables e below s (Q3 Z r0 r1 p2 p3 u0 u1 u2 u3 h0 n0) 0 0 (T1.setTop (mkF m 5 #[.val (.ref r0), .val (.ref r1), .val (.int p2), .val (.int p3)] []))
  refine GoesW.step (fun _ k => XS.aloadN X1.here hx rfl (hb hby d3_5) rfl rfl k) ?_
  show GoesW p.tables e below s (Q3 Z r0 r1 p2 p3 u0 u1 u2 u3 h0 n0) 0 0 (T1.setTop (mkF m 6 #[.val (.ref r0), .val (.ref r1), .val (.int p2), .val (.int p3)] [(.ref r0)]))
  refine GoesW.step (fun _ k => XS.iloadN X1.here hx rfl (hb hby d3_6) rfl k) ?_
  show GoesW p.tables e below s (Q3 Z r0 r1 p2 p3 u0 u1 u2 u3 h0 n0) 0 0 (T1.setTop (mkF m 7 #[.val (.ref r0), .val (.ref r1), .val (.int p2), .val (.int p3)] [(.int p2), (.ref r0)]))
  have Exa_r0_2 := (A0.wr W1)
  have Fld_r0_from_3 := (F_from.other W1 (Or.inr (slot_ne (Or.inl (hw _ (List.mem_of_getElem? (i := 18) rfl))) (Or.inl (hw _ (List.mem_of_getElem? (i := 11) rfl))) (by decide) (t := .int) (t' := (.array .byte)) (by decide) (by decide))))
  obtain ⟨T4, h4, X4, e4, W4, st4⟩ := putF X1 hx hZ hown (host := "") (Or.inl (hw _ (List.mem_of_getElem? (i := 17) rfl))) Via.refl e1 Fld_r0_from_3 Exa_r0_2 (Or.inl (hw _ (List.mem_of_getElem? (i := 18) rfl))) (hw _ (List.mem_of_getElem? (i := 2) rfl)) (ty := .int) (by decide) rfl rfl (g := (mkF m 7 #[.val (.ref r0), .val (.ref r1), .val (.int p2), .val (.int p3)] [(.int p2), (.ref r0)])) rfl rfl (hb hby d3_7)
  have F4 := Fld_r0_from_3.same W4
  have N4 := Fr.snoc X4 N1 g_r0
  have Z4 : n0 ≤ h4.size := Nat.le_trans Z1 (Keep.of_wr W4).1
  have K4 : Keep h0 h4 [r0] := K1.wr W4 (Or.inl (List.mem_of_getElem? (i := 0) rfl))
  refine GoesW.step st4 ?_
  show GoesW p.tables e below s (Q3 Z r0 r1 p2 p3 u0 u1 u2 u3 h0 n0) 0 0 (T4.setTop (mkF m 10 #[.val (.ref r0), .val (.ref r1), .val (.int p2), .val (.int p3)] []))
  refine GoesW.step (fun _ k => XS.aloadN X4.here hx rfl (hb hby d3_10) rfl rfl k) ?_
  show GoesW p.tables e below s (Q3 Z r0 r1 p2 p3 u0 u1 u2 u3 h0 n0) 0 0 (T4.setTop (mkF m 11 #[.val (.ref r0), .val (.ref r1), .val (.int p2), .val (.int p3)] [(.ref r0)]))
  refine GoesW.step (fun _ k => XS.iloadN X4.here hx rfl (hb hby d3_11) rfl k) ?_
  show GoesW p.tables e below s (Q3 Z r0 r1 p2 p3 u0 u1 u2 u3 h0 n0) 0 0 (T4.setTop (mkF m 12 #[.val (.ref r0), .val (.ref r1), .val (.int p2), .val (.int p3)] [(.int p3), (.ref r0)]))
  have Exa_r0_5 := (Exa_r0_2.wr W4)
  have Fld_r0_to_6 := ((F_to.other W1 (Or.inr (slot_ne (Or.inl (hw _ (List.mem_of_getElem? (i := 20) rfl))) (Or.inl (hw _ (List.mem_of_getElem? (i := 11) rfl))) (by decide) (t := .int) (t' := (.array .byte)) (by decide) (by decide)))).other W4 (Or.inr (slot_ne (Or.inl (hw _ (List.mem_of_getElem? (i := 20) rfl))) (Or.inl (hw _ (List.mem_of_getElem? (i := 18) rfl))) (by decide) (t := .int) (t' := .int) (by decide) (by decide))))
  obtain ⟨T7, h7, X7, e7, W7, st7⟩ := putF X4 hx hZ hown (host := "") (Or.inl (hw _ (List.mem_of_getElem? (i := 19) rfl))) Via.refl e4 Fld_r0_to_6 Exa_r0_5 (Or.inl (hw _ (List.mem_of_getElem? (i := 20) rfl))) (hw _ (List.mem_of_getElem? (i := 2) rfl)) (ty := .int) (by decide) rfl rfl (g := (mkF m 12 #[.val (.ref r0), .val (.ref r1), .val (.int p2), .val (.int p3)] [(.int p3), (.ref r0)])) rfl rfl (hb hby d3_12)
  have F7 := Fld_r0_to_6.same W7
  have N7 := Fr.snoc X7 N4 g_r0
  have Z7 : n0 ≤ h7.size := Nat.le_trans Z4 (Keep.of_wr W7).1
  have K7 : Keep h0 h7 [r0] := K4.wr W7 (Or.inl (List.mem_of_getElem? (i := 0) rfl))
  refine GoesW.step st7 ?_
  show GoesW p.tables e below s (Q3 Z r0 r1 p2 p3 u0 u1 u2 u3 h0 n0) 0 0 (T7.setTop (mkF m 15 #[.val (.ref r0), .val (.ref r1), .val (.int p2), .val (.int p3)] []))
  refine GoesW.step (fun _ k => XS.aloadN X7.here hx rfl (hb hby d3_15) rfl rfl k) ?_
  show GoesW p.tables e below s (Q3 Z r0 r1 p2 p3 u0 u1 u2 u3 h0 n0) 0 0 (T7.setTop (mkF m 16 #[.val (.ref r0), .val (.ref r1), .val (.int p2), .val (.int p3)] [(.ref r0)]))
  refine GoesW.step (fun _ k => XS.iconst X7.here hx rfl (hb hby d3_16) k) ?_
  show GoesW p.tables e below s (Q3 Z r0 r1 p2 p3 u0 u1 u2 u3 h0 n0) 0 0 (T7.setTop (mkF m 17 #[.val (.ref r0), .val (.ref r1), .val (.int p2), .val (.int p3)] [(.int (0 : Int32)), (.ref r0)]))
  have Exa_r0_8 := (Exa_r0_5.wr W7)
  have Fld_r0_hashed_9 := (((F_hashed.other W1 (Or.inr (slot_ne (Or.inl (hw _ (List.mem_of_getElem? (i := 22) rfl))) (Or.inl (hw _ (List.mem_of_getElem? (i := 11) rfl))) (by decide) (t := .boolean) (t' := (.array .byte)) (by decide) (by decide)))).other W4 (Or.inr (slot_ne (Or.inl (hw _ (List.mem_of_getElem? (i := 22) rfl))) (Or.inl (hw _ (List.mem_of_getElem? (i := 18) rfl))) (by decide) (t := .boolean) (t' := .int) (by decide) (by decide)))).other W7 (Or.inr (slot_ne (Or.inl (hw _ (List.mem_of_getElem? (i := 22) rfl))) (Or.inl (hw _ (List.mem_of_getElem? (i := 20) rfl))) (by decide) (t := .boolean) (t' := .int) (by decide) (by decide))))
  obtain ⟨T10, h10, X10, e10, W10, st10⟩ := putFN X7 hx hZ hown (hw _ (List.mem_of_getElem? (i := 21) rfl)) Via.refl e7 Fld_r0_hashed_9 Exa_r0_8 (Or.inl (hw _ (List.mem_of_getElem? (i := 22) rfl))) (hw _ (List.mem_of_getElem? (i := 2) rfl)) (ty := .boolean) (v' := (.int (0 : Int32))) (by decide) (by first | rfl | decide) (by first | rfl | decide) (g := (mkF m 17 #[.val (.ref r0), .val (.ref r1), .val (.int p2), .val (.int p3)] [(.int (0 : Int32)), (.ref r0)])) rfl rfl (hb hby d3_17)
  have F10 := Fld_r0_hashed_9.same W10
  have N10 := Fr.snoc X10 N7 g_r0
  have Z10 : n0 ≤ h10.size := Nat.le_trans Z7 (Keep.of_wr W10).1
  have K10 : Keep h0 h10 [r0] := K7.wr W10 (Or.inl (List.mem_of_getElem? (i := 0) rfl))
  refine GoesW.step st10 ?_
  show GoesW p.tables e below s (Q3 Z r0 r1 p2 p3 u0 u1 u2 u3 h0 n0) 0 0 (T10.setTop (mkF m 20 #[.val (.ref r0), .val (.ref r1), .val (.int p2), .val (.int p3)] []))
  have Fld_r0_bytes_11 := (((F1.other W4 (Or.inr (slot_ne (Or.inl (hw _ (List.mem_of_getElem? (i := 11) rfl))) (Or.inl (hw _ (List.mem_of_getElem? (i := 18) rfl))) (by decide) (t := (.array .byte)) (t' := .int) (by decide) (by decide)))).other W7 (Or.inr (slot_ne (Or.inl (hw _ (List.mem_of_getElem? (i := 11) rfl))) (Or.inl (hw _ (List.mem_of_getElem? (i := 20) rfl))) (by decide) (t := (.array .byte)) (t' := .int) (by decide) (by decide)))).other W10 (Or.inr (slot_ne (Or.inl (hw _ (List.mem_of_getElem? (i := 11) rfl))) (Or.inl (hw _ (List.mem_of_getElem? (i := 22) rfl))) (by decide) (t := (.array .byte)) (t' := .boolean) (by decide) (by decide))))
  have Fld_r0_from_12 := ((F4.other W7 (Or.inr (slot_ne (Or.inl (hw _ (List.mem_of_getElem? (i := 18) rfl))) (Or.inl (hw _ (List.mem_of_getElem? (i := 20) rfl))) (by decide) (t := .int) (t' := .int) (by decide) (by decide)))).other W10 (Or.inr (slot_ne (Or.inl (hw _ (List.mem_of_getElem? (i := 18) rfl))) (Or.inl (hw _ (List.mem_of_getElem? (i := 22) rfl))) (by decide) (t := .int) (t' := .boolean) (by decide) (by decide))))
  have Fld_r0_to_13 := (F7.other W10 (Or.inr (slot_ne (Or.inl (hw _ (List.mem_of_getElem? (i := 20) rfl))) (Or.inl (hw _ (List.mem_of_getElem? (i := 22) rfl))) (by decide) (t := .int) (t' := .boolean) (by decide) (by decide))))
  exact GoesW.retV X10 hx hlk Bd.returns (hb hby d3_20) (by show Q3 Z r0 r1 p2 p3 u0 u1 u2 u3 h0 n0 _ T10.heap _; rw [e10]; exact ⟨rfl, N10, K10, Fld_r0_bytes_11, Fld_r0_from_12, Fld_r0_to_13⟩) (by decide) (by decide)
theorem d4_0 : decode prog_45_method_6_code 0 = .ok (.aload_n 1, 1) := by decide +kernel
theorem d4_1 : decode prog_45_method_6_code 1 = .ok (.instanceof 8, 3) := by decide +kernel
theorem d4_4 : decode prog_45_method_6_code 4 = .ok (.ifCond .eq 29, 3) := by decide +kernel
theorem d4_33 : decode prog_45_method_6_code 33 = .ok (.iconst 0, 1) := by decide +kernel
theorem d4_34 : decode prog_45_method_6_code 34 = .ok (.ireturn, 1) := by decide +kernel
theorem ef_rm4n (m : MethodId) (x0 : Addr) : entryFrame m #[(.ref x0), .null] 5 = mkF m 0 #[.val (.ref x0), .val .null, .unset, .unset, .unset] [] := by first | (simp [entryFrame, mkF, argsToLocals, Value.category]; done) | rfl
def Q4n (Z : State) (r0 : Addr) (h0 : Heap) (n0 : Nat) (v : Option Value) (h : Heap) (L : List Loc) : Prop := v = some (.int (0 : Int32)) ∧ Fr n0 L ∧ h = h0
set_option maxRecDepth 65536 in
set_option maxHeartbeats 40000000 in
theorem rm4n (l : Launch) (Z : State) (a0 : Array Value) (hw : ∀ d ∈ tables_1, d.before a0 Z = true) (ws : List Jvm.Cond) (r0 : Addr) (h0 : Heap) (n0 : Nat) (Z0 : n0 ≤ h0.size)  :
    MetFree l (⟨"com/example/rankweave/rankweave/io/FieldBytes", "equals", "(Ljava/lang/Object;)Z"⟩ : MethodName) (head1 (Jvm.Cond.code (⟨"com/example/rankweave/rankweave/io/FieldBytes", "equals", "(Ljava/lang/Object;)Z"⟩ : MethodName) prog_45_method_6_code 5 (some .boolean) :: ws) ({ frames := 0, cells := 0, slots := 0, locals := 0 } : Room)) (fun a U => a = #[(.ref r0), .null] ∧ Z.Warmed39 U.vm ∧ U.heap = h0) (fun _ _ _ _ _ => True) (fun _ U o U' => ∃ v L, o = .returned v ∧ Q4n Z r0 h0 n0 v U'.heap L ∧ FrameEnd U o U' L ({ frames := 0, cells := 0, slots := 0, locals := 0 } : Room).cells ({ frames := 0, cells := 0, slots := 0, locals := 0 } : Room).slots) := by
  refine MetFree.of_bodySF (plainFor_of_name own_pn0) hisR ?_
  intro p e s m args below meth c s₁ Bd hml0 hP hK
  obtain ⟨rfl, hZ, hh⟩ := hP
  have hx := Bd.exec
  have hby := Bd.bytes
  have hml : c.maxLocals = 5 := hml0
  have hown : s.vm.findClass "com/example/rankweave/rankweave/io/FieldBytes" = some m.cls := findClass_of_methodNamed Bd.named
  have hnm := (name_of_methodNamed Bd.named Bd.method).1
  have hlk : meth.locks = false := BodyLoose.notSynchronized Bd
  have X0 : Stand p l e ({ frames := 0, cells := 0, slots := 0, locals := 0 } : Room) s m #[(.ref r0), .null] below meth c s₁ [] 0 0 := Stand.of_body Bd
  have e0 : s₁.heap = h0 := by rw [← hh, Bd.state]; rfl
  have N0 := Fr.nil n0
  show GoesW p.tables e below s (Q4n Z r0 h0 n0) 0 0 (s₁.setTop (entryFrame m #[(.ref r0), .null] 5))
  rw [ef_rm4n m r0]
  show GoesW p.tables e below s (Q4n Z r0 h0 n0) 0 0 (s₁.setTop (mkF m 0 #[.val (.ref r0), .val .null, .unset, .unset, .unset] []))
  refine GoesW.step (fun _ k => XS.aloadN X0.here hx rfl (hb hby d4_0) rfl rfl k) ?_
  show GoesW p.tables e below s (Q4n Z r0 h0 n0) 0 0 (s₁.setTop (mkF m 1 #[.val (.ref r0), .val .null, .unset, .unset, .unset] [.null]))
  refine GoesW.step (fun _ k => X0.instanceofNull hx (g := (mkF m 1 #[.val (.ref r0), .val .null, .unset, .unset, .unset] [.null])) rfl rfl (hb hby d4_1) _ k) ?_
  show GoesW p.tables e below s (Q4n Z r0 h0 n0) 0 0 (s₁.setTop (mkF m 4 #[.val (.ref r0), .val .null, .unset, .unset, .unset] [(.int (0 : Int32))]))
  refine GoesW.step (fun _ k => XS.ifYes X0.here hx rfl (pc0 := 4) (pc' := 33) rfl (hb hby d4_4) rfl ((if0 _ _).trans (teq (rfl : (0 : Int32) = (0 : Int32))).1) (by decide) (by decide) k) ?_
  show GoesW p.tables e below s (Q4n Z r0 h0 n0) 0 0 (s₁.setTop (mkF m 33 #[.val (.ref r0), .val .null, .unset, .unset, .unset] []))
  refine GoesW.step (fun _ k => XS.iconst X0.here hx rfl (hb hby d4_33) k) ?_
  show GoesW p.tables e below s (Q4n Z r0 h0 n0) 0 0 (s₁.setTop (mkF m 34 #[.val (.ref r0), .val .null, .unset, .unset, .unset] [(.int (0 : Int32))]))
  exact GoesW.retZ X0 hx hlk (t := .boolean) Bd.returns (by simp) rfl (hb hby d4_34) (by show Q4n Z r0 h0 n0 _ s₁.heap _; rw [e0]; exact ⟨rfl, N0, rfl⟩) (by decide) (by decide)
theorem ef_rm4i (m : MethodId) (x0 : Addr) (x1 : Addr) : entryFrame m #[(.ref x0), (.ref x1)] 5 = mkF m 0 #[.val (.ref x0), .val (.ref x1), .unset, .unset, .unset] [] := by first | (simp [entryFrame, mkF, argsToLocals, Value.category]; done) | rfl
def Q4i (Z : State) (r0 : Addr) (r1 : Addr) (h0 : Heap) (n0 : Nat) (v : Option Value) (h : Heap) (L : List Loc) : Prop := v = some (.int (0 : Int32)) ∧ Fr n0 L ∧ h = h0
set_option maxRecDepth 65536 in
set_option maxHeartbeats 40000000 in
theorem rm4i (l : Launch) (Z : State) (a0 : Array Value) (hw : ∀ d ∈ tables_1, d.before a0 Z = true) (ws : List Jvm.Cond) (r0 : Addr) (r1 : Addr) (h0 : Heap) (n0 : Nat) (Z0 : n0 ≤ h0.size) (A1 : Exa Z h0 r1 "java/lang/Integer") :
    MetFree l (⟨"com/example/rankweave/rankweave/io/FieldBytes", "equals", "(Ljava/lang/Object;)Z"⟩ : MethodName) (head1 (Jvm.Cond.code (⟨"com/example/rankweave/rankweave/io/FieldBytes", "equals", "(Ljava/lang/Object;)Z"⟩ : MethodName) prog_45_method_6_code 5 (some .boolean) :: ws) ({ frames := 0, cells := 0, slots := 0, locals := 0 } : Room)) (fun a U => a = #[(.ref r0), (.ref r1)] ∧ Z.Warmed39 U.vm ∧ U.heap = h0) (fun _ _ _ _ _ => True) (fun _ U o U' => ∃ v L, o = .returned v ∧ Q4i Z r0 r1 h0 n0 v U'.heap L ∧ FrameEnd U o U' L ({ frames := 0, cells := 0, slots := 0, locals := 0 } : Room).cells ({ frames := 0, cells := 0, slots := 0, locals := 0 } : Room).slots) := by
  refine MetFree.of_bodySF (plainFor_of_name own_pn0) hisR ?_
  intro p e s m args below meth c s₁ Bd hml0 hP hK
  obtain ⟨rfl, hZ, hh⟩ := hP
  have hx := Bd.exec
  have hby := Bd.bytes
  have hml : c.maxLocals = 5 := hml0
  have hown : s.vm.findClass "com/example/rankweave/rankweave/io/FieldBytes" = some m.cls := findClass_of_methodNamed Bd.named
  have hnm := (name_of_methodNamed Bd.named Bd.method).1
  have hlk : meth.locks = false := BodyLoose.notSynchronized Bd
  have X0 : Stand p l e ({ frames := 0, cells := 0, slots := 0, locals := 0 } : Room) s m #[(.ref r0), (.ref r1)] below meth c s₁ [] 0 0 := Stand.of_body Bd
  have e0 : s₁.heap = h0 := by rw [← hh, Bd.state]; rfl
  have N0 := Fr.nil n0
  show GoesW p.tables e below s (Q4i Z r0 r1 h0 n0) 0 0 (s₁.setTop (entryFrame m #[(.ref r0), (.ref r1)] 5))
  rw [ef_rm4i m r0 r1]
  show GoesW p.tables e below s (Q4i Z r0 r1 h0 n0) 0 0 (s₁.setTop (mkF m 0 #[.val (.ref r0), .val (.ref r1), .unset, .unset, .unset] []))
  refine GoesW.step (fun _ k => XS.aloadN X0.here hx rfl (hb hby d4_0) rfl rfl k) ?_
  show GoesW p.tables e below s (Q4i Z r0 r1 h0 n0) 0 0 (s₁.setTop (mkF m 1 #[.val (.ref r0), .val (.ref r1), .unset, .unset, .unset] [(.ref r1)]))
  obtain ⟨T1, X1, e1, st1⟩ := instNo X0 hx hZ hown (hw _ (List.mem_of_getElem? (i := 28) rfl)) e0 A1 (own_no (hw _ (List.mem_of_getElem? (i := 51) rfl)) (hw _ (List.mem_of_getElem? (i := 2) rfl)) (NS.step (hw _ (List.mem_of_getElem? (i := 51) rfl)) (NS.step (hw _ (List.mem_of_getElem? (i := 52) rfl)) (own_root (hw _ (List.mem_of_getElem? (i := 53) rfl)) (hw _ (List.mem_of_getElem? (i := 2) rfl)) (by decide)) (by decide)) (by decide)) (by decide)) (g := (mkF m 1 #[.val (.ref r0), .val (.ref r1), .unset, .unset, .unset] [(.ref r1)])) rfl rfl (hb hby d4_1)
  refine GoesW.step st1 ?_
  show GoesW p.tables e below s (Q4i Z r0 r1 h0 n0) 0 0 (T1.setTop (mkF m 4 #[.val (.ref r0), .val (.ref r1), .unset, .unset, .unset] [(.int (0 : Int32))]))
  refine GoesW.step (fun _ k => XS.ifYes X1.here hx rfl (pc0 := 4) (pc' := 33) rfl (hb hby d4_4) rfl ((if0 _ _).trans (teq (rfl : (0 : Int32) = (0 : Int32))).1) (by decide) (by decide) k) ?_
  show GoesW p.tables e below s (Q4i Z r0 r1 h0 n0) 0 0 (T1.setTop (mkF m 33 #[.val (.ref r0), .val (.ref r1), .unset, .unset, .unset] []))
  refine GoesW.step (fun _ k => XS.iconst X1.here hx rfl (hb hby d4_33) k) ?_
  show GoesW p.tables e below s (Q4i Z r0 r1 h0 n0) 0 0 (T1.setTop (mkF m 34 #[.val (.ref r0), .val (.ref r1), .unset, .unset, .unset] [(.int (0 : Int32))]))
  exact GoesW.retZ X1 hx hlk (t := .boolean) Bd.returns (by simp) rfl (hb hby d4_34) (by show Q4i Z r0 r1 h0 n0 _ T1.heap _; rw [e1]; exact ⟨rfl, N0, rfl⟩) (by decide) (by decide)
theorem d4_7 : decode prog_45_method_6_code 7 = .ok (.aload_n 1, 1) := by decide +kernel
theorem d4_8 : decode prog_45_method_6_code 8 = .ok (.checkcast 8, 3) := by decide +kernel
theorem d4_11 : decode prog_45_method_6_code 11 = .ok (.astore_n 2, 1) := by decide +kernel
theorem d4_12 : decode prog_45_method_6_code 12 = .ok (.aload_n 0, 1) := by decide +kernel
theorem d4_13 : decode prog_45_method_6_code 13 = .ok (.getfield 21, 3) := by decide +kernel
theorem d4_16 : decode prog_45_method_6_code 16 = .ok (.aload_n 0, 1) := by decide +kernel
theorem d4_17 : decode prog_45_method_6_code 17 = .ok (.getfield 17, 3) := by decide +kernel
theorem d4_20 : decode prog_45_method_6_code 20 = .ok (.isub, 1) := by decide +kernel
theorem d4_21 : decode prog_45_method_6_code 21 = .ok (.aload_n 2, 1) := by decide +kernel
theorem d4_22 : decode prog_45_method_6_code 22 = .ok (.getfield 21, 3) := by decide +kernel
theorem d4_25 : decode prog_45_method_6_code 25 = .ok (.aload_n 2, 1) := by decide +kernel
theorem d4_26 : decode prog_45_method_6_code 26 = .ok (.getfield 17, 3) := by decide +kernel
theorem d4_29 : decode prog_45_method_6_code 29 = .ok (.isub, 1) := by decide +kernel
theorem d4_30 : decode prog_45_method_6_code 30 = .ok (.if_icmp .eq 5, 3) := by decide +kernel
theorem d4_35 : decode prog_45_method_6_code 35 = .ok (.aload_n 0, 1) := by decide +kernel
theorem d4_36 : decode prog_45_method_6_code 36 = .ok (.getfield 17, 3) := by decide +kernel
theorem d4_39 : decode prog_45_method_6_code 39 = .ok (.istore_n 3, 1) := by decide +kernel
theorem d4_40 : decode prog_45_method_6_code 40 = .ok (.aload_n 2, 1) := by decide +kernel
theorem d4_41 : decode prog_45_method_6_code 41 = .ok (.getfield 17, 3) := by decide +kernel
theorem d4_44 : decode prog_45_method_6_code 44 = .ok (.istore 4, 2) := by decide +kernel
theorem d4_46 : decode prog_45_method_6_code 46 = .ok (.iload_n 3, 1) := by decide +kernel
theorem d4_47 : decode prog_45_method_6_code 47 = .ok (.aload_n 0, 1) := by decide +kernel
theorem d4_48 : decode prog_45_method_6_code 48 = .ok (.getfield 21, 3) := by decide +kernel
theorem d4_51 : decode prog_45_method_6_code 51 = .ok (.if_icmp .ge 30, 3) := by decide +kernel
theorem d4_54 : decode prog_45_method_6_code 54 = .ok (.aload_n 0, 1) := by decide +kernel
theorem d4_55 : decode prog_45_method_6_code 55 = .ok (.getfield 7, 3) := by decide +kernel
theorem d4_58 : decode prog_45_method_6_code 58 = .ok (.iload_n 3, 1) := by decide +kernel
theorem d4_59 : decode prog_45_method_6_code 59 = .ok (.baload, 1) := by decide +kernel
theorem d4_60 : decode prog_45_method_6_code 60 = .ok (.aload_n 2, 1) := by decide +kernel
theorem d4_61 : decode prog_45_method_6_code 61 = .ok (.getfield 7, 3) := by decide +kernel
theorem d4_64 : decode prog_45_method_6_code 64 = .ok (.iload 4, 2) := by decide +kernel
theorem d4_66 : decode prog_45_method_6_code 66 = .ok (.baload, 1) := by decide +kernel
theorem d4_67 : decode prog_45_method_6_code 67 = .ok (.if_icmp .eq 5, 3) := by decide +kernel
theorem d4_70 : decode prog_45_method_6_code 70 = .ok (.iconst 0, 1) := by decide +kernel
theorem d4_71 : decode prog_45_method_6_code 71 = .ok (.ireturn, 1) := by decide +kernel
theorem d4_72 : decode prog_45_method_6_code 72 = .ok (.iinc 3 1, 3) := by decide +kernel
theorem d4_75 : decode prog_45_method_6_code 75 = .ok (.iinc 4 1, 3) := by decide +kernel
theorem d4_78 : decode prog_45_method_6_code 78 = .ok (.goto (-32), 3) := by decide +kernel
theorem d4_81 : decode prog_45_method_6_code 81 = .ok (.iconst 1, 1) := by decide +kernel
theorem d4_82 : decode prog_45_method_6_code 82 = .ok (.ireturn, 1) := by decide +kernel
theorem ef_rm4 (m : MethodId) (x0 : Addr) (x1 : Addr) : entryFrame m #[(.ref x0), (.ref x1)] 5 = mkF m 0 #[.val (.ref x0), .val (.ref x1), .unset, .unset, .unset] [] := by first | (simp [entryFrame, mkF, argsToLocals, Value.category]; done) | rfl
def Q4 (Z : State) (r0 : Addr) (r1 : Addr) (sx : Addr) (f : Int32) (t : Int32) (sy : Addr) (g : Int32) (u : Int32) (kx : ClassId) (nx : Int32) (xs : List Int32) (dx : Value) (ky : ClassId) (ny : Int32) (ys : List Int32) (dy : Value) (h0 : Heap) (n0 : Nat) (v : Option Value) (h : Heap) (L : List Loc) : Prop := v = some (.int (own_eqv xs ys f t g u)) ∧ Fr n0 L ∧ h = h0
set_option maxRecDepth 65536 in
set_option maxHeartbeats 40000000 in
theorem rm4 (l : Launch) (Z : State) (a0 : Array Value) (hw : ∀ d ∈ tables_1, d.before a0 Z = true) (ws : List Jvm.Cond) (r0 : Addr) (r1 : Addr) (sx : Addr) (f : Int32) (t : Int32) (sy : Addr) (g : Int32) (u : Int32) (kx : ClassId) (nx : Int32) (xs : List Int32) (dx : Value) (ky : ClassId) (ny : Int32) (ys : List Int32) (dy : Value) (h0 : Heap) (n0 : Nat) (Z0 : n0 ≤ h0.size) (A1 : Exa Z h0 r1 "com/example/rankweave/rankweave/io/FieldBytes") (F_bytes : Fld Z h0 r0 "com/example/rankweave/rankweave/io/FieldBytes" "bytes" "[B" (.ref sx)) (F_from : Fld Z h0 r0 "com/example/rankweave/rankweave/io/FieldBytes" "from" "I" (.int f)) (F_to : Fld Z h0 r0 "com/example/rankweave/rankweave/io/FieldBytes" "to" "I" (.int t)) (G_bytes : Fld Z h0 r1 "com/example/rankweave/rankweave/io/FieldBytes" "bytes" "[B" (.ref sy)) (G_from : Fld Z h0 r1 "com/example/rankweave/rankweave/io/FieldBytes" "from" "I" (.int g)) (G_to : Fld Z h0 r1 "com/example/rankweave/rankweave/io/FieldBytes" "to" "I" (.int u)) (V0 : Arv Z h0 sx kx .byte nx (xs.map Value.int) dx) (V1 : Arv Z h0 sy ky .byte ny (ys.map Value.int) dy) (hnx : nx.toNatClampNeg = xs.length) (hny : ny.toNatClampNeg = ys.length) (f0 : 0 ≤ f.toInt) (ft : f.toInt ≤ t.toInt) (tn : t.toInt ≤ nx.toInt) (g0 : 0 ≤ g.toInt) (gu : g.toInt ≤ u.toInt) (un : u.toInt ≤ ny.toInt) :
    MetFree l (⟨"com/example/rankweave/rankweave/io/FieldBytes", "equals", "(Ljava/lang/Object;)Z"⟩ : MethodName) (head1 (Jvm.Cond.code (⟨"com/example/rankweave/rankweave/io/FieldBytes", "equals", "(Ljava/lang/Object;)Z"⟩ : MethodName) prog_45_method_6_code 5 (some .boolean) :: ws) ({ frames := 0, cells := 0, slots := 0, locals := 0 } : Room)) (fun a U => a = #[(.ref r0), (.ref r1)] ∧ Z.Warmed39 U.vm ∧ U.heap = h0) (fun _ _ _ _ _ => True) (fun _ U o U' => ∃ v L, o = .returned v ∧ Q4 Z r0 r1 sx f t sy g u kx nx xs dx ky ny ys dy h0 n0 v U'.heap L ∧ FrameEnd U o U' L ({ frames := 0, cells := 0, slots := 0, locals := 0 } : Room).cells ({ frames := 0, cells := 0, slots := 0, locals := 0 } : Room).slots) := by
  refine MetFree.of_bodySF (plainFor_of_name own_pn0) hisR ?_
  intro p e s m args below meth c s₁ Bd hml0 hP hK
  obtain ⟨rfl, hZ, hh⟩ := hP
  have hx := Bd.exec
  have hby := Bd.bytes
  have hml : c.maxLocals = 5 := hml0
  have hown : s.vm.findClass "com/example/rankweave/rankweave/io/FieldBytes" = some m.cls := findClass_of_methodNamed Bd.named
  have hnm := (name_of_methodNamed Bd.named Bd.method).1
  have hlk : meth.locks = false := BodyLoose.notSynchronized Bd
  have X0 : Stand p l e ({ frames := 0, cells := 0, slots := 0, locals := 0 } : Room) s m #[(.ref r0), (.ref r1)] below meth c s₁ [] 0 0 := Stand.of_body Bd
  have e0 : s₁.heap = h0 := by rw [← hh, Bd.state]; rfl
  have N0 := Fr.nil n0
  show GoesW p.tables e below s (Q4 Z r0 r1 sx f t sy g u kx nx xs dx ky ny ys dy h0 n0) 0 0 (s₁.setTop (entryFrame m #[(.ref r0), (.ref r1)] 5))
  rw [ef_rm4 m r0 r1]
  show GoesW p.tables e below s (Q4 Z r0 r1 sx f t sy g u kx nx xs dx ky ny ys dy h0 n0) 0 0 (s₁.setTop (mkF m 0 #[.val (.ref r0), .val (.ref r1), .unset, .unset, .unset] []))
  refine GoesW.step (fun _ k => XS.aloadN X0.here hx rfl (hb hby d4_0) rfl rfl k) ?_
  show GoesW p.tables e below s (Q4 Z r0 r1 sx f t sy g u kx nx xs dx ky ny ys dy h0 n0) 0 0 (s₁.setTop (mkF m 1 #[.val (.ref r0), .val (.ref r1), .unset, .unset, .unset] [(.ref r1)]))
  obtain ⟨T1, X1, e1, st1⟩ := instY X0 hx hZ hown (hw _ (List.mem_of_getElem? (i := 28) rfl)) e0 (Ins.self A1) (g := (mkF m 1 #[.val (.ref r0), .val (.ref r1), .unset, .unset, .unset] [(.ref r1)])) rfl rfl (hb hby d4_1)
  refine GoesW.step st1 ?_
  show GoesW p.tables e below s (Q4 Z r0 r1 sx f t sy g u kx nx xs dx ky ny ys dy h0 n0) 0 0 (T1.setTop (mkF m 4 #[.val (.ref r0), .val (.ref r1), .unset, .unset, .unset] [(.int (1 : Int32))]))
  refine GoesW.step (fun _ k => XS.ifNo X1.here hx rfl (hb hby d4_4) rfl ((if0 _ _).trans (feq (show ¬ (1 : Int32) = (0 : Int32) by decide)).1) k) ?_
  show GoesW p.tables e below s (Q4 Z r0 r1 sx f t sy g u kx nx xs dx ky ny ys dy h0 n0) 0 0 (T1.setTop (mkF m 7 #[.val (.ref r0), .val (.ref r1), .unset, .unset, .unset] []))
  refine GoesW.step (fun _ k => XS.aloadN X1.here hx rfl (hb hby d4_7) rfl rfl k) ?_
  show GoesW p.tables e below s (Q4 Z r0 r1 sx f t sy g u kx nx xs dx ky ny ys dy h0 n0) 0 0 (T1.setTop (mkF m 8 #[.val (.ref r0), .val (.ref r1), .unset, .unset, .unset] [(.ref r1)]))
  obtain ⟨T2, X2, e2, st2⟩ := castY X1 hx hZ hown (hw _ (List.mem_of_getElem? (i := 28) rfl)) e1 (Ins.self A1) (g := (mkF m 8 #[.val (.ref r0), .val (.ref r1), .unset, .unset, .unset] [(.ref r1)])) rfl rfl (hb hby d4_8)
  refine GoesW.step st2 ?_
  show GoesW p.tables e below s (Q4 Z r0 r1 sx f t sy g u kx nx xs dx ky ny ys dy h0 n0) 0 0 (T2.setTop (mkF m 11 #[.val (.ref r0), .val (.ref r1), .unset, .unset, .unset] [(.ref r1)]))
  refine GoesW.step (fun _ k => XS.astoreN X2.here hx rfl (hb hby d4_11) rfl rfl (l' := #[.val (.ref r0), .val (.ref r1), .val (.ref r1), .unset, .unset]) rfl k) ?_
  show GoesW p.tables e below s (Q4 Z r0 r1 sx f t sy g u kx nx xs dx ky ny ys dy h0 n0) 0 0 (T2.setTop (mkF m 12 #[.val (.ref r0), .val (.ref r1), .val (.ref r1), .unset, .unset] []))
  refine GoesW.step (fun _ k => XS.aloadN X2.here hx rfl (hb hby d4_12) rfl rfl k) ?_
  show GoesW p.tables e below s (Q4 Z r0 r1 sx f t sy g u kx nx xs dx ky ny ys dy h0 n0) 0 0 (T2.setTop (mkF m 13 #[.val (.ref r0), .val (.ref r1), .val (.ref r1), .unset, .unset] [(.ref r0)]))
  obtain ⟨T3, X3, e3, st3⟩ := getF X2 hx hZ hown (host := "") (Or.inl (hw _ (List.mem_of_getElem? (i := 19) rfl))) Via.refl e2 F_to (g := (mkF m 13 #[.val (.ref r0), .val (.ref r1), .val (.ref r1), .unset, .unset] [(.ref r0)])) rfl rfl (hb hby d4_13)
  refine GoesW.step st3 ?_
  show GoesW p.tables e below s (Q4 Z r0 r1 sx f t sy g u kx nx xs dx ky ny ys dy h0 n0) 0 0 (T3.setTop (mkF m 16 #[.val (.ref r0), .val (.ref r1), .val (.ref r1), .unset, .unset] [(.int t)]))
  refine GoesW.step (fun _ k => XS.aloadN X3.here hx rfl (hb hby d4_16) rfl rfl k) ?_
  show GoesW p.tables e below s (Q4 Z r0 r1 sx f t sy g u kx nx xs dx ky ny ys dy h0 n0) 0 0 (T3.setTop (mkF m 17 #[.val (.ref r0), .val (.ref r1), .val (.ref r1), .unset, .unset] [(.ref r0), (.int t)]))
  obtain ⟨T4, X4, e4, st4⟩ := getF X3 hx hZ hown (host := "") (Or.inl (hw _ (List.mem_of_getElem? (i := 17) rfl))) Via.refl e3 F_from (g := (mkF m 17 #[.val (.ref r0), .val (.ref r1), .val (.ref r1), .unset, .unset] [(.ref r0), (.int t)])) rfl rfl (hb hby d4_17)
  refine GoesW.step st4 ?_
  show GoesW p.tables e below s (Q4 Z r0 r1 sx f t sy g u kx nx xs dx ky ny ys dy h0 n0) 0 0 (T4.setTop (mkF m 20 #[.val (.ref r0), .val (.ref r1), .val (.ref r1), .unset, .unset] [(.int f), (.int t)]))
  refine GoesW.step (fun _ k => XS.isub X4.here hx rfl (hb hby d4_20) rfl k) ?_
  show GoesW p.tables e below s (Q4 Z r0 r1 sx f t sy g u kx nx xs dx ky ny ys dy h0 n0) 0 0 (T4.setTop (mkF m 21 #[.val (.ref r0), .val (.ref r1), .val (.ref r1), .unset, .unset] [(.int (t - f))]))
  refine GoesW.step (fun _ k => XS.aloadN X4.here hx rfl (hb hby d4_21) rfl rfl k) ?_
  show GoesW p.tables e below s (Q4 Z r0 r1 sx f t sy g u kx nx xs dx ky ny ys dy h0 n0) 0 0 (T4.setTop (mkF m 22 #[.val (.ref r0), .val (.ref r1), .val (.ref r1), .unset, .unset] [(.ref r1), (.int (t - f))]))
  obtain ⟨T5, X5, e5, st5⟩ := getF X4 hx hZ hown (host := "") (Or.inl (hw _ (List.mem_of_getElem? (i := 19) rfl))) Via.refl e4 G_to (g := (mkF m 22 #[.val (.ref r0), .val (.ref r1), .val (.ref r1), .unset, .unset] [(.ref r1), (.int (t - f))])) rfl rfl (hb hby d4_22)
  refine GoesW.step st5 ?_
  show GoesW p.tables e below s (Q4 Z r0 r1 sx f t sy g u kx nx xs dx ky ny ys dy h0 n0) 0 0 (T5.setTop (mkF m 25 #[.val (.ref r0), .val (.ref r1), .val (.ref r1), .unset, .unset] [(.int u), (.int (t - f))]))
  refine GoesW.step (fun _ k => XS.aloadN X5.here hx rfl (hb hby d4_25) rfl rfl k) ?_
  show GoesW p.tables e below s (Q4 Z r0 r1 sx f t sy g u kx nx xs dx ky ny ys dy h0 n0) 0 0 (T5.setTop (mkF m 26 #[.val (.ref r0), .val (.ref r1), .val (.ref r1), .unset, .unset] [(.ref r1), (.int u), (.int (t - f))]))
  obtain ⟨T6, X6, e6, st6⟩ := getF X5 hx hZ hown (host := "") (Or.inl (hw _ (List.mem_of_getElem? (i := 17) rfl))) Via.refl e5 G_from (g := (mkF m 26 #[.val (.ref r0), .val (.ref r1), .val (.ref r1), .unset, .unset] [(.ref r1), (.int u), (.int (t - f))])) rfl rfl (hb hby d4_26)
  refine GoesW.step st6 ?_
  show GoesW p.tables e below s (Q4 Z r0 r1 sx f t sy g u kx nx xs dx ky ny ys dy h0 n0) 0 0 (T6.setTop (mkF m 29 #[.val (.ref r0), .val (.ref r1), .val (.ref r1), .unset, .unset] [(.int g), (.int u), (.int (t - f))]))
  refine GoesW.step (fun _ k => XS.isub X6.here hx rfl (hb hby d4_29) rfl k) ?_
  show GoesW p.tables e below s (Q4 Z r0 r1 sx f t sy g u kx nx xs dx ky ny ys dy h0 n0) 0 0 (T6.setTop (mkF m 30 #[.val (.ref r0), .val (.ref r1), .val (.ref r1), .unset, .unset] [(.int (u - g)), (.int (t - f))]))
  by_cases h30 : (t - f) = (u - g)
  · skip
    refine GoesW.step (fun _ k => XS.icmpYes X6.here hx rfl (pc0 := 30) (pc' := 35) rfl (hb hby d4_30) rfl (teq h30).1 (by decide) (by decide) k) ?_
    show GoesW p.tables e below s (Q4 Z r0 r1 sx f t sy g u kx nx xs dx ky ny ys dy h0 n0) 0 0 (T6.setTop (mkF m 35 #[.val (.ref r0), .val (.ref r1), .val (.ref r1), .unset, .unset] []))
    refine GoesW.step (fun _ k => XS.aloadN X6.here hx rfl (hb hby d4_35) rfl rfl k) ?_
    show GoesW p.tables e below s (Q4 Z r0 r1 sx f t sy g u kx nx xs dx ky ny ys dy h0 n0) 0 0 (T6.setTop (mkF m 36 #[.val (.ref r0), .val (.ref r1), .val (.ref r1), .unset, .unset] [(.ref r0)]))
    obtain ⟨T7, X7, e7, st7⟩ := getF X6 hx hZ hown (host := "") (Or.inl (hw _ (List.mem_of_getElem? (i := 17) rfl))) Via.refl e6 F_from (g := (mkF m 36 #[.val (.ref r0), .val (.ref r1), .val (.ref r1), .unset, .unset] [(.ref r0)])) rfl rfl (hb hby d4_36)
    refine GoesW.step st7 ?_
    show GoesW p.tables e below s (Q4 Z r0 r1 sx f t sy g u kx nx xs dx ky ny ys dy h0 n0) 0 0 (T7.setTop (mkF m 39 #[.val (.ref r0), .val (.ref r1), .val (.ref r1), .unset, .unset] [(.int f)]))
    refine GoesW.step (fun _ k => XS.istoreN X7.here hx rfl (hb hby d4_39) rfl (l' := #[.val (.ref r0), .val (.ref r1), .val (.ref r1), .val (.int f), .unset]) rfl k) ?_
    show GoesW p.tables e below s (Q4 Z r0 r1 sx f t sy g u kx nx xs dx ky ny ys dy h0 n0) 0 0 (T7.setTop (mkF m 40 #[.val (.ref r0), .val (.ref r1), .val (.ref r1), .val (.int f), .unset] []))
    refine GoesW.step (fun _ k => XS.aloadN X7.here hx rfl (hb hby d4_40) rfl rfl k) ?_
    show GoesW p.tables e below s (Q4 Z r0 r1 sx f t sy g u kx nx xs dx ky ny ys dy h0 n0) 0 0 (T7.setTop (mkF m 41 #[.val (.ref r0), .val (.ref r1), .val (.ref r1), .val (.int f), .unset] [(.ref r1)]))
    obtain ⟨T8, X8, e8, st8⟩ := getF X7 hx hZ hown (host := "") (Or.inl (hw _ (List.mem_of_getElem? (i := 17) rfl))) Via.refl e7 G_from (g := (mkF m 41 #[.val (.ref r0), .val (.ref r1), .val (.ref r1), .val (.int f), .unset] [(.ref r1)])) rfl rfl (hb hby d4_41)
    refine GoesW.step st8 ?_
    show GoesW p.tables e below s (Q4 Z r0 r1 sx f t sy g u kx nx xs dx ky ny ys dy h0 n0) 0 0 (T8.setTop (mkF m 44 #[.val (.ref r0), .val (.ref r1), .val (.ref r1), .val (.int f), .unset] [(.int g)]))
    refine GoesW.step (fun _ k => XS.istore X8.here hx rfl (hb hby d4_44) rfl (l' := #[.val (.ref r0), .val (.ref r1), .val (.ref r1), .val (.int f), .val (.int g)]) rfl k) ?_
    show GoesW p.tables e below s (Q4 Z r0 r1 sx f t sy g u kx nx xs dx ky ny ys dy h0 n0) 0 0 (T8.setTop (mkF m 46 #[.val (.ref r0), .val (.ref r1), .val (.ref r1), .val (.int f), .val (.int g)] []))
    have vvA := V0
    obtain ⟨clA, ArA, aqA, aSA, aNA, aHA, aGA⟩ := vvA
    have vvB := V1
    obtain ⟨clB, ArB, aqB, aSB, aNB, aHB, aGB⟩ := vvB
    have hxI : nx.toInt = (xs.length : Int) := own_len hnx aNA
    have hyI : ny.toInt = (ys.length : Int) := own_len hny aNB
    have e00 : (0 : Int32).toInt = 0 := rfl
    obtain ⟨kN, hkN⟩ : ∃ z, z = (t - f).toNatClampNeg := ⟨_, rfl⟩
    have hkf : (kN : Int) = t.toInt - f.toInt := by have s1 := c_isub t f; have r1 := rng32 (t - f); have r2 := rng32 t; have q : kN = (t - f).toInt.toNat := hkN; omega
    have hkg : (kN : Int) = u.toInt - g.toInt := by have s1 := c_isub u g; have r1 := rng32 (u - g); have r2 := rng32 u; have q : kN = (u - g).toInt.toNat := (hkN.trans (congrArg Int32.toNatClampNeg h30)); omega
    have fN : f.toInt = (f.toNatClampNeg : Int) := by show f.toInt = (f.toInt.toNat : Int); omega
    have gN : g.toInt = (g.toNatClampNeg : Int) := by show g.toInt = (g.toInt.toNat : Int); omega
    have loop : ∀ (k a w : Nat) (i j : Int32) (TL : State), Stand p l e ({ frames := 0, cells := 0, slots := 0, locals := 0 } : Room) s m #[(.ref r0), (.ref r1)] below meth c TL [] 0 0 → TL.heap = h0 → i.toInt = (a : Int) → j.toInt = (w : Int) → (a : Int) + k = t.toInt → (w : Int) + k = u.toInt → own_cmp xs ys a w k = own_cmp xs ys f.toNatClampNeg g.toNatClampNeg kN → GoesW p.tables e below s (Q4 Z r0 r1 sx f t sy g u kx nx xs dx ky ny ys dy h0 n0) 0 0 (TL.setTop (mkF m 46 #[.val (.ref r0), .val (.ref r1), .val (.ref r1), .val (.int i), .val (.int j)] [])) := by
      intro k
      induction k with
      | zero =>
        intro a w i j TL XL eL hi hj hk hk' hc
        have hge : ¬ i < t := by rw [Int32.lt_iff_toInt_lt]; omega
        show GoesW p.tables e below s (Q4 Z r0 r1 sx f t sy g u kx nx xs dx ky ny ys dy h0 n0) 0 0 (TL.setTop (mkF m 46 #[.val (.ref r0), .val (.ref r1), .val (.ref r1), .val (.int i), .val (.int j)] []))
        refine GoesW.step (fun _ k => XS.iloadN XL.here hx rfl (hb hby d4_46) rfl k) ?_
        show GoesW p.tables e below s (Q4 Z r0 r1 sx f t sy g u kx nx xs dx ky ny ys dy h0 n0) 0 0 (TL.setTop (mkF m 47 #[.val (.ref r0), .val (.ref r1), .val (.ref r1), .val (.int i), .val (.int j)] [(.int i)]))
        refine GoesW.step (fun _ k => XS.aloadN XL.here hx rfl (hb hby d4_47) rfl rfl k) ?_
        show GoesW p.tables e below s (Q4 Z r0 r1 sx f t sy g u kx nx xs dx ky ny ys dy h0 n0) 0 0 (TL.setTop (mkF m 48 #[.val (.ref r0), .val (.ref r1), .val (.ref r1), .val (.int i), .val (.int j)] [(.ref r0), (.int i)]))
        obtain ⟨T9, X9, e9, st9⟩ := getF XL hx hZ hown (host := "") (Or.inl (hw _ (List.mem_of_getElem? (i := 19) rfl))) Via.refl eL F_to (g := (mkF m 48 #[.val (.ref r0), .val (.ref r1), .val (.ref r1), .val (.int i), .val (.int j)] [(.ref r0), (.int i)])) rfl rfl (hb hby d4_48)
        refine GoesW.step st9 ?_
        show GoesW p.tables e below s (Q4 Z r0 r1 sx f t sy g u kx nx xs dx ky ny ys dy h0 n0) 0 0 (T9.setTop (mkF m 51 #[.val (.ref r0), .val (.ref r1), .val (.ref r1), .val (.int i), .val (.int j)] [(.int t), (.int i)]))
        refine GoesW.step (fun _ k => XS.icmpYes X9.here hx rfl (pc0 := 51) (pc' := 81) rfl (hb hby d4_51) rfl (flt hge).2.1 (by decide) (by decide) k) ?_
        show GoesW p.tables e below s (Q4 Z r0 r1 sx f t sy g u kx nx xs dx ky ny ys dy h0 n0) 0 0 (T9.setTop (mkF m 81 #[.val (.ref r0), .val (.ref r1), .val (.ref r1), .val (.int i), .val (.int j)] []))
        refine GoesW.step (fun _ k => XS.iconst X9.here hx rfl (hb hby d4_81) k) ?_
        show GoesW p.tables e below s (Q4 Z r0 r1 sx f t sy g u kx nx xs dx ky ny ys dy h0 n0) 0 0 (T9.setTop (mkF m 82 #[.val (.ref r0), .val (.ref r1), .val (.ref r1), .val (.int i), .val (.int j)] [(.int (1 : Int32))]))
        exact GoesW.retZ X9 hx hlk (t := .boolean) Bd.returns (by simp) rfl (hb hby d4_82) (by show Q4 Z r0 r1 sx f t sy g u kx nx xs dx ky ny ys dy h0 n0 _ T9.heap _; rw [e9]; exact ⟨by rw [own_eqv, if_pos h30, ← hkN, ← hc]; rfl, N0, rfl⟩) (by decide) (by decide)
      | succ k ih =>
        intro a w i j TL XL eL hi hj hk hk' hc
        have hlt : i < t := by rw [Int32.lt_iff_toInt_lt]; omega
        have hi0 : ¬ i < 0 := by rw [Int32.lt_iff_toInt_lt]; omega
        have hj0 : ¬ j < 0 := by rw [Int32.lt_iff_toInt_lt]; omega
        have hin : i < nx := by rw [Int32.lt_iff_toInt_lt]; omega
        have hjn : j < ny := by rw [Int32.lt_iff_toInt_lt]; omega
        show GoesW p.tables e below s (Q4 Z r0 r1 sx f t sy g u kx nx xs dx ky ny ys dy h0 n0) 0 0 (TL.setTop (mkF m 46 #[.val (.ref r0), .val (.ref r1), .val (.ref r1), .val (.int i), .val (.int j)] []))
        refine GoesW.step (fun _ k => XS.iloadN XL.here hx rfl (hb hby d4_46) rfl k) ?_
        show GoesW p.tables e below s (Q4 Z r0 r1 sx f t sy g u kx nx xs dx ky ny ys dy h0 n0) 0 0 (TL.setTop (mkF m 47 #[.val (.ref r0), .val (.ref r1), .val (.ref r1), .val (.int i), .val (.int j)] [(.int i)]))
        refine GoesW.step (fun _ k => XS.aloadN XL.here hx rfl (hb hby d4_47) rfl rfl k) ?_
        show GoesW p.tables e below s (Q4 Z r0 r1 sx f t sy g u kx nx xs dx ky ny ys dy h0 n0) 0 0 (TL.setTop (mkF m 48 #[.val (.ref r0), .val (.ref r1), .val (.ref r1), .val (.int i), .val (.int j)] [(.ref r0), (.int i)]))
        obtain ⟨T10, X10, e10, st10⟩ := getF XL hx hZ hown (host := "") (Or.inl (hw _ (List.mem_of_getElem? (i := 19) rfl))) Via.refl eL F_to (g := (mkF m 48 #[.val (.ref r0), .val (.ref r1), .val (.ref r1), .val (.int i), .val (.int j)] [(.ref r0), (.int i)])) rfl rfl (hb hby d4_48)
        refine GoesW.step st10 ?_
        show GoesW p.tables e below s (Q4 Z r0 r1 sx f t sy g u kx nx xs dx ky ny ys dy h0 n0) 0 0 (T10.setTop (mkF m 51 #[.val (.ref r0), .val (.ref r1), .val (.ref r1), .val (.int i), .val (.int j)] [(.int t), (.int i)]))
        refine GoesW.step (fun _ k => XS.icmpNo X10.here hx rfl (hb hby d4_51) rfl (tlt hlt).2.1 k) ?_
        show GoesW p.tables e below s (Q4 Z r0 r1 sx f t sy g u kx nx xs dx ky ny ys dy h0 n0) 0 0 (T10.setTop (mkF m 54 #[.val (.ref r0), .val (.ref r1), .val (.ref r1), .val (.int i), .val (.int j)] []))
        refine GoesW.step (fun _ k => XS.aloadN X10.here hx rfl (hb hby d4_54) rfl rfl k) ?_
        show GoesW p.tables e below s (Q4 Z r0 r1 sx f t sy g u kx nx xs dx ky ny ys dy h0 n0) 0 0 (T10.setTop (mkF m 55 #[.val (.ref r0), .val (.ref r1), .val (.ref r1), .val (.int i), .val (.int j)] [(.ref r0)]))
        obtain ⟨T11, X11, e11, st11⟩ := getF X10 hx hZ hown (host := "") (Or.inl (hw _ (List.mem_of_getElem? (i := 10) rfl))) Via.refl e10 F_bytes (g := (mkF m 55 #[.val (.ref r0), .val (.ref r1), .val (.ref r1), .val (.int i), .val (.int j)] [(.ref r0)])) rfl rfl (hb hby d4_55)
        refine GoesW.step st11 ?_
        show GoesW p.tables e below s (Q4 Z r0 r1 sx f t sy g u kx nx xs dx ky ny ys dy h0 n0) 0 0 (T11.setTop (mkF m 58 #[.val (.ref r0), .val (.ref r1), .val (.ref r1), .val (.int i), .val (.int j)] [(.ref sx)]))
        refine GoesW.step (fun _ k => XS.iloadN X11.here hx rfl (hb hby d4_58) rfl k) ?_
        show GoesW p.tables e below s (Q4 Z r0 r1 sx f t sy g u kx nx xs dx ky ny ys dy h0 n0) 0 0 (T11.setTop (mkF m 59 #[.val (.ref r0), .val (.ref r1), .val (.ref r1), .val (.int i), .val (.int j)] [(.int i), (.ref sx)]))
        obtain ⟨x, hxj⟩ : ∃ x, x = xs.getD a 0 := ⟨_, rfl⟩
        obtain ⟨y, hyj⟩ : ∃ x, x = ys.getD w 0 := ⟨_, rfl⟩
        have hgx : (xs.map Value.int).getD i.toNatClampNeg dx = .int x := by rw [own_clamp hi, hxj]; exact own_at xs dx a (by omega)
        have hgy : (ys.map Value.int).getD j.toNatClampNeg dy = .int y := by rw [own_clamp hj, hyj]; exact own_at ys dy w (by omega)
        have vv12 := V0
        obtain ⟨cl12, Ar12, aq12, aS12, aN12, aH12, aG12⟩ := vv12
        have hin12 : ¬ (i < 0 ∨ cl12.slots.size ≤ (i).toNatClampNeg) := inb_of aS12 ⟨hi0, hin⟩
        refine GoesW.step (fun _ k => X11.baloadBytes hx (j := i) (v := (.int x)) (by rw [e11]; exact Ar12.1) (State.isArrayOf_alike hZ.alike Ar12.2.1) Ar12.2.2 hin12 (Has.at aH12 hin12 hgx) (g := (mkF m 59 #[.val (.ref r0), .val (.ref r1), .val (.ref r1), .val (.int i), .val (.int j)] [(.int i), (.ref sx)])) rfl rfl (hb hby d4_59) _ k) ?_
        show GoesW p.tables e below s (Q4 Z r0 r1 sx f t sy g u kx nx xs dx ky ny ys dy h0 n0) 0 0 (T11.setTop (mkF m 60 #[.val (.ref r0), .val (.ref r1), .val (.ref r1), .val (.int i), .val (.int j)] [(.int x)]))
        refine GoesW.step (fun _ k => XS.aloadN X11.here hx rfl (hb hby d4_60) rfl rfl k) ?_
        show GoesW p.tables e below s (Q4 Z r0 r1 sx f t sy g u kx nx xs dx ky ny ys dy h0 n0) 0 0 (T11.setTop (mkF m 61 #[.val (.ref r0), .val (.ref r1), .val (.ref r1), .val (.int i), .val (.int j)] [(.ref r1), (.int x)]))
        obtain ⟨T13, X13, e13, st13⟩ := getF X11 hx hZ hown (host := "") (Or.inl (hw _ (List.mem_of_getElem? (i := 10) rfl))) Via.refl e11 G_bytes (g := (mkF m 61 #[.val (.ref r0), .val (.ref r1), .val (.ref r1), .val (.int i), .val (.int j)] [(.ref r1), (.int x)])) rfl rfl (hb hby d4_61)
        refine GoesW.step st13 ?_
        show GoesW p.tables e below s (Q4 Z r0 r1 sx f t sy g u kx nx xs dx ky ny ys dy h0 n0) 0 0 (T13.setTop (mkF m 64 #[.val (.ref r0), .val (.ref r1), .val (.ref r1), .val (.int i), .val (.int j)] [(.ref sy), (.int x)]))
        refine GoesW.step (fun _ k => XS.iload X13.here hx rfl (hb hby d4_64) rfl k) ?_
        show GoesW p.tables e below s (Q4 Z r0 r1 sx f t sy g u kx nx xs dx ky ny ys dy h0 n0) 0 0 (T13.setTop (mkF m 66 #[.val (.ref r0), .val (.ref r1), .val (.ref r1), .val (.int i), .val (.int j)] [(.int j), (.ref sy), (.int x)]))
        have vv14 := V1
        obtain ⟨cl14, Ar14, aq14, aS14, aN14, aH14, aG14⟩ := vv14
        have hin14 : ¬ (j < 0 ∨ cl14.slots.size ≤ (j).toNatClampNeg) := inb_of aS14 ⟨hj0, hjn⟩
        refine GoesW.step (fun _ k => X13.baloadBytes hx (j := j) (v := (.int y)) (by rw [e13]; exact Ar14.1) (State.isArrayOf_alike hZ.alike Ar14.2.1) Ar14.2.2 hin14 (Has.at aH14 hin14 hgy) (g := (mkF m 66 #[.val (.ref r0), .val (.ref r1), .val (.ref r1), .val (.int i), .val (.int j)] [(.int j), (.ref sy), (.int x)])) rfl rfl (hb hby d4_66) _ k) ?_
        show GoesW p.tables e below s (Q4 Z r0 r1 sx f t sy g u kx nx xs dx ky ny ys dy h0 n0) 0 0 (T13.setTop (mkF m 67 #[.val (.ref r0), .val (.ref r1), .val (.ref r1), .val (.int i), .val (.int j)] [(.int y), (.int x)]))
        by_cases h67 : x = y
        · skip
          refine GoesW.step (fun _ k => XS.icmpYes X13.here hx rfl (pc0 := 67) (pc' := 72) rfl (hb hby d4_67) rfl (teq h67).1 (by decide) (by decide) k) ?_
          show GoesW p.tables e below s (Q4 Z r0 r1 sx f t sy g u kx nx xs dx ky ny ys dy h0 n0) 0 0 (T13.setTop (mkF m 72 #[.val (.ref r0), .val (.ref r1), .val (.ref r1), .val (.int i), .val (.int j)] []))
          refine GoesW.step (fun _ k => XS.iinc X13.here hx rfl (hb hby d4_72) rfl (l' := #[.val (.ref r0), .val (.ref r1), .val (.ref r1), .val (.int (i + (1 : Int32))), .val (.int j)]) rfl k) ?_
          show GoesW p.tables e below s (Q4 Z r0 r1 sx f t sy g u kx nx xs dx ky ny ys dy h0 n0) 0 0 (T13.setTop (mkF m 75 #[.val (.ref r0), .val (.ref r1), .val (.ref r1), .val (.int (i + (1 : Int32))), .val (.int j)] []))
          refine GoesW.step (fun _ k => XS.iinc X13.here hx rfl (hb hby d4_75) rfl (l' := #[.val (.ref r0), .val (.ref r1), .val (.ref r1), .val (.int (i + (1 : Int32))), .val (.int (j + (1 : Int32)))]) rfl k) ?_
          show GoesW p.tables e below s (Q4 Z r0 r1 sx f t sy g u kx nx xs dx ky ny ys dy h0 n0) 0 0 (T13.setTop (mkF m 78 #[.val (.ref r0), .val (.ref r1), .val (.ref r1), .val (.int (i + (1 : Int32))), .val (.int (j + (1 : Int32)))] []))
          refine GoesW.step (fun _ k => XS.goto X13.here hx rfl (pc0 := 78) (pc' := 46) rfl (hb hby d4_78) (by decide) (by decide) k) ?_
          show GoesW p.tables e below s (Q4 Z r0 r1 sx f t sy g u kx nx xs dx ky ny ys dy h0 n0) 0 0 (T13.setTop (mkF m 46 #[.val (.ref r0), .val (.ref r1), .val (.ref r1), .val (.int (i + (1 : Int32))), .val (.int (j + (1 : Int32)))] []))
          exact ih (a + 1) (w + 1) _ _ _ X13 e13 (own_inc hi (by rw [← Int32.lt_iff_toInt_lt]; exact hlt)) (own_inc hj (n := ny) (by rw [← Int32.lt_iff_toInt_lt]; exact hjn)) (by omega) (by omega) (by rw [← hc, own_cmp, ← hxj, ← hyj, decide_eq_true h67, Bool.true_and])
        · skip
          refine GoesW.step (fun _ k => XS.icmpNo X13.here hx rfl (hb hby d4_67) rfl (feq h67).1 k) ?_
          show GoesW p.tables e below s (Q4 Z r0 r1 sx f t sy g u kx nx xs dx ky ny ys dy h0 n0) 0 0 (T13.setTop (mkF m 70 #[.val (.ref r0), .val (.ref r1), .val (.ref r1), .val (.int i), .val (.int j)] []))
          refine GoesW.step (fun _ k => XS.iconst X13.here hx rfl (hb hby d4_70) k) ?_
          show GoesW p.tables e below s (Q4 Z r0 r1 sx f t sy g u kx nx xs dx ky ny ys dy h0 n0) 0 0 (T13.setTop (mkF m 71 #[.val (.ref r0), .val (.ref r1), .val (.ref r1), .val (.int i), .val (.int j)] [(.int (0 : Int32))]))
          exact GoesW.retZ X13 hx hlk (t := .boolean) Bd.returns (by simp) rfl (hb hby d4_71) (by show Q4 Z r0 r1 sx f t sy g u kx nx xs dx ky ny ys dy h0 n0 _ T13.heap _; rw [e13]; exact ⟨by rw [own_eqv, if_pos h30, ← hkN, ← hc, own_cmp, ← hxj, ← hyj, decide_eq_false h67, Bool.false_and]; rfl, N0, rfl⟩) (by decide) (by decide)
    exact loop kN f.toNatClampNeg g.toNatClampNeg _ _ _ X8 e8 fN gN (by omega) (by omega) rfl
  · skip
    refine GoesW.step (fun _ k => XS.icmpNo X6.here hx rfl (hb hby d4_30) rfl (feq h30).1 k) ?_
    show GoesW p.tables e below s (Q4 Z r0 r1 sx f t sy g u kx nx xs dx ky ny ys dy h0 n0) 0 0 (T6.setTop (mkF m 33 #[.val (.ref r0), .val (.ref r1), .val (.ref r1), .unset, .unset] []))
    refine GoesW.step (fun _ k => XS.iconst X6.here hx rfl (hb hby d4_33) k) ?_
    show GoesW p.tables e below s (Q4 Z r0 r1 sx f t sy g u kx nx xs dx ky ny ys dy h0 n0) 0 0 (T6.setTop (mkF m 34 #[.val (.ref r0), .val (.ref r1), .val (.ref r1), .unset, .unset] [(.int (0 : Int32))]))
    exact GoesW.retZ X6 hx hlk (t := .boolean) Bd.returns (by simp) rfl (hb hby d4_34) (by show Q4 Z r0 r1 sx f t sy g u kx nx xs dx ky ny ys dy h0 n0 _ T6.heap _; rw [e6]; exact ⟨by rw [own_eqv, if_neg h30], N0, rfl⟩) (by decide) (by decide)
theorem own_pn1 : plainName "java/lang/Number" = true := by first | (simp [plainName, overriddenIn]; done) | decide +kernel
theorem d7_0 : decode jdk_18_method_1_code 0 = .ok (.aload_n 0, 1) := by decide +kernel
theorem d7_1 : decode jdk_18_method_1_code 1 = .ok (.invokespecial 1, 3) := by decide +kernel
theorem d7_4 : decode jdk_18_method_1_code 4 = .ok (.return_, 1) := by decide +kernel
theorem ef_rm7 (m : MethodId) (x0 : Addr) : entryFrame m #[(.ref x0)] 1 = mkF m 0 #[.val (.ref x0)] [] := by first | (simp [entryFrame, mkF, argsToLocals, Value.category]; done) | rfl
def Q7 (Z : State) (r0 : Addr) (h0 : Heap) (n0 : Nat) (v : Option Value) (h : Heap) (L : List Loc) : Prop := v = none ∧ Fr n0 L ∧ h = h0
set_option maxRecDepth 65536 in
set_option maxHeartbeats 40000000 in
theorem rm7 (l : Launch) (Z : State) (a0 : Array Value) (hw : ∀ d ∈ tables_1, d.before a0 Z = true) (ws : List Jvm.Cond) (r0 : Addr) (h0 : Heap) (n0 : Nat) (Z0 : n0 ≤ h0.size)  :
    MetFree l (⟨"java/lang/Number", "<init>", "()V"⟩ : MethodName) (head1 (Jvm.Cond.code (⟨"java/lang/Number", "<init>", "()V"⟩ : MethodName) jdk_18_method_1_code 1 none :: ws) ({ frames := 1, cells := 0, slots := 0, locals := 12 } : Room)) (fun a U => a = #[(.ref r0)] ∧ Z.Warmed39 U.vm ∧ U.heap = h0) (fun _ _ _ _ _ => True) (fun _ U o U' => ∃ v L, o = .returned v ∧ Q7 Z r0 h0 n0 v U'.heap L ∧ FrameEnd U o U' L ({ frames := 1, cells := 0, slots := 0, locals := 12 } : Room).cells ({ frames := 1, cells := 0, slots := 0, locals := 12 } : Room).slots) := by
  refine MetFree.of_bodySF (plainFor_of_name own_pn1) hisR ?_
  intro p e s m args below meth c s₁ Bd hml0 hP hK
  obtain ⟨rfl, hZ, hh⟩ := hP
  have hx := Bd.exec
  have hby := Bd.bytes
  have hml : c.maxLocals = 1 := hml0
  have hown : s.vm.findClass "java/lang/Number" = some m.cls := findClass_of_methodNamed Bd.named
  have hnm := (name_of_methodNamed Bd.named Bd.method).1
  have hlk : meth.locks = false := BodyLoose.notSynchronized Bd
  have X0 : Stand p l e ({ frames := 1, cells := 0, slots := 0, locals := 12 } : Room) s m #[(.ref r0)] below meth c s₁ [] 0 0 := Stand.of_body Bd
  have e0 : s₁.heap = h0 := by rw [← hh, Bd.state]; rfl
  have N0 := Fr.nil n0
  show GoesW p.tables e below s (Q7 Z r0 h0 n0) 0 0 (s₁.setTop (entryFrame m #[(.ref r0)] 1))
  rw [ef_rm7 m r0]
  show GoesW p.tables e below s (Q7 Z r0 h0 n0) 0 0 (s₁.setTop (mkF m 0 #[.val (.ref r0)] []))
  refine GoesW.step (fun _ k => XS.aloadN X0.here hx rfl (hb hby d7_0) rfl rfl k) ?_
  show GoesW p.tables e below s (Q7 Z r0 h0 n0) 0 0 (s₁.setTop (mkF m 1 #[.val (.ref r0)] [(.ref r0)]))
  obtain ⟨T1, X1, e1, st1⟩ := initO X0 hx hZ hown (hw _ (List.mem_of_getElem? (i := 48) rfl)) (hw _ (List.mem_of_getElem? (i := 8) rfl)) (hw _ (List.mem_of_getElem? (i := 9) rfl)) e0 (g := (mkF m 1 #[.val (.ref r0)] [(.ref r0)])) rfl (by rw [hml]; rfl) rfl (hb hby d7_1) (by decide) (W := 0) (by show 2 * 0 + _ ≤ _; exact Nat.le_of_eq rfl) (by decide)
  refine GoesW.step st1 ?_
  show GoesW p.tables e below s (Q7 Z r0 h0 n0) 0 0 (T1.setTop (mkF m 4 #[.val (.ref r0)] []))
  exact GoesW.retV X1 hx hlk Bd.returns (hb hby d7_4) (by show Q7 Z r0 h0 n0 _ T1.heap _; rw [e1]; exact ⟨rfl, N0, rfl⟩) (by decide) (by decide)
theorem own_pd0 : parseMethodDescriptor "()V" = some ⟨[], none⟩ := by decide +kernel
theorem own_pn2 : plainName "java/lang/Integer" = true := by first | (simp [plainName, overriddenIn]; done) | decide +kernel
theorem d6_0 : decode jdk_33_method_23_code 0 = .ok (.aload_n 0, 1) := by decide +kernel
theorem d6_1 : decode jdk_33_method_23_code 1 = .ok (.invokespecial 202, 3) := by decide +kernel
theorem d6_4 : decode jdk_33_method_23_code 4 = .ok (.aload_n 0, 1) := by decide +kernel
theorem d6_5 : decode jdk_33_method_23_code 5 = .ok (.iload_n 1, 1) := by decide +kernel
theorem d6_6 : decode jdk_33_method_23_code 6 = .ok (.putfield 205, 3) := by decide +kernel
theorem d6_9 : decode jdk_33_method_23_code 9 = .ok (.return_, 1) := by decide +kernel
theorem ef_rm6 (m : MethodId) (x0 : Addr) (x1 : Int32) : entryFrame m #[(.ref x0), (.int x1)] 2 = mkF m 0 #[.val (.ref x0), .val (.int x1)] [] := by first | (simp [entryFrame, mkF, argsToLocals, Value.category]; done) | rfl
def Q6 (Z : State) (r0 : Addr) (p1 : Int32) (h0 : Heap) (n0 : Nat) (v : Option Value) (h : Heap) (L : List Loc) : Prop := v = none ∧ Fr n0 L ∧ Keep h0 h [r0]
set_option maxRecDepth 65536 in
set_option maxHeartbeats 40000000 in
theorem rm6 (l : Launch) (Z : State) (a0 : Array Value) (hw : ∀ d ∈ tables_1, d.before a0 Z = true) (ws : List Jvm.Cond) (r0 : Addr) (p1 : Int32) (h0 : Heap) (n0 : Nat) (Z0 : n0 ≤ h0.size) (A0 : Exa Z h0 r0 "java/lang/Integer") (g_r0 : n0 ≤ r0) (F_value : Fld Z h0 r0 "java/lang/Integer" "value" "I" (.int (0 : Int32))) :
    MetFree l (⟨"java/lang/Integer", "<init>", "(I)V"⟩ : MethodName) (head1 (Jvm.Cond.code (⟨"java/lang/Integer", "<init>", "(I)V"⟩ : MethodName) jdk_33_method_23_code 2 none :: ws) ({ frames := 2, cells := 0, slots := 0, locals := 24 } : Room)) (fun a U => a = #[(.ref r0), (.int p1)] ∧ Z.Warmed39 U.vm ∧ U.heap = h0) (fun _ _ _ _ _ => True) (fun _ U o U' => ∃ v L, o = .returned v ∧ Q6 Z r0 p1 h0 n0 v U'.heap L ∧ FrameEnd U o U' L ({ frames := 2, cells := 0, slots := 0, locals := 24 } : Room).cells ({ frames := 2, cells := 0, slots := 0, locals := 24 } : Room).slots) := by
  refine MetFree.of_bodySF (plainFor_of_name own_pn2) hisR ?_
  intro p e s m args below meth c s₁ Bd hml0 hP hK
  obtain ⟨rfl, hZ, hh⟩ := hP
  have hx := Bd.exec
  have hby := Bd.bytes
  have hml : c.maxLocals = 2 := hml0
  have hown : s.vm.findClass "java/lang/Integer" = some m.cls := findClass_of_methodNamed Bd.named
  have hnm := (name_of_methodNamed Bd.named Bd.method).1
  have hlk : meth.locks = false := BodyLoose.notSynchronized Bd
  have X0 : Stand p l e ({ frames := 2, cells := 0, slots := 0, locals := 24 } : Room) s m #[(.ref r0), (.int p1)] below meth c s₁ [] 0 0 := Stand.of_body Bd
  have e0 : s₁.heap = h0 := by rw [← hh, Bd.state]; rfl
  have N0 := Fr.nil n0
  show GoesW p.tables e below s (Q6 Z r0 p1 h0 n0) 0 0 (s₁.setTop (entryFrame m #[(.ref r0), (.int p1)] 2))
  rw [ef_rm6 m r0 p1]
  show GoesW p.tables e below s (Q6 Z r0 p1 h0 n0) 0 0 (s₁.setTop (mkF m 0 #[.val (.ref r0), .val (.int p1)] []))
  refine GoesW.step (fun _ k => XS.aloadN X0.here hx rfl (hb hby d6_0) rfl rfl k) ?_
  show GoesW p.tables e below s (Q6 Z r0 p1 h0 n0) 0 0 (s₁.setTop (mkF m 1 #[.val (.ref r0), .val (.int p1)] [(.ref r0)]))
  obtain ⟨_, _, ⟨T1, L1, k1, n1⟩, -, X1, ⟨Lc1, hQ1, l1, y1, z1⟩, st1⟩ := X0.specialBack hx (y := (⟨"java/lang/Number", "<init>", "()V"⟩ : MethodName)) rfl hown (mvT hZ (hw _ (List.mem_of_getElem? (i := 42) rfl))) (mvT hZ (hw _ (List.mem_of_getElem? (i := 43) rfl))) (mvT hZ (hw _ (List.mem_of_getElem? (i := 47) rfl))) (by decide) (backOf (W := 0) (rm7 l Z a0 hw [] r0  h0 n0 Z0 ) hZ (hw _ (List.mem_of_getElem? (i := 47) rfl)) (hw _ (List.mem_of_getElem? (i := 46) rfl)) (by decide) (by decide)) (g := (mkF m 1 #[.val (.ref r0), .val (.int p1)] [(.ref r0)])) rfl (by rw [hml]; rfl) (Steps.refl _) (a := r0) (argsL := []) (rest := []) (lenOf own_pd0 rfl) rfl (by show 2 * 0 + _ ≤ _; exact Nat.le_of_eq rfl) (hb hby d6_1) (fun _ _ => ⟨rfl, e0, (by decide : 0 + 0 ≤ _), (by decide : 0 + 0 ≤ _)⟩)
  dsimp only [Pt.U, Pt.locs, Pt.cells, Pt.slots] at X1 l1 y1 z1 st1 hQ1
  subst l1 y1 z1
  obtain ⟨rfl, N1q, eq1⟩ := hQ1
  have N1 := Fr.app N0 N1q
  refine GoesW.step (fun _ k => st1.trans k) ?_
  show GoesW p.tables e below s (Q6 Z r0 p1 h0 n0) 0 0 (T1.setTop (mkF m 4 #[.val (.ref r0), .val (.int p1)] []))
  refine GoesW.step (fun _ k => XS.aloadN X1.here hx rfl (hb hby d6_4) rfl rfl k) ?_
  show GoesW p.tables e below s (Q6 Z r0 p1 h0 n0) 0 0 (T1.setTop (mkF m 5 #[.val (.ref r0), .val (.int p1)] [(.ref r0)]))
  refine GoesW.step (fun _ k => XS.iloadN X1.here hx rfl (hb hby d6_5) rfl k) ?_
  show GoesW p.tables e below s (Q6 Z r0 p1 h0 n0) 0 0 (T1.setTop (mkF m 6 #[.val (.ref r0), .val (.int p1)] [(.int p1), (.ref r0)]))
  obtain ⟨T2, h2, X2, e2, W2, st2⟩ := putF X1 hx hZ hown (host := "") (Or.inl (hw _ (List.mem_of_getElem? (i := 49) rfl))) Via.refl eq1 F_value A0 (Or.inr ⟨(hw _ (List.mem_of_getElem? (i := 50) rfl)), rfl, hnm⟩) (hw _ (List.mem_of_getElem? (i := 37) rfl)) (ty := .int) (by decide) rfl rfl (g := (mkF m 6 #[.val (.ref r0), .val (.int p1)] [(.int p1), (.ref r0)])) rfl rfl (hb hby d6_6)
  have F2 := F_value.same W2
  have N2 := Fr.snoc X2 N1 g_r0
  have Z2 : n0 ≤ h2.size := Nat.le_trans Z0 (Keep.of_wr W2).1
  have K2 : Keep h0 h2 [r0] := (Keep.refl h0 [r0]).wr W2 (Or.inl (List.mem_of_getElem? (i := 0) rfl))
  refine GoesW.step st2 ?_
  show GoesW p.tables e below s (Q6 Z r0 p1 h0 n0) 0 0 (T2.setTop (mkF m 9 #[.val (.ref r0), .val (.int p1)] []))
  exact GoesW.retV X2 hx hlk Bd.returns (hb hby d6_9) (by show Q6 Z r0 p1 h0 n0 _ T2.heap _; rw [e2]; exact ⟨rfl, N2, K2⟩) (by decide) (by decide)
theorem own_pd1 : parseMethodDescriptor "(I)V" = some ⟨[.int], none⟩ := by decide +kernel
theorem d5_0 : decode jdk_33_method_22_code 0 = .ok (.iload_n 0, 1) := by decide +kernel
theorem d5_1 : decode jdk_33_method_22_code 1 = .ok (.bipush (-128), 2) := by decide +kernel
theorem d5_3 : decode jdk_33_method_22_code 3 = .ok (.if_icmp .lt 20, 3) := by decide +kernel
theorem d5_6 : decode jdk_33_method_22_code 6 = .ok (.iload_n 0, 1) := by decide +kernel
theorem d5_7 : decode jdk_33_method_22_code 7 = .ok (.getstatic 191, 3) := by decide +kernel
theorem d5_10 : decode jdk_33_method_22_code 10 = .ok (.if_icmp .gt 13, 3) := by decide +kernel
theorem d5_13 : decode jdk_33_method_22_code 13 = .ok (.getstatic 195, 3) := by decide +kernel
theorem d5_16 : decode jdk_33_method_22_code 16 = .ok (.iload_n 0, 1) := by decide +kernel
theorem d5_17 : decode jdk_33_method_22_code 17 = .ok (.sipush 128, 3) := by decide +kernel
theorem d5_20 : decode jdk_33_method_22_code 20 = .ok (.iadd, 1) := by decide +kernel
theorem d5_21 : decode jdk_33_method_22_code 21 = .ok (.aaload, 1) := by decide +kernel
theorem d5_22 : decode jdk_33_method_22_code 22 = .ok (.areturn, 1) := by decide +kernel
theorem d5_23 : decode jdk_33_method_22_code 23 = .ok (.new 1, 3) := by decide +kernel
theorem d5_26 : decode jdk_33_method_22_code 26 = .ok (.dup, 1) := by decide +kernel
theorem d5_27 : decode jdk_33_method_22_code 27 = .ok (.iload_n 0, 1) := by decide +kernel
theorem d5_28 : decode jdk_33_method_22_code 28 = .ok (.invokespecial 199, 3) := by decide +kernel
theorem d5_31 : decode jdk_33_method_22_code 31 = .ok (.areturn, 1) := by decide +kernel
theorem ef_rm5 (m : MethodId) (x0 : Int32) : entryFrame m #[(.int x0)] 1 = mkF m 0 #[.val (.int x0)] [] := by first | (simp [entryFrame, mkF, argsToLocals, Value.category]; done) | rfl
def Q5 (Z : State) (p0 : Int32) (ca : Addr) (cl : Cell) (val : Int32 → Value) (h0 : Heap) (n0 : Nat) (v : Option Value) (h : Heap) (L : List Loc) : Prop := (∃ a : Addr, v = some (.ref a) ∧ Exa Z h a "java/lang/Integer") ∧ Fr n0 L ∧ Keep h0 h []
set_option maxRecDepth 65536 in
set_option maxHeartbeats 40000000 in
theorem rm5 (l : Launch) (Z : State) (a0 : Array Value) (hw : ∀ d ∈ tables_1, d.before a0 Z = true) (ws : List Jvm.Cond) (p0 : Int32) (ca : Addr) (cl : Cell) (val : Int32 → Value) (h0 : Heap) (n0 : Nat) (Z0 : n0 ≤ h0.size) (S_high : Sta Z Z.heap "java/lang/Integer$IntegerCache" "high" "I" (.int (127 : Int32))) (S_cache : Sta Z Z.heap "java/lang/Integer$IntegerCache" "cache" "[Ljava/lang/Integer;" (.ref ca)) (BX : Bxs Z ca cl "java/lang/Integer" "I" (256 : Int32) val) (O0 : Old Z n0 h0) :
    MetFree l (⟨"java/lang/Integer", "valueOf", "(I)Ljava/lang/Integer;"⟩ : MethodName) (head1 (Jvm.Cond.code (⟨"java/lang/Integer", "valueOf", "(I)Ljava/lang/Integer;"⟩ : MethodName) jdk_33_method_22_code 1 (some (.object "java/lang/Integer")) :: ws) ({ frames := 3, cells := 1, slots := 1, locals := 38 } : Room)) (fun a U => a = #[(.int p0)] ∧ Z.Warmed39 U.vm ∧ U.heap = h0) (fun _ _ _ _ _ => True) (fun _ U o U' => ∃ v L, o = .returned v ∧ Q5 Z p0 ca cl val h0 n0 v U'.heap L ∧ FrameEnd U o U' L ({ frames := 3, cells := 1, slots := 1, locals := 38 } : Room).cells ({ frames := 3, cells := 1, slots := 1, locals := 38 } : Room).slots) := by
  refine MetFree.of_bodySF (plainFor_of_name own_pn2) hisR ?_
  intro p e s m args below meth c s₁ Bd hml0 hP hK
  obtain ⟨rfl, hZ, hh⟩ := hP
  have hx := Bd.exec
  have hby := Bd.bytes
  have hml : c.maxLocals = 1 := hml0
  have hown : s.vm.findClass "java/lang/Integer" = some m.cls := findClass_of_methodNamed Bd.named
  have hnm := (name_of_methodNamed Bd.named Bd.method).1
  have hlk : meth.locks = false := BodyLoose.notSynchronized Bd
  have X0 : Stand p l e ({ frames := 3, cells := 1, slots := 1, locals := 38 } : Room) s m #[(.int p0)] below meth c s₁ [] 0 0 := Stand.of_body Bd
  have e0 : s₁.heap = h0 := by rw [← hh, Bd.state]; rfl
  have N0 := Fr.nil n0
  show GoesW p.tables e below s (Q5 Z p0 ca cl val h0 n0) 1 1 (s₁.setTop (entryFrame m #[(.int p0)] 1))
  rw [ef_rm5 m p0]
  show GoesW p.tables e below s (Q5 Z p0 ca cl val h0 n0) 1 1 (s₁.setTop (mkF m 0 #[.val (.int p0)] []))
  refine GoesW.step (fun _ k => XS.iloadN X0.here hx rfl (hb hby d5_0) rfl k) ?_
  show GoesW p.tables e below s (Q5 Z p0 ca cl val h0 n0) 1 1 (s₁.setTop (mkF m 1 #[.val (.int p0)] [(.int p0)]))
  refine GoesW.step (fun _ k => XS.bipush X0.here hx rfl (hb hby d5_1) k) ?_
  show GoesW p.tables e below s (Q5 Z p0 ca cl val h0 n0) 1 1 (s₁.setTop (mkF m 3 #[.val (.int p0)] [(.int (-128 : Int32)), (.int p0)]))
  have J23 : ∀ (TJ1 : State) (LJ1 : List Loc), Stand p l e ({ frames := 3, cells := 1, slots := 1, locals := 38 } : Room) s m #[(.int p0)] below meth c TJ1 LJ1 0 0 → TJ1.heap = h0 → Fr n0 LJ1 → GoesW p.tables e below s (Q5 Z p0 ca cl val h0 n0) 1 1 (TJ1.setTop (mkF m 23 #[.val (.int p0)] [])) := by
    intro TJ1 LJ1  XJ1 eJ1 NJ1 
    show GoesW p.tables e below s (Q5 Z p0 ca cl val h0 n0) 1 1 (TJ1.setTop (mkF m 23 #[.val (.int p0)] []))
    obtain ⟨T2, h2, X2, e2, E2, A2, D2, -, st2⟩ := newO XJ1 hx hZ hown (hw _ (List.mem_of_getElem? (i := 36) rfl)) (hw _ (List.mem_of_getElem? (i := 37) rfl)) (hw _ (List.mem_of_getElem? (i := 32) rfl)) eJ1 (g := (mkF m 23 #[.val (.int p0)] [])) rfl (hb hby d5_23) (by decide) (by decide)
    obtain ⟨b2, gs2⟩ : ∃ z, z = h0.size := ⟨_, rfl⟩
    rw [← gs2] at A2 D2 st2
    have g_b2 : n0 ≤ b2 := Nat.le_trans Z0 (Nat.le_of_eq gs2.symm)
    have sz_b2 : h0.size ≤ b2 := Nat.le_trans (Keep.refl h0 []).1 (Nat.le_of_eq gs2.symm)
    have Z2 : n0 ≤ h2.size := Nat.le_trans Z0 E2.1
    have K2 : Keep h0 h2 [] := (Keep.refl h0 []).ext E2
    have F_value_b2 : Fld Z h2 b2 "java/lang/Integer" "value" "I" (.int (0 : Int32)) := D2 (Or.inr (hw _ (List.mem_of_getElem? (i := 50) rfl))) (ty := .int) (by decide)
    refine GoesW.step st2 ?_
    show GoesW p.tables e below s (Q5 Z p0 ca cl val h0 n0) 1 1 (T2.setTop (mkF m 26 #[.val (.int p0)] [(.ref b2)]))
    refine GoesW.step (fun _ k => XS.dup X2.here hx rfl (hb hby d5_26) rfl rfl k) ?_
    show GoesW p.tables e below s (Q5 Z p0 ca cl val h0 n0) 1 1 (T2.setTop (mkF m 27 #[.val (.int p0)] [(.ref b2), (.ref b2)]))
    refine GoesW.step (fun _ k => XS.iloadN X2.here hx rfl (hb hby d5_27) rfl k) ?_
    show GoesW p.tables e below s (Q5 Z p0 ca cl val h0 n0) 1 1 (T2.setTop (mkF m 28 #[.val (.int p0)] [(.int p0), (.ref b2), (.ref b2)]))
    obtain ⟨_, _, ⟨T3, L3, k3, n3⟩, -, X3, ⟨Lc3, hQ3, l3, y3, z3⟩, st3⟩ := X2.specialBack hx (y := (⟨"java/lang/Integer", "<init>", "(I)V"⟩ : MethodName)) rfl hown (mvT hZ (hw _ (List.mem_of_getElem? (i := 38) rfl))) (mvT hZ (hw _ (List.mem_of_getElem? (i := 39) rfl))) (mvT hZ (hw _ (List.mem_of_getElem? (i := 41) rfl))) (by decide) (backOf (W := 1) (rm6 l Z a0 hw [] b2 p0  h2 n0 Z2 A2 g_b2 F_value_b2) hZ (hw _ (List.mem_of_getElem? (i := 41) rfl)) (hw _ (List.mem_of_getElem? (i := 32) rfl)) (by decide) (by decide)) (g := (mkF m 28 #[.val (.int p0)] [(.int p0), (.ref b2), (.ref b2)])) rfl (by rw [hml]; rfl) (Steps.refl _) (a := b2) (argsL := [(.int p0)]) (rest := [(.ref b2)]) (lenOf own_pd1 rfl) rfl (by show 2 * 0 + _ ≤ _; exact Nat.le_of_eq rfl) (hb hby d5_28) (fun _ _ => ⟨rfl, e2, (by decide : 1 + 0 ≤ _), (by decide : 1 + 0 ≤ _)⟩)
    dsimp only [Pt.U, Pt.locs, Pt.cells, Pt.slots] at X3 l3 y3 z3 st3 hQ3
    subst l3 y3 z3
    obtain ⟨rfl, N3q, K3q⟩ := hQ3
    have N3 := Fr.app NJ1 N3q
    have Z3 : n0 ≤ T3.heap.size := Nat.le_trans Z2 K3q.1
    have K3 : Keep h0 T3.heap [] := K2.trans K3q (fun x hx' => (List.mem_cons.mp hx').elim (fun q => by rw [q]; exact Or.inr sz_b2) (fun hx' => nomatch hx'))
    refine GoesW.step (fun _ k => st3.trans k) ?_
    show GoesW p.tables e below s (Q5 Z p0 ca cl val h0 n0) 1 1 (T3.setTop (mkF m 31 #[.val (.int p0)] [(.ref b2)]))
    have Exa_b2_4 := (A2.keep K3q)
    exact GoesW.retA X3 hx hlk Bd.returns rfl rfl (hb hby d5_31) (by show Q5 Z p0 ca cl val h0 n0 _ T3.heap _; exact ⟨⟨_, rfl, Exa_b2_4⟩, N3, K3⟩) (by decide) (by decide)
  by_cases h3 : p0 < (-128 : Int32)
  · skip
    refine GoesW.step (fun _ k => XS.icmpYes X0.here hx rfl (pc0 := 3) (pc' := 23) rfl (hb hby d5_3) rfl (tlt h3).1 (by decide) (by decide) k) ?_
    show GoesW p.tables e below s (Q5 Z p0 ca cl val h0 n0) 1 1 (s₁.setTop (mkF m 23 #[.val (.int p0)] []))
    exact J23 _ _  X0 e0 N0 
  · skip
    refine GoesW.step (fun _ k => XS.icmpNo X0.here hx rfl (hb hby d5_3) rfl (flt h3).1 k) ?_
    show GoesW p.tables e below s (Q5 Z p0 ca cl val h0 n0) 1 1 (s₁.setTop (mkF m 6 #[.val (.int p0)] []))
    refine GoesW.step (fun _ k => XS.iloadN X0.here hx rfl (hb hby d5_6) rfl k) ?_
    show GoesW p.tables e below s (Q5 Z p0 ca cl val h0 n0) 1 1 (s₁.setTop (mkF m 7 #[.val (.int p0)] [(.int p0)]))
    obtain ⟨T5, X5, e5, st5⟩ := getS2 X0 hx hZ hown (host := "") (Or.inl (hw _ (List.mem_of_getElem? (i := 34) rfl))) Via.refl e0 (S_high.ext O0.2) (g := (mkF m 7 #[.val (.int p0)] [(.int p0)])) rfl (hb hby d5_7)
    refine GoesW.step st5 ?_
    show GoesW p.tables e below s (Q5 Z p0 ca cl val h0 n0) 1 1 (T5.setTop (mkF m 10 #[.val (.int p0)] [(.int (127 : Int32)), (.int p0)]))
    by_cases h10 : (127 : Int32) < p0
    · skip
      refine GoesW.step (fun _ k => XS.icmpYes X5.here hx rfl (pc0 := 10) (pc' := 23) rfl (hb hby d5_10) rfl (tlt h10).2.2.1 (by decide) (by decide) k) ?_
      show GoesW p.tables e below s (Q5 Z p0 ca cl val h0 n0) 1 1 (T5.setTop (mkF m 23 #[.val (.int p0)] []))
      exact J23 _ _  X5 e5 N0 
    · skip
      refine GoesW.step (fun _ k => XS.icmpNo X5.here hx rfl (hb hby d5_10) rfl (flt h10).2.2.1 k) ?_
      show GoesW p.tables e below s (Q5 Z p0 ca cl val h0 n0) 1 1 (T5.setTop (mkF m 13 #[.val (.int p0)] []))
      obtain ⟨T6, X6, e6, st6⟩ := getS2 X5 hx hZ hown (host := "") (Or.inl (hw _ (List.mem_of_getElem? (i := 54) rfl))) Via.refl e5 (S_cache.ext O0.2) (g := (mkF m 13 #[.val (.int p0)] [])) rfl (hb hby d5_13)
      refine GoesW.step st6 ?_
      show GoesW p.tables e below s (Q5 Z p0 ca cl val h0 n0) 1 1 (T6.setTop (mkF m 16 #[.val (.int p0)] [(.ref ca)]))
      refine GoesW.step (fun _ k => XS.iloadN X6.here hx rfl (hb hby d5_16) rfl k) ?_
      show GoesW p.tables e below s (Q5 Z p0 ca cl val h0 n0) 1 1 (T6.setTop (mkF m 17 #[.val (.int p0)] [(.int p0), (.ref ca)]))
      refine GoesW.step (fun _ k => XS.sipush X6.here hx rfl (hb hby d5_17) k) ?_
      show GoesW p.tables e below s (Q5 Z p0 ca cl val h0 n0) 1 1 (T6.setTop (mkF m 20 #[.val (.int p0)] [(.int (128 : Int32)), (.int p0), (.ref ca)]))
      refine GoesW.step (fun _ k => XS.iadd X6.here hx rfl (hb hby d5_20) rfl k) ?_
      show GoesW p.tables e below s (Q5 Z p0 ca cl val h0 n0) 1 1 (T6.setTop (mkF m 21 #[.val (.int p0)] [(.int (p0 + (128 : Int32))), (.ref ca)]))
      have hbx := own_box h3 h10 BX.2.1
      obtain ⟨bx, hbx1, hbx2, hbx3⟩ := BX.2.2.2 _ hbx
      have ArX := (BX.ext O0.2).1
      refine GoesW.step (fun _ k => X6.aaload hx (j := (p0 + (128 : Int32))) (v := (.ref bx)) (by rw [e6]; exact ArX.1) (State.isArrayOf_alike hZ.alike ArX.2.1) rfl ArX.2.2 hbx (hbx1) (g := (mkF m 21 #[.val (.int p0)] [(.int (p0 + (128 : Int32))), (.ref ca)])) rfl rfl (hb hby d5_21) _ k) ?_
      show GoesW p.tables e below s (Q5 Z p0 ca cl val h0 n0) 1 1 (T6.setTop (mkF m 22 #[.val (.int p0)] [(.ref bx)]))
      exact GoesW.retA X6 hx hlk Bd.returns rfl rfl (hb hby d5_22) (by show Q5 Z p0 ca cl val h0 n0 _ T6.heap _; rw [e6]; exact ⟨⟨_, rfl, hbx2.ext O0.2⟩, N0, Keep.refl _ _⟩) (by decide) (by decide)
theorem own_pn3 : plainName "com/example/rankweave/rankweave/io/FieldBytesEqualsPinLaw" = true := by first | (simp [plainName, overriddenIn]; done) | decide +kernel
theorem d9_0 : decode method_4_code 0 = .ok (.iload 5, 2) := by decide +kernel
theorem d9_2 : decode method_4_code 2 = .ok (.iload 4, 2) := by decide +kernel
theorem d9_4 : decode method_4_code 4 = .ok (.if_icmp .lt 5, 3) := by decide +kernel
theorem d9_7 : decode method_4_code 7 = .ok (.iconst 1, 1) := by decide +kernel
theorem d9_8 : decode method_4_code 8 = .ok (.ireturn, 1) := by decide +kernel
theorem d9_9 : decode method_4_code 9 = .ok (.aload_n 0, 1) := by decide +kernel
theorem d9_10 : decode method_4_code 10 = .ok (.iload_n 1, 1) := by decide +kernel
theorem d9_11 : decode method_4_code 11 = .ok (.iload 5, 2) := by decide +kernel
theorem d9_13 : decode method_4_code 13 = .ok (.iadd, 1) := by decide +kernel
theorem d9_14 : decode method_4_code 14 = .ok (.baload, 1) := by decide +kernel
theorem d9_15 : decode method_4_code 15 = .ok (.aload_n 2, 1) := by decide +kernel
theorem d9_16 : decode method_4_code 16 = .ok (.iload_n 3, 1) := by decide +kernel
theorem d9_17 : decode method_4_code 17 = .ok (.iload 5, 2) := by decide +kernel
theorem d9_19 : decode method_4_code 19 = .ok (.iadd, 1) := by decide +kernel
theorem d9_20 : decode method_4_code 20 = .ok (.baload, 1) := by decide +kernel
theorem d9_21 : decode method_4_code 21 = .ok (.if_icmp .ne 7, 3) := by decide +kernel
theorem d9_24 : decode method_4_code 24 = .ok (.iconst 1, 1) := by decide +kernel
theorem d9_25 : decode method_4_code 25 = .ok (.goto 4, 3) := by decide +kernel
theorem d9_28 : decode method_4_code 28 = .ok (.iconst 0, 1) := by decide +kernel
theorem d9_29 : decode method_4_code 29 = .ok (.ireturn, 1) := by decide +kernel
theorem ef_rm9 (m : MethodId) (x0 : Addr) (x1 : Int32) (x2 : Addr) (x3 : Int32) (x4 : Int32) (x5 : Int32) : entryFrame m #[(.ref x0), (.int x1), (.ref x2), (.int x3), (.int x4), (.int x5)] 6 = mkF m 0 #[.val (.ref x0), .val (.int x1), .val (.ref x2), .val (.int x3), .val (.int x4), .val (.int x5)] [] := by first | (simp [entryFrame, mkF, argsToLocals, Value.category]; done) | rfl
def Q9 (Z : State) (r0 : Addr) (p1 : Int32) (r2 : Addr) (p3 : Int32) (p4 : Int32) (p5 : Int32) (kx : ClassId) (nx : Int32) (xs : List Int32) (dx : Value) (ky : ClassId) (ny : Int32) (ys : List Int32) (dy : Value) (h0 : Heap) (n0 : Nat) (v : Option Value) (h : Heap) (L : List Loc) : Prop := v = some (.int (own_atv xs ys p1 p3 p4 p5)) ∧ Fr n0 L ∧ h = h0
set_option maxRecDepth 65536 in
set_option maxHeartbeats 40000000 in
theorem rm9 (l : Launch) (Z : State) (a0 : Array Value) (hw : ∀ d ∈ tables_1, d.before a0 Z = true) (ws : List Jvm.Cond) (r0 : Addr) (p1 : Int32) (r2 : Addr) (p3 : Int32) (p4 : Int32) (p5 : Int32) (kx : ClassId) (nx : Int32) (xs : List Int32) (dx : Value) (ky : ClassId) (ny : Int32) (ys : List Int32) (dy : Value) (h0 : Heap) (n0 : Nat) (Z0 : n0 ≤ h0.size) (V0 : Arv Z h0 r0 kx .byte nx (xs.map Value.int) dx) (V1 : Arv Z h0 r2 ky .byte ny (ys.map Value.int) dy) (hnx : nx.toNatClampNeg = xs.length) (hny : ny.toNatClampNeg = ys.length) (hin : p5 < p4 → ¬ p1 + p5 < 0 ∧ p1 + p5 < nx) (hjn : p5 < p4 → ¬ p3 + p5 < 0 ∧ p3 + p5 < ny) :
    MetFree l (⟨"com/example/rankweave/rankweave/io/FieldBytesEqualsPinLaw", "at", "([BI[BIII)Z"⟩ : MethodName) (head1 (Jvm.Cond.code (⟨"com/example/rankweave/rankweave/io/FieldBytesEqualsPinLaw", "at", "([BI[BIII)Z"⟩ : MethodName) method_4_code 6 (some .boolean) :: ws) ({ frames := 0, cells := 0, slots := 0, locals := 0 } : Room)) (fun a U => a = #[(.ref r0), (.int p1), (.ref r2), (.int p3), (.int p4), (.int p5)] ∧ Z.Warmed39 U.vm ∧ U.heap = h0) (fun _ _ _ _ _ => True) (fun _ U o U' => ∃ v L, o = .returned v ∧ Q9 Z r0 p1 r2 p3 p4 p5 kx nx xs dx ky ny ys dy h0 n0 v U'.heap L ∧ FrameEnd U o U' L ({ frames := 0, cells := 0, slots := 0, locals := 0 } : Room).cells ({ frames := 0, cells := 0, slots := 0, locals := 0 } : Room).slots) := by
  refine MetFree.of_bodySF (plainFor_of_name own_pn3) hisR ?_
  intro p e s m args below meth c s₁ Bd hml0 hP hK
  obtain ⟨rfl, hZ, hh⟩ := hP
  have hx := Bd.exec
  have hby := Bd.bytes
  have hml : c.maxLocals = 6 := hml0
  have hown : s.vm.findClass "com/example/rankweave/rankweave/io/FieldBytesEqualsPinLaw" = some m.cls := findClass_of_methodNamed Bd.named
  have hnm := (name_of_methodNamed Bd.named Bd.method).1
  have hlk : meth.locks = false := BodyLoose.notSynchronized Bd
  have X0 : Stand p l e ({ frames := 0, cells := 0, slots := 0, locals := 0 } : Room) s m #[(.ref r0), (.int p1), (.ref r2), (.int p3), (.int p4), (.int p5)] below meth c s₁ [] 0 0 := Stand.of_body Bd
  have e0 : s₁.heap = h0 := by rw [← hh, Bd.state]; rfl
  have N0 := Fr.nil n0
  show GoesW p.tables e below s (Q9 Z r0 p1 r2 p3 p4 p5 kx nx xs dx ky ny ys dy h0 n0) 0 0 (s₁.setTop (entryFrame m #[(.ref r0), (.int p1), (.ref r2), (.int p3), (.int p4), (.int p5)] 6))
  rw [ef_rm9 m r0 p1 r2 p3 p4 p5]
  show GoesW p.tables e below s (Q9 Z r0 p1 r2 p3 p4 p5 kx nx xs dx ky ny ys dy h0 n0) 0 0 (s₁.setTop (mkF m 0 #[.val (.ref r0), .val (.int p1), .val (.ref r2), .val (.int p3), .val (.int p4), .val (.int p5)] []))
  refine GoesW.step (fun _ k => XS.iload X0.here hx rfl (hb hby d9_0) rfl k) ?_
  show GoesW p.tables e below s (Q9 Z r0 p1 r2 p3 p4 p5 kx nx xs dx ky ny ys dy h0 n0) 0 0 (s₁.setTop (mkF m 2 #[.val (.ref r0), .val (.int p1), .val (.ref r2), .val (.int p3), .val (.int p4), .val (.int p5)] [(.int p5)]))
  refine GoesW.step (fun _ k => XS.iload X0.here hx rfl (hb hby d9_2) rfl k) ?_
  show GoesW p.tables e below s (Q9 Z r0 p1 r2 p3 p4 p5 kx nx xs dx ky ny ys dy h0 n0) 0 0 (s₁.setTop (mkF m 4 #[.val (.ref r0), .val (.int p1), .val (.ref r2), .val (.int p3), .val (.int p4), .val (.int p5)] [(.int p4), (.int p5)]))
  by_cases h4 : p5 < p4
  · skip
    refine GoesW.step (fun _ k => XS.icmpYes X0.here hx rfl (pc0 := 4) (pc' := 9) rfl (hb hby d9_4) rfl (tlt h4).1 (by decide) (by decide) k) ?_
    show GoesW p.tables e below s (Q9 Z r0 p1 r2 p3 p4 p5 kx nx xs dx ky ny ys dy h0 n0) 0 0 (s₁.setTop (mkF m 9 #[.val (.ref r0), .val (.int p1), .val (.ref r2), .val (.int p3), .val (.int p4), .val (.int p5)] []))
    refine GoesW.step (fun _ k => XS.aloadN X0.here hx rfl (hb hby d9_9) rfl rfl k) ?_
    show GoesW p.tables e below s (Q9 Z r0 p1 r2 p3 p4 p5 kx nx xs dx ky ny ys dy h0 n0) 0 0 (s₁.setTop (mkF m 10 #[.val (.ref r0), .val (.int p1), .val (.ref r2), .val (.int p3), .val (.int p4), .val (.int p5)] [(.ref r0)]))
    refine GoesW.step (fun _ k => XS.iloadN X0.here hx rfl (hb hby d9_10) rfl k) ?_
    show GoesW p.tables e below s (Q9 Z r0 p1 r2 p3 p4 p5 kx nx xs dx ky ny ys dy h0 n0) 0 0 (s₁.setTop (mkF m 11 #[.val (.ref r0), .val (.int p1), .val (.ref r2), .val (.int p3), .val (.int p4), .val (.int p5)] [(.int p1), (.ref r0)]))
    refine GoesW.step (fun _ k => XS.iload X0.here hx rfl (hb hby d9_11) rfl k) ?_
    show GoesW p.tables e below s (Q9 Z r0 p1 r2 p3 p4 p5 kx nx xs dx ky ny ys dy h0 n0) 0 0 (s₁.setTop (mkF m 13 #[.val (.ref r0), .val (.int p1), .val (.ref r2), .val (.int p3), .val (.int p4), .val (.int p5)] [(.int p5), (.int p1), (.ref r0)]))
    refine GoesW.step (fun _ k => XS.iadd X0.here hx rfl (hb hby d9_13) rfl k) ?_
    show GoesW p.tables e below s (Q9 Z r0 p1 r2 p3 p4 p5 kx nx xs dx ky ny ys dy h0 n0) 0 0 (s₁.setTop (mkF m 14 #[.val (.ref r0), .val (.int p1), .val (.ref r2), .val (.int p3), .val (.int p4), .val (.int p5)] [(.int (p1 + p5)), (.ref r0)]))
    have vv1 := V0
    obtain ⟨cl1, Ar1, aq1, aS1, aN1, aH1, aG1⟩ := vv1
    have hin1 : ¬ ((p1 + p5) < 0 ∨ cl1.slots.size ≤ ((p1 + p5)).toNatClampNeg) := inb_of aS1 (hin h4)
    refine GoesW.step (fun _ k => X0.baloadBytes hx (j := (p1 + p5)) (v := (.int (xs.getD (p1 + p5).toNatClampNeg 0))) (by rw [e0]; exact Ar1.1) (State.isArrayOf_alike hZ.alike Ar1.2.1) Ar1.2.2 hin1 (Has.at aH1 hin1 (own_get hnx (hin h4))) (g := (mkF m 14 #[.val (.ref r0), .val (.int p1), .val (.ref r2), .val (.int p3), .val (.int p4), .val (.int p5)] [(.int (p1 + p5)), (.ref r0)])) rfl rfl (hb hby d9_14) _ k) ?_
    show GoesW p.tables e below s (Q9 Z r0 p1 r2 p3 p4 p5 kx nx xs dx ky ny ys dy h0 n0) 0 0 (s₁.setTop (mkF m 15 #[.val (.ref r0), .val (.int p1), .val (.ref r2), .val (.int p3), .val (.int p4), .val (.int p5)] [(.int (xs.getD (p1 + p5).toNatClampNeg 0))]))
    refine GoesW.step (fun _ k => XS.aloadN X0.here hx rfl (hb hby d9_15) rfl rfl k) ?_
    show GoesW p.tables e below s (Q9 Z r0 p1 r2 p3 p4 p5 kx nx xs dx ky ny ys dy h0 n0) 0 0 (s₁.setTop (mkF m 16 #[.val (.ref r0), .val (.int p1), .val (.ref r2), .val (.int p3), .val (.int p4), .val (.int p5)] [(.ref r2), (.int (xs.getD (p1 + p5).toNatClampNeg 0))]))
    refine GoesW.step (fun _ k => XS.iloadN X0.here hx rfl (hb hby d9_16) rfl k) ?_
    show GoesW p.tables e below s (Q9 Z r0 p1 r2 p3 p4 p5 kx nx xs dx ky ny ys dy h0 n0) 0 0 (s₁.setTop (mkF m 17 #[.val (.ref r0), .val (.int p1), .val (.ref r2), .val (.int p3), .val (.int p4), .val (.int p5)] [(.int p3), (.ref r2), (.int (xs.getD (p1 + p5).toNatClampNeg 0))]))
    refine GoesW.step (fun _ k => XS.iload X0.here hx rfl (hb hby d9_17) rfl k) ?_
    show GoesW p.tables e below s (Q9 Z r0 p1 r2 p3 p4 p5 kx nx xs dx ky ny ys dy h0 n0) 0 0 (s₁.setTop (mkF m 19 #[.val (.ref r0), .val (.int p1), .val (.ref r2), .val (.int p3), .val (.int p4), .val (.int p5)] [(.int p5), (.int p3), (.ref r2), (.int (xs.getD (p1 + p5).toNatClampNeg 0))]))
    refine GoesW.step (fun _ k => XS.iadd X0.here hx rfl (hb hby d9_19) rfl k) ?_
    show GoesW p.tables e below s (Q9 Z r0 p1 r2 p3 p4 p5 kx nx xs dx ky ny ys dy h0 n0) 0 0 (s₁.setTop (mkF m 20 #[.val (.ref r0), .val (.int p1), .val (.ref r2), .val (.int p3), .val (.int p4), .val (.int p5)] [(.int (p3 + p5)), (.ref r2), (.int (xs.getD (p1 + p5).toNatClampNeg 0))]))
    have vv2 := V1
    obtain ⟨cl2, Ar2, aq2, aS2, aN2, aH2, aG2⟩ := vv2
    have hin2 : ¬ ((p3 + p5) < 0 ∨ cl2.slots.size ≤ ((p3 + p5)).toNatClampNeg) := inb_of aS2 (hjn h4)
    refine GoesW.step (fun _ k => X0.baloadBytes hx (j := (p3 + p5)) (v := (.int (ys.getD (p3 + p5).toNatClampNeg 0))) (by rw [e0]; exact Ar2.1) (State.isArrayOf_alike hZ.alike Ar2.2.1) Ar2.2.2 hin2 (Has.at aH2 hin2 (own_get hny (hjn h4))) (g := (mkF m 20 #[.val (.ref r0), .val (.int p1), .val (.ref r2), .val (.int p3), .val (.int p4), .val (.int p5)] [(.int (p3 + p5)), (.ref r2), (.int (xs.getD (p1 + p5).toNatClampNeg 0))])) rfl rfl (hb hby d9_20) _ k) ?_
    show GoesW p.tables e below s (Q9 Z r0 p1 r2 p3 p4 p5 kx nx xs dx ky ny ys dy h0 n0) 0 0 (s₁.setTop (mkF m 21 #[.val (.ref r0), .val (.int p1), .val (.ref r2), .val (.int p3), .val (.int p4), .val (.int p5)] [(.int (ys.getD (p3 + p5).toNatClampNeg 0)), (.int (xs.getD (p1 + p5).toNatClampNeg 0))]))
    refine GoesW.step (fun _ k => diam2 X0.here hx rfl (pc0 := 21) rfl (hb hby d9_21) rfl (hb hby d9_24) (hb hby d9_25) (hb hby d9_28) k) ?_
    show GoesW p.tables e below s (Q9 Z r0 p1 r2 p3 p4 p5 kx nx xs dx ky ny ys dy h0 n0) 0 0 (s₁.setTop (mkF m 29 #[.val (.ref r0), .val (.int p1), .val (.ref r2), .val (.int p3), .val (.int p4), .val (.int p5)] [(.int (nb (if_icmp.holds .ne (xs.getD (p1 + p5).toNatClampNeg 0) (ys.getD (p3 + p5).toNatClampNeg 0))))]))
    exact GoesW.retZ X0 hx hlk (t := .boolean) Bd.returns (by simp) (nar_nb _) (hb hby d9_29) (by show Q9 Z r0 p1 r2 p3 p4 p5 kx nx xs dx ky ny ys dy h0 n0 _ s₁.heap _; rw [e0]; exact ⟨by rw [own_atv, if_pos h4], N0, rfl⟩) (by decide) (by decide)
  · skip
    refine GoesW.step (fun _ k => XS.icmpNo X0.here hx rfl (hb hby d9_4) rfl (flt h4).1 k) ?_
    show GoesW p.tables e below s (Q9 Z r0 p1 r2 p3 p4 p5 kx nx xs dx ky ny ys dy h0 n0) 0 0 (s₁.setTop (mkF m 7 #[.val (.ref r0), .val (.int p1), .val (.ref r2), .val (.int p3), .val (.int p4), .val (.int p5)] []))
    refine GoesW.step (fun _ k => XS.iconst X0.here hx rfl (hb hby d9_7) k) ?_
    show GoesW p.tables e below s (Q9 Z r0 p1 r2 p3 p4 p5 kx nx xs dx ky ny ys dy h0 n0) 0 0 (s₁.setTop (mkF m 8 #[.val (.ref r0), .val (.int p1), .val (.ref r2), .val (.int p3), .val (.int p4), .val (.int p5)] [(.int (1 : Int32))]))
    exact GoesW.retZ X0 hx hlk (t := .boolean) Bd.returns (by simp) rfl (hb hby d9_8) (by show Q9 Z r0 p1 r2 p3 p4 p5 kx nx xs dx ky ny ys dy h0 n0 _ s₁.heap _; rw [e0]; exact ⟨by rw [own_atv, if_neg h4], N0, rfl⟩) (by decide) (by decide)
theorem own_pd2 : parseMethodDescriptor "([BI[BIII)Z" = some ⟨[(.array .byte), .int, (.array .byte), .int, .int, .int], some .boolean⟩ := by decide +kernel
theorem d8_0 : decode method_3_code 0 = .ok (.iload_n 2, 1) := by decide +kernel
theorem d8_1 : decode method_3_code 1 = .ok (.iload_n 1, 1) := by decide +kernel
theorem d8_2 : decode method_3_code 2 = .ok (.isub, 1) := by decide +kernel
theorem d8_3 : decode method_3_code 3 = .ok (.istore 6, 2) := by decide +kernel
theorem d8_5 : decode method_3_code 5 = .ok (.iload 6, 2) := by decide +kernel
theorem d8_7 : decode method_3_code 7 = .ok (.iload 5, 2) := by decide +kernel
theorem d8_9 : decode method_3_code 9 = .ok (.iload 4, 2) := by decide +kernel
theorem d8_11 : decode method_3_code 11 = .ok (.isub, 1) := by decide +kernel
theorem d8_12 : decode method_3_code 12 = .ok (.if_icmp .eq 5, 3) := by decide +kernel
theorem d8_15 : decode method_3_code 15 = .ok (.iconst 0, 1) := by decide +kernel
theorem d8_16 : decode method_3_code 16 = .ok (.ireturn, 1) := by decide +kernel
theorem d8_17 : decode method_3_code 17 = .ok (.aload_n 0, 1) := by decide +kernel
theorem d8_18 : decode method_3_code 18 = .ok (.iload_n 1, 1) := by decide +kernel
theorem d8_19 : decode method_3_code 19 = .ok (.aload_n 3, 1) := by decide +kernel
theorem d8_20 : decode method_3_code 20 = .ok (.iload 4, 2) := by decide +kernel
theorem d8_22 : decode method_3_code 22 = .ok (.iload 6, 2) := by decide +kernel
theorem d8_24 : decode method_3_code 24 = .ok (.iconst 0, 1) := by decide +kernel
theorem d8_25 : decode method_3_code 25 = .ok (.invokestatic 30, 3) := by decide +kernel
theorem d8_28 : decode method_3_code 28 = .ok (.ifCond .eq 49, 3) := by decide +kernel
theorem d8_31 : decode method_3_code 31 = .ok (.aload_n 0, 1) := by decide +kernel
theorem d8_32 : decode method_3_code 32 = .ok (.iload_n 1, 1) := by decide +kernel
theorem d8_33 : decode method_3_code 33 = .ok (.aload_n 3, 1) := by decide +kernel
theorem d8_34 : decode method_3_code 34 = .ok (.iload 4, 2) := by decide +kernel
theorem d8_36 : decode method_3_code 36 = .ok (.iload 6, 2) := by decide +kernel
theorem d8_38 : decode method_3_code 38 = .ok (.iconst 1, 1) := by decide +kernel
theorem d8_39 : decode method_3_code 39 = .ok (.invokestatic 30, 3) := by decide +kernel
theorem d8_42 : decode method_3_code 42 = .ok (.ifCond .eq 35, 3) := by decide +kernel
theorem d8_45 : decode method_3_code 45 = .ok (.aload_n 0, 1) := by decide +kernel
theorem d8_46 : decode method_3_code 46 = .ok (.iload_n 1, 1) := by decide +kernel
theorem d8_47 : decode method_3_code 47 = .ok (.aload_n 3, 1) := by decide +kernel
theorem d8_48 : decode method_3_code 48 = .ok (.iload 4, 2) := by decide +kernel
theorem d8_50 : decode method_3_code 50 = .ok (.iload 6, 2) := by decide +kernel
theorem d8_52 : decode method_3_code 52 = .ok (.iconst 2, 1) := by decide +kernel
theorem d8_53 : decode method_3_code 53 = .ok (.invokestatic 30, 3) := by decide +kernel
theorem d8_56 : decode method_3_code 56 = .ok (.ifCond .eq 21, 3) := by decide +kernel
theorem d8_59 : decode method_3_code 59 = .ok (.aload_n 0, 1) := by decide +kernel
theorem d8_60 : decode method_3_code 60 = .ok (.iload_n 1, 1) := by decide +kernel
theorem d8_61 : decode method_3_code 61 = .ok (.aload_n 3, 1) := by decide +kernel
theorem d8_62 : decode method_3_code 62 = .ok (.iload 4, 2) := by decide +kernel
theorem d8_64 : decode method_3_code 64 = .ok (.iload 6, 2) := by decide +kernel
theorem d8_66 : decode method_3_code 66 = .ok (.iconst 3, 1) := by decide +kernel
theorem d8_67 : decode method_3_code 67 = .ok (.invokestatic 30, 3) := by decide +kernel
theorem d8_70 : decode method_3_code 70 = .ok (.ifCond .eq 7, 3) := by decide +kernel
theorem d8_73 : decode method_3_code 73 = .ok (.iconst 1, 1) := by decide +kernel
theorem d8_74 : decode method_3_code 74 = .ok (.goto 4, 3) := by decide +kernel
theorem d8_77 : decode method_3_code 77 = .ok (.iconst 0, 1) := by decide +kernel
theorem d8_78 : decode method_3_code 78 = .ok (.ireturn, 1) := by decide +kernel
theorem ef_rm8 (m : MethodId) (x0 : Addr) (x1 : Int32) (x2 : Int32) (x3 : Addr) (x4 : Int32) (x5 : Int32) : entryFrame m #[(.ref x0), (.int x1), (.int x2), (.ref x3), (.int x4), (.int x5)] 7 = mkF m 0 #[.val (.ref x0), .val (.int x1), .val (.int x2), .val (.ref x3), .val (.int x4), .val (.int x5), .unset] [] := by first | (simp [entryFrame, mkF, argsToLocals, Value.category]; done) | rfl
def Q8 (Z : State) (r0 : Addr) (p1 : Int32) (p2 : Int32) (r3 : Addr) (p4 : Int32) (p5 : Int32) (kx : ClassId) (nx : Int32) (xs : List Int32) (dx : Value) (ky : ClassId) (ny : Int32) (ys : List Int32) (dy : Value) (h0 : Heap) (n0 : Nat) (v : Option Value) (h : Heap) (L : List Loc) : Prop := v = some (.int (own_sb xs ys p1 p2 p4 p5)) ∧ Fr n0 L ∧ h = h0
set_option maxRecDepth 65536 in
set_option maxHeartbeats 40000000 in
theorem rm8 (l : Launch) (Z : State) (a0 : Array Value) (hw : ∀ d ∈ tables_1, d.before a0 Z = true) (ws : List Jvm.Cond) (r0 : Addr) (p1 : Int32) (p2 : Int32) (r3 : Addr) (p4 : Int32) (p5 : Int32) (kx : ClassId) (nx : Int32) (xs : List Int32) (dx : Value) (ky : ClassId) (ny : Int32) (ys : List Int32) (dy : Value) (h0 : Heap) (n0 : Nat) (Z0 : n0 ≤ h0.size) (V0 : Arv Z h0 r0 kx .byte nx (xs.map Value.int) dx) (V1 : Arv Z h0 r3 ky .byte ny (ys.map Value.int) dy) (hnx : nx.toNatClampNeg = xs.length) (hny : ny.toNatClampNeg = ys.length) (f0 : 0 ≤ p1.toInt) (ft : p1.toInt ≤ p2.toInt) (tn : p2.toInt ≤ nx.toInt) (x4 : nx.toInt ≤ 4) (g0 : 0 ≤ p4.toInt) (gu : p4.toInt ≤ p5.toInt) (un : p5.toInt ≤ ny.toInt) (y4 : ny.toInt ≤ 4) :
    MetFree l (⟨"com/example/rankweave/rankweave/io/FieldBytesEqualsPinLaw", "sameBytes", "([BII[BII)Z"⟩ : MethodName) (head1 (Jvm.Cond.code (⟨"com/example/rankweave/rankweave/io/FieldBytesEqualsPinLaw", "sameBytes", "([BII[BII)Z"⟩ : MethodName) method_3_code 7 (some .boolean) :: ws) ({ frames := 1, cells := 0, slots := 0, locals := 17 } : Room)) (fun a U => a = #[(.ref r0), (.int p1), (.int p2), (.ref r3), (.int p4), (.int p5)] ∧ Z.Warmed39 U.vm ∧ U.heap = h0) (fun _ _ _ _ _ => True) (fun _ U o U' => ∃ v L, o = .returned v ∧ Q8 Z r0 p1 p2 r3 p4 p5 kx nx xs dx ky ny ys dy h0 n0 v U'.heap L ∧ FrameEnd U o U' L ({ frames := 1, cells := 0, slots := 0, locals := 17 } : Room).cells ({ frames := 1, cells := 0, slots := 0, locals := 17 } : Room).slots) := by
  refine MetFree.of_bodySF (plainFor_of_name own_pn3) hisR ?_
  intro p e s m args below meth c s₁ Bd hml0 hP hK
  obtain ⟨rfl, hZ, hh⟩ := hP
  have hx := Bd.exec
  have hby := Bd.bytes
  have hml : c.maxLocals = 7 := hml0
  have hown : s.vm.findClass "com/example/rankweave/rankweave/io/FieldBytesEqualsPinLaw" = some m.cls := findClass_of_methodNamed Bd.named
  have hnm := (name_of_methodNamed Bd.named Bd.method).1
  have hlk : meth.locks = false := BodyLoose.notSynchronized Bd
  have X0 : Stand p l e ({ frames := 1, cells := 0, slots := 0, locals := 17 } : Room) s m #[(.ref r0), (.int p1), (.int p2), (.ref r3), (.int p4), (.int p5)] below meth c s₁ [] 0 0 := Stand.of_body Bd
  have e0 : s₁.heap = h0 := by rw [← hh, Bd.state]; rfl
  have N0 := Fr.nil n0
  show GoesW p.tables e below s (Q8 Z r0 p1 p2 r3 p4 p5 kx nx xs dx ky ny ys dy h0 n0) 0 0 (s₁.setTop (entryFrame m #[(.ref r0), (.int p1), (.int p2), (.ref r3), (.int p4), (.int p5)] 7))
  rw [ef_rm8 m r0 p1 p2 r3 p4 p5]
  show GoesW p.tables e below s (Q8 Z r0 p1 p2 r3 p4 p5 kx nx xs dx ky ny ys dy h0 n0) 0 0 (s₁.setTop (mkF m 0 #[.val (.ref r0), .val (.int p1), .val (.int p2), .val (.ref r3), .val (.int p4), .val (.int p5), .unset] []))
  refine GoesW.step (fun _ k => XS.iloadN X0.here hx rfl (hb hby d8_0) rfl k) ?_
  show GoesW p.tables e below s (Q8 Z r0 p1 p2 r3 p4 p5 kx nx xs dx ky ny ys dy h0 n0) 0 0 (s₁.setTop (mkF m 1 #[.val (.ref r0), .val (.int p1), .val (.int p2), .val (.ref r3), .val (.int p4), .val (.int p5), .unset] [(.int p2)]))
  refine GoesW.step (fun _ k => XS.iloadN X0.here hx rfl (hb hby d8_1) rfl k) ?_
  show GoesW p.tables e below s (Q8 Z r0 p1 p2 r3 p4 p5 kx nx xs dx ky ny ys dy h0 n0) 0 0 (s₁.setTop (mkF m 2 #[.val (.ref r0), .val (.int p1), .val (.int p2), .val (.ref r3), .val (.int p4), .val (.int p5), .unset] [(.int p1), (.int p2)]))
  refine GoesW.step (fun _ k => XS.isub X0.here hx rfl (hb hby d8_2) rfl k) ?_
  show GoesW p.tables e below s (Q8 Z r0 p1 p2 r3 p4 p5 kx nx xs dx ky ny ys dy h0 n0) 0 0 (s₁.setTop (mkF m 3 #[.val (.ref r0), .val (.int p1), .val (.int p2), .val (.ref r3), .val (.int p4), .val (.int p5), .unset] [(.int (p2 - p1))]))
  refine GoesW.step (fun _ k => XS.istore X0.here hx rfl (hb hby d8_3) rfl (l' := #[.val (.ref r0), .val (.int p1), .val (.int p2), .val (.ref r3), .val (.int p4), .val (.int p5), .val (.int (p2 - p1))]) rfl k) ?_
  show GoesW p.tables e below s (Q8 Z r0 p1 p2 r3 p4 p5 kx nx xs dx ky ny ys dy h0 n0) 0 0 (s₁.setTop (mkF m 5 #[.val (.ref r0), .val (.int p1), .val (.int p2), .val (.ref r3), .val (.int p4), .val (.int p5), .val (.int (p2 - p1))] []))
  refine GoesW.step (fun _ k => XS.iload X0.here hx rfl (hb hby d8_5) rfl k) ?_
  show GoesW p.tables e below s (Q8 Z r0 p1 p2 r3 p4 p5 kx nx xs dx ky ny ys dy h0 n0) 0 0 (s₁.setTop (mkF m 7 #[.val (.ref r0), .val (.int p1), .val (.int p2), .val (.ref r3), .val (.int p4), .val (.int p5), .val (.int (p2 - p1))] [(.int (p2 - p1))]))
  refine GoesW.step (fun _ k => XS.iload X0.here hx rfl (hb hby d8_7) rfl k) ?_
  show GoesW p.tables e below s (Q8 Z r0 p1 p2 r3 p4 p5 kx nx xs dx ky ny ys dy h0 n0) 0 0 (s₁.setTop (mkF m 9 #[.val (.ref r0), .val (.int p1), .val (.int p2), .val (.ref r3), .val (.int p4), .val (.int p5), .val (.int (p2 - p1))] [(.int p5), (.int (p2 - p1))]))
  refine GoesW.step (fun _ k => XS.iload X0.here hx rfl (hb hby d8_9) rfl k) ?_
  show GoesW p.tables e below s (Q8 Z r0 p1 p2 r3 p4 p5 kx nx xs dx ky ny ys dy h0 n0) 0 0 (s₁.setTop (mkF m 11 #[.val (.ref r0), .val (.int p1), .val (.int p2), .val (.ref r3), .val (.int p4), .val (.int p5), .val (.int (p2 - p1))] [(.int p4), (.int p5), (.int (p2 - p1))]))
  refine GoesW.step (fun _ k => XS.isub X0.here hx rfl (hb hby d8_11) rfl k) ?_
  show GoesW p.tables e below s (Q8 Z r0 p1 p2 r3 p4 p5 kx nx xs dx ky ny ys dy h0 n0) 0 0 (s₁.setTop (mkF m 12 #[.val (.ref r0), .val (.int p1), .val (.int p2), .val (.ref r3), .val (.int p4), .val (.int p5), .val (.int (p2 - p1))] [(.int (p5 - p4)), (.int (p2 - p1))]))
  by_cases h12 : (p2 - p1) = (p5 - p4)
  · skip
    refine GoesW.step (fun _ k => XS.icmpYes X0.here hx rfl (pc0 := 12) (pc' := 17) rfl (hb hby d8_12) rfl (teq h12).1 (by decide) (by decide) k) ?_
    show GoesW p.tables e below s (Q8 Z r0 p1 p2 r3 p4 p5 kx nx xs dx ky ny ys dy h0 n0) 0 0 (s₁.setTop (mkF m 17 #[.val (.ref r0), .val (.int p1), .val (.int p2), .val (.ref r3), .val (.int p4), .val (.int p5), .val (.int (p2 - p1))] []))
    refine GoesW.step (fun _ k => XS.aloadN X0.here hx rfl (hb hby d8_17) rfl rfl k) ?_
    show GoesW p.tables e below s (Q8 Z r0 p1 p2 r3 p4 p5 kx nx xs dx ky ny ys dy h0 n0) 0 0 (s₁.setTop (mkF m 18 #[.val (.ref r0), .val (.int p1), .val (.int p2), .val (.ref r3), .val (.int p4), .val (.int p5), .val (.int (p2 - p1))] [(.ref r0)]))
    refine GoesW.step (fun _ k => XS.iloadN X0.here hx rfl (hb hby d8_18) rfl k) ?_
    show GoesW p.tables e below s (Q8 Z r0 p1 p2 r3 p4 p5 kx nx xs dx ky ny ys dy h0 n0) 0 0 (s₁.setTop (mkF m 19 #[.val (.ref r0), .val (.int p1), .val (.int p2), .val (.ref r3), .val (.int p4), .val (.int p5), .val (.int (p2 - p1))] [(.int p1), (.ref r0)]))
    refine GoesW.step (fun _ k => XS.aloadN X0.here hx rfl (hb hby d8_19) rfl rfl k) ?_
    show GoesW p.tables e below s (Q8 Z r0 p1 p2 r3 p4 p5 kx nx xs dx ky ny ys dy h0 n0) 0 0 (s₁.setTop (mkF m 20 #[.val (.ref r0), .val (.int p1), .val (.int p2), .val (.ref r3), .val (.int p4), .val (.int p5), .val (.int (p2 - p1))] [(.ref r3), (.int p1), (.ref r0)]))
    refine GoesW.step (fun _ k => XS.iload X0.here hx rfl (hb hby d8_20) rfl k) ?_
    show GoesW p.tables e below s (Q8 Z r0 p1 p2 r3 p4 p5 kx nx xs dx ky ny ys dy h0 n0) 0 0 (s₁.setTop (mkF m 22 #[.val (.ref r0), .val (.int p1), .val (.int p2), .val (.ref r3), .val (.int p4), .val (.int p5), .val (.int (p2 - p1))] [(.int p4), (.ref r3), (.int p1), (.ref r0)]))
    refine GoesW.step (fun _ k => XS.iload X0.here hx rfl (hb hby d8_22) rfl k) ?_
    show GoesW p.tables e below s (Q8 Z r0 p1 p2 r3 p4 p5 kx nx xs dx ky ny ys dy h0 n0) 0 0 (s₁.setTop (mkF m 24 #[.val (.ref r0), .val (.int p1), .val (.int p2), .val (.ref r3), .val (.int p4), .val (.int p5), .val (.int (p2 - p1))] [(.int (p2 - p1)), (.int p4), (.ref r3), (.int p1), (.ref r0)]))
    refine GoesW.step (fun _ k => XS.iconst X0.here hx rfl (hb hby d8_24) k) ?_
    show GoesW p.tables e below s (Q8 Z r0 p1 p2 r3 p4 p5 kx nx xs dx ky ny ys dy h0 n0) 0 0 (s₁.setTop (mkF m 25 #[.val (.ref r0), .val (.int p1), .val (.int p2), .val (.ref r3), .val (.int p4), .val (.int p5), .val (.int (p2 - p1))] [(.int (0 : Int32)), (.int (p2 - p1)), (.int p4), (.ref r3), (.int p1), (.ref r0)]))
    obtain ⟨_, _, ⟨T1, L1, k1, n1⟩, -, X1, ⟨Lc1, hQ1, l1, y1, z1⟩, st1⟩ := Jvm.LawKit.callS X0 hx (y := (⟨"com/example/rankweave/rankweave/io/FieldBytesEqualsPinLaw", "at", "([BI[BIII)Z"⟩ : MethodName)) hown (mvT hZ (hw _ (List.mem_of_getElem? (i := 59) rfl))) (mvT hZ (hw _ (List.mem_of_getElem? (i := 60) rfl))) (mvT hZ (hw _ (List.mem_of_getElem? (i := 57) rfl))) (mvT hZ (hw _ (List.mem_of_getElem? (i := 61) rfl))) (by decide) (backOf (W := 0) (rm9 l Z a0 hw [] r0 p1 r3 p4 (p2 - p1) (0 : Int32) kx nx xs dx ky ny ys dy h0 n0 Z0 V0 V1 hnx hny (own_in f0 ft tn x4 (by decide) (by decide)) (fun q => own_in g0 gu un y4 (by decide) (by decide) (h12 ▸ q))) hZ (hw _ (List.mem_of_getElem? (i := 61) rfl)) (hw _ (List.mem_of_getElem? (i := 57) rfl)) (by decide) (by decide)) (g := (mkF m 25 #[.val (.ref r0), .val (.int p1), .val (.int p2), .val (.ref r3), .val (.int p4), .val (.int p5), .val (.int (p2 - p1))] [(.int (0 : Int32)), (.int (p2 - p1)), (.int p4), (.ref r3), (.int p1), (.ref r0)])) rfl (by rw [hml]; rfl) (argsL := [(.ref r0), (.int p1), (.ref r3), (.int p4), (.int (p2 - p1)), (.int (0 : Int32))]) (rest := []) (lenOf own_pd2 rfl) rfl (by show 2 * 0 + _ ≤ _; exact Nat.le_of_eq rfl) (hb hby d8_25) (fun _ _ => ⟨rfl, e0, (by decide : 0 + 0 ≤ _), (by decide : 0 + 0 ≤ _)⟩)
    dsimp only [Pt.U, Pt.locs, Pt.cells, Pt.slots] at X1 l1 y1 z1 st1 hQ1
    subst l1 y1 z1
    obtain ⟨rfl, N1q, eq1⟩ := hQ1
    have N1 := Fr.app N0 N1q
    refine GoesW.step st1 ?_
    show GoesW p.tables e below s (Q8 Z r0 p1 p2 r3 p4 p5 kx nx xs dx ky ny ys dy h0 n0) 0 0 (T1.setTop (mkF m 28 #[.val (.ref r0), .val (.int p1), .val (.int p2), .val (.ref r3), .val (.int p4), .val (.int p5), .val (.int (p2 - p1))] [(.int (own_atv xs ys p1 p4 (p2 - p1) (0 : Int32)))]))
    by_cases ha0 : (own_atv xs ys p1 p4 (p2 - p1) (0 : Int32)) = (0 : Int32)
    · skip
      refine GoesW.step (fun _ k => XS.ifYes X1.here hx rfl (pc0 := 28) (pc' := 77) rfl (hb hby d8_28) rfl ((if0 _ _).trans (teq ha0).1) (by decide) (by decide) k) ?_
      show GoesW p.tables e below s (Q8 Z r0 p1 p2 r3 p4 p5 kx nx xs dx ky ny ys dy h0 n0) 0 0 (T1.setTop (mkF m 77 #[.val (.ref r0), .val (.int p1), .val (.int p2), .val (.ref r3), .val (.int p4), .val (.int p5), .val (.int (p2 - p1))] []))
      refine GoesW.step (fun _ k => XS.iconst X1.here hx rfl (hb hby d8_77) k) ?_
      show GoesW p.tables e below s (Q8 Z r0 p1 p2 r3 p4 p5 kx nx xs dx ky ny ys dy h0 n0) 0 0 (T1.setTop (mkF m 78 #[.val (.ref r0), .val (.int p1), .val (.int p2), .val (.ref r3), .val (.int p4), .val (.int p5), .val (.int (p2 - p1))] [(.int (0 : Int32))]))
      exact GoesW.retZ X1 hx hlk (t := .boolean) Bd.returns (by simp) rfl (hb hby d8_78) (by show Q8 Z r0 p1 p2 r3 p4 p5 kx nx xs dx ky ny ys dy h0 n0 _ T1.heap _; rw [eq1]; exact ⟨by rw [own_sb, if_pos h12, if_pos ha0], N1, rfl⟩) (by decide) (by decide)
    · skip
      refine GoesW.step (fun _ k => XS.ifNo X1.here hx rfl (hb hby d8_28) rfl ((if0 _ _).trans (feq ha0).1) k) ?_
      show GoesW p.tables e below s (Q8 Z r0 p1 p2 r3 p4 p5 kx nx xs dx ky ny ys dy h0 n0) 0 0 (T1.setTop (mkF m 31 #[.val (.ref r0), .val (.int p1), .val (.int p2), .val (.ref r3), .val (.int p4), .val (.int p5), .val (.int (p2 - p1))] []))
      refine GoesW.step (fun _ k => XS.aloadN X1.here hx rfl (hb hby d8_31) rfl rfl k) ?_
      show GoesW p.tables e below s (Q8 Z r0 p1 p2 r3 p4 p5 kx nx xs dx ky ny ys dy h0 n0) 0 0 (T1.setTop (mkF m 32 #[.val (.ref r0), .val (.int p1), .val (.int p2), .val (.ref r3), .val (.int p4), .val (.int p5), .val (.int (p2 - p1))] [(.ref r0)]))
      refine GoesW.step (fun _ k => XS.iloadN X1.here hx rfl (hb hby d8_32) rfl k) ?_
      show GoesW p.tables e below s (Q8 Z r0 p1 p2 r3 p4 p5 kx nx xs dx ky ny ys dy h0 n0) 0 0 (T1.setTop (mkF m 33 #[.val (.ref r0), .val (.int p1), .val (.int p2), .val (.ref r3), .val (.int p4), .val (.int p5), .val (.int (p2 - p1))] [(.int p1), (.ref r0)]))
      refine GoesW.step (fun _ k => XS.aloadN X1.here hx rfl (hb hby d8_33) rfl rfl k) ?_
      show GoesW p.tables e below s (Q8 Z r0 p1 p2 r3 p4 p5 kx nx xs dx ky ny ys dy h0 n0) 0 0 (T1.setTop (mkF m 34 #[.val (.ref r0), .val (.int p1), .val (.int p2), .val (.ref r3), .val (.int p4), .val (.int p5), .val (.int (p2 - p1))] [(.ref r3), (.int p1), (.ref r0)]))
      refine GoesW.step (fun _ k => XS.iload X1.here hx rfl (hb hby d8_34) rfl k) ?_
      show GoesW p.tables e below s (Q8 Z r0 p1 p2 r3 p4 p5 kx nx xs dx ky ny ys dy h0 n0) 0 0 (T1.setTop (mkF m 36 #[.val (.ref r0), .val (.int p1), .val (.int p2), .val (.ref r3), .val (.int p4), .val (.int p5), .val (.int (p2 - p1))] [(.int p4), (.ref r3), (.int p1), (.ref r0)]))
      refine GoesW.step (fun _ k => XS.iload X1.here hx rfl (hb hby d8_36) rfl k) ?_
      show GoesW p.tables e below s (Q8 Z r0 p1 p2 r3 p4 p5 kx nx xs dx ky ny ys dy h0 n0) 0 0 (T1.setTop (mkF m 38 #[.val (.ref r0), .val (.int p1), .val (.int p2), .val (.ref r3), .val (.int p4), .val (.int p5), .val (.int (p2 - p1))] [(.int (p2 - p1)), (.int p4), (.ref r3), (.int p1), (.ref r0)]))
      refine GoesW.step (fun _ k => XS.iconst X1.here hx rfl (hb hby d8_38) k) ?_
      show GoesW p.tables e below s (Q8 Z r0 p1 p2 r3 p4 p5 kx nx xs dx ky ny ys dy h0 n0) 0 0 (T1.setTop (mkF m 39 #[.val (.ref r0), .val (.int p1), .val (.int p2), .val (.ref r3), .val (.int p4), .val (.int p5), .val (.int (p2 - p1))] [(.int (1 : Int32)), (.int (p2 - p1)), (.int p4), (.ref r3), (.int p1), (.ref r0)]))
      obtain ⟨_, _, ⟨T2, L2, k2, n2⟩, -, X2, ⟨Lc2, hQ2, l2, y2, z2⟩, st2⟩ := Jvm.LawKit.callS X1 hx (y := (⟨"com/example/rankweave/rankweave/io/FieldBytesEqualsPinLaw", "at", "([BI[BIII)Z"⟩ : MethodName)) hown (mvT hZ (hw _ (List.mem_of_getElem? (i := 59) rfl))) (mvT hZ (hw _ (List.mem_of_getElem? (i := 60) rfl))) (mvT hZ (hw _ (List.mem_of_getElem? (i := 57) rfl))) (mvT hZ (hw _ (List.mem_of_getElem? (i := 61) rfl))) (by decide) (backOf (W := 0) (rm9 l Z a0 hw [] r0 p1 r3 p4 (p2 - p1) (1 : Int32) kx nx xs dx ky ny ys dy h0 n0 Z0 V0 V1 hnx hny (own_in f0 ft tn x4 (by decide) (by decide)) (fun q => own_in g0 gu un y4 (by decide) (by decide) (h12 ▸ q))) hZ (hw _ (List.mem_of_getElem? (i := 61) rfl)) (hw _ (List.mem_of_getElem? (i := 57) rfl)) (by decide) (by decide)) (g := (mkF m 39 #[.val (.ref r0), .val (.int p1), .val (.int p2), .val (.ref r3), .val (.int p4), .val (.int p5), .val (.int (p2 - p1))] [(.int (1 : Int32)), (.int (p2 - p1)), (.int p4), (.ref r3), (.int p1), (.ref r0)])) rfl (by rw [hml]; rfl) (argsL := [(.ref r0), (.int p1), (.ref r3), (.int p4), (.int (p2 - p1)), (.int (1 : Int32))]) (rest := []) (lenOf own_pd2 rfl) rfl (by show 2 * 0 + _ ≤ _; exact Nat.le_of_eq rfl) (hb hby d8_39) (fun _ _ => ⟨rfl, eq1, (by decide : 0 + 0 ≤ _), (by decide : 0 + 0 ≤ _)⟩)
      dsimp only [Pt.U, Pt.locs, Pt.cells, Pt.slots] at X2 l2 y2 z2 st2 hQ2
      subst l2 y2 z2
      obtain ⟨rfl, N2q, eq2⟩ := hQ2
      have N2 := Fr.app N1 N2q
      refine GoesW.step st2 ?_
      show GoesW p.tables e below s (Q8 Z r0 p1 p2 r3 p4 p5 kx nx xs dx ky ny ys dy h0 n0) 0 0 (T2.setTop (mkF m 42 #[.val (.ref r0), .val (.int p1), .val (.int p2), .val (.ref r3), .val (.int p4), .val (.int p5), .val (.int (p2 - p1))] [(.int (own_atv xs ys p1 p4 (p2 - p1) (1 : Int32)))]))
      by_cases ha1 : (own_atv xs ys p1 p4 (p2 - p1) (1 : Int32)) = (0 : Int32)
      · skip
        refine GoesW.step (fun _ k => XS.ifYes X2.here hx rfl (pc0 := 42) (pc' := 77) rfl (hb hby d8_42) rfl ((if0 _ _).trans (teq ha1).1) (by decide) (by decide) k) ?_
        show GoesW p.tables e below s (Q8 Z r0 p1 p2 r3 p4 p5 kx nx xs dx ky ny ys dy h0 n0) 0 0 (T2.setTop (mkF m 77 #[.val (.ref r0), .val (.int p1), .val (.int p2), .val (.ref r3), .val (.int p4), .val (.int p5), .val (.int (p2 - p1))] []))
        refine GoesW.step (fun _ k => XS.iconst X2.here hx rfl (hb hby d8_77) k) ?_
        show GoesW p.tables e below s (Q8 Z r0 p1 p2 r3 p4 p5 kx nx xs dx ky ny ys dy h0 n0) 0 0 (T2.setTop (mkF m 78 #[.val (.ref r0), .val (.int p1), .val (.int p2), .val (.ref r3), .val (.int p4), .val (.int p5), .val (.int (p2 - p1))] [(.int (0 : Int32))]))
        exact GoesW.retZ X2 hx hlk (t := .boolean) Bd.returns (by simp) rfl (hb hby d8_78) (by show Q8 Z r0 p1 p2 r3 p4 p5 kx nx xs dx ky ny ys dy h0 n0 _ T2.heap _; rw [eq2]; exact ⟨by rw [own_sb, if_pos h12, if_neg ha0, if_pos ha1], N2, rfl⟩) (by decide) (by decide)
      · skip
        refine GoesW.step (fun _ k => XS.ifNo X2.here hx rfl (hb hby d8_42) rfl ((if0 _ _).trans (feq ha1).1) k) ?_
        show GoesW p.tables e below s (Q8 Z r0 p1 p2 r3 p4 p5 kx nx xs dx ky ny ys dy h0 n0) 0 0 (T2.setTop (mkF m 45 #[.val (.ref r0), .val (.int p1), .val (.int p2), .val (.ref r3), .val (.int p4), .val (.int p5), .val (.int (p2 - p1))] []))
        refine GoesW.step (fun _ k => XS.aloadN X2.here hx rfl (hb hby d8_45) rfl rfl k) ?_
        show GoesW p.tables e below s (Q8 Z r0 p1 p2 r3 p4 p5 kx nx xs dx ky ny ys dy h0 n0) 0 0 (T2.setTop (mkF m 46 #[.val (.ref r0), .val (.int p1), .val (.int p2), .val (.ref r3), .val (.int p4), .val (.int p5), .val (.int (p2 - p1))] [(.ref r0)]))
        refine GoesW.step (fun _ k => XS.iloadN X2.here hx rfl (hb hby d8_46) rfl k) ?_
        show GoesW p.tables e below s (Q8 Z r0 p1 p2 r3 p4 p5 kx nx xs dx ky ny ys dy h0 n0) 0 0 (T2.setTop (mkF m 47 #[.val (.ref r0), .val (.int p1), .val (.int p2), .val (.ref r3), .val (.int p4), .val (.int p5), .val (.int (p2 - p1))] [(.int p1), (.ref r0)]))
        refine GoesW.step (fun _ k => XS.aloadN X2.here hx rfl (hb hby d8_47) rfl rfl k) ?_
        show GoesW p.tables e below s (Q8 Z r0 p1 p2 r3 p4 p5 kx nx xs dx ky ny ys dy h0 n0) 0 0 (T2.setTop (mkF m 48 #[.val (.ref r0), .val (.int p1), .val (.int p2), .val (.ref r3), .val (.int p4), .val (.int p5), .val (.int (p2 - p1))] [(.ref r3), (.int p1), (.ref r0)]))
        refine GoesW.step (fun _ k => XS.iload X2.here hx rfl (hb hby d8_48) rfl k) ?_
        show GoesW p.tables e below s (Q8 Z r0 p1 p2 r3 p4 p5 kx nx xs dx ky ny ys dy h0 n0) 0 0 (T2.setTop (mkF m 50 #[.val (.ref r0), .val (.int p1), .val (.int p2), .val (.ref r3), .val (.int p4), .val (.int p5), .val (.int (p2 - p1))] [(.int p4), (.ref r3), (.int p1), (.ref r0)]))
        refine GoesW.step (fun _ k => XS.iload X2.here hx rfl (hb hby d8_50) rfl k) ?_
        show GoesW p.tables e below s (Q8 Z r0 p1 p2 r3 p4 p5 kx nx xs dx ky ny ys dy h0 n0) 0 0 (T2.setTop (mkF m 52 #[.val (.ref r0), .val (.int p1), .val (.int p2), .val (.ref r3), .val (.int p4), .val (.int p5), .val (.int (p2 - p1))] [(.int (p2 - p1)), (.int p4), (.ref r3), (.int p1), (.ref r0)]))
        refine GoesW.step (fun _ k => XS.iconst X2.here hx rfl (hb hby d8_52) k) ?_
        show GoesW p.tables e below s (Q8 Z r0 p1 p2 r3 p4 p5 kx nx xs dx ky ny ys dy h0 n0) 0 0 (T2.setTop (mkF m 53 #[.val (.ref r0), .val (.int p1), .val (.int p2), .val (.ref r3), .val (.int p4), .val (.int p5), .val (.int (p2 - p1))] [(.int (2 : Int32)), (.int (p2 - p1)), (.int p4), (.ref r3), (.int p1), (.ref r0)]))
        obtain ⟨_, _, ⟨T3, L3, k3, n3⟩, -, X3, ⟨Lc3, hQ3, l3, y3, z3⟩, st3⟩ := Jvm.LawKit.callS X2 hx (y := (⟨"com/example/rankweave/rankweave/io/FieldBytesEqualsPinLaw", "at", "([BI[BIII)Z"⟩ : MethodName)) hown (mvT hZ (hw _ (List.mem_of_getElem? (i := 59) rfl))) (mvT hZ (hw _ (List.mem_of_getElem? (i := 60) rfl))) (mvT hZ (hw _ (List.mem_of_getElem? (i := 57) rfl))) (mvT hZ (hw _ (List.mem_of_getElem? (i := 61) rfl))) (by decide) (backOf (W := 0) (rm9 l Z a0 hw [] r0 p1 r3 p4 (p2 - p1) (2 : Int32) kx nx xs dx ky ny ys dy h0 n0 Z0 V0 V1 hnx hny (own_in f0 ft tn x4 (by decide) (by decide)) (fun q => own_in g0 gu un y4 (by decide) (by decide) (h12 ▸ q))) hZ (hw _ (List.mem_of_getElem? (i := 61) rfl)) (hw _ (List.mem_of_getElem? (i := 57) rfl)) (by decide) (by decide)) (g := (mkF m 53 #[.val (.ref r0), .val (.int p1), .val (.int p2), .val (.ref r3), .val (.int p4), .val (.int p5), .val (.int (p2 - p1))] [(.int (2 : Int32)), (.int (p2 - p1)), (.int p4), (.ref r3), (.int p1), (.ref r0)])) rfl (by rw [hml]; rfl) (argsL := [(.ref r0), (.int p1), (.ref r3), (.int p4), (.int (p2 - p1)), (.int (2 : Int32))]) (rest := []) (lenOf own_pd2 rfl) rfl (by show 2 * 0 + _ ≤ _; exact Nat.le_of_eq rfl) (hb hby d8_53) (fun _ _ => ⟨rfl, eq2, (by decide : 0 + 0 ≤ _), (by decide : 0 + 0 ≤ _)⟩)
        dsimp only [Pt.U, Pt.locs, Pt.cells, Pt.slots] at X3 l3 y3 z3 st3 hQ3
        subst l3 y3 z3
        obtain ⟨rfl, N3q, eq3⟩ := hQ3
        have N3 := Fr.app N2 N3q
        refine GoesW.step st3 ?_
        show GoesW p.tables e below s (Q8 Z r0 p1 p2 r3 p4 p5 kx nx xs dx ky ny ys dy h0 n0) 0 0 (T3.setTop (mkF m 56 #[.val (.ref r0), .val (.int p1), .val (.int p2), .val (.ref r3), .val (.int p4), .val (.int p5), .val (.int (p2 - p1))] [(.int (own_atv xs ys p1 p4 (p2 - p1) (2 : Int32)))]))
        by_cases ha2 : (own_atv xs ys p1 p4 (p2 - p1) (2 : Int32)) = (0 : Int32)
        · skip
          refine GoesW.step (fun _ k => XS.ifYes X3.here hx rfl (pc0 := 56) (pc' := 77) rfl (hb hby d8_56) rfl ((if0 _ _).trans (teq ha2).1) (by decide) (by decide) k) ?_
          show GoesW p.tables e below s (Q8 Z r0 p1 p2 r3 p4 p5 kx nx xs dx ky ny ys dy h0 n0) 0 0 (T3.setTop (mkF m 77 #[.val (.ref r0), .val (.int p1), .val (.int p2), .val (.ref r3), .val (.int p4), .val (.int p5), .val (.int (p2 - p1))] []))
          refine GoesW.step (fun _ k => XS.iconst X3.here hx rfl (hb hby d8_77) k) ?_
          show GoesW p.tables e below s (Q8 Z r0 p1 p2 r3 p4 p5 kx nx xs dx ky ny ys dy h0 n0) 0 0 (T3.setTop (mkF m 78 #[.val (.ref r0), .val (.int p1), .val (.int p2), .val (.ref r3), .val (.int p4), .val (.int p5), .val (.int (p2 - p1))] [(.int (0 : Int32))]))
          exact GoesW.retZ X3 hx hlk (t := .boolean) Bd.returns (by simp) rfl (hb hby d8_78) (by show Q8 Z r0 p1 p2 r3 p4 p5 kx nx xs dx ky ny ys dy h0 n0 _ T3.heap _; rw [eq3]; exact ⟨by rw [own_sb, if_pos h12, if_neg ha0, if_neg ha1, if_pos ha2], N3, rfl⟩) (by decide) (by decide)
        · skip
          refine GoesW.step (fun _ k => XS.ifNo X3.here hx rfl (hb hby d8_56) rfl ((if0 _ _).trans (feq ha2).1) k) ?_
          show GoesW p.tables e below s (Q8 Z r0 p1 p2 r3 p4 p5 kx nx xs dx ky ny ys dy h0 n0) 0 0 (T3.setTop (mkF m 59 #[.val (.ref r0), .val (.int p1), .val (.int p2), .val (.ref r3), .val (.int p4), .val (.int p5), .val (.int (p2 - p1))] []))
          refine GoesW.step (fun _ k => XS.aloadN X3.here hx rfl (hb hby d8_59) rfl rfl k) ?_
          show GoesW p.tables e below s (Q8 Z r0 p1 p2 r3 p4 p5 kx nx xs dx ky ny ys dy h0 n0) 0 0 (T3.setTop (mkF m 60 #[.val (.ref r0), .val (.int p1), .val (.int p2), .val (.ref r3), .val (.int p4), .val (.int p5), .val (.int (p2 - p1))] [(.ref r0)]))
          refine GoesW.step (fun _ k => XS.iloadN X3.here hx rfl (hb hby d8_60) rfl k) ?_
          show GoesW p.tables e below s (Q8 Z r0 p1 p2 r3 p4 p5 kx nx xs dx ky ny ys dy h0 n0) 0 0 (T3.setTop (mkF m 61 #[.val (.ref r0), .val (.int p1), .val (.int p2), .val (.ref r3), .val (.int p4), .val (.int p5), .val (.int (p2 - p1))] [(.int p1), (.ref r0)]))
          refine GoesW.step (fun _ k => XS.aloadN X3.here hx rfl (hb hby d8_61) rfl rfl k) ?_
          show GoesW p.tables e below s (Q8 Z r0 p1 p2 r3 p4 p5 kx nx xs dx ky ny ys dy h0 n0) 0 0 (T3.setTop (mkF m 62 #[.val (.ref r0), .val (.int p1), .val (.int p2), .val (.ref r3), .val (.int p4), .val (.int p5), .val (.int (p2 - p1))] [(.ref r3), (.int p1), (.ref r0)]))
          refine GoesW.step (fun _ k => XS.iload X3.here hx rfl (hb hby d8_62) rfl k) ?_
          show GoesW p.tables e below s (Q8 Z r0 p1 p2 r3 p4 p5 kx nx xs dx ky ny ys dy h0 n0) 0 0 (T3.setTop (mkF m 64 #[.val (.ref r0), .val (.int p1), .val (.int p2), .val (.ref r3), .val (.int p4), .val (.int p5), .val (.int (p2 - p1))] [(.int p4), (.ref r3), (.int p1), (.ref r0)]))
          refine GoesW.step (fun _ k => XS.iload X3.here hx rfl (hb hby d8_64) rfl k) ?_
          show GoesW p.tables e below s (Q8 Z r0 p1 p2 r3 p4 p5 kx nx xs dx ky ny ys dy h0 n0) 0 0 (T3.setTop (mkF m 66 #[.val (.ref r0), .val (.int p1), .val (.int p2), .val (.ref r3), .val (.int p4), .val (.int p5), .val (.int (p2 - p1))] [(.int (p2 - p1)), (.int p4), (.ref r3), (.int p1), (.ref r0)]))
          refine GoesW.step (fun _ k => XS.iconst X3.here hx rfl (hb hby d8_66) k) ?_
          show GoesW p.tables e below s (Q8 Z r0 p1 p2 r3 p4 p5 kx nx xs dx ky ny ys dy h0 n0) 0 0 (T3.setTop (mkF m 67 #[.val (.ref r0), .val (.int p1), .val (.int p2), .val (.ref r3), .val (.int p4), .val (.int p5), .val (.int (p2 - p1))] [(.int (3 : Int32)), (.int (p2 - p1)), (.int p4), (.ref r3), (.int p1), (.ref r0)]))
          obtain ⟨_, _, ⟨T4, L4, k4, n4⟩, -, X4, ⟨Lc4, hQ4, l4, y4, z4⟩, st4⟩ := Jvm.LawKit.callS X3 hx (y := (⟨"com/example/rankweave/rankweave/io/FieldBytesEqualsPinLaw", "at", "([BI[BIII)Z"⟩ : MethodName)) hown (mvT hZ (hw _ (List.mem_of_getElem? (i := 59) rfl))) (mvT hZ (hw _ (List.mem_of_getElem? (i := 60) rfl))) (mvT hZ (hw _ (List.mem_of_getElem? (i := 57) rfl))) (mvT hZ (hw _ (List.mem_of_getElem? (i := 61) rfl))) (by decide) (backOf (W := 0) (rm9 l Z a0 hw [] r0 p1 r3 p4 (p2 - p1) (3 : Int32) kx nx xs dx ky ny ys dy h0 n0 Z0 V0 V1 hnx hny (own_in f0 ft tn x4 (by decide) (by decide)) (fun q => own_in g0 gu un y4 (by decide) (by decide) (h12 ▸ q))) hZ (hw _ (List.mem_of_getElem? (i := 61) rfl)) (hw _ (List.mem_of_getElem? (i := 57) rfl)) (by decide) (by decide)) (g := (mkF m 67 #[.val (.ref r0), .val (.int p1), .val (.int p2), .val (.ref r3), .val (.int p4), .val (.int p5), .val (.int (p2 - p1))] [(.int (3 : Int32)), (.int (p2 - p1)), (.int p4), (.ref r3), (.int p1), (.ref r0)])) rfl (by rw [hml]; rfl) (argsL := [(.ref r0), (.int p1), (.ref r3), (.int p4), (.int (p2 - p1)), (.int (3 : Int32))]) (rest := []) (lenOf own_pd2 rfl) rfl (by show 2 * 0 + _ ≤ _; exact Nat.le_of_eq rfl) (hb hby d8_67) (fun _ _ => ⟨rfl, eq3, (by decide : 0 + 0 ≤ _), (by decide : 0 + 0 ≤ _)⟩)
          dsimp only [Pt.U, Pt.locs, Pt.cells, Pt.slots] at X4 l4 y4 z4 st4 hQ4
          subst l4 y4 z4
          obtain ⟨rfl, N4q, eq4⟩ := hQ4
          have N4 := Fr.app N3 N4q
          refine GoesW.step st4 ?_
          show GoesW p.tables e below s (Q8 Z r0 p1 p2 r3 p4 p5 kx nx xs dx ky ny ys dy h0 n0) 0 0 (T4.setTop (mkF m 70 #[.val (.ref r0), .val (.int p1), .val (.int p2), .val (.ref r3), .val (.int p4), .val (.int p5), .val (.int (p2 - p1))] [(.int (own_atv xs ys p1 p4 (p2 - p1) (3 : Int32)))]))
          by_cases ha3 : (own_atv xs ys p1 p4 (p2 - p1) (3 : Int32)) = (0 : Int32)
          · skip
            refine GoesW.step (fun _ k => XS.ifYes X4.here hx rfl (pc0 := 70) (pc' := 77) rfl (hb hby d8_70) rfl ((if0 _ _).trans (teq ha3).1) (by decide) (by decide) k) ?_
            show GoesW p.tables e below s (Q8 Z r0 p1 p2 r3 p4 p5 kx nx xs dx ky ny ys dy h0 n0) 0 0 (T4.setTop (mkF m 77 #[.val (.ref r0), .val (.int p1), .val (.int p2), .val (.ref r3), .val (.int p4), .val (.int p5), .val (.int (p2 - p1))] []))
            refine GoesW.step (fun _ k => XS.iconst X4.here hx rfl (hb hby d8_77) k) ?_
            show GoesW p.tables e below s (Q8 Z r0 p1 p2 r3 p4 p5 kx nx xs dx ky ny ys dy h0 n0) 0 0 (T4.setTop (mkF m 78 #[.val (.ref r0), .val (.int p1), .val (.int p2), .val (.ref r3), .val (.int p4), .val (.int p5), .val (.int (p2 - p1))] [(.int (0 : Int32))]))
            exact GoesW.retZ X4 hx hlk (t := .boolean) Bd.returns (by simp) rfl (hb hby d8_78) (by show Q8 Z r0 p1 p2 r3 p4 p5 kx nx xs dx ky ny ys dy h0 n0 _ T4.heap _; rw [eq4]; exact ⟨by rw [own_sb, if_pos h12, if_neg ha0, if_neg ha1, if_neg ha2, if_pos ha3], N4, rfl⟩) (by decide) (by decide)
          · skip
            refine GoesW.step (fun _ k => XS.ifNo X4.here hx rfl (hb hby d8_70) rfl ((if0 _ _).trans (feq ha3).1) k) ?_
            show GoesW p.tables e below s (Q8 Z r0 p1 p2 r3 p4 p5 kx nx xs dx ky ny ys dy h0 n0) 0 0 (T4.setTop (mkF m 73 #[.val (.ref r0), .val (.int p1), .val (.int p2), .val (.ref r3), .val (.int p4), .val (.int p5), .val (.int (p2 - p1))] []))
            refine GoesW.step (fun _ k => XS.iconst X4.here hx rfl (hb hby d8_73) k) ?_
            show GoesW p.tables e below s (Q8 Z r0 p1 p2 r3 p4 p5 kx nx xs dx ky ny ys dy h0 n0) 0 0 (T4.setTop (mkF m 74 #[.val (.ref r0), .val (.int p1), .val (.int p2), .val (.ref r3), .val (.int p4), .val (.int p5), .val (.int (p2 - p1))] [(.int (1 : Int32))]))
            refine GoesW.step (fun _ k => XS.goto X4.here hx rfl (pc0 := 74) (pc' := 78) rfl (hb hby d8_74) (by decide) (by decide) k) ?_
            show GoesW p.tables e below s (Q8 Z r0 p1 p2 r3 p4 p5 kx nx xs dx ky ny ys dy h0 n0) 0 0 (T4.setTop (mkF m 78 #[.val (.ref r0), .val (.int p1), .val (.int p2), .val (.ref r3), .val (.int p4), .val (.int p5), .val (.int (p2 - p1))] [(.int (1 : Int32))]))
            exact GoesW.retZ X4 hx hlk (t := .boolean) Bd.returns (by simp) rfl (hb hby d8_78) (by show Q8 Z r0 p1 p2 r3 p4 p5 kx nx xs dx ky ny ys dy h0 n0 _ T4.heap _; rw [eq4]; exact ⟨by rw [own_sb, if_pos h12, if_neg ha0, if_neg ha1, if_neg ha2, if_neg ha3], N4, rfl⟩) (by decide) (by decide)
  · skip
    refine GoesW.step (fun _ k => XS.icmpNo X0.here hx rfl (hb hby d8_12) rfl (feq h12).1 k) ?_
    show GoesW p.tables e below s (Q8 Z r0 p1 p2 r3 p4 p5 kx nx xs dx ky ny ys dy h0 n0) 0 0 (s₁.setTop (mkF m 15 #[.val (.ref r0), .val (.int p1), .val (.int p2), .val (.ref r3), .val (.int p4), .val (.int p5), .val (.int (p2 - p1))] []))
    refine GoesW.step (fun _ k => XS.iconst X0.here hx rfl (hb hby d8_15) k) ?_
    show GoesW p.tables e below s (Q8 Z r0 p1 p2 r3 p4 p5 kx nx xs dx ky ny ys dy h0 n0) 0 0 (s₁.setTop (mkF m 16 #[.val (.ref r0), .val (.int p1), .val (.int p2), .val (.ref r3), .val (.int p4), .val (.int p5), .val (.int (p2 - p1))] [(.int (0 : Int32))]))
    exact GoesW.retZ X0 hx hlk (t := .boolean) Bd.returns (by simp) rfl (hb hby d8_16) (by show Q8 Z r0 p1 p2 r3 p4 p5 kx nx xs dx ky ny ys dy h0 n0 _ s₁.heap _; rw [e0]; exact ⟨by rw [own_sb, if_neg h12], N0, rfl⟩) (by decide) (by decide)
theorem own_pd3 : parseMethodDescriptor "(I)Ljava/lang/Integer;" = some ⟨[.int], some (.object "java/lang/Integer")⟩ := by decide +kernel
theorem own_pd4 : parseMethodDescriptor "(Ljava/lang/Object;)Z" = some ⟨[(.object "java/lang/Object")], some .boolean⟩ := by decide +kernel
theorem own_pd5 : parseMethodDescriptor "([BII)V" = some ⟨[(.array .byte), .int, .int], none⟩ := by decide +kernel
theorem own_pd6 : parseMethodDescriptor "([BII[BII)Z" = some ⟨[(.array .byte), .int, .int, (.array .byte), .int, .int], some .boolean⟩ := by decide +kernel
theorem ef_rm0 (m : MethodId) (x0 : Int32) (x1 : Int32) (x2 : Int32) (x3 : Int32) : entryFrame m #[(.int x0), (.int x1), (.int x2), (.int x3)] maxLocals = mkF m 0 #[.val (.int x0), .val (.int x1), .val (.int x2), .val (.int x3), .unset, .unset, .unset, .unset, .unset, .unset, .unset, .unset, .unset, .unset, .unset, .unset, .unset, .unset] [] := by first | (simp [entryFrame, mkF, argsToLocals, Value.category, maxLocals]; done) | rfl
def Q0 (Z : State) (p0 : Int32) (p1 : Int32) (p2 : Int32) (p3 : Int32) (ca : Addr) (cl : Cell) (val : Int32 → Value) (h0 : Heap) (n0 : Nat) (v : Option Value) (h : Heap) (L : List Loc) : Prop := v = some (.int (1 : Int32)) ∧ Fr n0 L
set_option maxRecDepth 65536 in
set_option maxHeartbeats 40000000 in
theorem rm0 (l : Launch) (Z : State) (a0 : Array Value) (hw : ∀ d ∈ tables_1, d.before a0 Z = true) (ws : List Jvm.Cond) (p0 : Int32) (p1 : Int32) (p2 : Int32) (p3 : Int32) (ca : Addr) (cl : Cell) (val : Int32 → Value) (h0 : Heap) (n0 : Nat) (Z0 : n0 ≤ h0.size) (S_high : Sta Z Z.heap "java/lang/Integer$IntegerCache" "high" "I" (.int (127 : Int32))) (S_cache : Sta Z Z.heap "java/lang/Integer$IntegerCache" "cache" "[Ljava/lang/Integer;" (.ref ca)) (BX : Bxs Z ca cl "java/lang/Integer" "I" (256 : Int32) val) (O0 : Old Z n0 h0) :
    MetFree l x (head1 (Jvm.Cond.code x code maxLocals ret :: ws) room_1) (fun a U => a = #[(.int p0), (.int p1), (.int p2), (.int p3)] ∧ Z.Warmed39 U.vm ∧ U.heap = h0) (fun _ _ _ _ _ => True) (fun _ U o U' => ∃ v L, o = .returned v ∧ Q0 Z p0 p1 p2 p3 ca cl val h0 n0 v U'.heap L ∧ FrameEnd U o U' L room_1.cells room_1.slots) := by
  refine MetFree.of_bodySF (plainFor_of_name own_pn3) hisR ?_
  intro p e s m args below meth c s₁ Bd hml0 hP hK
  obtain ⟨rfl, hZ, hh⟩ := hP
  have hx := Bd.exec
  have hby := Bd.bytes
  have hml : c.maxLocals = 18 := hml0
  have hown : s.vm.findClass "com/example/rankweave/rankweave/io/FieldBytesEqualsPinLaw" = some m.cls := findClass_of_methodNamed Bd.named
  have hnm := (name_of_methodNamed Bd.named Bd.method).1
  have hlk : meth.locks = false := BodyLoose.notSynchronized Bd
  have X0 : Stand p l e room_1 s m #[(.int p0), (.int p1), (.int p2), (.int p3)] below meth c s₁ [] 0 0 := Stand.of_body Bd
  have e0 : s₁.heap = h0 := by rw [← hh, Bd.state]; rfl
  have N0 := Fr.nil n0
  show GoesW p.tables e below s (Q0 Z p0 p1 p2 p3 ca cl val h0 n0) room_1.cells room_1.slots (s₁.setTop (entryFrame m #[(.int p0), (.int p1), (.int p2), (.int p3)] maxLocals))
  rw [ef_rm0 m p0 p1 p2 p3]
  show GoesW p.tables e below s (Q0 Z p0 p1 p2 p3 ca cl val h0 n0) room_1.cells room_1.slots (s₁.setTop (mkF m 0 #[.val (.int p0), .val (.int p1), .val (.int p2), .val (.int p3), .unset, .unset, .unset, .unset, .unset, .unset, .unset, .unset, .unset, .unset, .unset, .unset, .unset, .unset] []))
  refine GoesW.step (fun _ k => XS.iconst X0.here hx rfl (hb hby at_0) k) ?_
  show GoesW p.tables e below s (Q0 Z p0 p1 p2 p3 ca cl val h0 n0) room_1.cells room_1.slots (s₁.setTop (mkF m 1 #[.val (.int p0), .val (.int p1), .val (.int p2), .val (.int p3), .unset, .unset, .unset, .unset, .unset, .unset, .unset, .unset, .unset, .unset, .unset, .unset, .unset, .unset] [(.int (4 : Int32))]))
  obtain ⟨T1, h1, k1, X1, e1, E1, A1, st1⟩ := newP X0 hx hZ (hw _ (List.mem_of_getElem? (i := 0) rfl)) e0 (g := (mkF m 1 #[.val (.int p0), .val (.int p1), .val (.int p2), .val (.int p3), .unset, .unset, .unset, .unset, .unset, .unset, .unset, .unset, .unset, .unset, .unset, .unset, .unset, .unset] [(.int (4 : Int32))])) rfl (hb hby at_1) rfl (by decide) (cap := 4) (by decide) (by decide) (by decide) (by decide)
  obtain ⟨aa, gs1⟩ : ∃ z, z = h0.size := ⟨_, rfl⟩
  rw [← gs1] at A1 st1
  have g_aa : n0 ≤ aa := Nat.le_trans Z0 (Nat.le_of_eq gs1.symm)
  have Z1 : n0 ≤ h1.size := Nat.le_trans Z0 E1.1
  have V_aa : Arv Z h1 aa k1 .byte (4 : Int32) [(.int (0 : Int32)), (.int (0 : Int32)), (.int (0 : Int32)), (.int (0 : Int32))] (.int (0 : Int32)) := (Arv.new A1 (by decide)).pad (pad_rep [] (.int (0 : Int32)) 4)
  refine GoesW.step st1 ?_
  show GoesW p.tables e below s (Q0 Z p0 p1 p2 p3 ca cl val h0 n0) room_1.cells room_1.slots (T1.setTop (mkF m 3 #[.val (.int p0), .val (.int p1), .val (.int p2), .val (.int p3), .unset, .unset, .unset, .unset, .unset, .unset, .unset, .unset, .unset, .unset, .unset, .unset, .unset, .unset] [(.ref aa)]))
  refine GoesW.step (fun _ k => XS.astore X1.here hx rfl (hb hby at_3) rfl rfl (l' := #[.val (.int p0), .val (.int p1), .val (.int p2), .val (.int p3), .val (.ref aa), .unset, .unset, .unset, .unset, .unset, .unset, .unset, .unset, .unset, .unset, .unset, .unset, .unset]) rfl k) ?_
  show GoesW p.tables e below s (Q0 Z p0 p1 p2 p3 ca cl val h0 n0) room_1.cells room_1.slots (T1.setTop (mkF m 5 #[.val (.int p0), .val (.int p1), .val (.int p2), .val (.int p3), .val (.ref aa), .unset, .unset, .unset, .unset, .unset, .unset, .unset, .unset, .unset, .unset, .unset, .unset, .unset] []))
  refine GoesW.step (fun _ k => XS.aload X1.here hx rfl (hb hby at_5) rfl rfl k) ?_
  show GoesW p.tables e below s (Q0 Z p0 p1 p2 p3 ca cl val h0 n0) room_1.cells room_1.slots (T1.setTop (mkF m 7 #[.val (.int p0), .val (.int p1), .val (.int p2), .val (.int p3), .val (.ref aa), .unset, .unset, .unset, .unset, .unset, .unset, .unset, .unset, .unset, .unset, .unset, .unset, .unset] [(.ref aa)]))
  refine GoesW.step (fun _ k => XS.iconst X1.here hx rfl (hb hby at_7) k) ?_
  show GoesW p.tables e below s (Q0 Z p0 p1 p2 p3 ca cl val h0 n0) room_1.cells room_1.slots (T1.setTop (mkF m 8 #[.val (.int p0), .val (.int p1), .val (.int p2), .val (.int p3), .val (.ref aa), .unset, .unset, .unset, .unset, .unset, .unset, .unset, .unset, .unset, .unset, .unset, .unset, .unset] [(.int (0 : Int32)), (.ref aa)]))
  refine GoesW.step (fun _ k => XS.iloadN X1.here hx rfl (hb hby at_8) rfl k) ?_
  show GoesW p.tables e below s (Q0 Z p0 p1 p2 p3 ca cl val h0 n0) room_1.cells room_1.slots (T1.setTop (mkF m 9 #[.val (.int p0), .val (.int p1), .val (.int p2), .val (.int p3), .val (.ref aa), .unset, .unset, .unset, .unset, .unset, .unset, .unset, .unset, .unset, .unset, .unset, .unset, .unset] [(.int p0), (.int (0 : Int32)), (.ref aa)]))
  refine GoesW.step (fun _ k => XS.i2b X1.here hx rfl (hb hby at_9) rfl k) ?_
  show GoesW p.tables e below s (Q0 Z p0 p1 p2 p3 ca cl val h0 n0) room_1.cells room_1.slots (T1.setTop (mkF m 10 #[.val (.int p0), .val (.int p1), .val (.int p2), .val (.int p3), .val (.ref aa), .unset, .unset, .unset, .unset, .unset, .unset, .unset, .unset, .unset, .unset, .unset, .unset, .unset] [(.int (p0.toInt8.toInt32)), (.int (0 : Int32)), (.ref aa)]))
  generalize hea_0 : (p0.toInt8.toInt32) = ea_0
  show GoesW p.tables e below s (Q0 Z p0 p1 p2 p3 ca cl val h0 n0) room_1.cells room_1.slots (T1.setTop (mkF m 10 #[.val (.int p0), .val (.int p1), .val (.int p2), .val (.int p3), .val (.ref aa), .unset, .unset, .unset, .unset, .unset, .unset, .unset, .unset, .unset, .unset, .unset, .unset, .unset] [(.int ea_0), (.int (0 : Int32)), (.ref aa)]))
  have vv2 := V_aa
  obtain ⟨cl2, Ar2, aq2, aS2, aN2, aH2, aG2⟩ := vv2
  have hin2 : ¬ ((0 : Int32) < 0 ∨ cl2.slots.size ≤ ((0 : Int32)).toNatClampNeg) := inb_of aS2 ⟨by decide, by decide⟩
  obtain ⟨T3, h3, X3, e3, W3, st3⟩ := stB X1 hx hZ e1 Ar2 (j := (0 : Int32)) hin2 (g := (mkF m 10 #[.val (.int p0), .val (.int p1), .val (.int p2), .val (.int p3), .val (.ref aa), .unset, .unset, .unset, .unset, .unset, .unset, .unset, .unset, .unset, .unset, .unset, .unset, .unset] [(.int ea_0), (.int (0 : Int32)), (.ref aa)])) rfl rfl (hb hby at_10)
  obtain ⟨a_0, ha_0⟩ : ∃ z : Int32, z = nar .byte ea_0 := ⟨_, rfl⟩
  rw [← ha_0] at W3
  have fa_0 : fits .byte (.int a_0) = true := by rw [ha_0]; exact fits_nar_byte _
  have V3 : Arv Z h3 aa k1 .byte (4 : Int32) [(.int a_0), (.int (0 : Int32)), (.int (0 : Int32)), (.int (0 : Int32))] (.int (0 : Int32)) := Arv.set Ar2 aq2 aS2 aN2 aH2 aG2 fa_0 W3 0 rfl (Nat.le_of_ble_eq_true rfl)
  have N3 := Fr.snoc X3 N0 g_aa
  have Z3 : n0 ≤ h3.size := Nat.le_trans Z1 (Keep.of_wr W3).1
  refine GoesW.step st3 ?_
  show GoesW p.tables e below s (Q0 Z p0 p1 p2 p3 ca cl val h0 n0) room_1.cells room_1.slots (T3.setTop (mkF m 11 #[.val (.int p0), .val (.int p1), .val (.int p2), .val (.int p3), .val (.ref aa), .unset, .unset, .unset, .unset, .unset, .unset, .unset, .unset, .unset, .unset, .unset, .unset, .unset] []))
  refine GoesW.step (fun _ k => XS.aload X3.here hx rfl (hb hby at_11) rfl rfl k) ?_
  show GoesW p.tables e below s (Q0 Z p0 p1 p2 p3 ca cl val h0 n0) room_1.cells room_1.slots (T3.setTop (mkF m 13 #[.val (.int p0), .val (.int p1), .val (.int p2), .val (.int p3), .val (.ref aa), .unset, .unset, .unset, .unset, .unset, .unset, .unset, .unset, .unset, .unset, .unset, .unset, .unset] [(.ref aa)]))
  refine GoesW.step (fun _ k => XS.iconst X3.here hx rfl (hb hby at_13) k) ?_
  show GoesW p.tables e below s (Q0 Z p0 p1 p2 p3 ca cl val h0 n0) room_1.cells room_1.slots (T3.setTop (mkF m 14 #[.val (.int p0), .val (.int p1), .val (.int p2), .val (.int p3), .val (.ref aa), .unset, .unset, .unset, .unset, .unset, .unset, .unset, .unset, .unset, .unset, .unset, .unset, .unset] [(.int (1 : Int32)), (.ref aa)]))
  refine GoesW.step (fun _ k => XS.iloadN X3.here hx rfl (hb hby at_14) rfl k) ?_
  show GoesW p.tables e below s (Q0 Z p0 p1 p2 p3 ca cl val h0 n0) room_1.cells room_1.slots (T3.setTop (mkF m 15 #[.val (.int p0), .val (.int p1), .val (.int p2), .val (.int p3), .val (.ref aa), .unset, .unset, .unset, .unset, .unset, .unset, .unset, .unset, .unset, .unset, .unset, .unset, .unset] [(.int p0), (.int (1 : Int32)), (.ref aa)]))
  refine GoesW.step (fun _ k => XS.bipush X3.here hx rfl (hb hby at_15) k) ?_
  show GoesW p.tables e below s (Q0 Z p0 p1 p2 p3 ca cl val h0 n0) room_1.cells room_1.slots (T3.setTop (mkF m 17 #[.val (.int p0), .val (.int p1), .val (.int p2), .val (.int p3), .val (.ref aa), .unset, .unset, .unset, .unset, .unset, .unset, .unset, .unset, .unset, .unset, .unset, .unset, .unset] [(.int (8 : Int32)), (.int p0), (.int (1 : Int32)), (.ref aa)]))
  refine GoesW.step (fun _ k => XS.ishr X3.here hx rfl (hb hby at_17) rfl k) ?_
  show GoesW p.tables e below s (Q0 Z p0 p1 p2 p3 ca cl val h0 n0) room_1.cells room_1.slots (T3.setTop (mkF m 18 #[.val (.int p0), .val (.int p1), .val (.int p2), .val (.int p3), .val (.ref aa), .unset, .unset, .unset, .unset, .unset, .unset, .unset, .unset, .unset, .unset, .unset, .unset, .unset] [(.int (p0 >>> ((8 : Int32) &&& 31))), (.int (1 : Int32)), (.ref aa)]))
  refine GoesW.step (fun _ k => XS.i2b X3.here hx rfl (hb hby at_18) rfl k) ?_
  show GoesW p.tables e below s (Q0 Z p0 p1 p2 p3 ca cl val h0 n0) room_1.cells room_1.slots (T3.setTop (mkF m 19 #[.val (.int p0), .val (.int p1), .val (.int p2), .val (.int p3), .val (.ref aa), .unset, .unset, .unset, .unset, .unset, .unset, .unset, .unset, .unset, .unset, .unset, .unset, .unset] [(.int ((p0 >>> ((8 : Int32) &&& 31)).toInt8.toInt32)), (.int (1 : Int32)), (.ref aa)]))
  generalize hea_1 : ((p0 >>> ((8 : Int32) &&& 31)).toInt8.toInt32) = ea_1
  show GoesW p.tables e below s (Q0 Z p0 p1 p2 p3 ca cl val h0 n0) room_1.cells room_1.slots (T3.setTop (mkF m 19 #[.val (.int p0), .val (.int p1), .val (.int p2), .val (.int p3), .val (.ref aa), .unset, .unset, .unset, .unset, .unset, .unset, .unset, .unset, .unset, .unset, .unset, .unset, .unset] [(.int ea_1), (.int (1 : Int32)), (.ref aa)]))
  have vv4 := V3
  obtain ⟨cl4, Ar4, aq4, aS4, aN4, aH4, aG4⟩ := vv4
  have hin4 : ¬ ((1 : Int32) < 0 ∨ cl4.slots.size ≤ ((1 : Int32)).toNatClampNeg) := inb_of aS4 ⟨by decide, by decide⟩
  obtain ⟨T5, h5, X5, e5, W5, st5⟩ := stB X3 hx hZ e3 Ar4 (j := (1 : Int32)) hin4 (g := (mkF m 19 #[.val (.int p0), .val (.int p1), .val (.int p2), .val (.int p3), .val (.ref aa), .unset, .unset, .unset, .unset, .unset, .unset, .unset, .unset, .unset, .unset, .unset, .unset, .unset] [(.int ea_1), (.int (1 : Int32)), (.ref aa)])) rfl rfl (hb hby at_19)
  obtain ⟨a_1, ha_1⟩ : ∃ z : Int32, z = nar .byte ea_1 := ⟨_, rfl⟩
  rw [← ha_1] at W5
  have fa_1 : fits .byte (.int a_1) = true := by rw [ha_1]; exact fits_nar_byte _
  have V5 : Arv Z h5 aa k1 .byte (4 : Int32) [(.int a_0), (.int a_1), (.int (0 : Int32)), (.int (0 : Int32))] (.int (0 : Int32)) := Arv.set Ar4 aq4 aS4 aN4 aH4 aG4 fa_1 W5 1 rfl (Nat.le_of_ble_eq_true rfl)
  have N5 := Fr.snoc X5 N3 g_aa
  have Z5 : n0 ≤ h5.size := Nat.le_trans Z3 (Keep.of_wr W5).1
  refine GoesW.step st5 ?_
  show GoesW p.tables e below s (Q0 Z p0 p1 p2 p3 ca cl val h0 n0) room_1.cells room_1.slots (T5.setTop (mkF m 20 #[.val (.int p0), .val (.int p1), .val (.int p2), .val (.int p3), .val (.ref aa), .unset, .unset, .unset, .unset, .unset, .unset, .unset, .unset, .unset, .unset, .unset, .unset, .unset] []))
  refine GoesW.step (fun _ k => XS.aload X5.here hx rfl (hb hby at_20) rfl rfl k) ?_
  show GoesW p.tables e below s (Q0 Z p0 p1 p2 p3 ca cl val h0 n0) room_1.cells room_1.slots (T5.setTop (mkF m 22 #[.val (.int p0), .val (.int p1), .val (.int p2), .val (.int p3), .val (.ref aa), .unset, .unset, .unset, .unset, .unset, .unset, .unset, .unset, .unset, .unset, .unset, .unset, .unset] [(.ref aa)]))
  refine GoesW.step (fun _ k => XS.iconst X5.here hx rfl (hb hby at_22) k) ?_
  show GoesW p.tables e below s (Q0 Z p0 p1 p2 p3 ca cl val h0 n0) room_1.cells room_1.slots (T5.setTop (mkF m 23 #[.val (.int p0), .val (.int p1), .val (.int p2), .val (.int p3), .val (.ref aa), .unset, .unset, .unset, .unset, .unset, .unset, .unset, .unset, .unset, .unset, .unset, .unset, .unset] [(.int (2 : Int32)), (.ref aa)]))
  refine GoesW.step (fun _ k => XS.iloadN X5.here hx rfl (hb hby at_23) rfl k) ?_
  show GoesW p.tables e below s (Q0 Z p0 p1 p2 p3 ca cl val h0 n0) room_1.cells room_1.slots (T5.setTop (mkF m 24 #[.val (.int p0), .val (.int p1), .val (.int p2), .val (.int p3), .val (.ref aa), .unset, .unset, .unset, .unset, .unset, .unset, .unset, .unset, .unset, .unset, .unset, .unset, .unset] [(.int p0), (.int (2 : Int32)), (.ref aa)]))
  refine GoesW.step (fun _ k => XS.bipush X5.here hx rfl (hb hby at_24) k) ?_
  show GoesW p.tables e below s (Q0 Z p0 p1 p2 p3 ca cl val h0 n0) room_1.cells room_1.slots (T5.setTop (mkF m 26 #[.val (.int p0), .val (.int p1), .val (.int p2), .val (.int p3), .val (.ref aa), .unset, .unset, .unset, .unset, .unset, .unset, .unset, .unset, .unset, .unset, .unset, .unset, .unset] [(.int (16 : Int32)), (.int p0), (.int (2 : Int32)), (.ref aa)]))
  refine GoesW.step (fun _ k => XS.ishr X5.here hx rfl (hb hby at_26) rfl k) ?_
  show GoesW p.tables e below s (Q0 Z p0 p1 p2 p3 ca cl val h0 n0) room_1.cells room_1.slots (T5.setTop (mkF m 27 #[.val (.int p0), .val (.int p1), .val (.int p2), .val (.int p3), .val (.ref aa), .unset, .unset, .unset, .unset, .unset, .unset, .unset, .unset, .unset, .unset, .unset, .unset, .unset] [(.int (p0 >>> ((16 : Int32) &&& 31))), (.int (2 : Int32)), (.ref aa)]))
  refine GoesW.step (fun _ k => XS.i2b X5.here hx rfl (hb hby at_27) rfl k) ?_
  show GoesW p.tables e below s (Q0 Z p0 p1 p2 p3 ca cl val h0 n0) room_1.cells room_1.slots (T5.setTop (mkF m 28 #[.val (.int p0), .val (.int p1), .val (.int p2), .val (.int p3), .val (.ref aa), .unset, .unset, .unset, .unset, .unset, .unset, .unset, .unset, .unset, .unset, .unset, .unset, .unset] [(.int ((p0 >>> ((16 : Int32) &&& 31)).toInt8.toInt32)), (.int (2 : Int32)), (.ref aa)]))
  generalize hea_2 : ((p0 >>> ((16 : Int32) &&& 31)).toInt8.toInt32) = ea_2
  show GoesW p.tables e below s (Q0 Z p0 p1 p2 p3 ca cl val h0 n0) room_1.cells room_1.slots (T5.setTop (mkF m 28 #[.val (.int p0), .val (.int p1), .val (.int p2), .val (.int p3), .val (.ref aa), .unset, .unset, .unset, .unset, .unset, .unset, .unset, .unset, .unset, .unset, .unset, .unset, .unset] [(.int ea_2), (.int (2 : Int32)), (.ref aa)]))
  have vv6 := V5
  obtain ⟨cl6, Ar6, aq6, aS6, aN6, aH6, aG6⟩ := vv6
  have hin6 : ¬ ((2 : Int32) < 0 ∨ cl6.slots.size ≤ ((2 : Int32)).toNatClampNeg) := inb_of aS6 ⟨by decide, by decide⟩
  obtain ⟨T7, h7, X7, e7, W7, st7⟩ := stB X5 hx hZ e5 Ar6 (j := (2 : Int32)) hin6 (g := (mkF m 28 #[.val (.int p0), .val (.int p1), .val (.int p2), .val (.int p3), .val (.ref aa), .unset, .unset, .unset, .unset, .unset, .unset, .unset, .unset, .unset, .unset, .unset, .unset, .unset] [(.int ea_2), (.int (2 : Int32)), (.ref aa)])) rfl rfl (hb hby at_28)
  obtain ⟨a_2, ha_2⟩ : ∃ z : Int32, z = nar .byte ea_2 := ⟨_, rfl⟩
  rw [← ha_2] at W7
  have fa_2 : fits .byte (.int a_2) = true := by rw [ha_2]; exact fits_nar_byte _
  have V7 : Arv Z h7 aa k1 .byte (4 : Int32) [(.int a_0), (.int a_1), (.int a_2), (.int (0 : Int32))] (.int (0 : Int32)) := Arv.set Ar6 aq6 aS6 aN6 aH6 aG6 fa_2 W7 2 rfl (Nat.le_of_ble_eq_true rfl)
  have N7 := Fr.snoc X7 N5 g_aa
  have Z7 : n0 ≤ h7.size := Nat.le_trans Z5 (Keep.of_wr W7).1
  refine GoesW.step st7 ?_
  show GoesW p.tables e below s (Q0 Z p0 p1 p2 p3 ca cl val h0 n0) room_1.cells room_1.slots (T7.setTop (mkF m 29 #[.val (.int p0), .val (.int p1), .val (.int p2), .val (.int p3), .val (.ref aa), .unset, .unset, .unset, .unset, .unset, .unset, .unset, .unset, .unset, .unset, .unset, .unset, .unset] []))
  refine GoesW.step (fun _ k => XS.aload X7.here hx rfl (hb hby at_29) rfl rfl k) ?_
  show GoesW p.tables e below s (Q0 Z p0 p1 p2 p3 ca cl val h0 n0) room_1.cells room_1.slots (T7.setTop (mkF m 31 #[.val (.int p0), .val (.int p1), .val (.int p2), .val (.int p3), .val (.ref aa), .unset, .unset, .unset, .unset, .unset, .unset, .unset, .unset, .unset, .unset, .unset, .unset, .unset] [(.ref aa)]))
  refine GoesW.step (fun _ k => XS.iconst X7.here hx rfl (hb hby at_31) k) ?_
  show GoesW p.tables e below s (Q0 Z p0 p1 p2 p3 ca cl val h0 n0) room_1.cells room_1.slots (T7.setTop (mkF m 32 #[.val (.int p0), .val (.int p1), .val (.int p2), .val (.int p3), .val (.ref aa), .unset, .unset, .unset, .unset, .unset, .unset, .unset, .unset, .unset, .unset, .unset, .unset, .unset] [(.int (3 : Int32)), (.ref aa)]))
  refine GoesW.step (fun _ k => XS.iloadN X7.here hx rfl (hb hby at_32) rfl k) ?_
  show GoesW p.tables e below s (Q0 Z p0 p1 p2 p3 ca cl val h0 n0) room_1.cells room_1.slots (T7.setTop (mkF m 33 #[.val (.int p0), .val (.int p1), .val (.int p2), .val (.int p3), .val (.ref aa), .unset, .unset, .unset, .unset, .unset, .unset, .unset, .unset, .unset, .unset, .unset, .unset, .unset] [(.int p0), (.int (3 : Int32)), (.ref aa)]))
  refine GoesW.step (fun _ k => XS.bipush X7.here hx rfl (hb hby at_33) k) ?_
  show GoesW p.tables e below s (Q0 Z p0 p1 p2 p3 ca cl val h0 n0) room_1.cells room_1.slots (T7.setTop (mkF m 35 #[.val (.int p0), .val (.int p1), .val (.int p2), .val (.int p3), .val (.ref aa), .unset, .unset, .unset, .unset, .unset, .unset, .unset, .unset, .unset, .unset, .unset, .unset, .unset] [(.int (24 : Int32)), (.int p0), (.int (3 : Int32)), (.ref aa)]))
  refine GoesW.step (fun _ k => XS.ishr X7.here hx rfl (hb hby at_35) rfl k) ?_
  show GoesW p.tables e below s (Q0 Z p0 p1 p2 p3 ca cl val h0 n0) room_1.cells room_1.slots (T7.setTop (mkF m 36 #[.val (.int p0), .val (.int p1), .val (.int p2), .val (.int p3), .val (.ref aa), .unset, .unset, .unset, .unset, .unset, .unset, .unset, .unset, .unset, .unset, .unset, .unset, .unset] [(.int (p0 >>> ((24 : Int32) &&& 31))), (.int (3 : Int32)), (.ref aa)]))
  refine GoesW.step (fun _ k => XS.i2b X7.here hx rfl (hb hby at_36) rfl k) ?_
  show GoesW p.tables e below s (Q0 Z p0 p1 p2 p3 ca cl val h0 n0) room_1.cells room_1.slots (T7.setTop (mkF m 37 #[.val (.int p0), .val (.int p1), .val (.int p2), .val (.int p3), .val (.ref aa), .unset, .unset, .unset, .unset, .unset, .unset, .unset, .unset, .unset, .unset, .unset, .unset, .unset] [(.int ((p0 >>> ((24 : Int32) &&& 31)).toInt8.toInt32)), (.int (3 : Int32)), (.ref aa)]))
  generalize hea_3 : ((p0 >>> ((24 : Int32) &&& 31)).toInt8.toInt32) = ea_3
  show GoesW p.tables e below s (Q0 Z p0 p1 p2 p3 ca cl val h0 n0) room_1.cells room_1.slots (T7.setTop (mkF m 37 #[.val (.int p0), .val (.int p1), .val (.int p2), .val (.int p3), .val (.ref aa), .unset, .unset, .unset, .unset, .unset, .unset, .unset, .unset, .unset, .unset, .unset, .unset, .unset] [(.int ea_3), (.int (3 : Int32)), (.ref aa)]))
  have vv8 := V7
  obtain ⟨cl8, Ar8, aq8, aS8, aN8, aH8, aG8⟩ := vv8
  have hin8 : ¬ ((3 : Int32) < 0 ∨ cl8.slots.size ≤ ((3 : Int32)).toNatClampNeg) := inb_of aS8 ⟨by decide, by decide⟩
  obtain ⟨T9, h9, X9, e9, W9, st9⟩ := stB X7 hx hZ e7 Ar8 (j := (3 : Int32)) hin8 (g := (mkF m 37 #[.val (.int p0), .val (.int p1), .val (.int p2), .val (.int p3), .val (.ref aa), .unset, .unset, .unset, .unset, .unset, .unset, .unset, .unset, .unset, .unset, .unset, .unset, .unset] [(.int ea_3), (.int (3 : Int32)), (.ref aa)])) rfl rfl (hb hby at_37)
  obtain ⟨a_3, ha_3⟩ : ∃ z : Int32, z = nar .byte ea_3 := ⟨_, rfl⟩
  rw [← ha_3] at W9
  have fa_3 : fits .byte (.int a_3) = true := by rw [ha_3]; exact fits_nar_byte _
  have V9 : Arv Z h9 aa k1 .byte (4 : Int32) [(.int a_0), (.int a_1), (.int a_2), (.int a_3)] (.int (0 : Int32)) := Arv.set Ar8 aq8 aS8 aN8 aH8 aG8 fa_3 W9 3 rfl (Nat.le_of_ble_eq_true rfl)
  have N9 := Fr.snoc X9 N7 g_aa
  have Z9 : n0 ≤ h9.size := Nat.le_trans Z7 (Keep.of_wr W9).1
  refine GoesW.step st9 ?_
  show GoesW p.tables e below s (Q0 Z p0 p1 p2 p3 ca cl val h0 n0) room_1.cells room_1.slots (T9.setTop (mkF m 38 #[.val (.int p0), .val (.int p1), .val (.int p2), .val (.int p3), .val (.ref aa), .unset, .unset, .unset, .unset, .unset, .unset, .unset, .unset, .unset, .unset, .unset, .unset, .unset] []))
  refine GoesW.step (fun _ k => XS.iloadN X9.here hx rfl (hb hby at_38) rfl k) ?_
  show GoesW p.tables e below s (Q0 Z p0 p1 p2 p3 ca cl val h0 n0) room_1.cells room_1.slots (T9.setTop (mkF m 39 #[.val (.int p0), .val (.int p1), .val (.int p2), .val (.int p3), .val (.ref aa), .unset, .unset, .unset, .unset, .unset, .unset, .unset, .unset, .unset, .unset, .unset, .unset, .unset] [(.int p3)]))
  refine GoesW.step (fun _ k => XS.bipush X9.here hx rfl (hb hby at_39) k) ?_
  show GoesW p.tables e below s (Q0 Z p0 p1 p2 p3 ca cl val h0 n0) room_1.cells room_1.slots (T9.setTop (mkF m 41 #[.val (.int p0), .val (.int p1), .val (.int p2), .val (.int p3), .val (.ref aa), .unset, .unset, .unset, .unset, .unset, .unset, .unset, .unset, .unset, .unset, .unset, .unset, .unset] [(.int (7 : Int32)), (.int p3)]))
  refine GoesW.step (fun _ k => XS.ishr X9.here hx rfl (hb hby at_41) rfl k) ?_
  show GoesW p.tables e below s (Q0 Z p0 p1 p2 p3 ca cl val h0 n0) room_1.cells room_1.slots (T9.setTop (mkF m 42 #[.val (.int p0), .val (.int p1), .val (.int p2), .val (.int p3), .val (.ref aa), .unset, .unset, .unset, .unset, .unset, .unset, .unset, .unset, .unset, .unset, .unset, .unset, .unset] [(.int (p3 >>> ((7 : Int32) &&& 31)))]))
  refine GoesW.step (fun _ k => XS.iconst X9.here hx rfl (hb hby at_42) k) ?_
  show GoesW p.tables e below s (Q0 Z p0 p1 p2 p3 ca cl val h0 n0) room_1.cells room_1.slots (T9.setTop (mkF m 43 #[.val (.int p0), .val (.int p1), .val (.int p2), .val (.int p3), .val (.ref aa), .unset, .unset, .unset, .unset, .unset, .unset, .unset, .unset, .unset, .unset, .unset, .unset, .unset] [(.int (1 : Int32)), (.int (p3 >>> ((7 : Int32) &&& 31)))]))
  refine GoesW.step (fun _ k => XS.iand X9.here hx rfl (hb hby at_43) rfl k) ?_
  show GoesW p.tables e below s (Q0 Z p0 p1 p2 p3 ca cl val h0 n0) room_1.cells room_1.slots (T9.setTop (mkF m 44 #[.val (.int p0), .val (.int p1), .val (.int p2), .val (.int p3), .val (.ref aa), .unset, .unset, .unset, .unset, .unset, .unset, .unset, .unset, .unset, .unset, .unset, .unset, .unset] [(.int ((p3 >>> ((7 : Int32) &&& 31)) &&& (1 : Int32)))]))
  have J153 : ∀ (TJ10 : State) (LJ10 : List Loc) (hJ : Heap) (bb : Addr) (kb : ClassId) (b_0 : Int32) (b_1 : Int32) (b_2 : Int32) (b_3 : Int32), Stand p l e room_1 s m #[(.int p0), (.int p1), (.int p2), (.int p3)] below meth c TJ10 LJ10 2 8 → TJ10.heap = hJ → Fr n0 LJ10 → (n0 ≤ hJ.size) → (Old Z n0 hJ) → (Arv Z hJ aa k1 .byte (4 : Int32) [(.int a_0), (.int a_1), (.int a_2), (.int a_3)] (.int (0 : Int32))) → (Arv Z hJ bb kb .byte (4 : Int32) [(.int b_0), (.int b_1), (.int b_2), (.int b_3)] (.int (0 : Int32))) → GoesW p.tables e below s (Q0 Z p0 p1 p2 p3 ca cl val h0 n0) room_1.cells room_1.slots (TJ10.setTop (mkF m 153 #[.val (.int p0), .val (.int p1), .val (.int p2), .val (.int p3), .val (.ref aa), .val (.ref bb), .unset, .unset, .unset, .unset, .unset, .unset, .unset, .unset, .unset, .unset, .unset, .unset] [])) := by
    intro TJ10 LJ10 hJ bb kb b_0 b_1 b_2 b_3 XJ10 eJ10 NJ10 ZJ OJ VJa VJb
    show GoesW p.tables e below s (Q0 Z p0 p1 p2 p3 ca cl val h0 n0) room_1.cells room_1.slots (TJ10.setTop (mkF m 153 #[.val (.int p0), .val (.int p1), .val (.int p2), .val (.int p3), .val (.ref aa), .val (.ref bb), .unset, .unset, .unset, .unset, .unset, .unset, .unset, .unset, .unset, .unset, .unset, .unset] []))
    refine GoesW.step (fun _ k => XS.iloadN XJ10.here hx rfl (hb hby at_153) rfl k) ?_
    show GoesW p.tables e below s (Q0 Z p0 p1 p2 p3 ca cl val h0 n0) room_1.cells room_1.slots (TJ10.setTop (mkF m 154 #[.val (.int p0), .val (.int p1), .val (.int p2), .val (.int p3), .val (.ref aa), .val (.ref bb), .unset, .unset, .unset, .unset, .unset, .unset, .unset, .unset, .unset, .unset, .unset, .unset] [(.int p2)]))
    refine GoesW.step (fun _ k => XS.bipush XJ10.here hx rfl (hb hby at_154) k) ?_
    show GoesW p.tables e below s (Q0 Z p0 p1 p2 p3 ca cl val h0 n0) room_1.cells room_1.slots (TJ10.setTop (mkF m 156 #[.val (.int p0), .val (.int p1), .val (.int p2), .val (.int p3), .val (.ref aa), .val (.ref bb), .unset, .unset, .unset, .unset, .unset, .unset, .unset, .unset, .unset, .unset, .unset, .unset] [(.int (7 : Int32)), (.int p2)]))
    refine GoesW.step (fun _ k => XS.iand XJ10.here hx rfl (hb hby at_156) rfl k) ?_
    show GoesW p.tables e below s (Q0 Z p0 p1 p2 p3 ca cl val h0 n0) room_1.cells room_1.slots (TJ10.setTop (mkF m 157 #[.val (.int p0), .val (.int p1), .val (.int p2), .val (.int p3), .val (.ref aa), .val (.ref bb), .unset, .unset, .unset, .unset, .unset, .unset, .unset, .unset, .unset, .unset, .unset, .unset] [(.int (p2 &&& (7 : Int32)))]))
    refine GoesW.step (fun _ k => XS.iconst XJ10.here hx rfl (hb hby at_157) k) ?_
    show GoesW p.tables e below s (Q0 Z p0 p1 p2 p3 ca cl val h0 n0) room_1.cells room_1.slots (TJ10.setTop (mkF m 158 #[.val (.int p0), .val (.int p1), .val (.int p2), .val (.int p3), .val (.ref aa), .val (.ref bb), .unset, .unset, .unset, .unset, .unset, .unset, .unset, .unset, .unset, .unset, .unset, .unset] [(.int (5 : Int32)), (.int (p2 &&& (7 : Int32)))]))
    refine GoesW.step (fun _ k => iremM XJ10 hx rfl (hb hby at_158) rfl (by decide) k) ?_
    show GoesW p.tables e below s (Q0 Z p0 p1 p2 p3 ca cl val h0 n0) room_1.cells room_1.slots (TJ10.setTop (mkF m 159 #[.val (.int p0), .val (.int p1), .val (.int p2), .val (.int p3), .val (.ref aa), .val (.ref bb), .unset, .unset, .unset, .unset, .unset, .unset, .unset, .unset, .unset, .unset, .unset, .unset] [(.int ((p2 &&& (7 : Int32)) % (5 : Int32)))]))
    generalize hfa : ((p2 &&& (7 : Int32)) % (5 : Int32)) = fa
    show GoesW p.tables e below s (Q0 Z p0 p1 p2 p3 ca cl val h0 n0) room_1.cells room_1.slots (TJ10.setTop (mkF m 159 #[.val (.int p0), .val (.int p1), .val (.int p2), .val (.int p3), .val (.ref aa), .val (.ref bb), .unset, .unset, .unset, .unset, .unset, .unset, .unset, .unset, .unset, .unset, .unset, .unset] [(.int fa)]))
    refine GoesW.step (fun _ k => XS.istore XJ10.here hx rfl (hb hby at_159) rfl (l' := #[.val (.int p0), .val (.int p1), .val (.int p2), .val (.int p3), .val (.ref aa), .val (.ref bb), .val (.int fa), .unset, .unset, .unset, .unset, .unset, .unset, .unset, .unset, .unset, .unset, .unset]) rfl k) ?_
    show GoesW p.tables e below s (Q0 Z p0 p1 p2 p3 ca cl val h0 n0) room_1.cells room_1.slots (TJ10.setTop (mkF m 161 #[.val (.int p0), .val (.int p1), .val (.int p2), .val (.int p3), .val (.ref aa), .val (.ref bb), .val (.int fa), .unset, .unset, .unset, .unset, .unset, .unset, .unset, .unset, .unset, .unset, .unset] []))
    have faB : 0 ≤ fa.toInt ∧ fa.toInt < 5 := by rw [← hfa]; exact own_f5 _
    refine GoesW.step (fun _ k => XS.iload XJ10.here hx rfl (hb hby at_161) rfl k) ?_
    show GoesW p.tables e below s (Q0 Z p0 p1 p2 p3 ca cl val h0 n0) room_1.cells room_1.slots (TJ10.setTop (mkF m 163 #[.val (.int p0), .val (.int p1), .val (.int p2), .val (.int p3), .val (.ref aa), .val (.ref bb), .val (.int fa), .unset, .unset, .unset, .unset, .unset, .unset, .unset, .unset, .unset, .unset, .unset] [(.int fa)]))
    refine GoesW.step (fun _ k => XS.iloadN XJ10.here hx rfl (hb hby at_163) rfl k) ?_
    show GoesW p.tables e below s (Q0 Z p0 p1 p2 p3 ca cl val h0 n0) room_1.cells room_1.slots (TJ10.setTop (mkF m 164 #[.val (.int p0), .val (.int p1), .val (.int p2), .val (.int p3), .val (.ref aa), .val (.ref bb), .val (.int fa), .unset, .unset, .unset, .unset, .unset, .unset, .unset, .unset, .unset, .unset, .unset] [(.int p2), (.int fa)]))
    refine GoesW.step (fun _ k => XS.iconst XJ10.here hx rfl (hb hby at_164) k) ?_
    show GoesW p.tables e below s (Q0 Z p0 p1 p2 p3 ca cl val h0 n0) room_1.cells room_1.slots (TJ10.setTop (mkF m 165 #[.val (.int p0), .val (.int p1), .val (.int p2), .val (.int p3), .val (.ref aa), .val (.ref bb), .val (.int fa), .unset, .unset, .unset, .unset, .unset, .unset, .unset, .unset, .unset, .unset, .unset] [(.int (3 : Int32)), (.int p2), (.int fa)]))
    refine GoesW.step (fun _ k => XS.iushr XJ10.here hx rfl (hb hby at_165) rfl k) ?_
    show GoesW p.tables e below s (Q0 Z p0 p1 p2 p3 ca cl val h0 n0) room_1.cells room_1.slots (TJ10.setTop (mkF m 166 #[.val (.int p0), .val (.int p1), .val (.int p2), .val (.int p3), .val (.ref aa), .val (.ref bb), .val (.int fa), .unset, .unset, .unset, .unset, .unset, .unset, .unset, .unset, .unset, .unset, .unset] [(.int ((p2.toUInt32 >>> ((3 : Int32) &&& 31).toUInt32).toInt32)), (.int fa)]))
    refine GoesW.step (fun _ k => XS.bipush XJ10.here hx rfl (hb hby at_166) k) ?_
    show GoesW p.tables e below s (Q0 Z p0 p1 p2 p3 ca cl val h0 n0) room_1.cells room_1.slots (TJ10.setTop (mkF m 168 #[.val (.int p0), .val (.int p1), .val (.int p2), .val (.int p3), .val (.ref aa), .val (.ref bb), .val (.int fa), .unset, .unset, .unset, .unset, .unset, .unset, .unset, .unset, .unset, .unset, .unset] [(.int (7 : Int32)), (.int ((p2.toUInt32 >>> ((3 : Int32) &&& 31).toUInt32).toInt32)), (.int fa)]))
    refine GoesW.step (fun _ k => XS.iand XJ10.here hx rfl (hb hby at_168) rfl k) ?_
    show GoesW p.tables e below s (Q0 Z p0 p1 p2 p3 ca cl val h0 n0) room_1.cells room_1.slots (TJ10.setTop (mkF m 169 #[.val (.int p0), .val (.int p1), .val (.int p2), .val (.int p3), .val (.ref aa), .val (.ref bb), .val (.int fa), .unset, .unset, .unset, .unset, .unset, .unset, .unset, .unset, .unset, .unset, .unset] [(.int (((p2.toUInt32 >>> ((3 : Int32) &&& 31).toUInt32).toInt32) &&& (7 : Int32))), (.int fa)]))
    refine GoesW.step (fun _ k => XS.iconst XJ10.here hx rfl (hb hby at_169) k) ?_
    show GoesW p.tables e below s (Q0 Z p0 p1 p2 p3 ca cl val h0 n0) room_1.cells room_1.slots (TJ10.setTop (mkF m 170 #[.val (.int p0), .val (.int p1), .val (.int p2), .val (.int p3), .val (.ref aa), .val (.ref bb), .val (.int fa), .unset, .unset, .unset, .unset, .unset, .unset, .unset, .unset, .unset, .unset, .unset] [(.int (5 : Int32)), (.int (((p2.toUInt32 >>> ((3 : Int32) &&& 31).toUInt32).toInt32) &&& (7 : Int32))), (.int fa)]))
    refine GoesW.step (fun _ k => XS.iload XJ10.here hx rfl (hb hby at_170) rfl k) ?_
    show GoesW p.tables e below s (Q0 Z p0 p1 p2 p3 ca cl val h0 n0) room_1.cells room_1.slots (TJ10.setTop (mkF m 172 #[.val (.int p0), .val (.int p1), .val (.int p2), .val (.int p3), .val (.ref aa), .val (.ref bb), .val (.int fa), .unset, .unset, .unset, .unset, .unset, .unset, .unset, .unset, .unset, .unset, .unset] [(.int fa), (.int (5 : Int32)), (.int (((p2.toUInt32 >>> ((3 : Int32) &&& 31).toUInt32).toInt32) &&& (7 : Int32))), (.int fa)]))
    refine GoesW.step (fun _ k => XS.isub XJ10.here hx rfl (hb hby at_172) rfl k) ?_
    show GoesW p.tables e below s (Q0 Z p0 p1 p2 p3 ca cl val h0 n0) room_1.cells room_1.slots (TJ10.setTop (mkF m 173 #[.val (.int p0), .val (.int p1), .val (.int p2), .val (.int p3), .val (.ref aa), .val (.ref bb), .val (.int fa), .unset, .unset, .unset, .unset, .unset, .unset, .unset, .unset, .unset, .unset, .unset] [(.int ((5 : Int32) - fa)), (.int (((p2.toUInt32 >>> ((3 : Int32) &&& 31).toUInt32).toInt32) &&& (7 : Int32))), (.int fa)]))
    generalize hdta : (((p2.toUInt32 >>> ((3 : Int32) &&& 31).toUInt32).toInt32) &&& (7 : Int32)) = dta
    show GoesW p.tables e below s (Q0 Z p0 p1 p2 p3 ca cl val h0 n0) room_1.cells room_1.slots (TJ10.setTop (mkF m 173 #[.val (.int p0), .val (.int p1), .val (.int p2), .val (.int p3), .val (.ref aa), .val (.ref bb), .val (.int fa), .unset, .unset, .unset, .unset, .unset, .unset, .unset, .unset, .unset, .unset, .unset] [(.int ((5 : Int32) - fa)), (.int dta), (.int fa)]))
    have mta := own_m5 dta fa faB (by rw [← hdta]; exact own_m3 _)
    refine GoesW.step (fun _ k => iremM XJ10 hx rfl (hb hby at_173) rfl mta.1 k) ?_
    show GoesW p.tables e below s (Q0 Z p0 p1 p2 p3 ca cl val h0 n0) room_1.cells room_1.slots (TJ10.setTop (mkF m 174 #[.val (.int p0), .val (.int p1), .val (.int p2), .val (.int p3), .val (.ref aa), .val (.ref bb), .val (.int fa), .unset, .unset, .unset, .unset, .unset, .unset, .unset, .unset, .unset, .unset, .unset] [(.int (dta % ((5 : Int32) - fa))), (.int fa)]))
    refine GoesW.step (fun _ k => XS.iadd XJ10.here hx rfl (hb hby at_174) rfl k) ?_
    show GoesW p.tables e below s (Q0 Z p0 p1 p2 p3 ca cl val h0 n0) room_1.cells room_1.slots (TJ10.setTop (mkF m 175 #[.val (.int p0), .val (.int p1), .val (.int p2), .val (.int p3), .val (.ref aa), .val (.ref bb), .val (.int fa), .unset, .unset, .unset, .unset, .unset, .unset, .unset, .unset, .unset, .unset, .unset] [(.int (fa + (dta % ((5 : Int32) - fa))))]))
    generalize hta : (fa + (dta % ((5 : Int32) - fa))) = ta
    show GoesW p.tables e below s (Q0 Z p0 p1 p2 p3 ca cl val h0 n0) room_1.cells room_1.slots (TJ10.setTop (mkF m 175 #[.val (.int p0), .val (.int p1), .val (.int p2), .val (.int p3), .val (.ref aa), .val (.ref bb), .val (.int fa), .unset, .unset, .unset, .unset, .unset, .unset, .unset, .unset, .unset, .unset, .unset] [(.int ta)]))
    rw [hta] at mta
    refine GoesW.step (fun _ k => XS.istore XJ10.here hx rfl (hb hby at_175) rfl (l' := #[.val (.int p0), .val (.int p1), .val (.int p2), .val (.int p3), .val (.ref aa), .val (.ref bb), .val (.int fa), .val (.int ta), .unset, .unset, .unset, .unset, .unset, .unset, .unset, .unset, .unset, .unset]) rfl k) ?_
    show GoesW p.tables e below s (Q0 Z p0 p1 p2 p3 ca cl val h0 n0) room_1.cells room_1.slots (TJ10.setTop (mkF m 177 #[.val (.int p0), .val (.int p1), .val (.int p2), .val (.int p3), .val (.ref aa), .val (.ref bb), .val (.int fa), .val (.int ta), .unset, .unset, .unset, .unset, .unset, .unset, .unset, .unset, .unset, .unset] []))
    refine GoesW.step (fun _ k => XS.iloadN XJ10.here hx rfl (hb hby at_177) rfl k) ?_
    show GoesW p.tables e below s (Q0 Z p0 p1 p2 p3 ca cl val h0 n0) room_1.cells room_1.slots (TJ10.setTop (mkF m 178 #[.val (.int p0), .val (.int p1), .val (.int p2), .val (.int p3), .val (.ref aa), .val (.ref bb), .val (.int fa), .val (.int ta), .unset, .unset, .unset, .unset, .unset, .unset, .unset, .unset, .unset, .unset] [(.int p2)]))
    refine GoesW.step (fun _ k => XS.bipush XJ10.here hx rfl (hb hby at_178) k) ?_
    show GoesW p.tables e below s (Q0 Z p0 p1 p2 p3 ca cl val h0 n0) room_1.cells room_1.slots (TJ10.setTop (mkF m 180 #[.val (.int p0), .val (.int p1), .val (.int p2), .val (.int p3), .val (.ref aa), .val (.ref bb), .val (.int fa), .val (.int ta), .unset, .unset, .unset, .unset, .unset, .unset, .unset, .unset, .unset, .unset] [(.int (6 : Int32)), (.int p2)]))
    refine GoesW.step (fun _ k => XS.iushr XJ10.here hx rfl (hb hby at_180) rfl k) ?_
    show GoesW p.tables e below s (Q0 Z p0 p1 p2 p3 ca cl val h0 n0) room_1.cells room_1.slots (TJ10.setTop (mkF m 181 #[.val (.int p0), .val (.int p1), .val (.int p2), .val (.int p3), .val (.ref aa), .val (.ref bb), .val (.int fa), .val (.int ta), .unset, .unset, .unset, .unset, .unset, .unset, .unset, .unset, .unset, .unset] [(.int ((p2.toUInt32 >>> ((6 : Int32) &&& 31).toUInt32).toInt32))]))
    refine GoesW.step (fun _ k => XS.bipush XJ10.here hx rfl (hb hby at_181) k) ?_
    show GoesW p.tables e below s (Q0 Z p0 p1 p2 p3 ca cl val h0 n0) room_1.cells room_1.slots (TJ10.setTop (mkF m 183 #[.val (.int p0), .val (.int p1), .val (.int p2), .val (.int p3), .val (.ref aa), .val (.ref bb), .val (.int fa), .val (.int ta), .unset, .unset, .unset, .unset, .unset, .unset, .unset, .unset, .unset, .unset] [(.int (7 : Int32)), (.int ((p2.toUInt32 >>> ((6 : Int32) &&& 31).toUInt32).toInt32))]))
    refine GoesW.step (fun _ k => XS.iand XJ10.here hx rfl (hb hby at_183) rfl k) ?_
    show GoesW p.tables e below s (Q0 Z p0 p1 p2 p3 ca cl val h0 n0) room_1.cells room_1.slots (TJ10.setTop (mkF m 184 #[.val (.int p0), .val (.int p1), .val (.int p2), .val (.int p3), .val (.ref aa), .val (.ref bb), .val (.int fa), .val (.int ta), .unset, .unset, .unset, .unset, .unset, .unset, .unset, .unset, .unset, .unset] [(.int (((p2.toUInt32 >>> ((6 : Int32) &&& 31).toUInt32).toInt32) &&& (7 : Int32)))]))
    refine GoesW.step (fun _ k => XS.iconst XJ10.here hx rfl (hb hby at_184) k) ?_
    show GoesW p.tables e below s (Q0 Z p0 p1 p2 p3 ca cl val h0 n0) room_1.cells room_1.slots (TJ10.setTop (mkF m 185 #[.val (.int p0), .val (.int p1), .val (.int p2), .val (.int p3), .val (.ref aa), .val (.ref bb), .val (.int fa), .val (.int ta), .unset, .unset, .unset, .unset, .unset, .unset, .unset, .unset, .unset, .unset] [(.int (5 : Int32)), (.int (((p2.toUInt32 >>> ((6 : Int32) &&& 31).toUInt32).toInt32) &&& (7 : Int32)))]))
    refine GoesW.step (fun _ k => iremM XJ10 hx rfl (hb hby at_185) rfl (by decide) k) ?_
    show GoesW p.tables e below s (Q0 Z p0 p1 p2 p3 ca cl val h0 n0) room_1.cells room_1.slots (TJ10.setTop (mkF m 186 #[.val (.int p0), .val (.int p1), .val (.int p2), .val (.int p3), .val (.ref aa), .val (.ref bb), .val (.int fa), .val (.int ta), .unset, .unset, .unset, .unset, .unset, .unset, .unset, .unset, .unset, .unset] [(.int ((((p2.toUInt32 >>> ((6 : Int32) &&& 31).toUInt32).toInt32) &&& (7 : Int32)) % (5 : Int32)))]))
    generalize hfb : ((((p2.toUInt32 >>> ((6 : Int32) &&& 31).toUInt32).toInt32) &&& (7 : Int32)) % (5 : Int32)) = fb
    show GoesW p.tables e below s (Q0 Z p0 p1 p2 p3 ca cl val h0 n0) room_1.cells room_1.slots (TJ10.setTop (mkF m 186 #[.val (.int p0), .val (.int p1), .val (.int p2), .val (.int p3), .val (.ref aa), .val (.ref bb), .val (.int fa), .val (.int ta), .unset, .unset, .unset, .unset, .unset, .unset, .unset, .unset, .unset, .unset] [(.int fb)]))
    refine GoesW.step (fun _ k => XS.istore XJ10.here hx rfl (hb hby at_186) rfl (l' := #[.val (.int p0), .val (.int p1), .val (.int p2), .val (.int p3), .val (.ref aa), .val (.ref bb), .val (.int fa), .val (.int ta), .val (.int fb), .unset, .unset, .unset, .unset, .unset, .unset, .unset, .unset, .unset]) rfl k) ?_
    show GoesW p.tables e below s (Q0 Z p0 p1 p2 p3 ca cl val h0 n0) room_1.cells room_1.slots (TJ10.setTop (mkF m 188 #[.val (.int p0), .val (.int p1), .val (.int p2), .val (.int p3), .val (.ref aa), .val (.ref bb), .val (.int fa), .val (.int ta), .val (.int fb), .unset, .unset, .unset, .unset, .unset, .unset, .unset, .unset, .unset] []))
    have fbB : 0 ≤ fb.toInt ∧ fb.toInt < 5 := by rw [← hfb]; exact own_f5 _
    refine GoesW.step (fun _ k => XS.iload XJ10.here hx rfl (hb hby at_188) rfl k) ?_
    show GoesW p.tables e below s (Q0 Z p0 p1 p2 p3 ca cl val h0 n0) room_1.cells room_1.slots (TJ10.setTop (mkF m 190 #[.val (.int p0), .val (.int p1), .val (.int p2), .val (.int p3), .val (.ref aa), .val (.ref bb), .val (.int fa), .val (.int ta), .val (.int fb), .unset, .unset, .unset, .unset, .unset, .unset, .unset, .unset, .unset] [(.int fb)]))
    refine GoesW.step (fun _ k => XS.iloadN XJ10.here hx rfl (hb hby at_190) rfl k) ?_
    show GoesW p.tables e below s (Q0 Z p0 p1 p2 p3 ca cl val h0 n0) room_1.cells room_1.slots (TJ10.setTop (mkF m 191 #[.val (.int p0), .val (.int p1), .val (.int p2), .val (.int p3), .val (.ref aa), .val (.ref bb), .val (.int fa), .val (.int ta), .val (.int fb), .unset, .unset, .unset, .unset, .unset, .unset, .unset, .unset, .unset] [(.int p2), (.int fb)]))
    refine GoesW.step (fun _ k => XS.bipush XJ10.here hx rfl (hb hby at_191) k) ?_
    show GoesW p.tables e below s (Q0 Z p0 p1 p2 p3 ca cl val h0 n0) room_1.cells room_1.slots (TJ10.setTop (mkF m 193 #[.val (.int p0), .val (.int p1), .val (.int p2), .val (.int p3), .val (.ref aa), .val (.ref bb), .val (.int fa), .val (.int ta), .val (.int fb), .unset, .unset, .unset, .unset, .unset, .unset, .unset, .unset, .unset] [(.int (9 : Int32)), (.int p2), (.int fb)]))
    refine GoesW.step (fun _ k => XS.iushr XJ10.here hx rfl (hb hby at_193) rfl k) ?_
    show GoesW p.tables e below s (Q0 Z p0 p1 p2 p3 ca cl val h0 n0) room_1.cells room_1.slots (TJ10.setTop (mkF m 194 #[.val (.int p0), .val (.int p1), .val (.int p2), .val (.int p3), .val (.ref aa), .val (.ref bb), .val (.int fa), .val (.int ta), .val (.int fb), .unset, .unset, .unset, .unset, .unset, .unset, .unset, .unset, .unset] [(.int ((p2.toUInt32 >>> ((9 : Int32) &&& 31).toUInt32).toInt32)), (.int fb)]))
    refine GoesW.step (fun _ k => XS.bipush XJ10.here hx rfl (hb hby at_194) k) ?_
    show GoesW p.tables e below s (Q0 Z p0 p1 p2 p3 ca cl val h0 n0) room_1.cells room_1.slots (TJ10.setTop (mkF m 196 #[.val (.int p0), .val (.int p1), .val (.int p2), .val (.int p3), .val (.ref aa), .val (.ref bb), .val (.int fa), .val (.int ta), .val (.int fb), .unset, .unset, .unset, .unset, .unset, .unset, .unset, .unset, .unset] [(.int (7 : Int32)), (.int ((p2.toUInt32 >>> ((9 : Int32) &&& 31).toUInt32).toInt32)), (.int fb)]))
    refine GoesW.step (fun _ k => XS.iand XJ10.here hx rfl (hb hby at_196) rfl k) ?_
    show GoesW p.tables e below s (Q0 Z p0 p1 p2 p3 ca cl val h0 n0) room_1.cells room_1.slots (TJ10.setTop (mkF m 197 #[.val (.int p0), .val (.int p1), .val (.int p2), .val (.int p3), .val (.ref aa), .val (.ref bb), .val (.int fa), .val (.int ta), .val (.int fb), .unset, .unset, .unset, .unset, .unset, .unset, .unset, .unset, .unset] [(.int (((p2.toUInt32 >>> ((9 : Int32) &&& 31).toUInt32).toInt32) &&& (7 : Int32))), (.int fb)]))
    refine GoesW.step (fun _ k => XS.iconst XJ10.here hx rfl (hb hby at_197) k) ?_
    show GoesW p.tables e below s (Q0 Z p0 p1 p2 p3 ca cl val h0 n0) room_1.cells room_1.slots (TJ10.setTop (mkF m 198 #[.val (.int p0), .val (.int p1), .val (.int p2), .val (.int p3), .val (.ref aa), .val (.ref bb), .val (.int fa), .val (.int ta), .val (.int fb), .unset, .unset, .unset, .unset, .unset, .unset, .unset, .unset, .unset] [(.int (5 : Int32)), (.int (((p2.toUInt32 >>> ((9 : Int32) &&& 31).toUInt32).toInt32) &&& (7 : Int32))), (.int fb)]))
    refine GoesW.step (fun _ k => XS.iload XJ10.here hx rfl (hb hby at_198) rfl k) ?_
    show GoesW p.tables e below s (Q0 Z p0 p1 p2 p3 ca cl val h0 n0) room_1.cells room_1.slots (TJ10.setTop (mkF m 200 #[.val (.int p0), .val (.int p1), .val (.int p2), .val (.int p3), .val (.ref aa), .val (.ref bb), .val (.int fa), .val (.int ta), .val (.int fb), .unset, .unset, .unset, .unset, .unset, .unset, .unset, .unset, .unset] [(.int fb), (.int (5 : Int32)), (.int (((p2.toUInt32 >>> ((9 : Int32) &&& 31).toUInt32).toInt32) &&& (7 : Int32))), (.int fb)]))
    refine GoesW.step (fun _ k => XS.isub XJ10.here hx rfl (hb hby at_200) rfl k) ?_
    show GoesW p.tables e below s (Q0 Z p0 p1 p2 p3 ca cl val h0 n0) room_1.cells room_1.slots (TJ10.setTop (mkF m 201 #[.val (.int p0), .val (.int p1), .val (.int p2), .val (.int p3), .val (.ref aa), .val (.ref bb), .val (.int fa), .val (.int ta), .val (.int fb), .unset, .unset, .unset, .unset, .unset, .unset, .unset, .unset, .unset] [(.int ((5 : Int32) - fb)), (.int (((p2.toUInt32 >>> ((9 : Int32) &&& 31).toUInt32).toInt32) &&& (7 : Int32))), (.int fb)]))
    generalize hdtb : (((p2.toUInt32 >>> ((9 : Int32) &&& 31).toUInt32).toInt32) &&& (7 : Int32)) = dtb
    show GoesW p.tables e below s (Q0 Z p0 p1 p2 p3 ca cl val h0 n0) room_1.cells room_1.slots (TJ10.setTop (mkF m 201 #[.val (.int p0), .val (.int p1), .val (.int p2), .val (.int p3), .val (.ref aa), .val (.ref bb), .val (.int fa), .val (.int ta), .val (.int fb), .unset, .unset, .unset, .unset, .unset, .unset, .unset, .unset, .unset] [(.int ((5 : Int32) - fb)), (.int dtb), (.int fb)]))
    have mtb := own_m5 dtb fb fbB (by rw [← hdtb]; exact own_m3 _)
    refine GoesW.step (fun _ k => iremM XJ10 hx rfl (hb hby at_201) rfl mtb.1 k) ?_
    show GoesW p.tables e below s (Q0 Z p0 p1 p2 p3 ca cl val h0 n0) room_1.cells room_1.slots (TJ10.setTop (mkF m 202 #[.val (.int p0), .val (.int p1), .val (.int p2), .val (.int p3), .val (.ref aa), .val (.ref bb), .val (.int fa), .val (.int ta), .val (.int fb), .unset, .unset, .unset, .unset, .unset, .unset, .unset, .unset, .unset] [(.int (dtb % ((5 : Int32) - fb))), (.int fb)]))
    refine GoesW.step (fun _ k => XS.iadd XJ10.here hx rfl (hb hby at_202) rfl k) ?_
    show GoesW p.tables e below s (Q0 Z p0 p1 p2 p3 ca cl val h0 n0) room_1.cells room_1.slots (TJ10.setTop (mkF m 203 #[.val (.int p0), .val (.int p1), .val (.int p2), .val (.int p3), .val (.ref aa), .val (.ref bb), .val (.int fa), .val (.int ta), .val (.int fb), .unset, .unset, .unset, .unset, .unset, .unset, .unset, .unset, .unset] [(.int (fb + (dtb % ((5 : Int32) - fb))))]))
    generalize htb : (fb + (dtb % ((5 : Int32) - fb))) = tb
    show GoesW p.tables e below s (Q0 Z p0 p1 p2 p3 ca cl val h0 n0) room_1.cells room_1.slots (TJ10.setTop (mkF m 203 #[.val (.int p0), .val (.int p1), .val (.int p2), .val (.int p3), .val (.ref aa), .val (.ref bb), .val (.int fa), .val (.int ta), .val (.int fb), .unset, .unset, .unset, .unset, .unset, .unset, .unset, .unset, .unset] [(.int tb)]))
    rw [htb] at mtb
    refine GoesW.step (fun _ k => XS.istore XJ10.here hx rfl (hb hby at_203) rfl (l' := #[.val (.int p0), .val (.int p1), .val (.int p2), .val (.int p3), .val (.ref aa), .val (.ref bb), .val (.int fa), .val (.int ta), .val (.int fb), .val (.int tb), .unset, .unset, .unset, .unset, .unset, .unset, .unset, .unset]) rfl k) ?_
    show GoesW p.tables e below s (Q0 Z p0 p1 p2 p3 ca cl val h0 n0) room_1.cells room_1.slots (TJ10.setTop (mkF m 205 #[.val (.int p0), .val (.int p1), .val (.int p2), .val (.int p3), .val (.ref aa), .val (.ref bb), .val (.int fa), .val (.int ta), .val (.int fb), .val (.int tb), .unset, .unset, .unset, .unset, .unset, .unset, .unset, .unset] []))
    refine GoesW.step (fun _ k => XS.iloadN XJ10.here hx rfl (hb hby at_205) rfl k) ?_
    show GoesW p.tables e below s (Q0 Z p0 p1 p2 p3 ca cl val h0 n0) room_1.cells room_1.slots (TJ10.setTop (mkF m 206 #[.val (.int p0), .val (.int p1), .val (.int p2), .val (.int p3), .val (.ref aa), .val (.ref bb), .val (.int fa), .val (.int ta), .val (.int fb), .val (.int tb), .unset, .unset, .unset, .unset, .unset, .unset, .unset, .unset] [(.int p3)]))
    refine GoesW.step (fun _ k => XS.bipush XJ10.here hx rfl (hb hby at_206) k) ?_
    show GoesW p.tables e below s (Q0 Z p0 p1 p2 p3 ca cl val h0 n0) room_1.cells room_1.slots (TJ10.setTop (mkF m 208 #[.val (.int p0), .val (.int p1), .val (.int p2), .val (.int p3), .val (.ref aa), .val (.ref bb), .val (.int fa), .val (.int ta), .val (.int fb), .val (.int tb), .unset, .unset, .unset, .unset, .unset, .unset, .unset, .unset] [(.int (8 : Int32)), (.int p3)]))
    refine GoesW.step (fun _ k => XS.ishr XJ10.here hx rfl (hb hby at_208) rfl k) ?_
    show GoesW p.tables e below s (Q0 Z p0 p1 p2 p3 ca cl val h0 n0) room_1.cells room_1.slots (TJ10.setTop (mkF m 209 #[.val (.int p0), .val (.int p1), .val (.int p2), .val (.int p3), .val (.ref aa), .val (.ref bb), .val (.int fa), .val (.int ta), .val (.int fb), .val (.int tb), .unset, .unset, .unset, .unset, .unset, .unset, .unset, .unset] [(.int (p3 >>> ((8 : Int32) &&& 31)))]))
    refine GoesW.step (fun _ k => XS.iconst XJ10.here hx rfl (hb hby at_209) k) ?_
    show GoesW p.tables e below s (Q0 Z p0 p1 p2 p3 ca cl val h0 n0) room_1.cells room_1.slots (TJ10.setTop (mkF m 210 #[.val (.int p0), .val (.int p1), .val (.int p2), .val (.int p3), .val (.ref aa), .val (.ref bb), .val (.int fa), .val (.int ta), .val (.int fb), .val (.int tb), .unset, .unset, .unset, .unset, .unset, .unset, .unset, .unset] [(.int (1 : Int32)), (.int (p3 >>> ((8 : Int32) &&& 31)))]))
    refine GoesW.step (fun _ k => XS.iand XJ10.here hx rfl (hb hby at_210) rfl k) ?_
    show GoesW p.tables e below s (Q0 Z p0 p1 p2 p3 ca cl val h0 n0) room_1.cells room_1.slots (TJ10.setTop (mkF m 211 #[.val (.int p0), .val (.int p1), .val (.int p2), .val (.int p3), .val (.ref aa), .val (.ref bb), .val (.int fa), .val (.int ta), .val (.int fb), .val (.int tb), .unset, .unset, .unset, .unset, .unset, .unset, .unset, .unset] [(.int ((p3 >>> ((8 : Int32) &&& 31)) &&& (1 : Int32)))]))
    refine GoesW.step (fun _ k => diam0 XJ10.here hx rfl (pc0 := 211) rfl (hb hby at_211) rfl (hb hby at_214) (hb hby at_215) (hb hby at_218) k) ?_
    show GoesW p.tables e below s (Q0 Z p0 p1 p2 p3 ca cl val h0 n0) room_1.cells room_1.slots (TJ10.setTop (mkF m 219 #[.val (.int p0), .val (.int p1), .val (.int p2), .val (.int p3), .val (.ref aa), .val (.ref bb), .val (.int fa), .val (.int ta), .val (.int fb), .val (.int tb), .unset, .unset, .unset, .unset, .unset, .unset, .unset, .unset] [(.int (nb (ifCond.holds .eq ((p3 >>> ((8 : Int32) &&& 31)) &&& (1 : Int32)))))]))
    generalize hbl : (nb (ifCond.holds .eq ((p3 >>> ((8 : Int32) &&& 31)) &&& (1 : Int32)))) = bl
    show GoesW p.tables e below s (Q0 Z p0 p1 p2 p3 ca cl val h0 n0) room_1.cells room_1.slots (TJ10.setTop (mkF m 219 #[.val (.int p0), .val (.int p1), .val (.int p2), .val (.int p3), .val (.ref aa), .val (.ref bb), .val (.int fa), .val (.int ta), .val (.int fb), .val (.int tb), .unset, .unset, .unset, .unset, .unset, .unset, .unset, .unset] [(.int bl)]))
    refine GoesW.step (fun _ k => XS.istore XJ10.here hx rfl (hb hby at_219) rfl (l' := #[.val (.int p0), .val (.int p1), .val (.int p2), .val (.int p3), .val (.ref aa), .val (.ref bb), .val (.int fa), .val (.int ta), .val (.int fb), .val (.int tb), .val (.int bl), .unset, .unset, .unset, .unset, .unset, .unset, .unset]) rfl k) ?_
    show GoesW p.tables e below s (Q0 Z p0 p1 p2 p3 ca cl val h0 n0) room_1.cells room_1.slots (TJ10.setTop (mkF m 221 #[.val (.int p0), .val (.int p1), .val (.int p2), .val (.int p3), .val (.ref aa), .val (.ref bb), .val (.int fa), .val (.int ta), .val (.int fb), .val (.int tb), .val (.int bl), .unset, .unset, .unset, .unset, .unset, .unset, .unset] []))
    obtain ⟨T11, h11, X11, e11, E11, A11, D11, -, st11⟩ := newO XJ10 hx hZ hown (hw _ (List.mem_of_getElem? (i := 1) rfl)) (hw _ (List.mem_of_getElem? (i := 2) rfl)) (hw _ (List.mem_of_getElem? (i := 3) rfl)) eJ10 (g := (mkF m 221 #[.val (.int p0), .val (.int p1), .val (.int p2), .val (.int p3), .val (.ref aa), .val (.ref bb), .val (.int fa), .val (.int ta), .val (.int fb), .val (.int tb), .val (.int bl), .unset, .unset, .unset, .unset, .unset, .unset, .unset] [])) rfl (hb hby at_221) (by decide) (by decide)
    obtain ⟨kx, gs11⟩ : ∃ z, z = hJ.size := ⟨_, rfl⟩
    rw [← gs11] at A11 D11 st11
    have g_kx : n0 ≤ kx := Nat.le_trans ZJ (Nat.le_of_eq gs11.symm)
    have ne_aa_kx : aa ≠ kx := Nat.ne_of_lt (Nat.lt_of_lt_of_le VJa.lt (Nat.le_of_eq gs11.symm))
    have ne_bb_kx : bb ≠ kx := Nat.ne_of_lt (Nat.lt_of_lt_of_le VJb.lt (Nat.le_of_eq gs11.symm))
    have Z11 : n0 ≤ h11.size := Nat.le_trans ZJ E11.1
    have F_bytes_kx : Fld Z h11 kx "com/example/rankweave/rankweave/io/FieldBytes" "bytes" "[B" .null := D11 (Or.inl (hw _ (List.mem_of_getElem? (i := 11) rfl))) (ty := (.array .byte)) (by decide)
    have F_from_kx : Fld Z h11 kx "com/example/rankweave/rankweave/io/FieldBytes" "from" "I" (.int (0 : Int32)) := D11 (Or.inl (hw _ (List.mem_of_getElem? (i := 18) rfl))) (ty := .int) (by decide)
    have F_to_kx : Fld Z h11 kx "com/example/rankweave/rankweave/io/FieldBytes" "to" "I" (.int (0 : Int32)) := D11 (Or.inl (hw _ (List.mem_of_getElem? (i := 20) rfl))) (ty := .int) (by decide)
    have F_hashed_kx : Fld Z h11 kx "com/example/rankweave/rankweave/io/FieldBytes" "hashed" "Z" (.int (0 : Int32)) := D11 (Or.inl (hw _ (List.mem_of_getElem? (i := 22) rfl))) (ty := .boolean) (by decide)
    refine GoesW.step st11 ?_
    show GoesW p.tables e below s (Q0 Z p0 p1 p2 p3 ca cl val h0 n0) room_1.cells room_1.slots (T11.setTop (mkF m 224 #[.val (.int p0), .val (.int p1), .val (.int p2), .val (.int p3), .val (.ref aa), .val (.ref bb), .val (.int fa), .val (.int ta), .val (.int fb), .val (.int tb), .val (.int bl), .unset, .unset, .unset, .unset, .unset, .unset, .unset] [(.ref kx)]))
    refine GoesW.step (fun _ k => XS.dup X11.here hx rfl (hb hby at_224) rfl rfl k) ?_
    show GoesW p.tables e below s (Q0 Z p0 p1 p2 p3 ca cl val h0 n0) room_1.cells room_1.slots (T11.setTop (mkF m 225 #[.val (.int p0), .val (.int p1), .val (.int p2), .val (.int p3), .val (.ref aa), .val (.ref bb), .val (.int fa), .val (.int ta), .val (.int fb), .val (.int tb), .val (.int bl), .unset, .unset, .unset, .unset, .unset, .unset, .unset] [(.ref kx), (.ref kx)]))
    obtain ⟨_, _, ⟨T12, L12, k12, n12⟩, -, X12, ⟨Lc12, hQ12, l12, y12, z12⟩, st12⟩ := X11.specialBack hx (y := (⟨"com/example/rankweave/rankweave/io/FieldBytes", "<init>", "()V"⟩ : MethodName)) rfl hown (mvT hZ (hw _ (List.mem_of_getElem? (i := 4) rfl))) (mvT hZ (hw _ (List.mem_of_getElem? (i := 5) rfl))) (mvT hZ (hw _ (List.mem_of_getElem? (i := 6) rfl))) (by decide) (backOf (W := 1) (rm1 l Z a0 hw [] kx  h11 n0 Z11 A11 g_kx F_bytes_kx F_from_kx F_to_kx F_hashed_kx) hZ (hw _ (List.mem_of_getElem? (i := 6) rfl)) (hw _ (List.mem_of_getElem? (i := 3) rfl)) (by decide) (by decide)) (g := (mkF m 225 #[.val (.int p0), .val (.int p1), .val (.int p2), .val (.int p3), .val (.ref aa), .val (.ref bb), .val (.int fa), .val (.int ta), .val (.int fb), .val (.int tb), .val (.int bl), .unset, .unset, .unset, .unset, .unset, .unset, .unset] [(.ref kx), (.ref kx)])) rfl (by rw [hml]; rfl) (Steps.refl _) (a := kx) (argsL := []) (rest := [(.ref kx)]) (lenOf own_pd0 rfl) rfl (by show 2 * 0 + _ ≤ _; exact Nat.le_of_eq rfl) (hb hby at_225) (fun _ _ => ⟨rfl, e11, (by decide : 3 + 1 ≤ _), (by decide : 13 + 0 ≤ _)⟩)
    dsimp only [Pt.U, Pt.locs, Pt.cells, Pt.slots] at X12 l12 y12 z12 st12 hQ12
    subst l12 y12 z12
    obtain ⟨rfl, N12q, K12q, Fb12, Fc12, Fd12, bq12, kb12, Fa12, Vb12⟩ := hQ12
    have N12 := Fr.app NJ10 N12q
    have Z12 : n0 ≤ T12.heap.size := Nat.le_trans Z11 K12q.1
    refine GoesW.step (fun _ k => st12.trans k) ?_
    show GoesW p.tables e below s (Q0 Z p0 p1 p2 p3 ca cl val h0 n0) room_1.cells room_1.slots (T12.setTop (mkF m 228 #[.val (.int p0), .val (.int p1), .val (.int p2), .val (.int p3), .val (.ref aa), .val (.ref bb), .val (.int fa), .val (.int ta), .val (.int fb), .val (.int tb), .val (.int bl), .unset, .unset, .unset, .unset, .unset, .unset, .unset] [(.ref kx)]))
    refine GoesW.step (fun _ k => XS.astore X12.here hx rfl (hb hby at_228) rfl rfl (l' := #[.val (.int p0), .val (.int p1), .val (.int p2), .val (.int p3), .val (.ref aa), .val (.ref bb), .val (.int fa), .val (.int ta), .val (.int fb), .val (.int tb), .val (.int bl), .val (.ref kx), .unset, .unset, .unset, .unset, .unset, .unset]) rfl k) ?_
    show GoesW p.tables e below s (Q0 Z p0 p1 p2 p3 ca cl val h0 n0) room_1.cells room_1.slots (T12.setTop (mkF m 230 #[.val (.int p0), .val (.int p1), .val (.int p2), .val (.int p3), .val (.ref aa), .val (.ref bb), .val (.int fa), .val (.int ta), .val (.int fb), .val (.int tb), .val (.int bl), .val (.ref kx), .unset, .unset, .unset, .unset, .unset, .unset] []))
    refine GoesW.step (fun _ k => XS.aload X12.here hx rfl (hb hby at_230) rfl rfl k) ?_
    show GoesW p.tables e below s (Q0 Z p0 p1 p2 p3 ca cl val h0 n0) room_1.cells room_1.slots (T12.setTop (mkF m 232 #[.val (.int p0), .val (.int p1), .val (.int p2), .val (.int p3), .val (.ref aa), .val (.ref bb), .val (.int fa), .val (.int ta), .val (.int fb), .val (.int tb), .val (.int bl), .val (.ref kx), .unset, .unset, .unset, .unset, .unset, .unset] [(.ref aa)]))
    refine GoesW.step (fun _ k => XS.astore X12.here hx rfl (hb hby at_232) rfl rfl (l' := #[.val (.int p0), .val (.int p1), .val (.int p2), .val (.int p3), .val (.ref aa), .val (.ref bb), .val (.int fa), .val (.int ta), .val (.int fb), .val (.int tb), .val (.int bl), .val (.ref kx), .val (.ref aa), .unset, .unset, .unset, .unset, .unset]) rfl k) ?_
    show GoesW p.tables e below s (Q0 Z p0 p1 p2 p3 ca cl val h0 n0) room_1.cells room_1.slots (T12.setTop (mkF m 234 #[.val (.int p0), .val (.int p1), .val (.int p2), .val (.int p3), .val (.ref aa), .val (.ref bb), .val (.int fa), .val (.int ta), .val (.int fb), .val (.int tb), .val (.int bl), .val (.ref kx), .val (.ref aa), .unset, .unset, .unset, .unset, .unset] []))
    refine GoesW.step (fun _ k => XS.iload X12.here hx rfl (hb hby at_234) rfl k) ?_
    show GoesW p.tables e below s (Q0 Z p0 p1 p2 p3 ca cl val h0 n0) room_1.cells room_1.slots (T12.setTop (mkF m 236 #[.val (.int p0), .val (.int p1), .val (.int p2), .val (.int p3), .val (.ref aa), .val (.ref bb), .val (.int fa), .val (.int ta), .val (.int fb), .val (.int tb), .val (.int bl), .val (.ref kx), .val (.ref aa), .unset, .unset, .unset, .unset, .unset] [(.int fa)]))
    refine GoesW.step (fun _ k => XS.istore X12.here hx rfl (hb hby at_236) rfl (l' := #[.val (.int p0), .val (.int p1), .val (.int p2), .val (.int p3), .val (.ref aa), .val (.ref bb), .val (.int fa), .val (.int ta), .val (.int fb), .val (.int tb), .val (.int bl), .val (.ref kx), .val (.ref aa), .val (.int fa), .unset, .unset, .unset, .unset]) rfl k) ?_
    show GoesW p.tables e below s (Q0 Z p0 p1 p2 p3 ca cl val h0 n0) room_1.cells room_1.slots (T12.setTop (mkF m 238 #[.val (.int p0), .val (.int p1), .val (.int p2), .val (.int p3), .val (.ref aa), .val (.ref bb), .val (.int fa), .val (.int ta), .val (.int fb), .val (.int tb), .val (.int bl), .val (.ref kx), .val (.ref aa), .val (.int fa), .unset, .unset, .unset, .unset] []))
    refine GoesW.step (fun _ k => XS.iload X12.here hx rfl (hb hby at_238) rfl k) ?_
    show GoesW p.tables e below s (Q0 Z p0 p1 p2 p3 ca cl val h0 n0) room_1.cells room_1.slots (T12.setTop (mkF m 240 #[.val (.int p0), .val (.int p1), .val (.int p2), .val (.int p3), .val (.ref aa), .val (.ref bb), .val (.int fa), .val (.int ta), .val (.int fb), .val (.int tb), .val (.int bl), .val (.ref kx), .val (.ref aa), .val (.int fa), .unset, .unset, .unset, .unset] [(.int ta)]))
    refine GoesW.step (fun _ k => XS.istore X12.here hx rfl (hb hby at_240) rfl (l' := #[.val (.int p0), .val (.int p1), .val (.int p2), .val (.int p3), .val (.ref aa), .val (.ref bb), .val (.int fa), .val (.int ta), .val (.int fb), .val (.int tb), .val (.int bl), .val (.ref kx), .val (.ref aa), .val (.int fa), .val (.int ta), .unset, .unset, .unset]) rfl k) ?_
    show GoesW p.tables e below s (Q0 Z p0 p1 p2 p3 ca cl val h0 n0) room_1.cells room_1.slots (T12.setTop (mkF m 242 #[.val (.int p0), .val (.int p1), .val (.int p2), .val (.int p3), .val (.ref aa), .val (.ref bb), .val (.int fa), .val (.int ta), .val (.int fb), .val (.int tb), .val (.int bl), .val (.ref kx), .val (.ref aa), .val (.int fa), .val (.int ta), .unset, .unset, .unset] []))
    refine GoesW.step (fun _ k => XS.iload X12.here hx rfl (hb hby at_242) rfl k) ?_
    show GoesW p.tables e below s (Q0 Z p0 p1 p2 p3 ca cl val h0 n0) room_1.cells room_1.slots (T12.setTop (mkF m 244 #[.val (.int p0), .val (.int p1), .val (.int p2), .val (.int p3), .val (.ref aa), .val (.ref bb), .val (.int fa), .val (.int ta), .val (.int fb), .val (.int tb), .val (.int bl), .val (.ref kx), .val (.ref aa), .val (.int fa), .val (.int ta), .unset, .unset, .unset] [(.int bl)]))
    have J272 : ∀ (TJ13 : State) (LJ13 : List Loc) (hK : Heap) (sx : Addr) (kq : ClassId) (sa : Addr) (ks : ClassId) (nn : Int32) (xs : List Int32) (sf : Int32) (st : Int32), Stand p l e room_1 s m #[(.int p0), (.int p1), (.int p2), (.int p3)] below meth c TJ13 LJ13 5 13 → TJ13.heap = hK → Fr n0 LJ13 → (n0 ≤ hK.size) → (Old Z n0 hK) → (Exa Z hK kx "com/example/rankweave/rankweave/io/FieldBytes") → (Fld Z hK kx "com/example/rankweave/rankweave/io/FieldBytes" "bytes" "[B" (.ref sx)) → (Fld Z hK kx "com/example/rankweave/rankweave/io/FieldBytes" "from" "I" (.int sf)) → (Fld Z hK kx "com/example/rankweave/rankweave/io/FieldBytes" "to" "I" (.int st)) → (Arv Z hK sx kq .byte nn (xs.map Value.int) (.int (0 : Int32))) → (Arv Z hK sa ks .byte nn (xs.map Value.int) (.int (0 : Int32))) → (Arv Z hK bb kb .byte (4 : Int32) [(.int b_0), (.int b_1), (.int b_2), (.int b_3)] (.int (0 : Int32))) → (nn.toNatClampNeg = xs.length) → (0 ≤ sf.toInt) → (sf.toInt ≤ st.toInt) → (st.toInt ≤ nn.toInt) → (nn.toInt ≤ 4) → GoesW p.tables e below s (Q0 Z p0 p1 p2 p3 ca cl val h0 n0) room_1.cells room_1.slots (TJ13.setTop (mkF m 272 #[.val (.int p0), .val (.int p1), .val (.int p2), .val (.int p3), .val (.ref aa), .val (.ref bb), .val (.int fa), .val (.int ta), .val (.int fb), .val (.int tb), .val (.int bl), .val (.ref kx), .val (.ref sa), .val (.int sf), .val (.int st), .unset, .unset, .unset] [])) := by
      intro TJ13 LJ13 hK sx kq sa ks nn xs sf st XJ13 eJ13 NJ13 ZK OK EK FK1 FK2 FK3 VKx VKa VKb hnn sf0 sft stn nn4
      show GoesW p.tables e below s (Q0 Z p0 p1 p2 p3 ca cl val h0 n0) room_1.cells room_1.slots (TJ13.setTop (mkF m 272 #[.val (.int p0), .val (.int p1), .val (.int p2), .val (.int p3), .val (.ref aa), .val (.ref bb), .val (.int fa), .val (.int ta), .val (.int fb), .val (.int tb), .val (.int bl), .val (.ref kx), .val (.ref sa), .val (.int sf), .val (.int st), .unset, .unset, .unset] []))
      refine GoesW.step (fun _ k => XS.iloadN XJ13.here hx rfl (hb hby at_272) rfl k) ?_
      show GoesW p.tables e below s (Q0 Z p0 p1 p2 p3 ca cl val h0 n0) room_1.cells room_1.slots (TJ13.setTop (mkF m 273 #[.val (.int p0), .val (.int p1), .val (.int p2), .val (.int p3), .val (.ref aa), .val (.ref bb), .val (.int fa), .val (.int ta), .val (.int fb), .val (.int tb), .val (.int bl), .val (.ref kx), .val (.ref sa), .val (.int sf), .val (.int st), .unset, .unset, .unset] [(.int p3)]))
      refine GoesW.step (fun _ k => XS.bipush XJ13.here hx rfl (hb hby at_273) k) ?_
      show GoesW p.tables e below s (Q0 Z p0 p1 p2 p3 ca cl val h0 n0) room_1.cells room_1.slots (TJ13.setTop (mkF m 275 #[.val (.int p0), .val (.int p1), .val (.int p2), .val (.int p3), .val (.ref aa), .val (.ref bb), .val (.int fa), .val (.int ta), .val (.int fb), .val (.int tb), .val (.int bl), .val (.ref kx), .val (.ref sa), .val (.int sf), .val (.int st), .unset, .unset, .unset] [(.int (7 : Int32)), (.int p3)]))
      refine GoesW.step (fun _ k => XS.iand XJ13.here hx rfl (hb hby at_275) rfl k) ?_
      show GoesW p.tables e below s (Q0 Z p0 p1 p2 p3 ca cl val h0 n0) room_1.cells room_1.slots (TJ13.setTop (mkF m 276 #[.val (.int p0), .val (.int p1), .val (.int p2), .val (.int p3), .val (.ref aa), .val (.ref bb), .val (.int fa), .val (.int ta), .val (.int fb), .val (.int tb), .val (.int bl), .val (.ref kx), .val (.ref sa), .val (.int sf), .val (.int st), .unset, .unset, .unset] [(.int (p3 &&& (7 : Int32)))]))
      generalize hkd : (p3 &&& (7 : Int32)) = kd
      show GoesW p.tables e below s (Q0 Z p0 p1 p2 p3 ca cl val h0 n0) room_1.cells room_1.slots (TJ13.setTop (mkF m 276 #[.val (.int p0), .val (.int p1), .val (.int p2), .val (.int p3), .val (.ref aa), .val (.ref bb), .val (.int fa), .val (.int ta), .val (.int fb), .val (.int tb), .val (.int bl), .val (.ref kx), .val (.ref sa), .val (.int sf), .val (.int st), .unset, .unset, .unset] [(.int kd)]))
      refine GoesW.step (fun _ k => XS.istore XJ13.here hx rfl (hb hby at_276) rfl (l' := #[.val (.int p0), .val (.int p1), .val (.int p2), .val (.int p3), .val (.ref aa), .val (.ref bb), .val (.int fa), .val (.int ta), .val (.int fb), .val (.int tb), .val (.int bl), .val (.ref kx), .val (.ref sa), .val (.int sf), .val (.int st), .val (.int kd), .unset, .unset]) rfl k) ?_
      show GoesW p.tables e below s (Q0 Z p0 p1 p2 p3 ca cl val h0 n0) room_1.cells room_1.slots (TJ13.setTop (mkF m 278 #[.val (.int p0), .val (.int p1), .val (.int p2), .val (.int p3), .val (.ref aa), .val (.ref bb), .val (.int fa), .val (.int ta), .val (.int fb), .val (.int tb), .val (.int bl), .val (.ref kx), .val (.ref sa), .val (.int sf), .val (.int st), .val (.int kd), .unset, .unset] []))
      refine GoesW.step (fun _ k => XS.iload XJ13.here hx rfl (hb hby at_278) rfl k) ?_
      show GoesW p.tables e below s (Q0 Z p0 p1 p2 p3 ca cl val h0 n0) room_1.cells room_1.slots (TJ13.setTop (mkF m 280 #[.val (.int p0), .val (.int p1), .val (.int p2), .val (.int p3), .val (.ref aa), .val (.ref bb), .val (.int fa), .val (.int ta), .val (.int fb), .val (.int tb), .val (.int bl), .val (.ref kx), .val (.ref sa), .val (.int sf), .val (.int st), .val (.int kd), .unset, .unset] [(.int kd)]))
      by_cases h280 : kd = (0 : Int32)
      · skip
        refine GoesW.step (fun _ k => XS.ifNo XJ13.here hx rfl (hb hby at_280) rfl ((if0 _ _).trans (teq h280).2) k) ?_
        show GoesW p.tables e below s (Q0 Z p0 p1 p2 p3 ca cl val h0 n0) room_1.cells room_1.slots (TJ13.setTop (mkF m 283 #[.val (.int p0), .val (.int p1), .val (.int p2), .val (.int p3), .val (.ref aa), .val (.ref bb), .val (.int fa), .val (.int ta), .val (.int fb), .val (.int tb), .val (.int bl), .val (.ref kx), .val (.ref sa), .val (.int sf), .val (.int st), .val (.int kd), .unset, .unset] []))
        refine GoesW.step (fun _ k => XS.aload XJ13.here hx rfl (hb hby at_283) rfl rfl k) ?_
        show GoesW p.tables e below s (Q0 Z p0 p1 p2 p3 ca cl val h0 n0) room_1.cells room_1.slots (TJ13.setTop (mkF m 285 #[.val (.int p0), .val (.int p1), .val (.int p2), .val (.int p3), .val (.ref aa), .val (.ref bb), .val (.int fa), .val (.int ta), .val (.int fb), .val (.int tb), .val (.int bl), .val (.ref kx), .val (.ref sa), .val (.int sf), .val (.int st), .val (.int kd), .unset, .unset] [(.ref kx)]))
        refine GoesW.step (fun _ k => XS.iloadN XJ13.here hx rfl (hb hby at_285) rfl k) ?_
        show GoesW p.tables e below s (Q0 Z p0 p1 p2 p3 ca cl val h0 n0) room_1.cells room_1.slots (TJ13.setTop (mkF m 286 #[.val (.int p0), .val (.int p1), .val (.int p2), .val (.int p3), .val (.ref aa), .val (.ref bb), .val (.int fa), .val (.int ta), .val (.int fb), .val (.int tb), .val (.int bl), .val (.ref kx), .val (.ref sa), .val (.int sf), .val (.int st), .val (.int kd), .unset, .unset] [(.int p0), (.ref kx)]))
        obtain ⟨_, _, ⟨T14, L14, k14, n14⟩, -, X14, ⟨Lc14, hQ14, l14, y14, z14⟩, st14⟩ := Jvm.LawKit.callS XJ13 hx (y := (⟨"java/lang/Integer", "valueOf", "(I)Ljava/lang/Integer;"⟩ : MethodName)) hown (mvT hZ (hw _ (List.mem_of_getElem? (i := 30) rfl))) (mvT hZ (hw _ (List.mem_of_getElem? (i := 31) rfl))) (mvT hZ (hw _ (List.mem_of_getElem? (i := 32) rfl))) (mvT hZ (hw _ (List.mem_of_getElem? (i := 33) rfl))) (by decide) (backOf (W := 1) (rm5 l Z a0 hw [] p0 ca cl val hK n0 ZK S_high S_cache BX OK) hZ (hw _ (List.mem_of_getElem? (i := 33) rfl)) (hw _ (List.mem_of_getElem? (i := 32) rfl)) (by decide) (by decide)) (g := (mkF m 286 #[.val (.int p0), .val (.int p1), .val (.int p2), .val (.int p3), .val (.ref aa), .val (.ref bb), .val (.int fa), .val (.int ta), .val (.int fb), .val (.int tb), .val (.int bl), .val (.ref kx), .val (.ref sa), .val (.int sf), .val (.int st), .val (.int kd), .unset, .unset] [(.int p0), (.ref kx)])) rfl (by rw [hml]; rfl) (argsL := [(.int p0)]) (rest := [(.ref kx)]) (lenOf own_pd3 rfl) rfl (by show 2 * 0 + _ ≤ _; exact Nat.le_of_eq rfl) (hb hby at_286) (fun _ _ => ⟨rfl, eJ13, (by decide : 5 + 1 ≤ _), (by decide : 13 + 1 ≤ _)⟩)
        dsimp only [Pt.U, Pt.locs, Pt.cells, Pt.slots] at X14 l14 y14 z14 st14 hQ14
        subst l14 y14 z14
        obtain ⟨⟨ia14, rfl, Ei14⟩, N14q, K14q⟩ := hQ14
        have N14 := Fr.app NJ13 N14q
        have Z14 : n0 ≤ T14.heap.size := Nat.le_trans ZK K14q.1
        refine GoesW.step st14 ?_
        show GoesW p.tables e below s (Q0 Z p0 p1 p2 p3 ca cl val h0 n0) room_1.cells room_1.slots (T14.setTop (mkF m 289 #[.val (.int p0), .val (.int p1), .val (.int p2), .val (.int p3), .val (.ref aa), .val (.ref bb), .val (.int fa), .val (.int ta), .val (.int fb), .val (.int tb), .val (.int bl), .val (.ref kx), .val (.ref sa), .val (.int sf), .val (.int st), .val (.int kd), .unset, .unset] [(.ref ia14), (.ref kx)]))
        have Exa_kx_15 := (EK.keep K14q)
        obtain ⟨cq16, kq16, q16a, q16b, q16c⟩ := isOf hZ rfl Exa_kx_15
        obtain ⟨_, _, ⟨T16, L16, k16, n16⟩, -, X16, ⟨Lc16, hQ16, l16, y16, z16⟩, st16⟩ := X14.virtualBack hx (y := (⟨"com/example/rankweave/rankweave/io/FieldBytes", "equals", "(Ljava/lang/Object;)Z"⟩ : MethodName)) (z := (⟨"com/example/rankweave/rankweave/io/FieldBytes", "equals", "(Ljava/lang/Object;)Z"⟩ : MethodName)) hown (mvT hZ (hw _ (List.mem_of_getElem? (i := 23) rfl))) (mvT hZ (hw _ (List.mem_of_getElem? (i := 24) rfl))) (notFace_of_selects (args := #[]) (mvT hZ (hw _ (List.mem_of_getElem? (i := 26) rfl)))) (mvT hZ (hw _ (List.mem_of_getElem? (i := 26) rfl))) (mvT hZ (hw _ (List.mem_of_getElem? (i := 25) rfl))) (by decide) (backOf (W := 0) (rm4i l Z a0 hw [] kx ia14  T14.heap n0 Z14 Ei14) hZ (hw _ (List.mem_of_getElem? (i := 27) rfl)) (hw _ (List.mem_of_getElem? (i := 3) rfl)) (by decide) (by decide)) q16a q16c (g := (mkF m 289 #[.val (.int p0), .val (.int p1), .val (.int p2), .val (.int p3), .val (.ref aa), .val (.ref bb), .val (.int fa), .val (.int ta), .val (.int fb), .val (.int tb), .val (.int bl), .val (.ref kx), .val (.ref sa), .val (.int sf), .val (.int st), .val (.int kd), .unset, .unset] [(.ref ia14), (.ref kx)])) rfl (by rw [hml]; rfl) (Steps.refl _) (argsL := [(.ref ia14)]) (rest := []) (lenOf own_pd4 rfl) rfl (by show 2 * 0 + _ ≤ _; exact Nat.le_of_eq rfl) (hb hby at_289) (fun _ _ => ⟨rfl, rfl, (by decide : 6 + 0 ≤ _), (by decide : 14 + 0 ≤ _)⟩)
        dsimp only [Pt.U, Pt.locs, Pt.cells, Pt.slots] at X16 l16 y16 z16 st16 hQ16
        subst l16 y16 z16
        obtain ⟨rfl, N16q, eq16⟩ := hQ16
        have N16 := Fr.app N14 N16q
        refine GoesW.step (fun _ k => st16.trans k) ?_
        show GoesW p.tables e below s (Q0 Z p0 p1 p2 p3 ca cl val h0 n0) room_1.cells room_1.slots (T16.setTop (mkF m 292 #[.val (.int p0), .val (.int p1), .val (.int p2), .val (.int p3), .val (.ref aa), .val (.ref bb), .val (.int fa), .val (.int ta), .val (.int fb), .val (.int tb), .val (.int bl), .val (.ref kx), .val (.ref sa), .val (.int sf), .val (.int st), .val (.int kd), .unset, .unset] [(.int (0 : Int32))]))
        refine GoesW.step (fun _ k => XS.ifNo X16.here hx rfl (hb hby at_292) rfl ((if0 _ _).trans (teq (rfl : (0 : Int32) = (0 : Int32))).2) k) ?_
        show GoesW p.tables e below s (Q0 Z p0 p1 p2 p3 ca cl val h0 n0) room_1.cells room_1.slots (T16.setTop (mkF m 295 #[.val (.int p0), .val (.int p1), .val (.int p2), .val (.int p3), .val (.ref aa), .val (.ref bb), .val (.int fa), .val (.int ta), .val (.int fb), .val (.int tb), .val (.int bl), .val (.ref kx), .val (.ref sa), .val (.int sf), .val (.int st), .val (.int kd), .unset, .unset] []))
        refine GoesW.step (fun _ k => XS.iconst X16.here hx rfl (hb hby at_295) k) ?_
        show GoesW p.tables e below s (Q0 Z p0 p1 p2 p3 ca cl val h0 n0) room_1.cells room_1.slots (T16.setTop (mkF m 296 #[.val (.int p0), .val (.int p1), .val (.int p2), .val (.int p3), .val (.ref aa), .val (.ref bb), .val (.int fa), .val (.int ta), .val (.int fb), .val (.int tb), .val (.int bl), .val (.ref kx), .val (.ref sa), .val (.int sf), .val (.int st), .val (.int kd), .unset, .unset] [(.int (1 : Int32))]))
        refine GoesW.step (fun _ k => XS.goto X16.here hx rfl (pc0 := 296) (pc' := 300) rfl (hb hby at_296) (by decide) (by decide) k) ?_
        show GoesW p.tables e below s (Q0 Z p0 p1 p2 p3 ca cl val h0 n0) room_1.cells room_1.slots (T16.setTop (mkF m 300 #[.val (.int p0), .val (.int p1), .val (.int p2), .val (.int p3), .val (.ref aa), .val (.ref bb), .val (.int fa), .val (.int ta), .val (.int fb), .val (.int tb), .val (.int bl), .val (.ref kx), .val (.ref sa), .val (.int sf), .val (.int st), .val (.int kd), .unset, .unset] [(.int (1 : Int32))]))
        exact GoesW.retZ X16 hx hlk (t := .boolean) Bd.returns (by simp) rfl (hb hby at_300) (by show Q0 Z p0 p1 p2 p3 ca cl val h0 n0 _ T16.heap _; rw [eq16]; exact ⟨rfl, N16⟩) (by decide) (by decide)
      · skip
        refine GoesW.step (fun _ k => XS.ifYes XJ13.here hx rfl (pc0 := 280) (pc' := 301) rfl (hb hby at_280) rfl ((if0 _ _).trans (feq h280).2) (by decide) (by decide) k) ?_
        show GoesW p.tables e below s (Q0 Z p0 p1 p2 p3 ca cl val h0 n0) room_1.cells room_1.slots (TJ13.setTop (mkF m 301 #[.val (.int p0), .val (.int p1), .val (.int p2), .val (.int p3), .val (.ref aa), .val (.ref bb), .val (.int fa), .val (.int ta), .val (.int fb), .val (.int tb), .val (.int bl), .val (.ref kx), .val (.ref sa), .val (.int sf), .val (.int st), .val (.int kd), .unset, .unset] []))
        refine GoesW.step (fun _ k => XS.iload XJ13.here hx rfl (hb hby at_301) rfl k) ?_
        show GoesW p.tables e below s (Q0 Z p0 p1 p2 p3 ca cl val h0 n0) room_1.cells room_1.slots (TJ13.setTop (mkF m 303 #[.val (.int p0), .val (.int p1), .val (.int p2), .val (.int p3), .val (.ref aa), .val (.ref bb), .val (.int fa), .val (.int ta), .val (.int fb), .val (.int tb), .val (.int bl), .val (.ref kx), .val (.ref sa), .val (.int sf), .val (.int st), .val (.int kd), .unset, .unset] [(.int kd)]))
        refine GoesW.step (fun _ k => XS.iconst XJ13.here hx rfl (hb hby at_303) k) ?_
        show GoesW p.tables e below s (Q0 Z p0 p1 p2 p3 ca cl val h0 n0) room_1.cells room_1.slots (TJ13.setTop (mkF m 304 #[.val (.int p0), .val (.int p1), .val (.int p2), .val (.int p3), .val (.ref aa), .val (.ref bb), .val (.int fa), .val (.int ta), .val (.int fb), .val (.int tb), .val (.int bl), .val (.ref kx), .val (.ref sa), .val (.int sf), .val (.int st), .val (.int kd), .unset, .unset] [(.int (1 : Int32)), (.int kd)]))
        by_cases h304 : kd = (1 : Int32)
        · skip
          refine GoesW.step (fun _ k => XS.icmpNo XJ13.here hx rfl (hb hby at_304) rfl (teq h304).2 k) ?_
          show GoesW p.tables e below s (Q0 Z p0 p1 p2 p3 ca cl val h0 n0) room_1.cells room_1.slots (TJ13.setTop (mkF m 307 #[.val (.int p0), .val (.int p1), .val (.int p2), .val (.int p3), .val (.ref aa), .val (.ref bb), .val (.int fa), .val (.int ta), .val (.int fb), .val (.int tb), .val (.int bl), .val (.ref kx), .val (.ref sa), .val (.int sf), .val (.int st), .val (.int kd), .unset, .unset] []))
          refine GoesW.step (fun _ k => XS.aload XJ13.here hx rfl (hb hby at_307) rfl rfl k) ?_
          show GoesW p.tables e below s (Q0 Z p0 p1 p2 p3 ca cl val h0 n0) room_1.cells room_1.slots (TJ13.setTop (mkF m 309 #[.val (.int p0), .val (.int p1), .val (.int p2), .val (.int p3), .val (.ref aa), .val (.ref bb), .val (.int fa), .val (.int ta), .val (.int fb), .val (.int tb), .val (.int bl), .val (.ref kx), .val (.ref sa), .val (.int sf), .val (.int st), .val (.int kd), .unset, .unset] [(.ref kx)]))
          refine GoesW.step (fun _ k => XS.aconstNull XJ13.here hx rfl (hb hby at_309) k) ?_
          show GoesW p.tables e below s (Q0 Z p0 p1 p2 p3 ca cl val h0 n0) room_1.cells room_1.slots (TJ13.setTop (mkF m 310 #[.val (.int p0), .val (.int p1), .val (.int p2), .val (.int p3), .val (.ref aa), .val (.ref bb), .val (.int fa), .val (.int ta), .val (.int fb), .val (.int tb), .val (.int bl), .val (.ref kx), .val (.ref sa), .val (.int sf), .val (.int st), .val (.int kd), .unset, .unset] [.null, (.ref kx)]))
          obtain ⟨cq17, kq17, q17a, q17b, q17c⟩ := isOf hZ eJ13 EK
          obtain ⟨_, _, ⟨T17, L17, k17, n17⟩, -, X17, ⟨Lc17, hQ17, l17, y17, z17⟩, st17⟩ := XJ13.virtualBack hx (y := (⟨"com/example/rankweave/rankweave/io/FieldBytes", "equals", "(Ljava/lang/Object;)Z"⟩ : MethodName)) (z := (⟨"com/example/rankweave/rankweave/io/FieldBytes", "equals", "(Ljava/lang/Object;)Z"⟩ : MethodName)) hown (mvT hZ (hw _ (List.mem_of_getElem? (i := 23) rfl))) (mvT hZ (hw _ (List.mem_of_getElem? (i := 24) rfl))) (notFace_of_selects (args := #[]) (mvT hZ (hw _ (List.mem_of_getElem? (i := 26) rfl)))) (mvT hZ (hw _ (List.mem_of_getElem? (i := 26) rfl))) (mvT hZ (hw _ (List.mem_of_getElem? (i := 25) rfl))) (by decide) (backOf (W := 0) (rm4n l Z a0 hw [] kx  hK n0 ZK ) hZ (hw _ (List.mem_of_getElem? (i := 27) rfl)) (hw _ (List.mem_of_getElem? (i := 3) rfl)) (by decide) (by decide)) q17a q17c (g := (mkF m 310 #[.val (.int p0), .val (.int p1), .val (.int p2), .val (.int p3), .val (.ref aa), .val (.ref bb), .val (.int fa), .val (.int ta), .val (.int fb), .val (.int tb), .val (.int bl), .val (.ref kx), .val (.ref sa), .val (.int sf), .val (.int st), .val (.int kd), .unset, .unset] [.null, (.ref kx)])) rfl (by rw [hml]; rfl) (Steps.refl _) (argsL := [.null]) (rest := []) (lenOf own_pd4 rfl) rfl (by show 2 * 0 + _ ≤ _; exact Nat.le_of_eq rfl) (hb hby at_310) (fun _ _ => ⟨rfl, eJ13, (by decide : 5 + 0 ≤ _), (by decide : 13 + 0 ≤ _)⟩)
          dsimp only [Pt.U, Pt.locs, Pt.cells, Pt.slots] at X17 l17 y17 z17 st17 hQ17
          subst l17 y17 z17
          obtain ⟨rfl, N17q, eq17⟩ := hQ17
          have N17 := Fr.app NJ13 N17q
          refine GoesW.step (fun _ k => st17.trans k) ?_
          show GoesW p.tables e below s (Q0 Z p0 p1 p2 p3 ca cl val h0 n0) room_1.cells room_1.slots (T17.setTop (mkF m 313 #[.val (.int p0), .val (.int p1), .val (.int p2), .val (.int p3), .val (.ref aa), .val (.ref bb), .val (.int fa), .val (.int ta), .val (.int fb), .val (.int tb), .val (.int bl), .val (.ref kx), .val (.ref sa), .val (.int sf), .val (.int st), .val (.int kd), .unset, .unset] [(.int (0 : Int32))]))
          refine GoesW.step (fun _ k => XS.ifNo X17.here hx rfl (hb hby at_313) rfl ((if0 _ _).trans (teq (rfl : (0 : Int32) = (0 : Int32))).2) k) ?_
          show GoesW p.tables e below s (Q0 Z p0 p1 p2 p3 ca cl val h0 n0) room_1.cells room_1.slots (T17.setTop (mkF m 316 #[.val (.int p0), .val (.int p1), .val (.int p2), .val (.int p3), .val (.ref aa), .val (.ref bb), .val (.int fa), .val (.int ta), .val (.int fb), .val (.int tb), .val (.int bl), .val (.ref kx), .val (.ref sa), .val (.int sf), .val (.int st), .val (.int kd), .unset, .unset] []))
          refine GoesW.step (fun _ k => XS.iconst X17.here hx rfl (hb hby at_316) k) ?_
          show GoesW p.tables e below s (Q0 Z p0 p1 p2 p3 ca cl val h0 n0) room_1.cells room_1.slots (T17.setTop (mkF m 317 #[.val (.int p0), .val (.int p1), .val (.int p2), .val (.int p3), .val (.ref aa), .val (.ref bb), .val (.int fa), .val (.int ta), .val (.int fb), .val (.int tb), .val (.int bl), .val (.ref kx), .val (.ref sa), .val (.int sf), .val (.int st), .val (.int kd), .unset, .unset] [(.int (1 : Int32))]))
          refine GoesW.step (fun _ k => XS.goto X17.here hx rfl (pc0 := 317) (pc' := 321) rfl (hb hby at_317) (by decide) (by decide) k) ?_
          show GoesW p.tables e below s (Q0 Z p0 p1 p2 p3 ca cl val h0 n0) room_1.cells room_1.slots (T17.setTop (mkF m 321 #[.val (.int p0), .val (.int p1), .val (.int p2), .val (.int p3), .val (.ref aa), .val (.ref bb), .val (.int fa), .val (.int ta), .val (.int fb), .val (.int tb), .val (.int bl), .val (.ref kx), .val (.ref sa), .val (.int sf), .val (.int st), .val (.int kd), .unset, .unset] [(.int (1 : Int32))]))
          exact GoesW.retZ X17 hx hlk (t := .boolean) Bd.returns (by simp) rfl (hb hby at_321) (by show Q0 Z p0 p1 p2 p3 ca cl val h0 n0 _ T17.heap _; rw [eq17]; exact ⟨rfl, N17⟩) (by decide) (by decide)
        · skip
          refine GoesW.step (fun _ k => XS.icmpYes XJ13.here hx rfl (pc0 := 304) (pc' := 322) rfl (hb hby at_304) rfl (feq h304).2 (by decide) (by decide) k) ?_
          show GoesW p.tables e below s (Q0 Z p0 p1 p2 p3 ca cl val h0 n0) room_1.cells room_1.slots (TJ13.setTop (mkF m 322 #[.val (.int p0), .val (.int p1), .val (.int p2), .val (.int p3), .val (.ref aa), .val (.ref bb), .val (.int fa), .val (.int ta), .val (.int fb), .val (.int tb), .val (.int bl), .val (.ref kx), .val (.ref sa), .val (.int sf), .val (.int st), .val (.int kd), .unset, .unset] []))
          refine GoesW.step (fun _ k => XS.iload XJ13.here hx rfl (hb hby at_322) rfl k) ?_
          show GoesW p.tables e below s (Q0 Z p0 p1 p2 p3 ca cl val h0 n0) room_1.cells room_1.slots (TJ13.setTop (mkF m 324 #[.val (.int p0), .val (.int p1), .val (.int p2), .val (.int p3), .val (.ref aa), .val (.ref bb), .val (.int fa), .val (.int ta), .val (.int fb), .val (.int tb), .val (.int bl), .val (.ref kx), .val (.ref sa), .val (.int sf), .val (.int st), .val (.int kd), .unset, .unset] [(.int kd)]))
          refine GoesW.step (fun _ k => XS.iconst XJ13.here hx rfl (hb hby at_324) k) ?_
          show GoesW p.tables e below s (Q0 Z p0 p1 p2 p3 ca cl val h0 n0) room_1.cells room_1.slots (TJ13.setTop (mkF m 325 #[.val (.int p0), .val (.int p1), .val (.int p2), .val (.int p3), .val (.ref aa), .val (.ref bb), .val (.int fa), .val (.int ta), .val (.int fb), .val (.int tb), .val (.int bl), .val (.ref kx), .val (.ref sa), .val (.int sf), .val (.int st), .val (.int kd), .unset, .unset] [(.int (2 : Int32)), (.int kd)]))
          by_cases h325 : kd = (2 : Int32)
          · skip
            refine GoesW.step (fun _ k => XS.icmpNo XJ13.here hx rfl (hb hby at_325) rfl (teq h325).2 k) ?_
            show GoesW p.tables e below s (Q0 Z p0 p1 p2 p3 ca cl val h0 n0) room_1.cells room_1.slots (TJ13.setTop (mkF m 328 #[.val (.int p0), .val (.int p1), .val (.int p2), .val (.int p3), .val (.ref aa), .val (.ref bb), .val (.int fa), .val (.int ta), .val (.int fb), .val (.int tb), .val (.int bl), .val (.ref kx), .val (.ref sa), .val (.int sf), .val (.int st), .val (.int kd), .unset, .unset] []))
            refine GoesW.step (fun _ k => XS.aload XJ13.here hx rfl (hb hby at_328) rfl rfl k) ?_
            show GoesW p.tables e below s (Q0 Z p0 p1 p2 p3 ca cl val h0 n0) room_1.cells room_1.slots (TJ13.setTop (mkF m 330 #[.val (.int p0), .val (.int p1), .val (.int p2), .val (.int p3), .val (.ref aa), .val (.ref bb), .val (.int fa), .val (.int ta), .val (.int fb), .val (.int tb), .val (.int bl), .val (.ref kx), .val (.ref sa), .val (.int sf), .val (.int st), .val (.int kd), .unset, .unset] [(.ref kx)]))
            refine GoesW.step (fun _ k => XS.aload XJ13.here hx rfl (hb hby at_330) rfl rfl k) ?_
            show GoesW p.tables e below s (Q0 Z p0 p1 p2 p3 ca cl val h0 n0) room_1.cells room_1.slots (TJ13.setTop (mkF m 332 #[.val (.int p0), .val (.int p1), .val (.int p2), .val (.int p3), .val (.ref aa), .val (.ref bb), .val (.int fa), .val (.int ta), .val (.int fb), .val (.int tb), .val (.int bl), .val (.ref kx), .val (.ref sa), .val (.int sf), .val (.int st), .val (.int kd), .unset, .unset] [(.ref kx), (.ref kx)]))
            obtain ⟨cq18, kq18, q18a, q18b, q18c⟩ := isOf hZ eJ13 EK
            obtain ⟨_, _, ⟨T18, L18, k18, n18⟩, -, X18, ⟨Lc18, hQ18, l18, y18, z18⟩, st18⟩ := XJ13.virtualBack hx (y := (⟨"com/example/rankweave/rankweave/io/FieldBytes", "equals", "(Ljava/lang/Object;)Z"⟩ : MethodName)) (z := (⟨"com/example/rankweave/rankweave/io/FieldBytes", "equals", "(Ljava/lang/Object;)Z"⟩ : MethodName)) hown (mvT hZ (hw _ (List.mem_of_getElem? (i := 23) rfl))) (mvT hZ (hw _ (List.mem_of_getElem? (i := 24) rfl))) (notFace_of_selects (args := #[]) (mvT hZ (hw _ (List.mem_of_getElem? (i := 26) rfl)))) (mvT hZ (hw _ (List.mem_of_getElem? (i := 26) rfl))) (mvT hZ (hw _ (List.mem_of_getElem? (i := 25) rfl))) (by decide) (backOf (W := 0) (rm4 l Z a0 hw [] kx kx sx sf st sx sf st kq nn xs (.int (0 : Int32)) kq nn xs (.int (0 : Int32)) hK n0 ZK EK FK1 FK2 FK3 FK1 FK2 FK3 VKx VKx hnn hnn sf0 sft stn sf0 sft stn) hZ (hw _ (List.mem_of_getElem? (i := 27) rfl)) (hw _ (List.mem_of_getElem? (i := 3) rfl)) (by decide) (by decide)) q18a q18c (g := (mkF m 332 #[.val (.int p0), .val (.int p1), .val (.int p2), .val (.int p3), .val (.ref aa), .val (.ref bb), .val (.int fa), .val (.int ta), .val (.int fb), .val (.int tb), .val (.int bl), .val (.ref kx), .val (.ref sa), .val (.int sf), .val (.int st), .val (.int kd), .unset, .unset] [(.ref kx), (.ref kx)])) rfl (by rw [hml]; rfl) (Steps.refl _) (argsL := [(.ref kx)]) (rest := []) (lenOf own_pd4 rfl) rfl (by show 2 * 0 + _ ≤ _; exact Nat.le_of_eq rfl) (hb hby at_332) (fun _ _ => ⟨rfl, eJ13, (by decide : 5 + 0 ≤ _), (by decide : 13 + 0 ≤ _)⟩)
            dsimp only [Pt.U, Pt.locs, Pt.cells, Pt.slots] at X18 l18 y18 z18 st18 hQ18
            subst l18 y18 z18
            obtain ⟨rfl, N18q, eq18⟩ := hQ18
            have N18 := Fr.app NJ13 N18q
            refine GoesW.step (fun _ k => st18.trans k) ?_
            show GoesW p.tables e below s (Q0 Z p0 p1 p2 p3 ca cl val h0 n0) room_1.cells room_1.slots (T18.setTop (mkF m 335 #[.val (.int p0), .val (.int p1), .val (.int p2), .val (.int p3), .val (.ref aa), .val (.ref bb), .val (.int fa), .val (.int ta), .val (.int fb), .val (.int tb), .val (.int bl), .val (.ref kx), .val (.ref sa), .val (.int sf), .val (.int st), .val (.int kd), .unset, .unset] [(.int (own_eqv xs xs sf st sf st))]))
            rw [show (own_eqv xs xs sf st sf st) = (1 : Int32) from own_eqself xs sf st]
            show GoesW p.tables e below s (Q0 Z p0 p1 p2 p3 ca cl val h0 n0) room_1.cells room_1.slots (T18.setTop (mkF m 335 #[.val (.int p0), .val (.int p1), .val (.int p2), .val (.int p3), .val (.ref aa), .val (.ref bb), .val (.int fa), .val (.int ta), .val (.int fb), .val (.int tb), .val (.int bl), .val (.ref kx), .val (.ref sa), .val (.int sf), .val (.int st), .val (.int kd), .unset, .unset] [(.int (1 : Int32))]))
            exact GoesW.retZ X18 hx hlk (t := .boolean) Bd.returns (by simp) rfl (hb hby at_335) (by show Q0 Z p0 p1 p2 p3 ca cl val h0 n0 _ T18.heap _; rw [eq18]; exact ⟨rfl, N18⟩) (by decide) (by decide)
          · skip
            refine GoesW.step (fun _ k => XS.icmpYes XJ13.here hx rfl (pc0 := 325) (pc' := 336) rfl (hb hby at_325) rfl (feq h325).2 (by decide) (by decide) k) ?_
            show GoesW p.tables e below s (Q0 Z p0 p1 p2 p3 ca cl val h0 n0) room_1.cells room_1.slots (TJ13.setTop (mkF m 336 #[.val (.int p0), .val (.int p1), .val (.int p2), .val (.int p3), .val (.ref aa), .val (.ref bb), .val (.int fa), .val (.int ta), .val (.int fb), .val (.int tb), .val (.int bl), .val (.ref kx), .val (.ref sa), .val (.int sf), .val (.int st), .val (.int kd), .unset, .unset] []))
            obtain ⟨T19, h19, X19, e19, E19, A19, D19, -, st19⟩ := newO XJ13 hx hZ hown (hw _ (List.mem_of_getElem? (i := 1) rfl)) (hw _ (List.mem_of_getElem? (i := 2) rfl)) (hw _ (List.mem_of_getElem? (i := 3) rfl)) eJ13 (g := (mkF m 336 #[.val (.int p0), .val (.int p1), .val (.int p2), .val (.int p3), .val (.ref aa), .val (.ref bb), .val (.int fa), .val (.int ta), .val (.int fb), .val (.int tb), .val (.int bl), .val (.ref kx), .val (.ref sa), .val (.int sf), .val (.int st), .val (.int kd), .unset, .unset] [])) rfl (hb hby at_336) (by decide) (by decide)
            obtain ⟨ko, gs19⟩ : ∃ z, z = hK.size := ⟨_, rfl⟩
            rw [← gs19] at A19 D19 st19
            have g_ko : n0 ≤ ko := Nat.le_trans ZK (Nat.le_of_eq gs19.symm)
            have ne_kx_ko : kx ≠ ko := Nat.ne_of_lt (Nat.lt_of_lt_of_le EK.lt (Nat.le_of_eq gs19.symm))
            have ne_sx_ko : sx ≠ ko := Nat.ne_of_lt (Nat.lt_of_lt_of_le VKx.lt (Nat.le_of_eq gs19.symm))
            have ne_sa_ko : sa ≠ ko := Nat.ne_of_lt (Nat.lt_of_lt_of_le VKa.lt (Nat.le_of_eq gs19.symm))
            have ne_bb_ko : bb ≠ ko := Nat.ne_of_lt (Nat.lt_of_lt_of_le VKb.lt (Nat.le_of_eq gs19.symm))
            have Z19 : n0 ≤ h19.size := Nat.le_trans ZK E19.1
            have F_bytes_ko : Fld Z h19 ko "com/example/rankweave/rankweave/io/FieldBytes" "bytes" "[B" .null := D19 (Or.inl (hw _ (List.mem_of_getElem? (i := 11) rfl))) (ty := (.array .byte)) (by decide)
            have F_from_ko : Fld Z h19 ko "com/example/rankweave/rankweave/io/FieldBytes" "from" "I" (.int (0 : Int32)) := D19 (Or.inl (hw _ (List.mem_of_getElem? (i := 18) rfl))) (ty := .int) (by decide)
            have F_to_ko : Fld Z h19 ko "com/example/rankweave/rankweave/io/FieldBytes" "to" "I" (.int (0 : Int32)) := D19 (Or.inl (hw _ (List.mem_of_getElem? (i := 20) rfl))) (ty := .int) (by decide)
            have F_hashed_ko : Fld Z h19 ko "com/example/rankweave/rankweave/io/FieldBytes" "hashed" "Z" (.int (0 : Int32)) := D19 (Or.inl (hw _ (List.mem_of_getElem? (i := 22) rfl))) (ty := .boolean) (by decide)
            refine GoesW.step st19 ?_
            show GoesW p.tables e below s (Q0 Z p0 p1 p2 p3 ca cl val h0 n0) room_1.cells room_1.slots (T19.setTop (mkF m 339 #[.val (.int p0), .val (.int p1), .val (.int p2), .val (.int p3), .val (.ref aa), .val (.ref bb), .val (.int fa), .val (.int ta), .val (.int fb), .val (.int tb), .val (.int bl), .val (.ref kx), .val (.ref sa), .val (.int sf), .val (.int st), .val (.int kd), .unset, .unset] [(.ref ko)]))
            refine GoesW.step (fun _ k => XS.dup X19.here hx rfl (hb hby at_339) rfl rfl k) ?_
            show GoesW p.tables e below s (Q0 Z p0 p1 p2 p3 ca cl val h0 n0) room_1.cells room_1.slots (T19.setTop (mkF m 340 #[.val (.int p0), .val (.int p1), .val (.int p2), .val (.int p3), .val (.ref aa), .val (.ref bb), .val (.int fa), .val (.int ta), .val (.int fb), .val (.int tb), .val (.int bl), .val (.ref kx), .val (.ref sa), .val (.int sf), .val (.int st), .val (.int kd), .unset, .unset] [(.ref ko), (.ref ko)]))
            obtain ⟨_, _, ⟨T20, L20, k20, n20⟩, -, X20, ⟨Lc20, hQ20, l20, y20, z20⟩, st20⟩ := X19.specialBack hx (y := (⟨"com/example/rankweave/rankweave/io/FieldBytes", "<init>", "()V"⟩ : MethodName)) rfl hown (mvT hZ (hw _ (List.mem_of_getElem? (i := 4) rfl))) (mvT hZ (hw _ (List.mem_of_getElem? (i := 5) rfl))) (mvT hZ (hw _ (List.mem_of_getElem? (i := 6) rfl))) (by decide) (backOf (W := 1) (rm1 l Z a0 hw [] ko  h19 n0 Z19 A19 g_ko F_bytes_ko F_from_ko F_to_ko F_hashed_ko) hZ (hw _ (List.mem_of_getElem? (i := 6) rfl)) (hw _ (List.mem_of_getElem? (i := 3) rfl)) (by decide) (by decide)) (g := (mkF m 340 #[.val (.int p0), .val (.int p1), .val (.int p2), .val (.int p3), .val (.ref aa), .val (.ref bb), .val (.int fa), .val (.int ta), .val (.int fb), .val (.int tb), .val (.int bl), .val (.ref kx), .val (.ref sa), .val (.int sf), .val (.int st), .val (.int kd), .unset, .unset] [(.ref ko), (.ref ko)])) rfl (by rw [hml]; rfl) (Steps.refl _) (a := ko) (argsL := []) (rest := [(.ref ko)]) (lenOf own_pd0 rfl) rfl (by show 2 * 0 + _ ≤ _; exact Nat.le_of_eq rfl) (hb hby at_340) (fun _ _ => ⟨rfl, e19, (by decide : 6 + 1 ≤ _), (by decide : 18 + 0 ≤ _)⟩)
            dsimp only [Pt.U, Pt.locs, Pt.cells, Pt.slots] at X20 l20 y20 z20 st20 hQ20
            subst l20 y20 z20
            obtain ⟨rfl, N20q, K20q, Fb20, Fc20, Fd20, bq20, kb20, Fa20, Vb20⟩ := hQ20
            have N20 := Fr.app NJ13 N20q
            have Z20 : n0 ≤ T20.heap.size := Nat.le_trans Z19 K20q.1
            refine GoesW.step (fun _ k => st20.trans k) ?_
            show GoesW p.tables e below s (Q0 Z p0 p1 p2 p3 ca cl val h0 n0) room_1.cells room_1.slots (T20.setTop (mkF m 343 #[.val (.int p0), .val (.int p1), .val (.int p2), .val (.int p3), .val (.ref aa), .val (.ref bb), .val (.int fa), .val (.int ta), .val (.int fb), .val (.int tb), .val (.int bl), .val (.ref kx), .val (.ref sa), .val (.int sf), .val (.int st), .val (.int kd), .unset, .unset] [(.ref ko)]))
            refine GoesW.step (fun _ k => XS.astore X20.here hx rfl (hb hby at_343) rfl rfl (l' := #[.val (.int p0), .val (.int p1), .val (.int p2), .val (.int p3), .val (.ref aa), .val (.ref bb), .val (.int fa), .val (.int ta), .val (.int fb), .val (.int tb), .val (.int bl), .val (.ref kx), .val (.ref sa), .val (.int sf), .val (.int st), .val (.int kd), .val (.ref ko), .unset]) rfl k) ?_
            show GoesW p.tables e below s (Q0 Z p0 p1 p2 p3 ca cl val h0 n0) room_1.cells room_1.slots (T20.setTop (mkF m 345 #[.val (.int p0), .val (.int p1), .val (.int p2), .val (.int p3), .val (.ref aa), .val (.ref bb), .val (.int fa), .val (.int ta), .val (.int fb), .val (.int tb), .val (.int bl), .val (.ref kx), .val (.ref sa), .val (.int sf), .val (.int st), .val (.int kd), .val (.ref ko), .unset] []))
            refine GoesW.step (fun _ k => XS.aload X20.here hx rfl (hb hby at_345) rfl rfl k) ?_
            show GoesW p.tables e below s (Q0 Z p0 p1 p2 p3 ca cl val h0 n0) room_1.cells room_1.slots (T20.setTop (mkF m 347 #[.val (.int p0), .val (.int p1), .val (.int p2), .val (.int p3), .val (.ref aa), .val (.ref bb), .val (.int fa), .val (.int ta), .val (.int fb), .val (.int tb), .val (.int bl), .val (.ref kx), .val (.ref sa), .val (.int sf), .val (.int st), .val (.int kd), .val (.ref ko), .unset] [(.ref ko)]))
            refine GoesW.step (fun _ k => XS.aload X20.here hx rfl (hb hby at_347) rfl rfl k) ?_
            show GoesW p.tables e below s (Q0 Z p0 p1 p2 p3 ca cl val h0 n0) room_1.cells room_1.slots (T20.setTop (mkF m 349 #[.val (.int p0), .val (.int p1), .val (.int p2), .val (.int p3), .val (.ref aa), .val (.ref bb), .val (.int fa), .val (.int ta), .val (.int fb), .val (.int tb), .val (.int bl), .val (.ref kx), .val (.ref sa), .val (.int sf), .val (.int st), .val (.int kd), .val (.ref ko), .unset] [(.ref bb), (.ref ko)]))
            refine GoesW.step (fun _ k => XS.iload X20.here hx rfl (hb hby at_349) rfl k) ?_
            show GoesW p.tables e below s (Q0 Z p0 p1 p2 p3 ca cl val h0 n0) room_1.cells room_1.slots (T20.setTop (mkF m 351 #[.val (.int p0), .val (.int p1), .val (.int p2), .val (.int p3), .val (.ref aa), .val (.ref bb), .val (.int fa), .val (.int ta), .val (.int fb), .val (.int tb), .val (.int bl), .val (.ref kx), .val (.ref sa), .val (.int sf), .val (.int st), .val (.int kd), .val (.ref ko), .unset] [(.int fb), (.ref bb), (.ref ko)]))
            refine GoesW.step (fun _ k => XS.iload X20.here hx rfl (hb hby at_351) rfl k) ?_
            show GoesW p.tables e below s (Q0 Z p0 p1 p2 p3 ca cl val h0 n0) room_1.cells room_1.slots (T20.setTop (mkF m 353 #[.val (.int p0), .val (.int p1), .val (.int p2), .val (.int p3), .val (.ref aa), .val (.ref bb), .val (.int fa), .val (.int ta), .val (.int fb), .val (.int tb), .val (.int bl), .val (.ref kx), .val (.ref sa), .val (.int sf), .val (.int st), .val (.int kd), .val (.ref ko), .unset] [(.int tb), (.int fb), (.ref bb), (.ref ko)]))
            have Exa_ko_21 := (A19.keep K20q)
            obtain ⟨cq22, kq22, q22a, q22b, q22c⟩ := isOf hZ rfl Exa_ko_21
            obtain ⟨_, _, ⟨T22, L22, k22, n22⟩, -, X22, ⟨Lc22, hQ22, l22, y22, z22⟩, st22⟩ := X20.virtualBack hx (y := (⟨"com/example/rankweave/rankweave/io/FieldBytes", "view", "([BII)V"⟩ : MethodName)) (z := (⟨"com/example/rankweave/rankweave/io/FieldBytes", "view", "([BII)V"⟩ : MethodName)) hown (mvT hZ (hw _ (List.mem_of_getElem? (i := 12) rfl))) (mvT hZ (hw _ (List.mem_of_getElem? (i := 13) rfl))) (notFace_of_selects (args := #[]) (mvT hZ (hw _ (List.mem_of_getElem? (i := 15) rfl)))) (mvT hZ (hw _ (List.mem_of_getElem? (i := 15) rfl))) (mvT hZ (hw _ (List.mem_of_getElem? (i := 14) rfl))) (by decide) (backOf (W := 0) (rm3 l Z a0 hw [] ko bb fb tb (.ref bq20) (.int (0 : Int32)) (.int (0 : Int32)) (.int (0 : Int32)) T20.heap n0 Z20 Exa_ko_21 g_ko Fa20 Fb20 Fc20 Fd20) hZ (hw _ (List.mem_of_getElem? (i := 16) rfl)) (hw _ (List.mem_of_getElem? (i := 3) rfl)) (by decide) (by decide)) q22a q22c (g := (mkF m 353 #[.val (.int p0), .val (.int p1), .val (.int p2), .val (.int p3), .val (.ref aa), .val (.ref bb), .val (.int fa), .val (.int ta), .val (.int fb), .val (.int tb), .val (.int bl), .val (.ref kx), .val (.ref sa), .val (.int sf), .val (.int st), .val (.int kd), .val (.ref ko), .unset] [(.int tb), (.int fb), (.ref bb), (.ref ko)])) rfl (by rw [hml]; rfl) (Steps.refl _) (argsL := [(.ref bb), (.int fb), (.int tb)]) (rest := []) (lenOf own_pd5 rfl) rfl (by show 2 * 0 + _ ≤ _; exact Nat.le_of_eq rfl) (hb hby at_353) (fun _ _ => ⟨rfl, rfl, (by decide : 7 + 0 ≤ _), (by decide : 18 + 0 ≤ _)⟩)
            dsimp only [Pt.U, Pt.locs, Pt.cells, Pt.slots] at X22 l22 y22 z22 st22 hQ22
            subst l22 y22 z22
            obtain ⟨rfl, N22q, K22q, Fa22, Fb22, Fc22⟩ := hQ22
            have N22 := Fr.app N20 N22q
            have Z22 : n0 ≤ T22.heap.size := Nat.le_trans Z20 K22q.1
            refine GoesW.step (fun _ k => st22.trans k) ?_
            show GoesW p.tables e below s (Q0 Z p0 p1 p2 p3 ca cl val h0 n0) room_1.cells room_1.slots (T22.setTop (mkF m 356 #[.val (.int p0), .val (.int p1), .val (.int p2), .val (.int p3), .val (.ref aa), .val (.ref bb), .val (.int fa), .val (.int ta), .val (.int fb), .val (.int tb), .val (.int bl), .val (.ref kx), .val (.ref sa), .val (.int sf), .val (.int st), .val (.int kd), .val (.ref ko), .unset] []))
            refine GoesW.step (fun _ k => XS.aload X22.here hx rfl (hb hby at_356) rfl rfl k) ?_
            show GoesW p.tables e below s (Q0 Z p0 p1 p2 p3 ca cl val h0 n0) room_1.cells room_1.slots (T22.setTop (mkF m 358 #[.val (.int p0), .val (.int p1), .val (.int p2), .val (.int p3), .val (.ref aa), .val (.ref bb), .val (.int fa), .val (.int ta), .val (.int fb), .val (.int tb), .val (.int bl), .val (.ref kx), .val (.ref sa), .val (.int sf), .val (.int st), .val (.int kd), .val (.ref ko), .unset] [(.ref sa)]))
            refine GoesW.step (fun _ k => XS.iload X22.here hx rfl (hb hby at_358) rfl k) ?_
            show GoesW p.tables e below s (Q0 Z p0 p1 p2 p3 ca cl val h0 n0) room_1.cells room_1.slots (T22.setTop (mkF m 360 #[.val (.int p0), .val (.int p1), .val (.int p2), .val (.int p3), .val (.ref aa), .val (.ref bb), .val (.int fa), .val (.int ta), .val (.int fb), .val (.int tb), .val (.int bl), .val (.ref kx), .val (.ref sa), .val (.int sf), .val (.int st), .val (.int kd), .val (.ref ko), .unset] [(.int sf), (.ref sa)]))
            refine GoesW.step (fun _ k => XS.iload X22.here hx rfl (hb hby at_360) rfl k) ?_
            show GoesW p.tables e below s (Q0 Z p0 p1 p2 p3 ca cl val h0 n0) room_1.cells room_1.slots (T22.setTop (mkF m 362 #[.val (.int p0), .val (.int p1), .val (.int p2), .val (.int p3), .val (.ref aa), .val (.ref bb), .val (.int fa), .val (.int ta), .val (.int fb), .val (.int tb), .val (.int bl), .val (.ref kx), .val (.ref sa), .val (.int sf), .val (.int st), .val (.int kd), .val (.ref ko), .unset] [(.int st), (.int sf), (.ref sa)]))
            refine GoesW.step (fun _ k => XS.aload X22.here hx rfl (hb hby at_362) rfl rfl k) ?_
            show GoesW p.tables e below s (Q0 Z p0 p1 p2 p3 ca cl val h0 n0) room_1.cells room_1.slots (T22.setTop (mkF m 364 #[.val (.int p0), .val (.int p1), .val (.int p2), .val (.int p3), .val (.ref aa), .val (.ref bb), .val (.int fa), .val (.int ta), .val (.int fb), .val (.int tb), .val (.int bl), .val (.ref kx), .val (.ref sa), .val (.int sf), .val (.int st), .val (.int kd), .val (.ref ko), .unset] [(.ref bb), (.int st), (.int sf), (.ref sa)]))
            refine GoesW.step (fun _ k => XS.iload X22.here hx rfl (hb hby at_364) rfl k) ?_
            show GoesW p.tables e below s (Q0 Z p0 p1 p2 p3 ca cl val h0 n0) room_1.cells room_1.slots (T22.setTop (mkF m 366 #[.val (.int p0), .val (.int p1), .val (.int p2), .val (.int p3), .val (.ref aa), .val (.ref bb), .val (.int fa), .val (.int ta), .val (.int fb), .val (.int tb), .val (.int bl), .val (.ref kx), .val (.ref sa), .val (.int sf), .val (.int st), .val (.int kd), .val (.ref ko), .unset] [(.int fb), (.ref bb), (.int st), (.int sf), (.ref sa)]))
            refine GoesW.step (fun _ k => XS.iload X22.here hx rfl (hb hby at_366) rfl k) ?_
            show GoesW p.tables e below s (Q0 Z p0 p1 p2 p3 ca cl val h0 n0) room_1.cells room_1.slots (T22.setTop (mkF m 368 #[.val (.int p0), .val (.int p1), .val (.int p2), .val (.int p3), .val (.ref aa), .val (.ref bb), .val (.int fa), .val (.int ta), .val (.int fb), .val (.int tb), .val (.int bl), .val (.ref kx), .val (.ref sa), .val (.int sf), .val (.int st), .val (.int kd), .val (.ref ko), .unset] [(.int tb), (.int fb), (.ref bb), (.int st), (.int sf), (.ref sa)]))
            have Arv_sa_23 := (((VKa.ext E19).keep K20q (ninS ne_sa_ko nin0)).keep K22q (ninS ne_sa_ko nin0))
            have Arv_bb_24 := (((VKb.ext E19).keep K20q (ninS ne_bb_ko nin0)).keep K22q (ninS ne_bb_ko nin0))
            obtain ⟨_, _, ⟨T25, L25, k25, n25⟩, -, X25, ⟨Lc25, hQ25, l25, y25, z25⟩, st25⟩ := Jvm.LawKit.callS X22 hx (y := (⟨"com/example/rankweave/rankweave/io/FieldBytesEqualsPinLaw", "sameBytes", "([BII[BII)Z"⟩ : MethodName)) hown (mvT hZ (hw _ (List.mem_of_getElem? (i := 55) rfl))) (mvT hZ (hw _ (List.mem_of_getElem? (i := 56) rfl))) (mvT hZ (hw _ (List.mem_of_getElem? (i := 57) rfl))) (mvT hZ (hw _ (List.mem_of_getElem? (i := 58) rfl))) (by decide) (backOf (W := 0) (rm8 l Z a0 hw [] sa sf st bb fb tb ks nn xs (.int (0 : Int32)) kb (4 : Int32) [b_0, b_1, b_2, b_3] (.int (0 : Int32)) T22.heap n0 Z22 Arv_sa_23 Arv_bb_24 hnn rfl sf0 sft stn nn4 fbB.1 mtb.2.1 mtb.2.2 (by decide)) hZ (hw _ (List.mem_of_getElem? (i := 58) rfl)) (hw _ (List.mem_of_getElem? (i := 57) rfl)) (by decide) (by decide)) (g := (mkF m 368 #[.val (.int p0), .val (.int p1), .val (.int p2), .val (.int p3), .val (.ref aa), .val (.ref bb), .val (.int fa), .val (.int ta), .val (.int fb), .val (.int tb), .val (.int bl), .val (.ref kx), .val (.ref sa), .val (.int sf), .val (.int st), .val (.int kd), .val (.ref ko), .unset] [(.int tb), (.int fb), (.ref bb), (.int st), (.int sf), (.ref sa)])) rfl (by rw [hml]; rfl) (argsL := [(.ref sa), (.int sf), (.int st), (.ref bb), (.int fb), (.int tb)]) (rest := []) (lenOf own_pd6 rfl) rfl (by show 2 * 0 + _ ≤ _; exact Nat.le_of_eq rfl) (hb hby at_368) (fun _ _ => ⟨rfl, rfl, (by decide : 7 + 0 ≤ _), (by decide : 18 + 0 ≤ _)⟩)
            dsimp only [Pt.U, Pt.locs, Pt.cells, Pt.slots] at X25 l25 y25 z25 st25 hQ25
            subst l25 y25 z25
            obtain ⟨rfl, N25q, eq25⟩ := hQ25
            have N25 := Fr.app N22 N25q
            refine GoesW.step st25 ?_
            show GoesW p.tables e below s (Q0 Z p0 p1 p2 p3 ca cl val h0 n0) room_1.cells room_1.slots (T25.setTop (mkF m 371 #[.val (.int p0), .val (.int p1), .val (.int p2), .val (.int p3), .val (.ref aa), .val (.ref bb), .val (.int fa), .val (.int ta), .val (.int fb), .val (.int tb), .val (.int bl), .val (.ref kx), .val (.ref sa), .val (.int sf), .val (.int st), .val (.int kd), .val (.ref ko), .unset] [(.int (own_sb xs [b_0, b_1, b_2, b_3] sf st fb tb))]))
            refine GoesW.step (fun _ k => XS.istore X25.here hx rfl (hb hby at_371) rfl (l' := #[.val (.int p0), .val (.int p1), .val (.int p2), .val (.int p3), .val (.ref aa), .val (.ref bb), .val (.int fa), .val (.int ta), .val (.int fb), .val (.int tb), .val (.int bl), .val (.ref kx), .val (.ref sa), .val (.int sf), .val (.int st), .val (.int kd), .val (.ref ko), .val (.int (own_sb xs [b_0, b_1, b_2, b_3] sf st fb tb))]) rfl k) ?_
            show GoesW p.tables e below s (Q0 Z p0 p1 p2 p3 ca cl val h0 n0) room_1.cells room_1.slots (T25.setTop (mkF m 373 #[.val (.int p0), .val (.int p1), .val (.int p2), .val (.int p3), .val (.ref aa), .val (.ref bb), .val (.int fa), .val (.int ta), .val (.int fb), .val (.int tb), .val (.int bl), .val (.ref kx), .val (.ref sa), .val (.int sf), .val (.int st), .val (.int kd), .val (.ref ko), .val (.int (own_sb xs [b_0, b_1, b_2, b_3] sf st fb tb))] []))
            refine GoesW.step (fun _ k => XS.aload X25.here hx rfl (hb hby at_373) rfl rfl k) ?_
            show GoesW p.tables e below s (Q0 Z p0 p1 p2 p3 ca cl val h0 n0) room_1.cells room_1.slots (T25.setTop (mkF m 375 #[.val (.int p0), .val (.int p1), .val (.int p2), .val (.int p3), .val (.ref aa), .val (.ref bb), .val (.int fa), .val (.int ta), .val (.int fb), .val (.int tb), .val (.int bl), .val (.ref kx), .val (.ref sa), .val (.int sf), .val (.int st), .val (.int kd), .val (.ref ko), .val (.int (own_sb xs [b_0, b_1, b_2, b_3] sf st fb tb))] [(.ref kx)]))
            refine GoesW.step (fun _ k => XS.aload X25.here hx rfl (hb hby at_375) rfl rfl k) ?_
            show GoesW p.tables e below s (Q0 Z p0 p1 p2 p3 ca cl val h0 n0) room_1.cells room_1.slots (T25.setTop (mkF m 377 #[.val (.int p0), .val (.int p1), .val (.int p2), .val (.int p3), .val (.ref aa), .val (.ref bb), .val (.int fa), .val (.int ta), .val (.int fb), .val (.int tb), .val (.int bl), .val (.ref kx), .val (.ref sa), .val (.int sf), .val (.int st), .val (.int kd), .val (.ref ko), .val (.int (own_sb xs [b_0, b_1, b_2, b_3] sf st fb tb))] [(.ref ko), (.ref kx)]))
            have Exa_ko_26 := (Exa_ko_21.keep K22q)
            have Fld_kx_bytes_27 := (((FK1.ext E19).keep K20q (ninS ne_kx_ko nin0)).keep K22q (ninS ne_kx_ko nin0))
            have Fld_kx_from_28 := (((FK2.ext E19).keep K20q (ninS ne_kx_ko nin0)).keep K22q (ninS ne_kx_ko nin0))
            have Fld_kx_to_29 := (((FK3.ext E19).keep K20q (ninS ne_kx_ko nin0)).keep K22q (ninS ne_kx_ko nin0))
            have Arv_sx_30 := (((VKx.ext E19).keep K20q (ninS ne_sx_ko nin0)).keep K22q (ninS ne_sx_ko nin0))
            have Exa_kx_32 := (((EK.ext E19).keep K20q).keep K22q)
            obtain ⟨cq31, kq31, q31a, q31b, q31c⟩ := isOf hZ eq25 Exa_kx_32
            obtain ⟨_, _, ⟨T31, L31, k31, n31⟩, -, X31, ⟨Lc31, hQ31, l31, y31, z31⟩, st31⟩ := X25.virtualBack hx (y := (⟨"com/example/rankweave/rankweave/io/FieldBytes", "equals", "(Ljava/lang/Object;)Z"⟩ : MethodName)) (z := (⟨"com/example/rankweave/rankweave/io/FieldBytes", "equals", "(Ljava/lang/Object;)Z"⟩ : MethodName)) hown (mvT hZ (hw _ (List.mem_of_getElem? (i := 23) rfl))) (mvT hZ (hw _ (List.mem_of_getElem? (i := 24) rfl))) (notFace_of_selects (args := #[]) (mvT hZ (hw _ (List.mem_of_getElem? (i := 26) rfl)))) (mvT hZ (hw _ (List.mem_of_getElem? (i := 26) rfl))) (mvT hZ (hw _ (List.mem_of_getElem? (i := 25) rfl))) (by decide) (backOf (W := 0) (rm4 l Z a0 hw [] kx ko sx sf st bb fb tb kq nn xs (.int (0 : Int32)) kb (4 : Int32) [b_0, b_1, b_2, b_3] (.int (0 : Int32)) T22.heap n0 Z22 Exa_ko_26 Fld_kx_bytes_27 Fld_kx_from_28 Fld_kx_to_29 Fa22 Fb22 Fc22 Arv_sx_30 Arv_bb_24 hnn rfl sf0 sft stn fbB.1 mtb.2.1 mtb.2.2) hZ (hw _ (List.mem_of_getElem? (i := 27) rfl)) (hw _ (List.mem_of_getElem? (i := 3) rfl)) (by decide) (by decide)) q31a q31c (g := (mkF m 377 #[.val (.int p0), .val (.int p1), .val (.int p2), .val (.int p3), .val (.ref aa), .val (.ref bb), .val (.int fa), .val (.int ta), .val (.int fb), .val (.int tb), .val (.int bl), .val (.ref kx), .val (.ref sa), .val (.int sf), .val (.int st), .val (.int kd), .val (.ref ko), .val (.int (own_sb xs [b_0, b_1, b_2, b_3] sf st fb tb))] [(.ref ko), (.ref kx)])) rfl (by rw [hml]; rfl) (Steps.refl _) (argsL := [(.ref ko)]) (rest := []) (lenOf own_pd4 rfl) rfl (by show 2 * 0 + _ ≤ _; exact Nat.le_of_eq rfl) (hb hby at_377) (fun _ _ => ⟨rfl, eq25, (by decide : 7 + 0 ≤ _), (by decide : 18 + 0 ≤ _)⟩)
            dsimp only [Pt.U, Pt.locs, Pt.cells, Pt.slots] at X31 l31 y31 z31 st31 hQ31
            subst l31 y31 z31
            obtain ⟨rfl, N31q, eq31⟩ := hQ31
            have N31 := Fr.app N25 N31q
            refine GoesW.step (fun _ k => st31.trans k) ?_
            show GoesW p.tables e below s (Q0 Z p0 p1 p2 p3 ca cl val h0 n0) room_1.cells room_1.slots (T31.setTop (mkF m 380 #[.val (.int p0), .val (.int p1), .val (.int p2), .val (.int p3), .val (.ref aa), .val (.ref bb), .val (.int fa), .val (.int ta), .val (.int fb), .val (.int tb), .val (.int bl), .val (.ref kx), .val (.ref sa), .val (.int sf), .val (.int st), .val (.int kd), .val (.ref ko), .val (.int (own_sb xs [b_0, b_1, b_2, b_3] sf st fb tb))] [(.int (own_eqv xs [b_0, b_1, b_2, b_3] sf st fb tb))]))
            refine GoesW.step (fun _ k => XS.iload X31.here hx rfl (hb hby at_380) rfl k) ?_
            show GoesW p.tables e below s (Q0 Z p0 p1 p2 p3 ca cl val h0 n0) room_1.cells room_1.slots (T31.setTop (mkF m 382 #[.val (.int p0), .val (.int p1), .val (.int p2), .val (.int p3), .val (.ref aa), .val (.ref bb), .val (.int fa), .val (.int ta), .val (.int fb), .val (.int tb), .val (.int bl), .val (.ref kx), .val (.ref sa), .val (.int sf), .val (.int st), .val (.int kd), .val (.ref ko), .val (.int (own_sb xs [b_0, b_1, b_2, b_3] sf st fb tb))] [(.int (own_sb xs [b_0, b_1, b_2, b_3] sf st fb tb)), (.int (own_eqv xs [b_0, b_1, b_2, b_3] sf st fb tb))]))
            refine GoesW.step (fun _ k => XS.icmpNo X31.here hx rfl (hb hby at_382) rfl (teq (own_same xs [b_0, b_1, b_2, b_3] sf st fb tb sf0 sft (Int.le_trans stn nn4) fbB.1 mtb.2.1 mtb.2.2)).2 k) ?_
            show GoesW p.tables e below s (Q0 Z p0 p1 p2 p3 ca cl val h0 n0) room_1.cells room_1.slots (T31.setTop (mkF m 385 #[.val (.int p0), .val (.int p1), .val (.int p2), .val (.int p3), .val (.ref aa), .val (.ref bb), .val (.int fa), .val (.int ta), .val (.int fb), .val (.int tb), .val (.int bl), .val (.ref kx), .val (.ref sa), .val (.int sf), .val (.int st), .val (.int kd), .val (.ref ko), .val (.int (own_sb xs [b_0, b_1, b_2, b_3] sf st fb tb))] []))
            refine GoesW.step (fun _ k => XS.iconst X31.here hx rfl (hb hby at_385) k) ?_
            show GoesW p.tables e below s (Q0 Z p0 p1 p2 p3 ca cl val h0 n0) room_1.cells room_1.slots (T31.setTop (mkF m 386 #[.val (.int p0), .val (.int p1), .val (.int p2), .val (.int p3), .val (.ref aa), .val (.ref bb), .val (.int fa), .val (.int ta), .val (.int fb), .val (.int tb), .val (.int bl), .val (.ref kx), .val (.ref sa), .val (.int sf), .val (.int st), .val (.int kd), .val (.ref ko), .val (.int (own_sb xs [b_0, b_1, b_2, b_3] sf st fb tb))] [(.int (1 : Int32))]))
            refine GoesW.step (fun _ k => XS.goto X31.here hx rfl (pc0 := 386) (pc' := 390) rfl (hb hby at_386) (by decide) (by decide) k) ?_
            show GoesW p.tables e below s (Q0 Z p0 p1 p2 p3 ca cl val h0 n0) room_1.cells room_1.slots (T31.setTop (mkF m 390 #[.val (.int p0), .val (.int p1), .val (.int p2), .val (.int p3), .val (.ref aa), .val (.ref bb), .val (.int fa), .val (.int ta), .val (.int fb), .val (.int tb), .val (.int bl), .val (.ref kx), .val (.ref sa), .val (.int sf), .val (.int st), .val (.int kd), .val (.ref ko), .val (.int (own_sb xs [b_0, b_1, b_2, b_3] sf st fb tb))] [(.int (1 : Int32))]))
            exact GoesW.retZ X31 hx hlk (t := .boolean) Bd.returns (by simp) rfl (hb hby at_390) (by show Q0 Z p0 p1 p2 p3 ca cl val h0 n0 _ T31.heap _; rw [eq31]; exact ⟨rfl, N31⟩) (by decide) (by decide)
    by_cases h244 : bl = (0 : Int32)
    · skip
      refine GoesW.step (fun _ k => XS.ifYes X12.here hx rfl (pc0 := 244) (pc' := 261) rfl (hb hby at_244) rfl ((if0 _ _).trans (teq h244).1) (by decide) (by decide) k) ?_
      show GoesW p.tables e below s (Q0 Z p0 p1 p2 p3 ca cl val h0 n0) room_1.cells room_1.slots (T12.setTop (mkF m 261 #[.val (.int p0), .val (.int p1), .val (.int p2), .val (.int p3), .val (.ref aa), .val (.ref bb), .val (.int fa), .val (.int ta), .val (.int fb), .val (.int tb), .val (.int bl), .val (.ref kx), .val (.ref aa), .val (.int fa), .val (.int ta), .unset, .unset, .unset] []))
      refine GoesW.step (fun _ k => XS.aload X12.here hx rfl (hb hby at_261) rfl rfl k) ?_
      show GoesW p.tables e below s (Q0 Z p0 p1 p2 p3 ca cl val h0 n0) room_1.cells room_1.slots (T12.setTop (mkF m 263 #[.val (.int p0), .val (.int p1), .val (.int p2), .val (.int p3), .val (.ref aa), .val (.ref bb), .val (.int fa), .val (.int ta), .val (.int fb), .val (.int tb), .val (.int bl), .val (.ref kx), .val (.ref aa), .val (.int fa), .val (.int ta), .unset, .unset, .unset] [(.ref kx)]))
      refine GoesW.step (fun _ k => XS.aload X12.here hx rfl (hb hby at_263) rfl rfl k) ?_
      show GoesW p.tables e below s (Q0 Z p0 p1 p2 p3 ca cl val h0 n0) room_1.cells room_1.slots (T12.setTop (mkF m 265 #[.val (.int p0), .val (.int p1), .val (.int p2), .val (.int p3), .val (.ref aa), .val (.ref bb), .val (.int fa), .val (.int ta), .val (.int fb), .val (.int tb), .val (.int bl), .val (.ref kx), .val (.ref aa), .val (.int fa), .val (.int ta), .unset, .unset, .unset] [(.ref aa), (.ref kx)]))
      refine GoesW.step (fun _ k => XS.iload X12.here hx rfl (hb hby at_265) rfl k) ?_
      show GoesW p.tables e below s (Q0 Z p0 p1 p2 p3 ca cl val h0 n0) room_1.cells room_1.slots (T12.setTop (mkF m 267 #[.val (.int p0), .val (.int p1), .val (.int p2), .val (.int p3), .val (.ref aa), .val (.ref bb), .val (.int fa), .val (.int ta), .val (.int fb), .val (.int tb), .val (.int bl), .val (.ref kx), .val (.ref aa), .val (.int fa), .val (.int ta), .unset, .unset, .unset] [(.int fa), (.ref aa), (.ref kx)]))
      refine GoesW.step (fun _ k => XS.iload X12.here hx rfl (hb hby at_267) rfl k) ?_
      show GoesW p.tables e below s (Q0 Z p0 p1 p2 p3 ca cl val h0 n0) room_1.cells room_1.slots (T12.setTop (mkF m 269 #[.val (.int p0), .val (.int p1), .val (.int p2), .val (.int p3), .val (.ref aa), .val (.ref bb), .val (.int fa), .val (.int ta), .val (.int fb), .val (.int tb), .val (.int bl), .val (.ref kx), .val (.ref aa), .val (.int fa), .val (.int ta), .unset, .unset, .unset] [(.int ta), (.int fa), (.ref aa), (.ref kx)]))
      have Exa_kx_33 := (A11.keep K12q)
      obtain ⟨cq34, kq34, q34a, q34b, q34c⟩ := isOf hZ rfl Exa_kx_33
      obtain ⟨_, _, ⟨T34, L34, k34, n34⟩, -, X34, ⟨Lc34, hQ34, l34, y34, z34⟩, st34⟩ := X12.virtualBack hx (y := (⟨"com/example/rankweave/rankweave/io/FieldBytes", "view", "([BII)V"⟩ : MethodName)) (z := (⟨"com/example/rankweave/rankweave/io/FieldBytes", "view", "([BII)V"⟩ : MethodName)) hown (mvT hZ (hw _ (List.mem_of_getElem? (i := 12) rfl))) (mvT hZ (hw _ (List.mem_of_getElem? (i := 13) rfl))) (notFace_of_selects (args := #[]) (mvT hZ (hw _ (List.mem_of_getElem? (i := 15) rfl)))) (mvT hZ (hw _ (List.mem_of_getElem? (i := 15) rfl))) (mvT hZ (hw _ (List.mem_of_getElem? (i := 14) rfl))) (by decide) (backOf (W := 0) (rm3 l Z a0 hw [] kx aa fa ta (.ref bq12) (.int (0 : Int32)) (.int (0 : Int32)) (.int (0 : Int32)) T12.heap n0 Z12 Exa_kx_33 g_kx Fa12 Fb12 Fc12 Fd12) hZ (hw _ (List.mem_of_getElem? (i := 16) rfl)) (hw _ (List.mem_of_getElem? (i := 3) rfl)) (by decide) (by decide)) q34a q34c (g := (mkF m 269 #[.val (.int p0), .val (.int p1), .val (.int p2), .val (.int p3), .val (.ref aa), .val (.ref bb), .val (.int fa), .val (.int ta), .val (.int fb), .val (.int tb), .val (.int bl), .val (.ref kx), .val (.ref aa), .val (.int fa), .val (.int ta), .unset, .unset, .unset] [(.int ta), (.int fa), (.ref aa), (.ref kx)])) rfl (by rw [hml]; rfl) (Steps.refl _) (argsL := [(.ref aa), (.int fa), (.int ta)]) (rest := []) (lenOf own_pd5 rfl) rfl (by show 2 * 0 + _ ≤ _; exact Nat.le_of_eq rfl) (hb hby at_269) (fun _ _ => ⟨rfl, rfl, (by decide : 4 + 0 ≤ _), (by decide : 13 + 0 ≤ _)⟩)
      dsimp only [Pt.U, Pt.locs, Pt.cells, Pt.slots] at X34 l34 y34 z34 st34 hQ34
      subst l34 y34 z34
      obtain ⟨rfl, N34q, K34q, Fa34, Fb34, Fc34⟩ := hQ34
      have N34 := Fr.app N12 N34q
      have Z34 : n0 ≤ T34.heap.size := Nat.le_trans Z12 K34q.1
      refine GoesW.step (fun _ k => st34.trans k) ?_
      show GoesW p.tables e below s (Q0 Z p0 p1 p2 p3 ca cl val h0 n0) room_1.cells room_1.slots (T34.setTop (mkF m 272 #[.val (.int p0), .val (.int p1), .val (.int p2), .val (.int p3), .val (.ref aa), .val (.ref bb), .val (.int fa), .val (.int ta), .val (.int fb), .val (.int tb), .val (.int bl), .val (.ref kx), .val (.ref aa), .val (.int fa), .val (.int ta), .unset, .unset, .unset] []))
      have Arv_aa_35 := (((VJa.ext E11).keep K12q (ninS ne_aa_kx nin0)).keep K34q (ninS ne_aa_kx nin0))
      have Old_36 := (((OJ.ext E11).keep K12q (allS g_kx all0)).keep K34q (allS g_kx all0))
      have Exa_kx_37 := (Exa_kx_33.keep K34q)
      have Arv_bb_38 := (((VJb.ext E11).keep K12q (ninS ne_bb_kx nin0)).keep K34q (ninS ne_bb_kx nin0))
      exact J272 _ _ T34.heap aa k1 aa k1 (4 : Int32) [a_0, a_1, a_2, a_3] fa ta (upS X34 (by decide) (by decide)) rfl N34 Z34 Old_36 Exa_kx_37 Fa34 Fb34 Fc34 Arv_aa_35 Arv_aa_35 Arv_bb_38 rfl faB.1 mta.2.1 mta.2.2 (by decide)
    · skip
      refine GoesW.step (fun _ k => XS.ifNo X12.here hx rfl (hb hby at_244) rfl ((if0 _ _).trans (feq h244).1) k) ?_
      show GoesW p.tables e below s (Q0 Z p0 p1 p2 p3 ca cl val h0 n0) room_1.cells room_1.slots (T12.setTop (mkF m 247 #[.val (.int p0), .val (.int p1), .val (.int p2), .val (.int p3), .val (.ref aa), .val (.ref bb), .val (.int fa), .val (.int ta), .val (.int fb), .val (.int tb), .val (.int bl), .val (.ref kx), .val (.ref aa), .val (.int fa), .val (.int ta), .unset, .unset, .unset] []))
      refine GoesW.step (fun _ k => XS.iconst X12.here hx rfl (hb hby at_247) k) ?_
      show GoesW p.tables e below s (Q0 Z p0 p1 p2 p3 ca cl val h0 n0) room_1.cells room_1.slots (T12.setTop (mkF m 248 #[.val (.int p0), .val (.int p1), .val (.int p2), .val (.int p3), .val (.ref aa), .val (.ref bb), .val (.int fa), .val (.int ta), .val (.int fb), .val (.int tb), .val (.int bl), .val (.ref kx), .val (.ref aa), .val (.int fa), .val (.int ta), .unset, .unset, .unset] [(.int (0 : Int32))]))
      obtain ⟨T39, h39, k39, X39, e39, E39, A39, st39⟩ := newP X12 hx hZ (hw _ (List.mem_of_getElem? (i := 0) rfl)) rfl (g := (mkF m 248 #[.val (.int p0), .val (.int p1), .val (.int p2), .val (.int p3), .val (.ref aa), .val (.ref bb), .val (.int fa), .val (.int ta), .val (.int fb), .val (.int tb), .val (.int bl), .val (.ref kx), .val (.ref aa), .val (.int fa), .val (.int ta), .unset, .unset, .unset] [(.int (0 : Int32))])) rfl (hb hby at_248) rfl (by decide) (cap := 0) (by decide) (by decide) (by decide) (by decide)
      obtain ⟨sz, gs39⟩ : ∃ z, z = T12.heap.size := ⟨_, rfl⟩
      rw [← gs39] at A39 st39
      have g_sz : n0 ≤ sz := Nat.le_trans Z12 (Nat.le_of_eq gs39.symm)
      have ne_aa_sz : aa ≠ sz := Nat.ne_of_lt (Nat.lt_of_lt_of_le ((VJa.ext E11).keep K12q (ninS ne_aa_kx nin0)).lt (Nat.le_of_eq gs39.symm))
      have ne_bb_sz : bb ≠ sz := Nat.ne_of_lt (Nat.lt_of_lt_of_le ((VJb.ext E11).keep K12q (ninS ne_bb_kx nin0)).lt (Nat.le_of_eq gs39.symm))
      have ne_kx_sz : kx ≠ sz := Nat.ne_of_lt (Nat.lt_of_lt_of_le (A11.keep K12q).lt (Nat.le_of_eq gs39.symm))
      have ne_bq12_sz : bq12 ≠ sz := Nat.ne_of_lt (Nat.lt_of_lt_of_le Vb12.lt (Nat.le_of_eq gs39.symm))
      have Z39 : n0 ≤ h39.size := Nat.le_trans Z12 E39.1
      have V_sz : Arv Z h39 sz k39 .byte (0 : Int32) [] (.int (0 : Int32)) := (Arv.new A39 (by decide))
      refine GoesW.step st39 ?_
      show GoesW p.tables e below s (Q0 Z p0 p1 p2 p3 ca cl val h0 n0) room_1.cells room_1.slots (T39.setTop (mkF m 250 #[.val (.int p0), .val (.int p1), .val (.int p2), .val (.int p3), .val (.ref aa), .val (.ref bb), .val (.int fa), .val (.int ta), .val (.int fb), .val (.int tb), .val (.int bl), .val (.ref kx), .val (.ref aa), .val (.int fa), .val (.int ta), .unset, .unset, .unset] [(.ref sz)]))
      refine GoesW.step (fun _ k => XS.astore X39.here hx rfl (hb hby at_250) rfl rfl (l' := #[.val (.int p0), .val (.int p1), .val (.int p2), .val (.int p3), .val (.ref aa), .val (.ref bb), .val (.int fa), .val (.int ta), .val (.int fb), .val (.int tb), .val (.int bl), .val (.ref kx), .val (.ref sz), .val (.int fa), .val (.int ta), .unset, .unset, .unset]) rfl k) ?_
      show GoesW p.tables e below s (Q0 Z p0 p1 p2 p3 ca cl val h0 n0) room_1.cells room_1.slots (T39.setTop (mkF m 252 #[.val (.int p0), .val (.int p1), .val (.int p2), .val (.int p3), .val (.ref aa), .val (.ref bb), .val (.int fa), .val (.int ta), .val (.int fb), .val (.int tb), .val (.int bl), .val (.ref kx), .val (.ref sz), .val (.int fa), .val (.int ta), .unset, .unset, .unset] []))
      refine GoesW.step (fun _ k => XS.iconst X39.here hx rfl (hb hby at_252) k) ?_
      show GoesW p.tables e below s (Q0 Z p0 p1 p2 p3 ca cl val h0 n0) room_1.cells room_1.slots (T39.setTop (mkF m 253 #[.val (.int p0), .val (.int p1), .val (.int p2), .val (.int p3), .val (.ref aa), .val (.ref bb), .val (.int fa), .val (.int ta), .val (.int fb), .val (.int tb), .val (.int bl), .val (.ref kx), .val (.ref sz), .val (.int fa), .val (.int ta), .unset, .unset, .unset] [(.int (0 : Int32))]))
      refine GoesW.step (fun _ k => XS.istore X39.here hx rfl (hb hby at_253) rfl (l' := #[.val (.int p0), .val (.int p1), .val (.int p2), .val (.int p3), .val (.ref aa), .val (.ref bb), .val (.int fa), .val (.int ta), .val (.int fb), .val (.int tb), .val (.int bl), .val (.ref kx), .val (.ref sz), .val (.int (0 : Int32)), .val (.int ta), .unset, .unset, .unset]) rfl k) ?_
      show GoesW p.tables e below s (Q0 Z p0 p1 p2 p3 ca cl val h0 n0) room_1.cells room_1.slots (T39.setTop (mkF m 255 #[.val (.int p0), .val (.int p1), .val (.int p2), .val (.int p3), .val (.ref aa), .val (.ref bb), .val (.int fa), .val (.int ta), .val (.int fb), .val (.int tb), .val (.int bl), .val (.ref kx), .val (.ref sz), .val (.int (0 : Int32)), .val (.int ta), .unset, .unset, .unset] []))
      refine GoesW.step (fun _ k => XS.iconst X39.here hx rfl (hb hby at_255) k) ?_
      show GoesW p.tables e below s (Q0 Z p0 p1 p2 p3 ca cl val h0 n0) room_1.cells room_1.slots (T39.setTop (mkF m 256 #[.val (.int p0), .val (.int p1), .val (.int p2), .val (.int p3), .val (.ref aa), .val (.ref bb), .val (.int fa), .val (.int ta), .val (.int fb), .val (.int tb), .val (.int bl), .val (.ref kx), .val (.ref sz), .val (.int (0 : Int32)), .val (.int ta), .unset, .unset, .unset] [(.int (0 : Int32))]))
      refine GoesW.step (fun _ k => XS.istore X39.here hx rfl (hb hby at_256) rfl (l' := #[.val (.int p0), .val (.int p1), .val (.int p2), .val (.int p3), .val (.ref aa), .val (.ref bb), .val (.int fa), .val (.int ta), .val (.int fb), .val (.int tb), .val (.int bl), .val (.ref kx), .val (.ref sz), .val (.int (0 : Int32)), .val (.int (0 : Int32)), .unset, .unset, .unset]) rfl k) ?_
      show GoesW p.tables e below s (Q0 Z p0 p1 p2 p3 ca cl val h0 n0) room_1.cells room_1.slots (T39.setTop (mkF m 258 #[.val (.int p0), .val (.int p1), .val (.int p2), .val (.int p3), .val (.ref aa), .val (.ref bb), .val (.int fa), .val (.int ta), .val (.int fb), .val (.int tb), .val (.int bl), .val (.ref kx), .val (.ref sz), .val (.int (0 : Int32)), .val (.int (0 : Int32)), .unset, .unset, .unset] []))
      refine GoesW.step (fun _ k => XS.goto X39.here hx rfl (pc0 := 258) (pc' := 272) rfl (hb hby at_258) (by decide) (by decide) k) ?_
      show GoesW p.tables e below s (Q0 Z p0 p1 p2 p3 ca cl val h0 n0) room_1.cells room_1.slots (T39.setTop (mkF m 272 #[.val (.int p0), .val (.int p1), .val (.int p2), .val (.int p3), .val (.ref aa), .val (.ref bb), .val (.int fa), .val (.int ta), .val (.int fb), .val (.int tb), .val (.int bl), .val (.ref kx), .val (.ref sz), .val (.int (0 : Int32)), .val (.int (0 : Int32)), .unset, .unset, .unset] []))
      have Old_40 := (((OJ.ext E11).keep K12q (allS g_kx all0)).ext E39)
      have Exa_kx_41 := ((A11.keep K12q).ext E39)
      have Fld_kx_bytes_42 := (Fa12.ext E39)
      have Fld_kx_from_43 := (Fb12.ext E39)
      have Fld_kx_to_44 := (Fc12.ext E39)
      have Arv_bq12_45 := (Vb12.ext E39)
      have Arv_bb_46 := (((VJb.ext E11).keep K12q (ninS ne_bb_kx nin0)).ext E39)
      exact J272 _ _ h39 bq12 kb12 sz k39 (0 : Int32) [] (0 : Int32) (0 : Int32) X39 e39 N12 Z39 Old_40 Exa_kx_41 Fld_kx_bytes_42 Fld_kx_from_43 Fld_kx_to_44 Arv_bq12_45 V_sz Arv_bb_46 rfl (by decide) (by decide) (by decide) (by decide)
  by_cases h42 : ((p3 >>> ((7 : Int32) &&& 31)) &&& (1 : Int32)) = (0 : Int32)
  · skip
    refine GoesW.step (fun _ k => XS.ifYes X9.here hx rfl (pc0 := 44) (pc' := 54) rfl (hb hby at_44) rfl ((if0 _ _).trans (teq h42).1) (by decide) (by decide) k) ?_
    show GoesW p.tables e below s (Q0 Z p0 p1 p2 p3 ca cl val h0 n0) room_1.cells room_1.slots (T9.setTop (mkF m 54 #[.val (.int p0), .val (.int p1), .val (.int p2), .val (.int p3), .val (.ref aa), .unset, .unset, .unset, .unset, .unset, .unset, .unset, .unset, .unset, .unset, .unset, .unset, .unset] []))
    refine GoesW.step (fun _ k => XS.iconst X9.here hx rfl (hb hby at_54) k) ?_
    show GoesW p.tables e below s (Q0 Z p0 p1 p2 p3 ca cl val h0 n0) room_1.cells room_1.slots (T9.setTop (mkF m 55 #[.val (.int p0), .val (.int p1), .val (.int p2), .val (.int p3), .val (.ref aa), .unset, .unset, .unset, .unset, .unset, .unset, .unset, .unset, .unset, .unset, .unset, .unset, .unset] [(.int (4 : Int32))]))
    obtain ⟨T47, h47, k47, X47, e47, E47, A47, st47⟩ := newP X9 hx hZ (hw _ (List.mem_of_getElem? (i := 0) rfl)) e9 (g := (mkF m 55 #[.val (.int p0), .val (.int p1), .val (.int p2), .val (.int p3), .val (.ref aa), .unset, .unset, .unset, .unset, .unset, .unset, .unset, .unset, .unset, .unset, .unset, .unset, .unset] [(.int (4 : Int32))])) rfl (hb hby at_55) rfl (by decide) (cap := 4) (by decide) (by decide) (by decide) (by decide)
    obtain ⟨nb_, gs47⟩ : ∃ z, z = h9.size := ⟨_, rfl⟩
    rw [← gs47] at A47 st47
    have g_nb_ : n0 ≤ nb_ := Nat.le_trans Z9 (Nat.le_of_eq gs47.symm)
    have ne_aa_nb_ : aa ≠ nb_ := Nat.ne_of_lt (Nat.lt_of_lt_of_le V9.lt (Nat.le_of_eq gs47.symm))
    have Z47 : n0 ≤ h47.size := Nat.le_trans Z9 E47.1
    have V_nb_ : Arv Z h47 nb_ k47 .byte (4 : Int32) [(.int (0 : Int32)), (.int (0 : Int32)), (.int (0 : Int32)), (.int (0 : Int32))] (.int (0 : Int32)) := (Arv.new A47 (by decide)).pad (pad_rep [] (.int (0 : Int32)) 4)
    refine GoesW.step st47 ?_
    show GoesW p.tables e below s (Q0 Z p0 p1 p2 p3 ca cl val h0 n0) room_1.cells room_1.slots (T47.setTop (mkF m 57 #[.val (.int p0), .val (.int p1), .val (.int p2), .val (.int p3), .val (.ref aa), .unset, .unset, .unset, .unset, .unset, .unset, .unset, .unset, .unset, .unset, .unset, .unset, .unset] [(.ref nb_)]))
    refine GoesW.step (fun _ k => XS.astore X47.here hx rfl (hb hby at_57) rfl rfl (l' := #[.val (.int p0), .val (.int p1), .val (.int p2), .val (.int p3), .val (.ref aa), .val (.ref nb_), .unset, .unset, .unset, .unset, .unset, .unset, .unset, .unset, .unset, .unset, .unset, .unset]) rfl k) ?_
    show GoesW p.tables e below s (Q0 Z p0 p1 p2 p3 ca cl val h0 n0) room_1.cells room_1.slots (T47.setTop (mkF m 59 #[.val (.int p0), .val (.int p1), .val (.int p2), .val (.int p3), .val (.ref aa), .val (.ref nb_), .unset, .unset, .unset, .unset, .unset, .unset, .unset, .unset, .unset, .unset, .unset, .unset] []))
    refine GoesW.step (fun _ k => XS.aload X47.here hx rfl (hb hby at_59) rfl rfl k) ?_
    show GoesW p.tables e below s (Q0 Z p0 p1 p2 p3 ca cl val h0 n0) room_1.cells room_1.slots (T47.setTop (mkF m 61 #[.val (.int p0), .val (.int p1), .val (.int p2), .val (.int p3), .val (.ref aa), .val (.ref nb_), .unset, .unset, .unset, .unset, .unset, .unset, .unset, .unset, .unset, .unset, .unset, .unset] [(.ref nb_)]))
    refine GoesW.step (fun _ k => XS.iconst X47.here hx rfl (hb hby at_61) k) ?_
    show GoesW p.tables e below s (Q0 Z p0 p1 p2 p3 ca cl val h0 n0) room_1.cells room_1.slots (T47.setTop (mkF m 62 #[.val (.int p0), .val (.int p1), .val (.int p2), .val (.int p3), .val (.ref aa), .val (.ref nb_), .unset, .unset, .unset, .unset, .unset, .unset, .unset, .unset, .unset, .unset, .unset, .unset] [(.int (0 : Int32)), (.ref nb_)]))
    refine GoesW.step (fun _ k => XS.iloadN X47.here hx rfl (hb hby at_62) rfl k) ?_
    show GoesW p.tables e below s (Q0 Z p0 p1 p2 p3 ca cl val h0 n0) room_1.cells room_1.slots (T47.setTop (mkF m 63 #[.val (.int p0), .val (.int p1), .val (.int p2), .val (.int p3), .val (.ref aa), .val (.ref nb_), .unset, .unset, .unset, .unset, .unset, .unset, .unset, .unset, .unset, .unset, .unset, .unset] [(.int p3), (.int (0 : Int32)), (.ref nb_)]))
    refine GoesW.step (fun _ k => XS.iconst X47.here hx rfl (hb hby at_63) k) ?_
    show GoesW p.tables e below s (Q0 Z p0 p1 p2 p3 ca cl val h0 n0) room_1.cells room_1.slots (T47.setTop (mkF m 64 #[.val (.int p0), .val (.int p1), .val (.int p2), .val (.int p3), .val (.ref aa), .val (.ref nb_), .unset, .unset, .unset, .unset, .unset, .unset, .unset, .unset, .unset, .unset, .unset, .unset] [(.int (3 : Int32)), (.int p3), (.int (0 : Int32)), (.ref nb_)]))
    refine GoesW.step (fun _ k => XS.ishr X47.here hx rfl (hb hby at_64) rfl k) ?_
    show GoesW p.tables e below s (Q0 Z p0 p1 p2 p3 ca cl val h0 n0) room_1.cells room_1.slots (T47.setTop (mkF m 65 #[.val (.int p0), .val (.int p1), .val (.int p2), .val (.int p3), .val (.ref aa), .val (.ref nb_), .unset, .unset, .unset, .unset, .unset, .unset, .unset, .unset, .unset, .unset, .unset, .unset] [(.int (p3 >>> ((3 : Int32) &&& 31))), (.int (0 : Int32)), (.ref nb_)]))
    refine GoesW.step (fun _ k => XS.iconst X47.here hx rfl (hb hby at_65) k) ?_
    show GoesW p.tables e below s (Q0 Z p0 p1 p2 p3 ca cl val h0 n0) room_1.cells room_1.slots (T47.setTop (mkF m 66 #[.val (.int p0), .val (.int p1), .val (.int p2), .val (.int p3), .val (.ref aa), .val (.ref nb_), .unset, .unset, .unset, .unset, .unset, .unset, .unset, .unset, .unset, .unset, .unset, .unset] [(.int (1 : Int32)), (.int (p3 >>> ((3 : Int32) &&& 31))), (.int (0 : Int32)), (.ref nb_)]))
    refine GoesW.step (fun _ k => XS.iand X47.here hx rfl (hb hby at_66) rfl k) ?_
    show GoesW p.tables e below s (Q0 Z p0 p1 p2 p3 ca cl val h0 n0) room_1.cells room_1.slots (T47.setTop (mkF m 67 #[.val (.int p0), .val (.int p1), .val (.int p2), .val (.int p3), .val (.ref aa), .val (.ref nb_), .unset, .unset, .unset, .unset, .unset, .unset, .unset, .unset, .unset, .unset, .unset, .unset] [(.int ((p3 >>> ((3 : Int32) &&& 31)) &&& (1 : Int32))), (.int (0 : Int32)), (.ref nb_)]))
    have J79 : ∀ (TJ48 : State) (LJ48 : List Loc) (w0 : Int32), Stand p l e room_1 s m #[(.int p0), (.int p1), (.int p2), (.int p3)] below meth c TJ48 LJ48 2 8 → TJ48.heap = h47 → Fr n0 LJ48 → GoesW p.tables e below s (Q0 Z p0 p1 p2 p3 ca cl val h0 n0) room_1.cells room_1.slots (TJ48.setTop (mkF m 79 #[.val (.int p0), .val (.int p1), .val (.int p2), .val (.int p3), .val (.ref aa), .val (.ref nb_), .unset, .unset, .unset, .unset, .unset, .unset, .unset, .unset, .unset, .unset, .unset, .unset] [(.int w0), (.int (0 : Int32)), (.ref nb_)])) := by
      intro TJ48 LJ48 w0 XJ48 eJ48 NJ48 
      show GoesW p.tables e below s (Q0 Z p0 p1 p2 p3 ca cl val h0 n0) room_1.cells room_1.slots (TJ48.setTop (mkF m 79 #[.val (.int p0), .val (.int p1), .val (.int p2), .val (.int p3), .val (.ref aa), .val (.ref nb_), .unset, .unset, .unset, .unset, .unset, .unset, .unset, .unset, .unset, .unset, .unset, .unset] [(.int w0), (.int (0 : Int32)), (.ref nb_)]))
      have vv49 := V_nb_
      obtain ⟨cl49, Ar49, aq49, aS49, aN49, aH49, aG49⟩ := vv49
      have hin49 : ¬ ((0 : Int32) < 0 ∨ cl49.slots.size ≤ ((0 : Int32)).toNatClampNeg) := inb_of aS49 ⟨by decide, by decide⟩
      obtain ⟨T50, h50, X50, e50, W50, st50⟩ := stB XJ48 hx hZ eJ48 Ar49 (j := (0 : Int32)) hin49 (g := (mkF m 79 #[.val (.int p0), .val (.int p1), .val (.int p2), .val (.int p3), .val (.ref aa), .val (.ref nb_), .unset, .unset, .unset, .unset, .unset, .unset, .unset, .unset, .unset, .unset, .unset, .unset] [(.int w0), (.int (0 : Int32)), (.ref nb_)])) rfl rfl (hb hby at_79)
      obtain ⟨y_0, hy_0⟩ : ∃ z : Int32, z = nar .byte w0 := ⟨_, rfl⟩
      rw [← hy_0] at W50
      have fy_0 : fits .byte (.int y_0) = true := by rw [hy_0]; exact fits_nar_byte _
      have V50 : Arv Z h50 nb_ k47 .byte (4 : Int32) [(.int y_0), (.int (0 : Int32)), (.int (0 : Int32)), (.int (0 : Int32))] (.int (0 : Int32)) := Arv.set Ar49 aq49 aS49 aN49 aH49 aG49 fy_0 W50 0 rfl (Nat.le_of_ble_eq_true rfl)
      have N50 := Fr.snoc X50 NJ48 g_nb_
      have Z50 : n0 ≤ h50.size := Nat.le_trans Z47 (Keep.of_wr W50).1
      refine GoesW.step st50 ?_
      show GoesW p.tables e below s (Q0 Z p0 p1 p2 p3 ca cl val h0 n0) room_1.cells room_1.slots (T50.setTop (mkF m 80 #[.val (.int p0), .val (.int p1), .val (.int p2), .val (.int p3), .val (.ref aa), .val (.ref nb_), .unset, .unset, .unset, .unset, .unset, .unset, .unset, .unset, .unset, .unset, .unset, .unset] []))
      refine GoesW.step (fun _ k => XS.aload X50.here hx rfl (hb hby at_80) rfl rfl k) ?_
      show GoesW p.tables e below s (Q0 Z p0 p1 p2 p3 ca cl val h0 n0) room_1.cells room_1.slots (T50.setTop (mkF m 82 #[.val (.int p0), .val (.int p1), .val (.int p2), .val (.int p3), .val (.ref aa), .val (.ref nb_), .unset, .unset, .unset, .unset, .unset, .unset, .unset, .unset, .unset, .unset, .unset, .unset] [(.ref nb_)]))
      refine GoesW.step (fun _ k => XS.iconst X50.here hx rfl (hb hby at_82) k) ?_
      show GoesW p.tables e below s (Q0 Z p0 p1 p2 p3 ca cl val h0 n0) room_1.cells room_1.slots (T50.setTop (mkF m 83 #[.val (.int p0), .val (.int p1), .val (.int p2), .val (.int p3), .val (.ref aa), .val (.ref nb_), .unset, .unset, .unset, .unset, .unset, .unset, .unset, .unset, .unset, .unset, .unset, .unset] [(.int (1 : Int32)), (.ref nb_)]))
      refine GoesW.step (fun _ k => XS.iloadN X50.here hx rfl (hb hby at_83) rfl k) ?_
      show GoesW p.tables e below s (Q0 Z p0 p1 p2 p3 ca cl val h0 n0) room_1.cells room_1.slots (T50.setTop (mkF m 84 #[.val (.int p0), .val (.int p1), .val (.int p2), .val (.int p3), .val (.ref aa), .val (.ref nb_), .unset, .unset, .unset, .unset, .unset, .unset, .unset, .unset, .unset, .unset, .unset, .unset] [(.int p3), (.int (1 : Int32)), (.ref nb_)]))
      refine GoesW.step (fun _ k => XS.iconst X50.here hx rfl (hb hby at_84) k) ?_
      show GoesW p.tables e below s (Q0 Z p0 p1 p2 p3 ca cl val h0 n0) room_1.cells room_1.slots (T50.setTop (mkF m 85 #[.val (.int p0), .val (.int p1), .val (.int p2), .val (.int p3), .val (.ref aa), .val (.ref nb_), .unset, .unset, .unset, .unset, .unset, .unset, .unset, .unset, .unset, .unset, .unset, .unset] [(.int (4 : Int32)), (.int p3), (.int (1 : Int32)), (.ref nb_)]))
      refine GoesW.step (fun _ k => XS.ishr X50.here hx rfl (hb hby at_85) rfl k) ?_
      show GoesW p.tables e below s (Q0 Z p0 p1 p2 p3 ca cl val h0 n0) room_1.cells room_1.slots (T50.setTop (mkF m 86 #[.val (.int p0), .val (.int p1), .val (.int p2), .val (.int p3), .val (.ref aa), .val (.ref nb_), .unset, .unset, .unset, .unset, .unset, .unset, .unset, .unset, .unset, .unset, .unset, .unset] [(.int (p3 >>> ((4 : Int32) &&& 31))), (.int (1 : Int32)), (.ref nb_)]))
      refine GoesW.step (fun _ k => XS.iconst X50.here hx rfl (hb hby at_86) k) ?_
      show GoesW p.tables e below s (Q0 Z p0 p1 p2 p3 ca cl val h0 n0) room_1.cells room_1.slots (T50.setTop (mkF m 87 #[.val (.int p0), .val (.int p1), .val (.int p2), .val (.int p3), .val (.ref aa), .val (.ref nb_), .unset, .unset, .unset, .unset, .unset, .unset, .unset, .unset, .unset, .unset, .unset, .unset] [(.int (1 : Int32)), (.int (p3 >>> ((4 : Int32) &&& 31))), (.int (1 : Int32)), (.ref nb_)]))
      refine GoesW.step (fun _ k => XS.iand X50.here hx rfl (hb hby at_87) rfl k) ?_
      show GoesW p.tables e below s (Q0 Z p0 p1 p2 p3 ca cl val h0 n0) room_1.cells room_1.slots (T50.setTop (mkF m 88 #[.val (.int p0), .val (.int p1), .val (.int p2), .val (.int p3), .val (.ref aa), .val (.ref nb_), .unset, .unset, .unset, .unset, .unset, .unset, .unset, .unset, .unset, .unset, .unset, .unset] [(.int ((p3 >>> ((4 : Int32) &&& 31)) &&& (1 : Int32))), (.int (1 : Int32)), (.ref nb_)]))
      have J103 : ∀ (TJ51 : State) (LJ51 : List Loc) (w1 : Int32), Stand p l e room_1 s m #[(.int p0), (.int p1), (.int p2), (.int p3)] below meth c TJ51 LJ51 2 8 → TJ51.heap = h50 → Fr n0 LJ51 → GoesW p.tables e below s (Q0 Z p0 p1 p2 p3 ca cl val h0 n0) room_1.cells room_1.slots (TJ51.setTop (mkF m 103 #[.val (.int p0), .val (.int p1), .val (.int p2), .val (.int p3), .val (.ref aa), .val (.ref nb_), .unset, .unset, .unset, .unset, .unset, .unset, .unset, .unset, .unset, .unset, .unset, .unset] [(.int w1), (.int (1 : Int32)), (.ref nb_)])) := by
        intro TJ51 LJ51 w1 XJ51 eJ51 NJ51 
        show GoesW p.tables e below s (Q0 Z p0 p1 p2 p3 ca cl val h0 n0) room_1.cells room_1.slots (TJ51.setTop (mkF m 103 #[.val (.int p0), .val (.int p1), .val (.int p2), .val (.int p3), .val (.ref aa), .val (.ref nb_), .unset, .unset, .unset, .unset, .unset, .unset, .unset, .unset, .unset, .unset, .unset, .unset] [(.int w1), (.int (1 : Int32)), (.ref nb_)]))
        have vv52 := V50
        obtain ⟨cl52, Ar52, aq52, aS52, aN52, aH52, aG52⟩ := vv52
        have hin52 : ¬ ((1 : Int32) < 0 ∨ cl52.slots.size ≤ ((1 : Int32)).toNatClampNeg) := inb_of aS52 ⟨by decide, by decide⟩
        obtain ⟨T53, h53, X53, e53, W53, st53⟩ := stB XJ51 hx hZ eJ51 Ar52 (j := (1 : Int32)) hin52 (g := (mkF m 103 #[.val (.int p0), .val (.int p1), .val (.int p2), .val (.int p3), .val (.ref aa), .val (.ref nb_), .unset, .unset, .unset, .unset, .unset, .unset, .unset, .unset, .unset, .unset, .unset, .unset] [(.int w1), (.int (1 : Int32)), (.ref nb_)])) rfl rfl (hb hby at_103)
        obtain ⟨y_1, hy_1⟩ : ∃ z : Int32, z = nar .byte w1 := ⟨_, rfl⟩
        rw [← hy_1] at W53
        have fy_1 : fits .byte (.int y_1) = true := by rw [hy_1]; exact fits_nar_byte _
        have V53 : Arv Z h53 nb_ k47 .byte (4 : Int32) [(.int y_0), (.int y_1), (.int (0 : Int32)), (.int (0 : Int32))] (.int (0 : Int32)) := Arv.set Ar52 aq52 aS52 aN52 aH52 aG52 fy_1 W53 1 rfl (Nat.le_of_ble_eq_true rfl)
        have N53 := Fr.snoc X53 NJ51 g_nb_
        have Z53 : n0 ≤ h53.size := Nat.le_trans Z50 (Keep.of_wr W53).1
        refine GoesW.step st53 ?_
        show GoesW p.tables e below s (Q0 Z p0 p1 p2 p3 ca cl val h0 n0) room_1.cells room_1.slots (T53.setTop (mkF m 104 #[.val (.int p0), .val (.int p1), .val (.int p2), .val (.int p3), .val (.ref aa), .val (.ref nb_), .unset, .unset, .unset, .unset, .unset, .unset, .unset, .unset, .unset, .unset, .unset, .unset] []))
        refine GoesW.step (fun _ k => XS.aload X53.here hx rfl (hb hby at_104) rfl rfl k) ?_
        show GoesW p.tables e below s (Q0 Z p0 p1 p2 p3 ca cl val h0 n0) room_1.cells room_1.slots (T53.setTop (mkF m 106 #[.val (.int p0), .val (.int p1), .val (.int p2), .val (.int p3), .val (.ref aa), .val (.ref nb_), .unset, .unset, .unset, .unset, .unset, .unset, .unset, .unset, .unset, .unset, .unset, .unset] [(.ref nb_)]))
        refine GoesW.step (fun _ k => XS.iconst X53.here hx rfl (hb hby at_106) k) ?_
        show GoesW p.tables e below s (Q0 Z p0 p1 p2 p3 ca cl val h0 n0) room_1.cells room_1.slots (T53.setTop (mkF m 107 #[.val (.int p0), .val (.int p1), .val (.int p2), .val (.int p3), .val (.ref aa), .val (.ref nb_), .unset, .unset, .unset, .unset, .unset, .unset, .unset, .unset, .unset, .unset, .unset, .unset] [(.int (2 : Int32)), (.ref nb_)]))
        refine GoesW.step (fun _ k => XS.iloadN X53.here hx rfl (hb hby at_107) rfl k) ?_
        show GoesW p.tables e below s (Q0 Z p0 p1 p2 p3 ca cl val h0 n0) room_1.cells room_1.slots (T53.setTop (mkF m 108 #[.val (.int p0), .val (.int p1), .val (.int p2), .val (.int p3), .val (.ref aa), .val (.ref nb_), .unset, .unset, .unset, .unset, .unset, .unset, .unset, .unset, .unset, .unset, .unset, .unset] [(.int p3), (.int (2 : Int32)), (.ref nb_)]))
        refine GoesW.step (fun _ k => XS.iconst X53.here hx rfl (hb hby at_108) k) ?_
        show GoesW p.tables e below s (Q0 Z p0 p1 p2 p3 ca cl val h0 n0) room_1.cells room_1.slots (T53.setTop (mkF m 109 #[.val (.int p0), .val (.int p1), .val (.int p2), .val (.int p3), .val (.ref aa), .val (.ref nb_), .unset, .unset, .unset, .unset, .unset, .unset, .unset, .unset, .unset, .unset, .unset, .unset] [(.int (5 : Int32)), (.int p3), (.int (2 : Int32)), (.ref nb_)]))
        refine GoesW.step (fun _ k => XS.ishr X53.here hx rfl (hb hby at_109) rfl k) ?_
        show GoesW p.tables e below s (Q0 Z p0 p1 p2 p3 ca cl val h0 n0) room_1.cells room_1.slots (T53.setTop (mkF m 110 #[.val (.int p0), .val (.int p1), .val (.int p2), .val (.int p3), .val (.ref aa), .val (.ref nb_), .unset, .unset, .unset, .unset, .unset, .unset, .unset, .unset, .unset, .unset, .unset, .unset] [(.int (p3 >>> ((5 : Int32) &&& 31))), (.int (2 : Int32)), (.ref nb_)]))
        refine GoesW.step (fun _ k => XS.iconst X53.here hx rfl (hb hby at_110) k) ?_
        show GoesW p.tables e below s (Q0 Z p0 p1 p2 p3 ca cl val h0 n0) room_1.cells room_1.slots (T53.setTop (mkF m 111 #[.val (.int p0), .val (.int p1), .val (.int p2), .val (.int p3), .val (.ref aa), .val (.ref nb_), .unset, .unset, .unset, .unset, .unset, .unset, .unset, .unset, .unset, .unset, .unset, .unset] [(.int (1 : Int32)), (.int (p3 >>> ((5 : Int32) &&& 31))), (.int (2 : Int32)), (.ref nb_)]))
        refine GoesW.step (fun _ k => XS.iand X53.here hx rfl (hb hby at_111) rfl k) ?_
        show GoesW p.tables e below s (Q0 Z p0 p1 p2 p3 ca cl val h0 n0) room_1.cells room_1.slots (T53.setTop (mkF m 112 #[.val (.int p0), .val (.int p1), .val (.int p2), .val (.int p3), .val (.ref aa), .val (.ref nb_), .unset, .unset, .unset, .unset, .unset, .unset, .unset, .unset, .unset, .unset, .unset, .unset] [(.int ((p3 >>> ((5 : Int32) &&& 31)) &&& (1 : Int32))), (.int (2 : Int32)), (.ref nb_)]))
        have J127 : ∀ (TJ54 : State) (LJ54 : List Loc) (w2 : Int32), Stand p l e room_1 s m #[(.int p0), (.int p1), (.int p2), (.int p3)] below meth c TJ54 LJ54 2 8 → TJ54.heap = h53 → Fr n0 LJ54 → GoesW p.tables e below s (Q0 Z p0 p1 p2 p3 ca cl val h0 n0) room_1.cells room_1.slots (TJ54.setTop (mkF m 127 #[.val (.int p0), .val (.int p1), .val (.int p2), .val (.int p3), .val (.ref aa), .val (.ref nb_), .unset, .unset, .unset, .unset, .unset, .unset, .unset, .unset, .unset, .unset, .unset, .unset] [(.int w2), (.int (2 : Int32)), (.ref nb_)])) := by
          intro TJ54 LJ54 w2 XJ54 eJ54 NJ54 
          show GoesW p.tables e below s (Q0 Z p0 p1 p2 p3 ca cl val h0 n0) room_1.cells room_1.slots (TJ54.setTop (mkF m 127 #[.val (.int p0), .val (.int p1), .val (.int p2), .val (.int p3), .val (.ref aa), .val (.ref nb_), .unset, .unset, .unset, .unset, .unset, .unset, .unset, .unset, .unset, .unset, .unset, .unset] [(.int w2), (.int (2 : Int32)), (.ref nb_)]))
          have vv55 := V53
          obtain ⟨cl55, Ar55, aq55, aS55, aN55, aH55, aG55⟩ := vv55
          have hin55 : ¬ ((2 : Int32) < 0 ∨ cl55.slots.size ≤ ((2 : Int32)).toNatClampNeg) := inb_of aS55 ⟨by decide, by decide⟩
          obtain ⟨T56, h56, X56, e56, W56, st56⟩ := stB XJ54 hx hZ eJ54 Ar55 (j := (2 : Int32)) hin55 (g := (mkF m 127 #[.val (.int p0), .val (.int p1), .val (.int p2), .val (.int p3), .val (.ref aa), .val (.ref nb_), .unset, .unset, .unset, .unset, .unset, .unset, .unset, .unset, .unset, .unset, .unset, .unset] [(.int w2), (.int (2 : Int32)), (.ref nb_)])) rfl rfl (hb hby at_127)
          obtain ⟨y_2, hy_2⟩ : ∃ z : Int32, z = nar .byte w2 := ⟨_, rfl⟩
          rw [← hy_2] at W56
          have fy_2 : fits .byte (.int y_2) = true := by rw [hy_2]; exact fits_nar_byte _
          have V56 : Arv Z h56 nb_ k47 .byte (4 : Int32) [(.int y_0), (.int y_1), (.int y_2), (.int (0 : Int32))] (.int (0 : Int32)) := Arv.set Ar55 aq55 aS55 aN55 aH55 aG55 fy_2 W56 2 rfl (Nat.le_of_ble_eq_true rfl)
          have N56 := Fr.snoc X56 NJ54 g_nb_
          have Z56 : n0 ≤ h56.size := Nat.le_trans Z53 (Keep.of_wr W56).1
          refine GoesW.step st56 ?_
          show GoesW p.tables e below s (Q0 Z p0 p1 p2 p3 ca cl val h0 n0) room_1.cells room_1.slots (T56.setTop (mkF m 128 #[.val (.int p0), .val (.int p1), .val (.int p2), .val (.int p3), .val (.ref aa), .val (.ref nb_), .unset, .unset, .unset, .unset, .unset, .unset, .unset, .unset, .unset, .unset, .unset, .unset] []))
          refine GoesW.step (fun _ k => XS.aload X56.here hx rfl (hb hby at_128) rfl rfl k) ?_
          show GoesW p.tables e below s (Q0 Z p0 p1 p2 p3 ca cl val h0 n0) room_1.cells room_1.slots (T56.setTop (mkF m 130 #[.val (.int p0), .val (.int p1), .val (.int p2), .val (.int p3), .val (.ref aa), .val (.ref nb_), .unset, .unset, .unset, .unset, .unset, .unset, .unset, .unset, .unset, .unset, .unset, .unset] [(.ref nb_)]))
          refine GoesW.step (fun _ k => XS.iconst X56.here hx rfl (hb hby at_130) k) ?_
          show GoesW p.tables e below s (Q0 Z p0 p1 p2 p3 ca cl val h0 n0) room_1.cells room_1.slots (T56.setTop (mkF m 131 #[.val (.int p0), .val (.int p1), .val (.int p2), .val (.int p3), .val (.ref aa), .val (.ref nb_), .unset, .unset, .unset, .unset, .unset, .unset, .unset, .unset, .unset, .unset, .unset, .unset] [(.int (3 : Int32)), (.ref nb_)]))
          refine GoesW.step (fun _ k => XS.iloadN X56.here hx rfl (hb hby at_131) rfl k) ?_
          show GoesW p.tables e below s (Q0 Z p0 p1 p2 p3 ca cl val h0 n0) room_1.cells room_1.slots (T56.setTop (mkF m 132 #[.val (.int p0), .val (.int p1), .val (.int p2), .val (.int p3), .val (.ref aa), .val (.ref nb_), .unset, .unset, .unset, .unset, .unset, .unset, .unset, .unset, .unset, .unset, .unset, .unset] [(.int p3), (.int (3 : Int32)), (.ref nb_)]))
          refine GoesW.step (fun _ k => XS.bipush X56.here hx rfl (hb hby at_132) k) ?_
          show GoesW p.tables e below s (Q0 Z p0 p1 p2 p3 ca cl val h0 n0) room_1.cells room_1.slots (T56.setTop (mkF m 134 #[.val (.int p0), .val (.int p1), .val (.int p2), .val (.int p3), .val (.ref aa), .val (.ref nb_), .unset, .unset, .unset, .unset, .unset, .unset, .unset, .unset, .unset, .unset, .unset, .unset] [(.int (6 : Int32)), (.int p3), (.int (3 : Int32)), (.ref nb_)]))
          refine GoesW.step (fun _ k => XS.ishr X56.here hx rfl (hb hby at_134) rfl k) ?_
          show GoesW p.tables e below s (Q0 Z p0 p1 p2 p3 ca cl val h0 n0) room_1.cells room_1.slots (T56.setTop (mkF m 135 #[.val (.int p0), .val (.int p1), .val (.int p2), .val (.int p3), .val (.ref aa), .val (.ref nb_), .unset, .unset, .unset, .unset, .unset, .unset, .unset, .unset, .unset, .unset, .unset, .unset] [(.int (p3 >>> ((6 : Int32) &&& 31))), (.int (3 : Int32)), (.ref nb_)]))
          refine GoesW.step (fun _ k => XS.iconst X56.here hx rfl (hb hby at_135) k) ?_
          show GoesW p.tables e below s (Q0 Z p0 p1 p2 p3 ca cl val h0 n0) room_1.cells room_1.slots (T56.setTop (mkF m 136 #[.val (.int p0), .val (.int p1), .val (.int p2), .val (.int p3), .val (.ref aa), .val (.ref nb_), .unset, .unset, .unset, .unset, .unset, .unset, .unset, .unset, .unset, .unset, .unset, .unset] [(.int (1 : Int32)), (.int (p3 >>> ((6 : Int32) &&& 31))), (.int (3 : Int32)), (.ref nb_)]))
          refine GoesW.step (fun _ k => XS.iand X56.here hx rfl (hb hby at_136) rfl k) ?_
          show GoesW p.tables e below s (Q0 Z p0 p1 p2 p3 ca cl val h0 n0) room_1.cells room_1.slots (T56.setTop (mkF m 137 #[.val (.int p0), .val (.int p1), .val (.int p2), .val (.int p3), .val (.ref aa), .val (.ref nb_), .unset, .unset, .unset, .unset, .unset, .unset, .unset, .unset, .unset, .unset, .unset, .unset] [(.int ((p3 >>> ((6 : Int32) &&& 31)) &&& (1 : Int32))), (.int (3 : Int32)), (.ref nb_)]))
          have J152 : ∀ (TJ57 : State) (LJ57 : List Loc) (w3 : Int32), Stand p l e room_1 s m #[(.int p0), (.int p1), (.int p2), (.int p3)] below meth c TJ57 LJ57 2 8 → TJ57.heap = h56 → Fr n0 LJ57 → GoesW p.tables e below s (Q0 Z p0 p1 p2 p3 ca cl val h0 n0) room_1.cells room_1.slots (TJ57.setTop (mkF m 152 #[.val (.int p0), .val (.int p1), .val (.int p2), .val (.int p3), .val (.ref aa), .val (.ref nb_), .unset, .unset, .unset, .unset, .unset, .unset, .unset, .unset, .unset, .unset, .unset, .unset] [(.int w3), (.int (3 : Int32)), (.ref nb_)])) := by
            intro TJ57 LJ57 w3 XJ57 eJ57 NJ57 
            show GoesW p.tables e below s (Q0 Z p0 p1 p2 p3 ca cl val h0 n0) room_1.cells room_1.slots (TJ57.setTop (mkF m 152 #[.val (.int p0), .val (.int p1), .val (.int p2), .val (.int p3), .val (.ref aa), .val (.ref nb_), .unset, .unset, .unset, .unset, .unset, .unset, .unset, .unset, .unset, .unset, .unset, .unset] [(.int w3), (.int (3 : Int32)), (.ref nb_)]))
            have vv58 := V56
            obtain ⟨cl58, Ar58, aq58, aS58, aN58, aH58, aG58⟩ := vv58
            have hin58 : ¬ ((3 : Int32) < 0 ∨ cl58.slots.size ≤ ((3 : Int32)).toNatClampNeg) := inb_of aS58 ⟨by decide, by decide⟩
            obtain ⟨T59, h59, X59, e59, W59, st59⟩ := stB XJ57 hx hZ eJ57 Ar58 (j := (3 : Int32)) hin58 (g := (mkF m 152 #[.val (.int p0), .val (.int p1), .val (.int p2), .val (.int p3), .val (.ref aa), .val (.ref nb_), .unset, .unset, .unset, .unset, .unset, .unset, .unset, .unset, .unset, .unset, .unset, .unset] [(.int w3), (.int (3 : Int32)), (.ref nb_)])) rfl rfl (hb hby at_152)
            obtain ⟨y_3, hy_3⟩ : ∃ z : Int32, z = nar .byte w3 := ⟨_, rfl⟩
            rw [← hy_3] at W59
            have fy_3 : fits .byte (.int y_3) = true := by rw [hy_3]; exact fits_nar_byte _
            have V59 : Arv Z h59 nb_ k47 .byte (4 : Int32) [(.int y_0), (.int y_1), (.int y_2), (.int y_3)] (.int (0 : Int32)) := Arv.set Ar58 aq58 aS58 aN58 aH58 aG58 fy_3 W59 3 rfl (Nat.le_of_ble_eq_true rfl)
            have N59 := Fr.snoc X59 NJ57 g_nb_
            have Z59 : n0 ≤ h59.size := Nat.le_trans Z56 (Keep.of_wr W59).1
            refine GoesW.step st59 ?_
            show GoesW p.tables e below s (Q0 Z p0 p1 p2 p3 ca cl val h0 n0) room_1.cells room_1.slots (T59.setTop (mkF m 153 #[.val (.int p0), .val (.int p1), .val (.int p2), .val (.int p3), .val (.ref aa), .val (.ref nb_), .unset, .unset, .unset, .unset, .unset, .unset, .unset, .unset, .unset, .unset, .unset, .unset] []))
            have Old_60 := ((((((((((O0.ext E1).wr W3 g_aa).wr W5 g_aa).wr W7 g_aa).wr W9 g_aa).ext E47).wr W50 g_nb_).wr W53 g_nb_).wr W56 g_nb_).wr W59 g_nb_)
            have Arv_aa_61 := (((((V9.ext E47).other W50 ne_aa_nb_).other W53 ne_aa_nb_).other W56 ne_aa_nb_).other W59 ne_aa_nb_)
            exact J153 _ _ h59 nb_ k47 y_0 y_1 y_2 y_3 X59 e59 N59 Z59 Old_60 Arv_aa_61 V59
          by_cases hw3 : ((p3 >>> ((6 : Int32) &&& 31)) &&& (1 : Int32)) = (0 : Int32)
          · skip
            refine GoesW.step (fun _ k => XS.ifYes X56.here hx rfl (pc0 := 137) (pc' := 147) rfl (hb hby at_137) rfl ((if0 _ _).trans (teq hw3).1) (by decide) (by decide) k) ?_
            show GoesW p.tables e below s (Q0 Z p0 p1 p2 p3 ca cl val h0 n0) room_1.cells room_1.slots (T56.setTop (mkF m 147 #[.val (.int p0), .val (.int p1), .val (.int p2), .val (.int p3), .val (.ref aa), .val (.ref nb_), .unset, .unset, .unset, .unset, .unset, .unset, .unset, .unset, .unset, .unset, .unset, .unset] [(.int (3 : Int32)), (.ref nb_)]))
            refine GoesW.step (fun _ k => XS.iloadN X56.here hx rfl (hb hby at_147) rfl k) ?_
            show GoesW p.tables e below s (Q0 Z p0 p1 p2 p3 ca cl val h0 n0) room_1.cells room_1.slots (T56.setTop (mkF m 148 #[.val (.int p0), .val (.int p1), .val (.int p2), .val (.int p3), .val (.ref aa), .val (.ref nb_), .unset, .unset, .unset, .unset, .unset, .unset, .unset, .unset, .unset, .unset, .unset, .unset] [(.int p1), (.int (3 : Int32)), (.ref nb_)]))
            refine GoesW.step (fun _ k => XS.bipush X56.here hx rfl (hb hby at_148) k) ?_
            show GoesW p.tables e below s (Q0 Z p0 p1 p2 p3 ca cl val h0 n0) room_1.cells room_1.slots (T56.setTop (mkF m 150 #[.val (.int p0), .val (.int p1), .val (.int p2), .val (.int p3), .val (.ref aa), .val (.ref nb_), .unset, .unset, .unset, .unset, .unset, .unset, .unset, .unset, .unset, .unset, .unset, .unset] [(.int (24 : Int32)), (.int p1), (.int (3 : Int32)), (.ref nb_)]))
            refine GoesW.step (fun _ k => XS.ishr X56.here hx rfl (hb hby at_150) rfl k) ?_
            show GoesW p.tables e below s (Q0 Z p0 p1 p2 p3 ca cl val h0 n0) room_1.cells room_1.slots (T56.setTop (mkF m 151 #[.val (.int p0), .val (.int p1), .val (.int p2), .val (.int p3), .val (.ref aa), .val (.ref nb_), .unset, .unset, .unset, .unset, .unset, .unset, .unset, .unset, .unset, .unset, .unset, .unset] [(.int (p1 >>> ((24 : Int32) &&& 31))), (.int (3 : Int32)), (.ref nb_)]))
            refine GoesW.step (fun _ k => XS.i2b X56.here hx rfl (hb hby at_151) rfl k) ?_
            show GoesW p.tables e below s (Q0 Z p0 p1 p2 p3 ca cl val h0 n0) room_1.cells room_1.slots (T56.setTop (mkF m 152 #[.val (.int p0), .val (.int p1), .val (.int p2), .val (.int p3), .val (.ref aa), .val (.ref nb_), .unset, .unset, .unset, .unset, .unset, .unset, .unset, .unset, .unset, .unset, .unset, .unset] [(.int ((p1 >>> ((24 : Int32) &&& 31)).toInt8.toInt32)), (.int (3 : Int32)), (.ref nb_)]))
            exact J152 _ _ _ X56 e56 N56 
          · skip
            refine GoesW.step (fun _ k => XS.ifNo X56.here hx rfl (hb hby at_137) rfl ((if0 _ _).trans (feq hw3).1) k) ?_
            show GoesW p.tables e below s (Q0 Z p0 p1 p2 p3 ca cl val h0 n0) room_1.cells room_1.slots (T56.setTop (mkF m 140 #[.val (.int p0), .val (.int p1), .val (.int p2), .val (.int p3), .val (.ref aa), .val (.ref nb_), .unset, .unset, .unset, .unset, .unset, .unset, .unset, .unset, .unset, .unset, .unset, .unset] [(.int (3 : Int32)), (.ref nb_)]))
            refine GoesW.step (fun _ k => XS.aload X56.here hx rfl (hb hby at_140) rfl rfl k) ?_
            show GoesW p.tables e below s (Q0 Z p0 p1 p2 p3 ca cl val h0 n0) room_1.cells room_1.slots (T56.setTop (mkF m 142 #[.val (.int p0), .val (.int p1), .val (.int p2), .val (.int p3), .val (.ref aa), .val (.ref nb_), .unset, .unset, .unset, .unset, .unset, .unset, .unset, .unset, .unset, .unset, .unset, .unset] [(.ref aa), (.int (3 : Int32)), (.ref nb_)]))
            refine GoesW.step (fun _ k => XS.iconst X56.here hx rfl (hb hby at_142) k) ?_
            show GoesW p.tables e below s (Q0 Z p0 p1 p2 p3 ca cl val h0 n0) room_1.cells room_1.slots (T56.setTop (mkF m 143 #[.val (.int p0), .val (.int p1), .val (.int p2), .val (.int p3), .val (.ref aa), .val (.ref nb_), .unset, .unset, .unset, .unset, .unset, .unset, .unset, .unset, .unset, .unset, .unset, .unset] [(.int (3 : Int32)), (.ref aa), (.int (3 : Int32)), (.ref nb_)]))
            have Arv_aa_62 := ((((V9.ext E47).other W50 ne_aa_nb_).other W53 ne_aa_nb_).other W56 ne_aa_nb_)
            have vv63 := Arv_aa_62
            obtain ⟨cl63, Ar63, aq63, aS63, aN63, aH63, aG63⟩ := vv63
            have hin63 : ¬ ((3 : Int32) < 0 ∨ cl63.slots.size ≤ ((3 : Int32)).toNatClampNeg) := inb_of aS63 ⟨by decide, by decide⟩
            refine GoesW.step (fun _ k => X56.baloadBytes hx (j := (3 : Int32)) (v := (.int a_3)) (by rw [e56]; exact Ar63.1) (State.isArrayOf_alike hZ.alike Ar63.2.1) Ar63.2.2 hin63 (Has.at aH63 hin63 rfl) (g := (mkF m 143 #[.val (.int p0), .val (.int p1), .val (.int p2), .val (.int p3), .val (.ref aa), .val (.ref nb_), .unset, .unset, .unset, .unset, .unset, .unset, .unset, .unset, .unset, .unset, .unset, .unset] [(.int (3 : Int32)), (.ref aa), (.int (3 : Int32)), (.ref nb_)])) rfl rfl (hb hby at_143) _ k) ?_
            show GoesW p.tables e below s (Q0 Z p0 p1 p2 p3 ca cl val h0 n0) room_1.cells room_1.slots (T56.setTop (mkF m 144 #[.val (.int p0), .val (.int p1), .val (.int p2), .val (.int p3), .val (.ref aa), .val (.ref nb_), .unset, .unset, .unset, .unset, .unset, .unset, .unset, .unset, .unset, .unset, .unset, .unset] [(.int a_3), (.int (3 : Int32)), (.ref nb_)]))
            refine GoesW.step (fun _ k => XS.goto X56.here hx rfl (pc0 := 144) (pc' := 152) rfl (hb hby at_144) (by decide) (by decide) k) ?_
            show GoesW p.tables e below s (Q0 Z p0 p1 p2 p3 ca cl val h0 n0) room_1.cells room_1.slots (T56.setTop (mkF m 152 #[.val (.int p0), .val (.int p1), .val (.int p2), .val (.int p3), .val (.ref aa), .val (.ref nb_), .unset, .unset, .unset, .unset, .unset, .unset, .unset, .unset, .unset, .unset, .unset, .unset] [(.int a_3), (.int (3 : Int32)), (.ref nb_)]))
            exact J152 _ _ _ X56 e56 N56 
        by_cases hw2 : ((p3 >>> ((5 : Int32) &&& 31)) &&& (1 : Int32)) = (0 : Int32)
        · skip
          refine GoesW.step (fun _ k => XS.ifYes X53.here hx rfl (pc0 := 112) (pc' := 122) rfl (hb hby at_112) rfl ((if0 _ _).trans (teq hw2).1) (by decide) (by decide) k) ?_
          show GoesW p.tables e below s (Q0 Z p0 p1 p2 p3 ca cl val h0 n0) room_1.cells room_1.slots (T53.setTop (mkF m 122 #[.val (.int p0), .val (.int p1), .val (.int p2), .val (.int p3), .val (.ref aa), .val (.ref nb_), .unset, .unset, .unset, .unset, .unset, .unset, .unset, .unset, .unset, .unset, .unset, .unset] [(.int (2 : Int32)), (.ref nb_)]))
          refine GoesW.step (fun _ k => XS.iloadN X53.here hx rfl (hb hby at_122) rfl k) ?_
          show GoesW p.tables e below s (Q0 Z p0 p1 p2 p3 ca cl val h0 n0) room_1.cells room_1.slots (T53.setTop (mkF m 123 #[.val (.int p0), .val (.int p1), .val (.int p2), .val (.int p3), .val (.ref aa), .val (.ref nb_), .unset, .unset, .unset, .unset, .unset, .unset, .unset, .unset, .unset, .unset, .unset, .unset] [(.int p1), (.int (2 : Int32)), (.ref nb_)]))
          refine GoesW.step (fun _ k => XS.bipush X53.here hx rfl (hb hby at_123) k) ?_
          show GoesW p.tables e below s (Q0 Z p0 p1 p2 p3 ca cl val h0 n0) room_1.cells room_1.slots (T53.setTop (mkF m 125 #[.val (.int p0), .val (.int p1), .val (.int p2), .val (.int p3), .val (.ref aa), .val (.ref nb_), .unset, .unset, .unset, .unset, .unset, .unset, .unset, .unset, .unset, .unset, .unset, .unset] [(.int (16 : Int32)), (.int p1), (.int (2 : Int32)), (.ref nb_)]))
          refine GoesW.step (fun _ k => XS.ishr X53.here hx rfl (hb hby at_125) rfl k) ?_
          show GoesW p.tables e below s (Q0 Z p0 p1 p2 p3 ca cl val h0 n0) room_1.cells room_1.slots (T53.setTop (mkF m 126 #[.val (.int p0), .val (.int p1), .val (.int p2), .val (.int p3), .val (.ref aa), .val (.ref nb_), .unset, .unset, .unset, .unset, .unset, .unset, .unset, .unset, .unset, .unset, .unset, .unset] [(.int (p1 >>> ((16 : Int32) &&& 31))), (.int (2 : Int32)), (.ref nb_)]))
          refine GoesW.step (fun _ k => XS.i2b X53.here hx rfl (hb hby at_126) rfl k) ?_
          show GoesW p.tables e below s (Q0 Z p0 p1 p2 p3 ca cl val h0 n0) room_1.cells room_1.slots (T53.setTop (mkF m 127 #[.val (.int p0), .val (.int p1), .val (.int p2), .val (.int p3), .val (.ref aa), .val (.ref nb_), .unset, .unset, .unset, .unset, .unset, .unset, .unset, .unset, .unset, .unset, .unset, .unset] [(.int ((p1 >>> ((16 : Int32) &&& 31)).toInt8.toInt32)), (.int (2 : Int32)), (.ref nb_)]))
          exact J127 _ _ _ X53 e53 N53 
        · skip
          refine GoesW.step (fun _ k => XS.ifNo X53.here hx rfl (hb hby at_112) rfl ((if0 _ _).trans (feq hw2).1) k) ?_
          show GoesW p.tables e below s (Q0 Z p0 p1 p2 p3 ca cl val h0 n0) room_1.cells room_1.slots (T53.setTop (mkF m 115 #[.val (.int p0), .val (.int p1), .val (.int p2), .val (.int p3), .val (.ref aa), .val (.ref nb_), .unset, .unset, .unset, .unset, .unset, .unset, .unset, .unset, .unset, .unset, .unset, .unset] [(.int (2 : Int32)), (.ref nb_)]))
          refine GoesW.step (fun _ k => XS.aload X53.here hx rfl (hb hby at_115) rfl rfl k) ?_
          show GoesW p.tables e below s (Q0 Z p0 p1 p2 p3 ca cl val h0 n0) room_1.cells room_1.slots (T53.setTop (mkF m 117 #[.val (.int p0), .val (.int p1), .val (.int p2), .val (.int p3), .val (.ref aa), .val (.ref nb_), .unset, .unset, .unset, .unset, .unset, .unset, .unset, .unset, .unset, .unset, .unset, .unset] [(.ref aa), (.int (2 : Int32)), (.ref nb_)]))
          refine GoesW.step (fun _ k => XS.iconst X53.here hx rfl (hb hby at_117) k) ?_
          show GoesW p.tables e below s (Q0 Z p0 p1 p2 p3 ca cl val h0 n0) room_1.cells room_1.slots (T53.setTop (mkF m 118 #[.val (.int p0), .val (.int p1), .val (.int p2), .val (.int p3), .val (.ref aa), .val (.ref nb_), .unset, .unset, .unset, .unset, .unset, .unset, .unset, .unset, .unset, .unset, .unset, .unset] [(.int (2 : Int32)), (.ref aa), (.int (2 : Int32)), (.ref nb_)]))
          have Arv_aa_64 := (((V9.ext E47).other W50 ne_aa_nb_).other W53 ne_aa_nb_)
          have vv65 := Arv_aa_64
          obtain ⟨cl65, Ar65, aq65, aS65, aN65, aH65, aG65⟩ := vv65
          have hin65 : ¬ ((2 : Int32) < 0 ∨ cl65.slots.size ≤ ((2 : Int32)).toNatClampNeg) := inb_of aS65 ⟨by decide, by decide⟩
          refine GoesW.step (fun _ k => X53.baloadBytes hx (j := (2 : Int32)) (v := (.int a_2)) (by rw [e53]; exact Ar65.1) (State.isArrayOf_alike hZ.alike Ar65.2.1) Ar65.2.2 hin65 (Has.at aH65 hin65 rfl) (g := (mkF m 118 #[.val (.int p0), .val (.int p1), .val (.int p2), .val (.int p3), .val (.ref aa), .val (.ref nb_), .unset, .unset, .unset, .unset, .unset, .unset, .unset, .unset, .unset, .unset, .unset, .unset] [(.int (2 : Int32)), (.ref aa), (.int (2 : Int32)), (.ref nb_)])) rfl rfl (hb hby at_118) _ k) ?_
          show GoesW p.tables e below s (Q0 Z p0 p1 p2 p3 ca cl val h0 n0) room_1.cells room_1.slots (T53.setTop (mkF m 119 #[.val (.int p0), .val (.int p1), .val (.int p2), .val (.int p3), .val (.ref aa), .val (.ref nb_), .unset, .unset, .unset, .unset, .unset, .unset, .unset, .unset, .unset, .unset, .unset, .unset] [(.int a_2), (.int (2 : Int32)), (.ref nb_)]))
          refine GoesW.step (fun _ k => XS.goto X53.here hx rfl (pc0 := 119) (pc' := 127) rfl (hb hby at_119) (by decide) (by decide) k) ?_
          show GoesW p.tables e below s (Q0 Z p0 p1 p2 p3 ca cl val h0 n0) room_1.cells room_1.slots (T53.setTop (mkF m 127 #[.val (.int p0), .val (.int p1), .val (.int p2), .val (.int p3), .val (.ref aa), .val (.ref nb_), .unset, .unset, .unset, .unset, .unset, .unset, .unset, .unset, .unset, .unset, .unset, .unset] [(.int a_2), (.int (2 : Int32)), (.ref nb_)]))
          exact J127 _ _ _ X53 e53 N53 
      by_cases hw1 : ((p3 >>> ((4 : Int32) &&& 31)) &&& (1 : Int32)) = (0 : Int32)
      · skip
        refine GoesW.step (fun _ k => XS.ifYes X50.here hx rfl (pc0 := 88) (pc' := 98) rfl (hb hby at_88) rfl ((if0 _ _).trans (teq hw1).1) (by decide) (by decide) k) ?_
        show GoesW p.tables e below s (Q0 Z p0 p1 p2 p3 ca cl val h0 n0) room_1.cells room_1.slots (T50.setTop (mkF m 98 #[.val (.int p0), .val (.int p1), .val (.int p2), .val (.int p3), .val (.ref aa), .val (.ref nb_), .unset, .unset, .unset, .unset, .unset, .unset, .unset, .unset, .unset, .unset, .unset, .unset] [(.int (1 : Int32)), (.ref nb_)]))
        refine GoesW.step (fun _ k => XS.iloadN X50.here hx rfl (hb hby at_98) rfl k) ?_
        show GoesW p.tables e below s (Q0 Z p0 p1 p2 p3 ca cl val h0 n0) room_1.cells room_1.slots (T50.setTop (mkF m 99 #[.val (.int p0), .val (.int p1), .val (.int p2), .val (.int p3), .val (.ref aa), .val (.ref nb_), .unset, .unset, .unset, .unset, .unset, .unset, .unset, .unset, .unset, .unset, .unset, .unset] [(.int p1), (.int (1 : Int32)), (.ref nb_)]))
        refine GoesW.step (fun _ k => XS.bipush X50.here hx rfl (hb hby at_99) k) ?_
        show GoesW p.tables e below s (Q0 Z p0 p1 p2 p3 ca cl val h0 n0) room_1.cells room_1.slots (T50.setTop (mkF m 101 #[.val (.int p0), .val (.int p1), .val (.int p2), .val (.int p3), .val (.ref aa), .val (.ref nb_), .unset, .unset, .unset, .unset, .unset, .unset, .unset, .unset, .unset, .unset, .unset, .unset] [(.int (8 : Int32)), (.int p1), (.int (1 : Int32)), (.ref nb_)]))
        refine GoesW.step (fun _ k => XS.ishr X50.here hx rfl (hb hby at_101) rfl k) ?_
        show GoesW p.tables e below s (Q0 Z p0 p1 p2 p3 ca cl val h0 n0) room_1.cells room_1.slots (T50.setTop (mkF m 102 #[.val (.int p0), .val (.int p1), .val (.int p2), .val (.int p3), .val (.ref aa), .val (.ref nb_), .unset, .unset, .unset, .unset, .unset, .unset, .unset, .unset, .unset, .unset, .unset, .unset] [(.int (p1 >>> ((8 : Int32) &&& 31))), (.int (1 : Int32)), (.ref nb_)]))
        refine GoesW.step (fun _ k => XS.i2b X50.here hx rfl (hb hby at_102) rfl k) ?_
        show GoesW p.tables e below s (Q0 Z p0 p1 p2 p3 ca cl val h0 n0) room_1.cells room_1.slots (T50.setTop (mkF m 103 #[.val (.int p0), .val (.int p1), .val (.int p2), .val (.int p3), .val (.ref aa), .val (.ref nb_), .unset, .unset, .unset, .unset, .unset, .unset, .unset, .unset, .unset, .unset, .unset, .unset] [(.int ((p1 >>> ((8 : Int32) &&& 31)).toInt8.toInt32)), (.int (1 : Int32)), (.ref nb_)]))
        exact J103 _ _ _ X50 e50 N50 
      · skip
        refine GoesW.step (fun _ k => XS.ifNo X50.here hx rfl (hb hby at_88) rfl ((if0 _ _).trans (feq hw1).1) k) ?_
        show GoesW p.tables e below s (Q0 Z p0 p1 p2 p3 ca cl val h0 n0) room_1.cells room_1.slots (T50.setTop (mkF m 91 #[.val (.int p0), .val (.int p1), .val (.int p2), .val (.int p3), .val (.ref aa), .val (.ref nb_), .unset, .unset, .unset, .unset, .unset, .unset, .unset, .unset, .unset, .unset, .unset, .unset] [(.int (1 : Int32)), (.ref nb_)]))
        refine GoesW.step (fun _ k => XS.aload X50.here hx rfl (hb hby at_91) rfl rfl k) ?_
        show GoesW p.tables e below s (Q0 Z p0 p1 p2 p3 ca cl val h0 n0) room_1.cells room_1.slots (T50.setTop (mkF m 93 #[.val (.int p0), .val (.int p1), .val (.int p2), .val (.int p3), .val (.ref aa), .val (.ref nb_), .unset, .unset, .unset, .unset, .unset, .unset, .unset, .unset, .unset, .unset, .unset, .unset] [(.ref aa), (.int (1 : Int32)), (.ref nb_)]))
        refine GoesW.step (fun _ k => XS.iconst X50.here hx rfl (hb hby at_93) k) ?_
        show GoesW p.tables e below s (Q0 Z p0 p1 p2 p3 ca cl val h0 n0) room_1.cells room_1.slots (T50.setTop (mkF m 94 #[.val (.int p0), .val (.int p1), .val (.int p2), .val (.int p3), .val (.ref aa), .val (.ref nb_), .unset, .unset, .unset, .unset, .unset, .unset, .unset, .unset, .unset, .unset, .unset, .unset] [(.int (1 : Int32)), (.ref aa), (.int (1 : Int32)), (.ref nb_)]))
        have Arv_aa_66 := ((V9.ext E47).other W50 ne_aa_nb_)
        have vv67 := Arv_aa_66
        obtain ⟨cl67, Ar67, aq67, aS67, aN67, aH67, aG67⟩ := vv67
        have hin67 : ¬ ((1 : Int32) < 0 ∨ cl67.slots.size ≤ ((1 : Int32)).toNatClampNeg) := inb_of aS67 ⟨by decide, by decide⟩
        refine GoesW.step (fun _ k => X50.baloadBytes hx (j := (1 : Int32)) (v := (.int a_1)) (by rw [e50]; exact Ar67.1) (State.isArrayOf_alike hZ.alike Ar67.2.1) Ar67.2.2 hin67 (Has.at aH67 hin67 rfl) (g := (mkF m 94 #[.val (.int p0), .val (.int p1), .val (.int p2), .val (.int p3), .val (.ref aa), .val (.ref nb_), .unset, .unset, .unset, .unset, .unset, .unset, .unset, .unset, .unset, .unset, .unset, .unset] [(.int (1 : Int32)), (.ref aa), (.int (1 : Int32)), (.ref nb_)])) rfl rfl (hb hby at_94) _ k) ?_
        show GoesW p.tables e below s (Q0 Z p0 p1 p2 p3 ca cl val h0 n0) room_1.cells room_1.slots (T50.setTop (mkF m 95 #[.val (.int p0), .val (.int p1), .val (.int p2), .val (.int p3), .val (.ref aa), .val (.ref nb_), .unset, .unset, .unset, .unset, .unset, .unset, .unset, .unset, .unset, .unset, .unset, .unset] [(.int a_1), (.int (1 : Int32)), (.ref nb_)]))
        refine GoesW.step (fun _ k => XS.goto X50.here hx rfl (pc0 := 95) (pc' := 103) rfl (hb hby at_95) (by decide) (by decide) k) ?_
        show GoesW p.tables e below s (Q0 Z p0 p1 p2 p3 ca cl val h0 n0) room_1.cells room_1.slots (T50.setTop (mkF m 103 #[.val (.int p0), .val (.int p1), .val (.int p2), .val (.int p3), .val (.ref aa), .val (.ref nb_), .unset, .unset, .unset, .unset, .unset, .unset, .unset, .unset, .unset, .unset, .unset, .unset] [(.int a_1), (.int (1 : Int32)), (.ref nb_)]))
        exact J103 _ _ _ X50 e50 N50 
    by_cases hw0 : ((p3 >>> ((3 : Int32) &&& 31)) &&& (1 : Int32)) = (0 : Int32)
    · skip
      refine GoesW.step (fun _ k => XS.ifYes X47.here hx rfl (pc0 := 67) (pc' := 77) rfl (hb hby at_67) rfl ((if0 _ _).trans (teq hw0).1) (by decide) (by decide) k) ?_
      show GoesW p.tables e below s (Q0 Z p0 p1 p2 p3 ca cl val h0 n0) room_1.cells room_1.slots (T47.setTop (mkF m 77 #[.val (.int p0), .val (.int p1), .val (.int p2), .val (.int p3), .val (.ref aa), .val (.ref nb_), .unset, .unset, .unset, .unset, .unset, .unset, .unset, .unset, .unset, .unset, .unset, .unset] [(.int (0 : Int32)), (.ref nb_)]))
      refine GoesW.step (fun _ k => XS.iloadN X47.here hx rfl (hb hby at_77) rfl k) ?_
      show GoesW p.tables e below s (Q0 Z p0 p1 p2 p3 ca cl val h0 n0) room_1.cells room_1.slots (T47.setTop (mkF m 78 #[.val (.int p0), .val (.int p1), .val (.int p2), .val (.int p3), .val (.ref aa), .val (.ref nb_), .unset, .unset, .unset, .unset, .unset, .unset, .unset, .unset, .unset, .unset, .unset, .unset] [(.int p1), (.int (0 : Int32)), (.ref nb_)]))
      refine GoesW.step (fun _ k => XS.i2b X47.here hx rfl (hb hby at_78) rfl k) ?_
      show GoesW p.tables e below s (Q0 Z p0 p1 p2 p3 ca cl val h0 n0) room_1.cells room_1.slots (T47.setTop (mkF m 79 #[.val (.int p0), .val (.int p1), .val (.int p2), .val (.int p3), .val (.ref aa), .val (.ref nb_), .unset, .unset, .unset, .unset, .unset, .unset, .unset, .unset, .unset, .unset, .unset, .unset] [(.int (p1.toInt8.toInt32)), (.int (0 : Int32)), (.ref nb_)]))
      exact J79 _ _ _ X47 e47 N9 
    · skip
      refine GoesW.step (fun _ k => XS.ifNo X47.here hx rfl (hb hby at_67) rfl ((if0 _ _).trans (feq hw0).1) k) ?_
      show GoesW p.tables e below s (Q0 Z p0 p1 p2 p3 ca cl val h0 n0) room_1.cells room_1.slots (T47.setTop (mkF m 70 #[.val (.int p0), .val (.int p1), .val (.int p2), .val (.int p3), .val (.ref aa), .val (.ref nb_), .unset, .unset, .unset, .unset, .unset, .unset, .unset, .unset, .unset, .unset, .unset, .unset] [(.int (0 : Int32)), (.ref nb_)]))
      refine GoesW.step (fun _ k => XS.aload X47.here hx rfl (hb hby at_70) rfl rfl k) ?_
      show GoesW p.tables e below s (Q0 Z p0 p1 p2 p3 ca cl val h0 n0) room_1.cells room_1.slots (T47.setTop (mkF m 72 #[.val (.int p0), .val (.int p1), .val (.int p2), .val (.int p3), .val (.ref aa), .val (.ref nb_), .unset, .unset, .unset, .unset, .unset, .unset, .unset, .unset, .unset, .unset, .unset, .unset] [(.ref aa), (.int (0 : Int32)), (.ref nb_)]))
      refine GoesW.step (fun _ k => XS.iconst X47.here hx rfl (hb hby at_72) k) ?_
      show GoesW p.tables e below s (Q0 Z p0 p1 p2 p3 ca cl val h0 n0) room_1.cells room_1.slots (T47.setTop (mkF m 73 #[.val (.int p0), .val (.int p1), .val (.int p2), .val (.int p3), .val (.ref aa), .val (.ref nb_), .unset, .unset, .unset, .unset, .unset, .unset, .unset, .unset, .unset, .unset, .unset, .unset] [(.int (0 : Int32)), (.ref aa), (.int (0 : Int32)), (.ref nb_)]))
      have Arv_aa_68 := (V9.ext E47)
      have vv69 := Arv_aa_68
      obtain ⟨cl69, Ar69, aq69, aS69, aN69, aH69, aG69⟩ := vv69
      have hin69 : ¬ ((0 : Int32) < 0 ∨ cl69.slots.size ≤ ((0 : Int32)).toNatClampNeg) := inb_of aS69 ⟨by decide, by decide⟩
      refine GoesW.step (fun _ k => X47.baloadBytes hx (j := (0 : Int32)) (v := (.int a_0)) (by rw [e47]; exact Ar69.1) (State.isArrayOf_alike hZ.alike Ar69.2.1) Ar69.2.2 hin69 (Has.at aH69 hin69 rfl) (g := (mkF m 73 #[.val (.int p0), .val (.int p1), .val (.int p2), .val (.int p3), .val (.ref aa), .val (.ref nb_), .unset, .unset, .unset, .unset, .unset, .unset, .unset, .unset, .unset, .unset, .unset, .unset] [(.int (0 : Int32)), (.ref aa), (.int (0 : Int32)), (.ref nb_)])) rfl rfl (hb hby at_73) _ k) ?_
      show GoesW p.tables e below s (Q0 Z p0 p1 p2 p3 ca cl val h0 n0) room_1.cells room_1.slots (T47.setTop (mkF m 74 #[.val (.int p0), .val (.int p1), .val (.int p2), .val (.int p3), .val (.ref aa), .val (.ref nb_), .unset, .unset, .unset, .unset, .unset, .unset, .unset, .unset, .unset, .unset, .unset, .unset] [(.int a_0), (.int (0 : Int32)), (.ref nb_)]))
      refine GoesW.step (fun _ k => XS.goto X47.here hx rfl (pc0 := 74) (pc' := 79) rfl (hb hby at_74) (by decide) (by decide) k) ?_
      show GoesW p.tables e below s (Q0 Z p0 p1 p2 p3 ca cl val h0 n0) room_1.cells room_1.slots (T47.setTop (mkF m 79 #[.val (.int p0), .val (.int p1), .val (.int p2), .val (.int p3), .val (.ref aa), .val (.ref nb_), .unset, .unset, .unset, .unset, .unset, .unset, .unset, .unset, .unset, .unset, .unset, .unset] [(.int a_0), (.int (0 : Int32)), (.ref nb_)]))
      exact J79 _ _ _ X47 e47 N9 
  · skip
    refine GoesW.step (fun _ k => XS.ifNo X9.here hx rfl (hb hby at_44) rfl ((if0 _ _).trans (feq h42).1) k) ?_
    show GoesW p.tables e below s (Q0 Z p0 p1 p2 p3 ca cl val h0 n0) room_1.cells room_1.slots (T9.setTop (mkF m 47 #[.val (.int p0), .val (.int p1), .val (.int p2), .val (.int p3), .val (.ref aa), .unset, .unset, .unset, .unset, .unset, .unset, .unset, .unset, .unset, .unset, .unset, .unset, .unset] []))
    refine GoesW.step (fun _ k => XS.aload X9.here hx rfl (hb hby at_47) rfl rfl k) ?_
    show GoesW p.tables e below s (Q0 Z p0 p1 p2 p3 ca cl val h0 n0) room_1.cells room_1.slots (T9.setTop (mkF m 49 #[.val (.int p0), .val (.int p1), .val (.int p2), .val (.int p3), .val (.ref aa), .unset, .unset, .unset, .unset, .unset, .unset, .unset, .unset, .unset, .unset, .unset, .unset, .unset] [(.ref aa)]))
    refine GoesW.step (fun _ k => XS.astore X9.here hx rfl (hb hby at_49) rfl rfl (l' := #[.val (.int p0), .val (.int p1), .val (.int p2), .val (.int p3), .val (.ref aa), .val (.ref aa), .unset, .unset, .unset, .unset, .unset, .unset, .unset, .unset, .unset, .unset, .unset, .unset]) rfl k) ?_
    show GoesW p.tables e below s (Q0 Z p0 p1 p2 p3 ca cl val h0 n0) room_1.cells room_1.slots (T9.setTop (mkF m 51 #[.val (.int p0), .val (.int p1), .val (.int p2), .val (.int p3), .val (.ref aa), .val (.ref aa), .unset, .unset, .unset, .unset, .unset, .unset, .unset, .unset, .unset, .unset, .unset, .unset] []))
    refine GoesW.step (fun _ k => XS.goto X9.here hx rfl (pc0 := 51) (pc' := 153) rfl (hb hby at_51) (by decide) (by decide) k) ?_
    show GoesW p.tables e below s (Q0 Z p0 p1 p2 p3 ca cl val h0 n0) room_1.cells room_1.slots (T9.setTop (mkF m 153 #[.val (.int p0), .val (.int p1), .val (.int p2), .val (.int p3), .val (.ref aa), .val (.ref aa), .unset, .unset, .unset, .unset, .unset, .unset, .unset, .unset, .unset, .unset, .unset, .unset] []))
    have Old_70 := (((((O0.ext E1).wr W3 g_aa).wr W5 g_aa).wr W7 g_aa).wr W9 g_aa)
    exact J153 _ _ h9 aa k1 a_0 a_1 a_2 a_3 (upS X9 (by decide) (by decide)) e9 N9 Z9 Old_70 V9 V9
theorem own_lenc {s : State} {args : Array Value} {t : Term} {a : Addr} {c : Cell} {ty : FieldType} {z : Int32} (ev : t.eval args s none [] s = some (.ref a)) (A : Arr s s.heap a c ty) (h : (Term.length t).eval args s none [] s = some (.int z)) : c.slots.size < 2 ^ 31 ∧ c.slots.size.toInt32 = z := by
  have ha := A.fin (Vm.Alike.refl _)
  simp only [Term.eval, ev, Option.bind_eq_bind] at h
  rw [Option.bind_some] at h
  dsimp only at h
  rw [ha, Option.bind_some] at h
  split at h
  · rename_i q
    exact ⟨by omega, Value.int.inj (Option.some.inj h)⟩
  · cases h
theorem sub_f {args : Array Value} {first s : State} {o : Option Outcome} {idx : List Nat} {a b : Term} {x y : Int32} (ha : a.eval args first o idx s = some (.int x)) (hb : b.eval args first o idx s = some (.int y)) : (Term.sub a b).eval args first o idx s = some (.int (x - y)) := by simp [Term.eval, ha, hb]
set_option maxRecDepth 65536 in
set_option maxHeartbeats 40000000 in
theorem comes_1 {Post : Tables → Env → Array Value → State → Outcome → State → Prop} (hpost : ∀ tb e args s v u, (limb_1_1.after args s (.returned v) u = true ∧ limb_1_2.after args s (.returned v) u = true ∧ True) → FrameEnd s (.returned v) u (Jvm.fieldLocs frame_1_writes args s ++ Jvm.arrayLocs frame_1_arrays args s ++ Jvm.staticLocs frame_1_statics s) 24 128 → Post tb e args s (.returned v) u) :
    ArmFor flags0 classFile x code maxLocals ret World_1 tables_1 room_1 Calls_1 rest_1 Pre_1 Post := by
  intro l hfl _ _ p e ha hc hk s m args below hf hA hF happ hP
  obtain ⟨hcalls, hrest, hpre⟩ := hP
  obtain ⟨-, -, -, hnamed, -, -, -, hat⟩ := (Spec.applies_iff hf).mp happ
  obtain ⟨hg, hn⟩ := and_e (Cond.before_iff.mp (show (Jvm.Cond.and given_1 narrow_1).before args s = true from hpre))
  obtain ⟨gc, gr0⟩ := and_e hg
  obtain ⟨w0, w1, w2, w3, rfl⟩ : ∃ w0 w1 w2 w3 : Value, args = #[w0, w1, w2, w3] := by
    have hs : args.size = 4 := by simpa [Cond.value, given_1] using gc
    obtain ⟨L⟩ := args
    match L, hs with
    | [w0, w1, w2, w3], _ => exact ⟨w0, w1, w2, w3, rfl⟩
  have hw := fun d (hd : d ∈ tables_1) => atoms_spec (ws := Jvm.Cond.code x code maxLocals ret :: tables_1) hat d (List.mem_cons_of_mem _ hd)
  have hfit : Fit s := fun {y c} hc i hi => by
    obtain ⟨ha, rfl⟩ := Array.getElem?_eq_some_iff.mp hc
    have q := List.all_eq_true.mp ((Array.all_eq_true_iff_forall_mem.mp hF) _ (Array.getElem_mem ha)) i (List.mem_range.mpr hi)
    simpa [Array.getElem?_eq_getElem hi] using q
  obtain ⟨ga0, gr1⟩ := and_e gr0
  obtain ⟨i0, ei0⟩ := is_v ga0
  obtain rfl : w0 = (.int i0) := Option.some.inj ei0
  obtain ⟨ga1, gr2⟩ := and_e gr1
  obtain ⟨i1, ei1⟩ := is_v ga1
  obtain rfl : w1 = (.int i1) := Option.some.inj ei1
  obtain ⟨ga2, gr3⟩ := and_e gr2
  obtain ⟨i2, ei2⟩ := is_v ga2
  obtain rfl : w2 = (.int i2) := Option.some.inj ei2
  obtain ⟨i3, ei3⟩ := is_v gr3
  obtain rfl : w3 = (.int i3) := Option.some.inj ei3
  obtain ⟨hsets, hown0⟩ := atoms_of _ (rest_1_c_eq ▸ (show rest_1_c.before _ s = true from hrest))
  have eh := eqv_i (Term.int_eval (127 : Int32)) (Cond.before_iff.mp (hsets _ (List.mem_of_getElem? (i := 3) rfl)))
  have S_high : Sta s s.heap "java/lang/Integer$IntegerCache" "high" "I" (.int (127 : Int32)) := Sta.start eh (Or.inl (hsets _ (List.mem_of_getElem? (i := 1) rfl)))
  obtain ⟨ca, eca⟩ := arr_v (Cond.before_iff.mp (hsets _ (List.mem_of_getElem? (i := 4) rfl)))
  have S_cache : Sta s s.heap "java/lang/Integer$IntegerCache" "cache" "[Ljava/lang/Integer;" (.ref ca) := Sta.start eca (Or.inr ⟨hw _ (List.mem_of_getElem? (i := 35) rfl), hsets _ (List.mem_of_getElem? (i := 2) rfl)⟩)
  obtain ⟨cl, Arc⟩ := Arr.start eca (Cond.before_iff.mp (hsets _ (List.mem_of_getElem? (i := 4) rfl)))
  have elen := eqv_i (Term.int_eval (256 : Int32)) (Cond.before_iff.mp (hsets _ (List.mem_of_getElem? (i := 6) rfl)))
  obtain ⟨q1, q2⟩ := own_lenc eca Arc elen
  have BX : Bxs s ca cl "java/lang/Integer" "I" (256 : Int32) (fun j => .int (j - (128 : Int32))) := Bxs.start (fun idx => eca) Arc q1 q2 (by decide) (Cond.before_iff.mp (hsets _ (List.mem_of_getElem? (i := 7) rfl))) (fun X j hj h => eqv_i (sub_f (idx_at hj) (Term.int_eval (128 : Int32))) h)
  obtain ⟨n, o, h1, h2, h3, _, L, rfl, ⟨rfl, N⟩, hq⟩ := rm0 l s _ hw tables_1 i0 i1 i2 i3 ca cl _ s.heap s.heap.size (Nat.le_refl _) S_high S_cache BX (Old.start s) p e ha hc hk s m _ below hf ((Spec.applies_iff_loose hf).mp happ).1 ⟨rfl, State.Warmed39.refl s, rfl⟩ trivial
  refine ⟨n, _, h1, h2, h3, hpost _ _ _ _ _ _ ⟨Cond.after_iff.mpr rfl, Cond.after_iff.mpr (eq_i res_at (Term.int_eval (1)) rfl), trivial⟩ ⟨hq.1, hq.2.1, (hq.2.2.sift fun y hy => Or.inr (N y hy)).mono (by decide) (by decide)⟩⟩
theorem main_1_1 : Claimed_1_1 := comes_1 fun _ _ _ _ _ _ h hF => ⟨h.1, hF⟩
theorem main_1_2 : Claimed_1_2 := comes_1 fun _ _ _ _ _ _ h hF => ⟨h.2.1, hF⟩
end Jvm.Pilot.@@N@@
namespace Jvm.Pilot.@@N@@
open Jvm Jvm.ClassFile Sem Op Lib Jvm.Free Jvm.Stand Jvm.Pilot.@@N@@.Jvm.D
/-! MADE BY PROGRAM (witnessworld.py) out of the Statement's table words and the real class files: 16 classes; the members and pool entries that the words name. The judged class is class 1, her method 1. -/
namespace start1
open Jvm.ClassFile
def u (s : String) : CpInfo := .utf8 (stringToUtf16 s)
/-- a pool by its gaps: so many unusable entries, then the entry; so many at the end -/
def gap : Nat → List CpInfo → List CpInfo
  | 0, r => r
  | n + 1, r => .unusable :: gap n r
def poolList (es : List (Nat × CpInfo)) (last : Nat) : List CpInfo := es.foldr (fun e r => gap e.1 (e.2 :: r)) (gap last [])
def pool (es : List (Nat × CpInfo)) (last : Nat) : Array CpInfo := ⟨poolList es last⟩
def fileOf (pool : Array CpInfo) (this : Nat) (attrs : Array Attribute := #[]) (ms : Array MethodInfo := #[]) (fl : Nat := 33) (sup : Nat := 0) (ifs : Array Nat := #[]) (fds : Array FieldInfo := #[]) : ClassFile where
  minorVersion := 0
  majorVersion := 65
  constantPool := pool
  accessFlags := fl
  thisClass := this
  superClass := sup
  interfaces := ifs
  fields := fds
  methods := ms
  attributes := attrs
def plain (name : String) (sup : Option ClassId) : Class where
  name := name
  kind := .ordinary
  loader := none
  accessFlags := 33
  super := sup
  interfaces := #[]
  cf := none
  fields := #[]
  methods := #[]
  instanceTypes := #[]
  staticTypes := #[]
  resolved := #[]
  callSites := []
  init := .initialized
  statics := none
  mirror := none

def pool0 : Array CpInfo := pool [(5, u "<init>"), (0, u "()V"), (1, .class_ 10), (1, u "java/lang/Object")] 113

def k0c0 : Code := { maxStack := 0, maxLocals := 1, code := object_method_1_code, exceptionTable := #[], attributes := #[] }
def k0m0 : Method := { name := "<init>", desc := "()V", sig := { parameters := [], returnType := none }, accessFlags := 1, code := some k0c0 }
/-- java/lang/Object -/
def k0 : Class := { plain "java/lang/Object" none with
  accessFlags := 33
  interfaces := #[]
  cf := some (fileOf pool0 8 #[] #[{ accessFlags := 1, nameIndex := 5, descriptorIndex := 6, attributes := #[] }] 33 0 #[] #[])
  fields := #[]
  methods := #[k0m0]
  instanceTypes := #[]
  staticTypes := #[]
  resolved := Array.replicate 124 none
  statics := none }

def pool1 : Array CpInfo := pool [(2, .class_ 4), (0, .nameAndType 5 6), (0, u "java/lang/Object"), (0, u "<init>"), (0, u "()V"), (0, .class_ 8), (0, u "com/example/rankweave/rankweave/io/FieldBytes"), (0, .methodref 7 3), (0, .methodref 7 11), (0, .nameAndType 12 13), (0, u "view"), (0, u "([BII)V"), (0, .methodref 15 16), (0, .class_ 17), (0, .nameAndType 18 19), (0, u "java/lang/Integer"), (0, u "valueOf"), (0, u "(I)Ljava/lang/Integer;"), (0, .methodref 7 21), (0, .nameAndType 22 23), (0, u "equals"), (0, u "(Ljava/lang/Object;)Z"), (0, .methodref 25 26), (0, .class_ 27), (0, .nameAndType 28 29), (0, u "com/example/rankweave/rankweave/io/FieldBytesEqualsPinLaw"), (0, u "sameBytes"), (0, u "([BII[BII)Z"), (0, .methodref 25 31), (0, .nameAndType 32 33), (0, u "at"), (0, u "([BI[BIII)Z"), (2, u "law"), (0, u "(IIII)Z")] 5

def k1m0 : Method := { name := "<init>", desc := "()V", sig := { parameters := [], returnType := none }, accessFlags := 1, code := none }
def k1c1 : Code := { maxStack := 6, maxLocals := 18, code := code, exceptionTable := #[], attributes := #[] }
def k1m1 : Method := { name := "law", desc := "(IIII)Z", sig := { parameters := [.int, .int, .int, .int], returnType := some .boolean }, accessFlags := 9, code := some k1c1 }
def k1c2 : Code := { maxStack := 6, maxLocals := 7, code := method_3_code, exceptionTable := #[], attributes := #[] }
def k1m2 : Method := { name := "sameBytes", desc := "([BII[BII)Z", sig := { parameters := [(.array .byte), .int, .int, (.array .byte), .int, .int], returnType := some .boolean }, accessFlags := 10, code := some k1c2 }
def k1c3 : Code := { maxStack := 4, maxLocals := 6, code := method_4_code, exceptionTable := #[], attributes := #[] }
def k1m3 : Method := { name := "at", desc := "([BI[BIII)Z", sig := { parameters := [(.array .byte), .int, (.array .byte), .int, .int, .int], returnType := some .boolean }, accessFlags := 10, code := some k1c3 }
/-- com/example/rankweave/rankweave/io/FieldBytesEqualsPinLaw -/
def k1 : Class := { plain "com/example/rankweave/rankweave/io/FieldBytesEqualsPinLaw" (some 0) with
  accessFlags := 49
  interfaces := #[]
  cf := some (fileOf pool1 25 #[] #[{ accessFlags := 1, nameIndex := 5, descriptorIndex := 6, attributes := #[] }, { accessFlags := 9, nameIndex := 36, descriptorIndex := 37, attributes := #[] }, { accessFlags := 10, nameIndex := 28, descriptorIndex := 29, attributes := #[] }, { accessFlags := 10, nameIndex := 32, descriptorIndex := 33, attributes := #[] }] 49 2 #[] #[])
  fields := #[]
  methods := #[k1m0, k1m1, k1m2, k1m3]
  instanceTypes := #[]
  staticTypes := #[]
  resolved := Array.replicate 43 none
  statics := none }

def pool2 : Array CpInfo := pool [(1, .class_ 2), (0, u "java/lang/Comparable"), (0, .class_ 4), (0, u "java/lang/Object")] 7

/-- java/lang/Comparable -/
def k2 : Class := { plain "java/lang/Comparable" (some 0) with
  accessFlags := 1537
  interfaces := #[]
  cf := some (fileOf pool2 1 #[] #[] 1537 3 #[] #[])
  fields := #[]
  methods := #[]
  instanceTypes := #[]
  staticTypes := #[]
  resolved := Array.replicate 12 none
  statics := none }

def pool3 : Array CpInfo := pool [(1, .methodref 2 3), (0, .class_ 4), (0, .nameAndType 5 6), (0, u "java/lang/Object"), (0, u "<init>"), (0, u "()V"), (0, .fieldref 8 9), (0, .class_ 10), (0, .nameAndType 11 12), (0, u "com/example/rankweave/rankweave/io/FieldBytes"), (0, u "bytes"), (0, u "[B"), (2, u "view"), (0, u "([BII)V"), (0, .fieldref 8 18), (0, .nameAndType 19 20), (0, u "from"), (0, u "I"), (0, .fieldref 8 22), (0, .nameAndType 23 20), (0, u "to"), (0, .fieldref 8 25), (0, .nameAndType 26 27), (0, u "hashed"), (0, u "Z"), (11, u "hash"), (8, .class_ 49), (0, u "java/lang/Comparable"), (7, u "equals"), (0, u "(Ljava/lang/Object;)Z")] 6

def k3c0 : Code := { maxStack := 2, maxLocals := 1, code := prog_45_method_1_code, exceptionTable := #[], attributes := #[] }
def k3m0 : Method := { name := "<init>", desc := "()V", sig := { parameters := [], returnType := none }, accessFlags := 0, code := some k3c0 }
def k3c1 : Code := { maxStack := 2, maxLocals := 4, code := prog_45_method_3_code, exceptionTable := #[], attributes := #[] }
def k3m1 : Method := { name := "view", desc := "([BII)V", sig := { parameters := [(.array .byte), .int, .int], returnType := none }, accessFlags := 0, code := some k3c1 }
def k3c2 : Code := { maxStack := 3, maxLocals := 5, code := prog_45_method_6_code, exceptionTable := #[], attributes := #[] }
def k3m2 : Method := { name := "equals", desc := "(Ljava/lang/Object;)Z", sig := { parameters := [(.object "java/lang/Object")], returnType := some .boolean }, accessFlags := 1, code := some k3c2 }
/-- com/example/rankweave/rankweave/io/FieldBytes -/
def k3 : Class := { plain "com/example/rankweave/rankweave/io/FieldBytes" (some 0) with
  accessFlags := 48
  interfaces := #[2]
  cf := some (fileOf pool3 8 #[] #[{ accessFlags := 0, nameIndex := 5, descriptorIndex := 6, attributes := #[] }, { accessFlags := 0, nameIndex := 15, descriptorIndex := 16, attributes := #[] }, { accessFlags := 1, nameIndex := 57, descriptorIndex := 58, attributes := #[] }] 48 2 #[48] #[{ accessFlags := 2, nameIndex := 11, descriptorIndex := 12, attributes := #[] }, { accessFlags := 2, nameIndex := 19, descriptorIndex := 20, attributes := #[] }, { accessFlags := 2, nameIndex := 23, descriptorIndex := 20, attributes := #[] }, { accessFlags := 2, nameIndex := 39, descriptorIndex := 20, attributes := #[] }, { accessFlags := 2, nameIndex := 26, descriptorIndex := 27, attributes := #[] }])
  fields := #[{ name := "bytes", type := (.array .byte), accessFlags := 2, slot := 0, constantValue := 0 }, { name := "from", type := .int, accessFlags := 2, slot := 1, constantValue := 0 }, { name := "to", type := .int, accessFlags := 2, slot := 2, constantValue := 0 }, { name := "hash", type := .int, accessFlags := 2, slot := 3, constantValue := 0 }, { name := "hashed", type := .boolean, accessFlags := 2, slot := 4, constantValue := 0 }]
  methods := #[k3m0, k3m1, k3m2]
  instanceTypes := #[(.array .byte), .int, .int, .int, .boolean]
  staticTypes := #[]
  resolved := Array.replicate 65 none
  statics := none }

def pool4 : Array CpInfo := pool [(1, .class_ 2), (0, u "java/io/Serializable"), (0, .class_ 4), (0, u "java/lang/Object")] 2

/-- java/io/Serializable -/
def k4 : Class := { plain "java/io/Serializable" (some 0) with
  accessFlags := 1537
  interfaces := #[]
  cf := some (fileOf pool4 1 #[] #[] 1537 3 #[] #[])
  fields := #[]
  methods := #[]
  instanceTypes := #[]
  staticTypes := #[]
  resolved := Array.replicate 7 none
  statics := none }

def pool5 : Array CpInfo := pool [(1, .methodref 2 3), (0, .class_ 4), (0, .nameAndType 5 6), (0, u "java/lang/Object"), (0, u "<init>"), (0, u "()V"), (1, .class_ 10), (1, u "java/lang/Number"), (2, .class_ 14), (0, u "java/io/Serializable"), (0, u "serialVersionUID"), (0, u "J")] 20

def k5c0 : Code := { maxStack := 1, maxLocals := 1, code := jdk_18_method_1_code, exceptionTable := #[], attributes := #[] }
def k5m0 : Method := { name := "<init>", desc := "()V", sig := { parameters := [], returnType := none }, accessFlags := 1, code := some k5c0 }
/-- java/lang/Number -/
def k5 : Class := { plain "java/lang/Number" (some 0) with
  accessFlags := 1057
  interfaces := #[4]
  cf := some (fileOf pool5 8 #[] #[{ accessFlags := 1, nameIndex := 5, descriptorIndex := 6, attributes := #[] }] 1057 2 #[13] #[{ accessFlags := 26, nameIndex := 15, descriptorIndex := 16, attributes := #[] }])
  fields := #[{ name := "serialVersionUID", type := .long, accessFlags := 26, slot := 0, constantValue := 0 }]
  methods := #[k5m0]
  instanceTypes := #[]
  staticTypes := #[.long]
  resolved := Array.replicate 37 none
  statics := none }

def pool6 : Array CpInfo := pool [(1, .class_ 2), (0, u "java/lang/constant/Constable"), (0, .class_ 4), (0, u "java/lang/Object")] 6

/-- java/lang/constant/Constable -/
def k6 : Class := { plain "java/lang/constant/Constable" (some 0) with
  accessFlags := 1537
  interfaces := #[]
  cf := some (fileOf pool6 1 #[] #[] 1537 3 #[] #[])
  fields := #[]
  methods := #[]
  instanceTypes := #[]
  staticTypes := #[]
  resolved := Array.replicate 11 none
  statics := none }

def pool7 : Array CpInfo := pool [(1, .class_ 2), (0, u "java/lang/constant/ConstantDesc"), (0, .class_ 4), (0, u "java/lang/Object")] 32

/-- java/lang/constant/ConstantDesc -/
def k7 : Class := { plain "java/lang/constant/ConstantDesc" (some 0) with
  accessFlags := 1537
  interfaces := #[]
  cf := some (fileOf pool7 1 #[] #[] 1537 3 #[] #[])
  fields := #[]
  methods := #[]
  instanceTypes := #[]
  staticTypes := #[]
  resolved := Array.replicate 37 none
  statics := none }

def pool8 : Array CpInfo := pool [(1, .class_ 2), (0, u "java/lang/Integer"), (16, u "digits"), (0, u "[C"), (46, u "<init>"), (17, u "DigitOnes"), (0, u "[B"), (2, u "DigitTens"), (10, .nameAndType 67 101), (0, u "()V"), (85, u "valueOf"), (0, u "(I)Ljava/lang/Integer;"), (0, .class_ 190), (0, u "java/lang/Integer$IntegerCache"), (0, .fieldref 189 192), (0, .nameAndType 193 194), (0, u "high"), (0, u "I"), (0, .fieldref 189 196), (0, .nameAndType 197 198), (0, u "cache"), (0, u "[Ljava/lang/Integer;"), (0, .methodref 1 200), (0, .nameAndType 67 201), (0, u "(I)V"), (0, .methodref 203 100), (0, .class_ 204), (0, u "java/lang/Number"), (0, .fieldref 1 206), (0, .nameAndType 207 194), (0, u "value"), (94, u "TYPE"), (0, u "Ljava/lang/Class;"), (0, .class_ 305), (0, u "java/lang/Comparable"), (0, .class_ 307), (0, u "java/lang/constant/Constable"), (0, .class_ 309), (0, u "java/lang/constant/ConstantDesc"), (0, u "MIN_VALUE"), (1, u "MAX_VALUE"), (3, u "SIZE"), (1, u "BYTES"), (1, u "serialVersionUID"), (0, u "J")] 131

def k8c0 : Code := { maxStack := 3, maxLocals := 1, code := jdk_33_method_22_code, exceptionTable := #[], attributes := #[] }
def k8m0 : Method := { name := "valueOf", desc := "(I)Ljava/lang/Integer;", sig := { parameters := [.int], returnType := some (.object "java/lang/Integer") }, accessFlags := 9, code := some k8c0 }
def k8c1 : Code := { maxStack := 2, maxLocals := 2, code := jdk_33_method_23_code, exceptionTable := #[], attributes := #[] }
def k8m1 : Method := { name := "<init>", desc := "(I)V", sig := { parameters := [.int], returnType := none }, accessFlags := 1, code := some k8c1 }
/-- java/lang/Integer -/
def k8 : Class := { plain "java/lang/Integer" (some 5) with
  accessFlags := 49
  interfaces := #[2, 6, 7]
  cf := some (fileOf pool8 1 #[.nestMembers #[189]] #[{ accessFlags := 9, nameIndex := 187, descriptorIndex := 188, attributes := #[] }, { accessFlags := 1, nameIndex := 67, descriptorIndex := 201, attributes := #[] }] 49 203 #[304, 306, 308] #[{ accessFlags := 25, nameIndex := 310, descriptorIndex := 194, attributes := #[] }, { accessFlags := 25, nameIndex := 312, descriptorIndex := 194, attributes := #[] }, { accessFlags := 25, nameIndex := 302, descriptorIndex := 303, attributes := #[] }, { accessFlags := 24, nameIndex := 19, descriptorIndex := 20, attributes := #[] }, { accessFlags := 24, nameIndex := 89, descriptorIndex := 86, attributes := #[] }, { accessFlags := 24, nameIndex := 85, descriptorIndex := 86, attributes := #[] }, { accessFlags := 18, nameIndex := 207, descriptorIndex := 194, attributes := #[] }, { accessFlags := 25, nameIndex := 316, descriptorIndex := 194, attributes := #[] }, { accessFlags := 25, nameIndex := 318, descriptorIndex := 194, attributes := #[] }, { accessFlags := 26, nameIndex := 320, descriptorIndex := 321, attributes := #[] }])
  fields := #[{ name := "MIN_VALUE", type := .int, accessFlags := 25, slot := 0, constantValue := 0 }, { name := "MAX_VALUE", type := .int, accessFlags := 25, slot := 1, constantValue := 0 }, { name := "TYPE", type := (.object "java/lang/Class"), accessFlags := 25, slot := 2, constantValue := 0 }, { name := "digits", type := (.array .char), accessFlags := 24, slot := 3, constantValue := 0 }, { name := "DigitTens", type := (.array .byte), accessFlags := 24, slot := 4, constantValue := 0 }, { name := "DigitOnes", type := (.array .byte), accessFlags := 24, slot := 5, constantValue := 0 }, { name := "value", type := .int, accessFlags := 18, slot := 0, constantValue := 0 }, { name := "SIZE", type := .int, accessFlags := 25, slot := 6, constantValue := 0 }, { name := "BYTES", type := .int, accessFlags := 25, slot := 7, constantValue := 0 }, { name := "serialVersionUID", type := .long, accessFlags := 26, slot := 8, constantValue := 0 }]
  methods := #[k8m0, k8m1]
  instanceTypes := #[.int]
  staticTypes := #[.int, .int, (.object "java/lang/Class"), (.array .char), (.array .byte), (.array .byte), .int, .int, .long]
  resolved := Array.replicate 453 none
  statics := none }

def pool9 : Array CpInfo := pool [(2, .class_ 4), (1, u "java/lang/Object"), (0, u "<init>"), (0, u "()V"), (0, .class_ 8), (0, u "java/lang/Integer"), (7, .class_ 18), (1, u "java/lang/Integer$IntegerCache"), (0, u "$assertionsDisabled"), (0, u "Z"), (26, u "high"), (0, u "I"), (8, u "archivedCache"), (0, u "[Ljava/lang/Integer;"), (12, u "cache"), (0, u "low")] 27

def k9m0 : Method := { name := "<init>", desc := "()V", sig := { parameters := [], returnType := none }, accessFlags := 2, code := none }
/-- java/lang/Integer$IntegerCache -/
def k9 : Class := { plain "java/lang/Integer$IntegerCache" (some 0) with
  accessFlags := 48
  interfaces := #[]
  cf := some (fileOf pool9 16 #[.nestHost 7] #[{ accessFlags := 2, nameIndex := 5, descriptorIndex := 6, attributes := #[] }] 48 2 #[] #[{ accessFlags := 24, nameIndex := 72, descriptorIndex := 48, attributes := #[] }, { accessFlags := 24, nameIndex := 47, descriptorIndex := 48, attributes := #[] }, { accessFlags := 24, nameIndex := 71, descriptorIndex := 58, attributes := #[] }, { accessFlags := 8, nameIndex := 57, descriptorIndex := 58, attributes := #[] }, { accessFlags := 4120, nameIndex := 19, descriptorIndex := 20, attributes := #[] }])
  fields := #[{ name := "low", type := .int, accessFlags := 24, slot := 0, constantValue := 0 }, { name := "high", type := .int, accessFlags := 24, slot := 1, constantValue := 0 }, { name := "cache", type := (.array (.object "java/lang/Integer")), accessFlags := 24, slot := 2, constantValue := 0 }, { name := "archivedCache", type := (.array (.object "java/lang/Integer")), accessFlags := 8, slot := 3, constantValue := 0 }, { name := "$assertionsDisabled", type := .boolean, accessFlags := 4120, slot := 4, constantValue := 0 }]
  methods := #[k9m0]
  instanceTypes := #[]
  staticTypes := #[.int, .int, (.array (.object "java/lang/Integer")), (.array (.object "java/lang/Integer")), .boolean]
  resolved := Array.replicate 100 none
  statics := some 0 }

def pool10 : Array CpInfo := pool [(1, u "java/lang/Cloneable"), (0, .class_ 1), (0, u "java/lang/Object"), (0, .class_ 3)] 3

/-- java/lang/Cloneable -/
def k10 : Class := { plain "java/lang/Cloneable" (some 0) with
  accessFlags := 1537
  interfaces := #[]
  cf := some (fileOf pool10 2 #[] #[] 1537 4 #[] #[])
  fields := #[]
  methods := #[]
  instanceTypes := #[]
  staticTypes := #[]
  resolved := Array.replicate 8 none
  statics := none }

/-- the primitive byte -/
def k11 : Class := { plain "byte" none with kind := .primitive 'B', accessFlags := 0x411 }
/-- [B -/
def k12 : Class := { plain "[B" (some 0) with kind := .array 11 .byte, interfaces := #[10, 4], accessFlags := 1041 }

/-- the primitive int -/
def k13 : Class := { plain "int" none with kind := .primitive 'I', accessFlags := 0x411 }
/-- [I -/
def k14 : Class := { plain "[I" (some 0) with kind := .array 13 .int, interfaces := #[10, 4], accessFlags := 1041 }

/-- [Ljava/lang/Integer; -/
def k15 : Class := { plain "[Ljava/lang/Integer;" (some 0) with kind := .array 8 (.object "java/lang/Integer"), interfaces := #[10, 4], accessFlags := 1041 }

def heap : Heap := #[{ cls := 9, slots := #[.int 0, .int 127, .ref 1, .null, .int 0], vm := .statics 9 },
  { cls := 15, slots := #[.ref 2, .ref 3, .ref 4, .ref 5, .ref 6, .ref 7, .ref 8, .ref 9, .ref 10, .ref 11, .ref 12, .ref 13, .ref 14, .ref 15, .ref 16, .ref 17, .ref 18, .ref 19, .ref 20, .ref 21, .ref 22, .ref 23, .ref 24, .ref 25, .ref 26, .ref 27, .ref 28, .ref 29, .ref 30, .ref 31, .ref 32, .ref 33, .ref 34, .ref 35, .ref 36, .ref 37, .ref 38, .ref 39, .ref 40, .ref 41, .ref 42, .ref 43, .ref 44, .ref 45, .ref 46, .ref 47, .ref 48, .ref 49, .ref 50, .ref 51, .ref 52, .ref 53, .ref 54, .ref 55, .ref 56, .ref 57, .ref 58, .ref 59, .ref 60, .ref 61, .ref 62, .ref 63, .ref 64, .ref 65, .ref 66, .ref 67, .ref 68, .ref 69, .ref 70, .ref 71, .ref 72, .ref 73, .ref 74, .ref 75, .ref 76, .ref 77, .ref 78, .ref 79, .ref 80, .ref 81, .ref 82, .ref 83, .ref 84, .ref 85, .ref 86, .ref 87, .ref 88, .ref 89, .ref 90, .ref 91, .ref 92, .ref 93, .ref 94, .ref 95, .ref 96, .ref 97, .ref 98, .ref 99, .ref 100, .ref 101, .ref 102, .ref 103, .ref 104, .ref 105, .ref 106, .ref 107, .ref 108, .ref 109, .ref 110, .ref 111, .ref 112, .ref 113, .ref 114, .ref 115, .ref 116, .ref 117, .ref 118, .ref 119, .ref 120, .ref 121, .ref 122, .ref 123, .ref 124, .ref 125, .ref 126, .ref 127, .ref 128, .ref 129, .ref 130, .ref 131, .ref 132, .ref 133, .ref 134, .ref 135, .ref 136, .ref 137, .ref 138, .ref 139, .ref 140, .ref 141, .ref 142, .ref 143, .ref 144, .ref 145, .ref 146, .ref 147, .ref 148, .ref 149, .ref 150, .ref 151, .ref 152, .ref 153, .ref 154, .ref 155, .ref 156, .ref 157, .ref 158, .ref 159, .ref 160, .ref 161, .ref 162, .ref 163, .ref 164, .ref 165, .ref 166, .ref 167, .ref 168, .ref 169, .ref 170, .ref 171, .ref 172, .ref 173, .ref 174, .ref 175, .ref 176, .ref 177, .ref 178, .ref 179, .ref 180, .ref 181, .ref 182, .ref 183, .ref 184, .ref 185, .ref 186, .ref 187, .ref 188, .ref 189, .ref 190, .ref 191, .ref 192, .ref 193, .ref 194, .ref 195, .ref 196, .ref 197, .ref 198, .ref 199, .ref 200, .ref 201, .ref 202, .ref 203, .ref 204, .ref 205, .ref 206, .ref 207, .ref 208, .ref 209, .ref 210, .ref 211, .ref 212, .ref 213, .ref 214, .ref 215, .ref 216, .ref 217, .ref 218, .ref 219, .ref 220, .ref 221, .ref 222, .ref 223, .ref 224, .ref 225, .ref 226, .ref 227, .ref 228, .ref 229, .ref 230, .ref 231, .ref 232, .ref 233, .ref 234, .ref 235, .ref 236, .ref 237, .ref 238, .ref 239, .ref 240, .ref 241, .ref 242, .ref 243, .ref 244, .ref 245, .ref 246, .ref 247, .ref 248, .ref 249, .ref 250, .ref 251, .ref 252, .ref 253, .ref 254, .ref 255, .ref 256, .ref 257], vm := .none },
  { cls := 8, slots := #[.int (-128)], vm := .none },
  { cls := 8, slots := #[.int (-127)], vm := .none },
  { cls := 8, slots := #[.int (-126)], vm := .none },
  { cls := 8, slots := #[.int (-125)], vm := .none },
  { cls := 8, slots := #[.int (-124)], vm := .none },
  { cls := 8, slots := #[.int (-123)], vm := .none },
  { cls := 8, slots := #[.int (-122)], vm := .none },
  { cls := 8, slots := #[.int (-121)], vm := .none },
  { cls := 8, slots := #[.int (-120)], vm := .none },
  { cls := 8, slots := #[.int (-119)], vm := .none },
  { cls := 8, slots := #[.int (-118)], vm := .none },
  { cls := 8, slots := #[.int (-117)], vm := .none },
  { cls := 8, slots := #[.int (-116)], vm := .none },
  { cls := 8, slots := #[.int (-115)], vm := .none },
  { cls := 8, slots := #[.int (-114)], vm := .none },
  { cls := 8, slots := #[.int (-113)], vm := .none },
  { cls := 8, slots := #[.int (-112)], vm := .none },
  { cls := 8, slots := #[.int (-111)], vm := .none },
  { cls := 8, slots := #[.int (-110)], vm := .none },
  { cls := 8, slots := #[.int (-109)], vm := .none },
  { cls := 8, slots := #[.int (-108)], vm := .none },
  { cls := 8, slots := #[.int (-107)], vm := .none },
  { cls := 8, slots := #[.int (-106)], vm := .none },
  { cls := 8, slots := #[.int (-105)], vm := .none },
  { cls := 8, slots := #[.int (-104)], vm := .none },
  { cls := 8, slots := #[.int (-103)], vm := .none },
  { cls := 8, slots := #[.int (-102)], vm := .none },
  { cls := 8, slots := #[.int (-101)], vm := .none },
  { cls := 8, slots := #[.int (-100)], vm := .none },
  { cls := 8, slots := #[.int (-99)], vm := .none },
  { cls := 8, slots := #[.int (-98)], vm := .none },
  { cls := 8, slots := #[.int (-97)], vm := .none },
  { cls := 8, slots := #[.int (-96)], vm := .none },
  { cls := 8, slots := #[.int (-95)], vm := .none },
  { cls := 8, slots := #[.int (-94)], vm := .none },
  { cls := 8, slots := #[.int (-93)], vm := .none },
  { cls := 8, slots := #[.int (-92)], vm := .none },
  { cls := 8, slots := #[.int (-91)], vm := .none },
  { cls := 8, slots := #[.int (-90)], vm := .none },
  { cls := 8, slots := #[.int (-89)], vm := .none },
  { cls := 8, slots := #[.int (-88)], vm := .none },
  { cls := 8, slots := #[.int (-87)], vm := .none },
  { cls := 8, slots := #[.int (-86)], vm := .none },
  { cls := 8, slots := #[.int (-85)], vm := .none },
  { cls := 8, slots := #[.int (-84)], vm := .none },
  { cls := 8, slots := #[.int (-83)], vm := .none },
  { cls := 8, slots := #[.int (-82)], vm := .none },
  { cls := 8, slots := #[.int (-81)], vm := .none },
  { cls := 8, slots := #[.int (-80)], vm := .none },
  { cls := 8, slots := #[.int (-79)], vm := .none },
  { cls := 8, slots := #[.int (-78)], vm := .none },
  { cls := 8, slots := #[.int (-77)], vm := .none },
  { cls := 8, slots := #[.int (-76)], vm := .none },
  { cls := 8, slots := #[.int (-75)], vm := .none },
  { cls := 8, slots := #[.int (-74)], vm := .none },
  { cls := 8, slots := #[.int (-73)], vm := .none },
  { cls := 8, slots := #[.int (-72)], vm := .none },
  { cls := 8, slots := #[.int (-71)], vm := .none },
  { cls := 8, slots := #[.int (-70)], vm := .none },
  { cls := 8, slots := #[.int (-69)], vm := .none },
  { cls := 8, slots := #[.int (-68)], vm := .none },
  { cls := 8, slots := #[.int (-67)], vm := .none },
  { cls := 8, slots := #[.int (-66)], vm := .none },
  { cls := 8, slots := #[.int (-65)], vm := .none },
  { cls := 8, slots := #[.int (-64)], vm := .none },
  { cls := 8, slots := #[.int (-63)], vm := .none },
  { cls := 8, slots := #[.int (-62)], vm := .none },
  { cls := 8, slots := #[.int (-61)], vm := .none },
  { cls := 8, slots := #[.int (-60)], vm := .none },
  { cls := 8, slots := #[.int (-59)], vm := .none },
  { cls := 8, slots := #[.int (-58)], vm := .none },
  { cls := 8, slots := #[.int (-57)], vm := .none },
  { cls := 8, slots := #[.int (-56)], vm := .none },
  { cls := 8, slots := #[.int (-55)], vm := .none },
  { cls := 8, slots := #[.int (-54)], vm := .none },
  { cls := 8, slots := #[.int (-53)], vm := .none },
  { cls := 8, slots := #[.int (-52)], vm := .none },
  { cls := 8, slots := #[.int (-51)], vm := .none },
  { cls := 8, slots := #[.int (-50)], vm := .none },
  { cls := 8, slots := #[.int (-49)], vm := .none },
  { cls := 8, slots := #[.int (-48)], vm := .none },
  { cls := 8, slots := #[.int (-47)], vm := .none },
  { cls := 8, slots := #[.int (-46)], vm := .none },
  { cls := 8, slots := #[.int (-45)], vm := .none },
  { cls := 8, slots := #[.int (-44)], vm := .none },
  { cls := 8, slots := #[.int (-43)], vm := .none },
  { cls := 8, slots := #[.int (-42)], vm := .none },
  { cls := 8, slots := #[.int (-41)], vm := .none },
  { cls := 8, slots := #[.int (-40)], vm := .none },
  { cls := 8, slots := #[.int (-39)], vm := .none },
  { cls := 8, slots := #[.int (-38)], vm := .none },
  { cls := 8, slots := #[.int (-37)], vm := .none },
  { cls := 8, slots := #[.int (-36)], vm := .none },
  { cls := 8, slots := #[.int (-35)], vm := .none },
  { cls := 8, slots := #[.int (-34)], vm := .none },
  { cls := 8, slots := #[.int (-33)], vm := .none },
  { cls := 8, slots := #[.int (-32)], vm := .none },
  { cls := 8, slots := #[.int (-31)], vm := .none },
  { cls := 8, slots := #[.int (-30)], vm := .none },
  { cls := 8, slots := #[.int (-29)], vm := .none },
  { cls := 8, slots := #[.int (-28)], vm := .none },
  { cls := 8, slots := #[.int (-27)], vm := .none },
  { cls := 8, slots := #[.int (-26)], vm := .none },
  { cls := 8, slots := #[.int (-25)], vm := .none },
  { cls := 8, slots := #[.int (-24)], vm := .none },
  { cls := 8, slots := #[.int (-23)], vm := .none },
  { cls := 8, slots := #[.int (-22)], vm := .none },
  { cls := 8, slots := #[.int (-21)], vm := .none },
  { cls := 8, slots := #[.int (-20)], vm := .none },
  { cls := 8, slots := #[.int (-19)], vm := .none },
  { cls := 8, slots := #[.int (-18)], vm := .none },
  { cls := 8, slots := #[.int (-17)], vm := .none },
  { cls := 8, slots := #[.int (-16)], vm := .none },
  { cls := 8, slots := #[.int (-15)], vm := .none },
  { cls := 8, slots := #[.int (-14)], vm := .none },
  { cls := 8, slots := #[.int (-13)], vm := .none },
  { cls := 8, slots := #[.int (-12)], vm := .none },
  { cls := 8, slots := #[.int (-11)], vm := .none },
  { cls := 8, slots := #[.int (-10)], vm := .none },
  { cls := 8, slots := #[.int (-9)], vm := .none },
  { cls := 8, slots := #[.int (-8)], vm := .none },
  { cls := 8, slots := #[.int (-7)], vm := .none },
  { cls := 8, slots := #[.int (-6)], vm := .none },
  { cls := 8, slots := #[.int (-5)], vm := .none },
  { cls := 8, slots := #[.int (-4)], vm := .none },
  { cls := 8, slots := #[.int (-3)], vm := .none },
  { cls := 8, slots := #[.int (-2)], vm := .none },
  { cls := 8, slots := #[.int (-1)], vm := .none },
  { cls := 8, slots := #[.int (0)], vm := .none },
  { cls := 8, slots := #[.int (1)], vm := .none },
  { cls := 8, slots := #[.int (2)], vm := .none },
  { cls := 8, slots := #[.int (3)], vm := .none },
  { cls := 8, slots := #[.int (4)], vm := .none },
  { cls := 8, slots := #[.int (5)], vm := .none },
  { cls := 8, slots := #[.int (6)], vm := .none },
  { cls := 8, slots := #[.int (7)], vm := .none },
  { cls := 8, slots := #[.int (8)], vm := .none },
  { cls := 8, slots := #[.int (9)], vm := .none },
  { cls := 8, slots := #[.int (10)], vm := .none },
  { cls := 8, slots := #[.int (11)], vm := .none },
  { cls := 8, slots := #[.int (12)], vm := .none },
  { cls := 8, slots := #[.int (13)], vm := .none },
  { cls := 8, slots := #[.int (14)], vm := .none },
  { cls := 8, slots := #[.int (15)], vm := .none },
  { cls := 8, slots := #[.int (16)], vm := .none },
  { cls := 8, slots := #[.int (17)], vm := .none },
  { cls := 8, slots := #[.int (18)], vm := .none },
  { cls := 8, slots := #[.int (19)], vm := .none },
  { cls := 8, slots := #[.int (20)], vm := .none },
  { cls := 8, slots := #[.int (21)], vm := .none },
  { cls := 8, slots := #[.int (22)], vm := .none },
  { cls := 8, slots := #[.int (23)], vm := .none },
  { cls := 8, slots := #[.int (24)], vm := .none },
  { cls := 8, slots := #[.int (25)], vm := .none },
  { cls := 8, slots := #[.int (26)], vm := .none },
  { cls := 8, slots := #[.int (27)], vm := .none },
  { cls := 8, slots := #[.int (28)], vm := .none },
  { cls := 8, slots := #[.int (29)], vm := .none },
  { cls := 8, slots := #[.int (30)], vm := .none },
  { cls := 8, slots := #[.int (31)], vm := .none },
  { cls := 8, slots := #[.int (32)], vm := .none },
  { cls := 8, slots := #[.int (33)], vm := .none },
  { cls := 8, slots := #[.int (34)], vm := .none },
  { cls := 8, slots := #[.int (35)], vm := .none },
  { cls := 8, slots := #[.int (36)], vm := .none },
  { cls := 8, slots := #[.int (37)], vm := .none },
  { cls := 8, slots := #[.int (38)], vm := .none },
  { cls := 8, slots := #[.int (39)], vm := .none },
  { cls := 8, slots := #[.int (40)], vm := .none },
  { cls := 8, slots := #[.int (41)], vm := .none },
  { cls := 8, slots := #[.int (42)], vm := .none },
  { cls := 8, slots := #[.int (43)], vm := .none },
  { cls := 8, slots := #[.int (44)], vm := .none },
  { cls := 8, slots := #[.int (45)], vm := .none },
  { cls := 8, slots := #[.int (46)], vm := .none },
  { cls := 8, slots := #[.int (47)], vm := .none },
  { cls := 8, slots := #[.int (48)], vm := .none },
  { cls := 8, slots := #[.int (49)], vm := .none },
  { cls := 8, slots := #[.int (50)], vm := .none },
  { cls := 8, slots := #[.int (51)], vm := .none },
  { cls := 8, slots := #[.int (52)], vm := .none },
  { cls := 8, slots := #[.int (53)], vm := .none },
  { cls := 8, slots := #[.int (54)], vm := .none },
  { cls := 8, slots := #[.int (55)], vm := .none },
  { cls := 8, slots := #[.int (56)], vm := .none },
  { cls := 8, slots := #[.int (57)], vm := .none },
  { cls := 8, slots := #[.int (58)], vm := .none },
  { cls := 8, slots := #[.int (59)], vm := .none },
  { cls := 8, slots := #[.int (60)], vm := .none },
  { cls := 8, slots := #[.int (61)], vm := .none },
  { cls := 8, slots := #[.int (62)], vm := .none },
  { cls := 8, slots := #[.int (63)], vm := .none },
  { cls := 8, slots := #[.int (64)], vm := .none },
  { cls := 8, slots := #[.int (65)], vm := .none },
  { cls := 8, slots := #[.int (66)], vm := .none },
  { cls := 8, slots := #[.int (67)], vm := .none },
  { cls := 8, slots := #[.int (68)], vm := .none },
  { cls := 8, slots := #[.int (69)], vm := .none },
  { cls := 8, slots := #[.int (70)], vm := .none },
  { cls := 8, slots := #[.int (71)], vm := .none },
  { cls := 8, slots := #[.int (72)], vm := .none },
  { cls := 8, slots := #[.int (73)], vm := .none },
  { cls := 8, slots := #[.int (74)], vm := .none },
  { cls := 8, slots := #[.int (75)], vm := .none },
  { cls := 8, slots := #[.int (76)], vm := .none },
  { cls := 8, slots := #[.int (77)], vm := .none },
  { cls := 8, slots := #[.int (78)], vm := .none },
  { cls := 8, slots := #[.int (79)], vm := .none },
  { cls := 8, slots := #[.int (80)], vm := .none },
  { cls := 8, slots := #[.int (81)], vm := .none },
  { cls := 8, slots := #[.int (82)], vm := .none },
  { cls := 8, slots := #[.int (83)], vm := .none },
  { cls := 8, slots := #[.int (84)], vm := .none },
  { cls := 8, slots := #[.int (85)], vm := .none },
  { cls := 8, slots := #[.int (86)], vm := .none },
  { cls := 8, slots := #[.int (87)], vm := .none },
  { cls := 8, slots := #[.int (88)], vm := .none },
  { cls := 8, slots := #[.int (89)], vm := .none },
  { cls := 8, slots := #[.int (90)], vm := .none },
  { cls := 8, slots := #[.int (91)], vm := .none },
  { cls := 8, slots := #[.int (92)], vm := .none },
  { cls := 8, slots := #[.int (93)], vm := .none },
  { cls := 8, slots := #[.int (94)], vm := .none },
  { cls := 8, slots := #[.int (95)], vm := .none },
  { cls := 8, slots := #[.int (96)], vm := .none },
  { cls := 8, slots := #[.int (97)], vm := .none },
  { cls := 8, slots := #[.int (98)], vm := .none },
  { cls := 8, slots := #[.int (99)], vm := .none },
  { cls := 8, slots := #[.int (100)], vm := .none },
  { cls := 8, slots := #[.int (101)], vm := .none },
  { cls := 8, slots := #[.int (102)], vm := .none },
  { cls := 8, slots := #[.int (103)], vm := .none },
  { cls := 8, slots := #[.int (104)], vm := .none },
  { cls := 8, slots := #[.int (105)], vm := .none },
  { cls := 8, slots := #[.int (106)], vm := .none },
  { cls := 8, slots := #[.int (107)], vm := .none },
  { cls := 8, slots := #[.int (108)], vm := .none },
  { cls := 8, slots := #[.int (109)], vm := .none },
  { cls := 8, slots := #[.int (110)], vm := .none },
  { cls := 8, slots := #[.int (111)], vm := .none },
  { cls := 8, slots := #[.int (112)], vm := .none },
  { cls := 8, slots := #[.int (113)], vm := .none },
  { cls := 8, slots := #[.int (114)], vm := .none },
  { cls := 8, slots := #[.int (115)], vm := .none },
  { cls := 8, slots := #[.int (116)], vm := .none },
  { cls := 8, slots := #[.int (117)], vm := .none },
  { cls := 8, slots := #[.int (118)], vm := .none },
  { cls := 8, slots := #[.int (119)], vm := .none },
  { cls := 8, slots := #[.int (120)], vm := .none },
  { cls := 8, slots := #[.int (121)], vm := .none },
  { cls := 8, slots := #[.int (122)], vm := .none },
  { cls := 8, slots := #[.int (123)], vm := .none },
  { cls := 8, slots := #[.int (124)], vm := .none },
  { cls := 8, slots := #[.int (125)], vm := .none },
  { cls := 8, slots := #[.int (126)], vm := .none },
  { cls := 8, slots := #[.int (127)], vm := .none }]
def classes : Array Class := #[k0, k1, k2, k3, k4, k5, k6, k7, k8, k9, k10, k11, k12, k13, k14, k15]
def interned : List (Array UInt16 × Addr) := []
def slotsUsed : Nat := 517
def theMethod : MethodId := ⟨1, 1⟩
def args0 : Array Value := #[.int 5, .int 7, .int 2, .int 1]
def aboutOver (below : List Frame) : State where
  vm := { classes := classes, interned := interned.toArray }
  heap := heap
  slotsUsed := slotsUsed
  threads := #[{ frames := .invoking theMethod args0 :: below }]
def below0 : List Frame := [.native { method := ⟨0, 0⟩, args := #[] }]
def about1 : State := aboutOver below0
def p0 : Program := .bare "" "" ""
def e0 : Env := launch0.env 0 0 0
theorem w_frames : about1.frames = Frame.invoking theMethod args0 :: below0 := rfl
set_option maxRecDepth 65536 in
theorem w_args : argsFit about1.vm theMethod args0 = true := by decide +kernel
set_option maxRecDepth 65536 in
theorem w_heap : heapFits about1 = true := by decide +kernel
set_option maxRecDepth 65536 in
theorem w_runnable : about1.curStatus? = some .runnable := by decide +kernel
set_option maxRecDepth 65536 in
theorem w_alone : about1.alone = true := by decide +kernel
set_option maxRecDepth 65536 in
theorem w_named : about1.methodNamed? x = some theMethod := by decide +kernel
set_option maxRecDepth 65536 in
theorem w_hears : about1.hears theMethod below0 = true := by decide +kernel
set_option maxRecDepth 65536 in
theorem w_ripe : about1.ripe theMethod args0 below0 = true := by decide +kernel
theorem w_running : about1.status = .running := rfl
set_option maxRecDepth 65536 in
theorem w_room : about1.hasRoom e0.platform room_1 = true :=
  launch0.hasRoom_least _ room_1 (by decide +kernel) (by decide +kernel) (by decide +kernel) (by decide +kernel) (by decide +kernel) (by decide +kernel)
theorem allAtoms_all (ts : List Jvm.Cond) (a : Array Jvm.Value) (st : Jvm.State) : (allAtoms ts).before a st = ts.all (fun c => c.before a st) := by
  induction ts with
  | nil => rfl
  | cons c t ih =>
    show (Jvm.Cond.and c (allAtoms t)).before a st = _
    rw [Jvm.Cond.before_and, ih, List.all_cons]
def words1 : List Jvm.Cond := Jvm.Cond.code x code maxLocals ret :: tables_1
/-- a 'code' word, met by the world's own term for the bytes: nothing is compared byte by byte -/
theorem code_word {y : MethodName} {bytes : ByteArray} {mx : Nat} {rt : Option FieldType} {a : Array Value} {s : State} {m : MethodId} {meth : Method} {c : Code} (h1 : s.methodNamed? y = some m) (h2 : s.vm.method? m = some meth) (h3 : meth.code = some c) (h4 : c.code = bytes)
    (h5 : (c.maxLocals == mx && c.exceptionTable.isEmpty && decide (c.maxStack ≤ mostOperands) && decide (meth.sig.returnType = rt) && !meth.locks && decide (parseMethodDescriptor y.desc = some meth.sig)) = true) : (Jvm.Cond.code y bytes mx rt).before a s = true := by
  simp only [Bool.and_eq_true, beq_iff_eq, Bool.not_eq_true', decide_eq_true_eq] at h5
  obtain ⟨⟨⟨⟨⟨g1, g2⟩, g3⟩, g4⟩, g5⟩, g6⟩ := h5
  simp [Cond.before, Cond.holds, Cond.value, h1, h2, h3, h4, g1, g2, g3, g4, g5, g6]
def isCode : Jvm.Cond → Bool
  | .code _ _ _ _ => true
  | _ => false
theorem all_split {L : List Jvm.Cond} {P : Jvm.Cond → Bool} (h1 : L.all (fun c => isCode c || P c) = true) (h2 : ∀ c ∈ L.filter isCode, P c = true) : L.all P = true := by
  refine List.all_eq_true.mpr fun c hc => ?_
  have h := List.all_eq_true.mp h1 c hc
  rcases Bool.eq_false_or_eq_true (isCode c) with hi | hi
  · exact h2 c (List.mem_filter.mpr ⟨hc, hi⟩)
  · simpa [hi] using h
set_option maxRecDepth 65536 in
theorem w_c0 : (Jvm.Cond.code x code maxLocals ret).before args0 about1 = true := code_word (m := ⟨1, 1⟩) (meth := k1m1) (c := k1c1) (by decide +kernel) rfl rfl rfl (by decide +kernel)
set_option maxRecDepth 65536 in
theorem w_c1 : (Jvm.Cond.code ({ cls := "com/example/rankweave/rankweave/io/FieldBytes", name := "<init>", desc := "()V" } : Jvm.MethodName) prog_45_method_1_code (1 : Nat) (Option.none : Option Jvm.ClassFile.FieldType)).before args0 about1 = true := code_word (m := ⟨3, 0⟩) (meth := k3m0) (c := k3c0) (by decide +kernel) rfl rfl rfl (by decide +kernel)
set_option maxRecDepth 65536 in
theorem w_c2 : (Jvm.Cond.code ({ cls := "java/lang/Object", name := "<init>", desc := "()V" } : Jvm.MethodName) object_method_1_code (1 : Nat) (Option.none : Option Jvm.ClassFile.FieldType)).before args0 about1 = true := code_word (m := ⟨0, 0⟩) (meth := k0m0) (c := k0c0) (by decide +kernel) rfl rfl rfl (by decide +kernel)
set_option maxRecDepth 65536 in
theorem w_c3 : (Jvm.Cond.code ({ cls := "com/example/rankweave/rankweave/io/FieldBytes", name := "view", desc := "([BII)V" } : Jvm.MethodName) prog_45_method_3_code (4 : Nat) (Option.none : Option Jvm.ClassFile.FieldType)).before args0 about1 = true := code_word (m := ⟨3, 1⟩) (meth := k3m1) (c := k3c1) (by decide +kernel) rfl rfl rfl (by decide +kernel)
set_option maxRecDepth 65536 in
theorem w_c4 : (Jvm.Cond.code ({ cls := "com/example/rankweave/rankweave/io/FieldBytes", name := "equals", desc := "(Ljava/lang/Object;)Z" } : Jvm.MethodName) prog_45_method_6_code (5 : Nat) (Option.some Jvm.ClassFile.FieldType.boolean)).before args0 about1 = true := code_word (m := ⟨3, 2⟩) (meth := k3m2) (c := k3c2) (by decide +kernel) rfl rfl rfl (by decide +kernel)
set_option maxRecDepth 65536 in
theorem w_c5 : (Jvm.Cond.code ({ cls := "java/lang/Integer", name := "valueOf", desc := "(I)Ljava/lang/Integer;" } : Jvm.MethodName) jdk_33_method_22_code (1 : Nat) (Option.some (Jvm.ClassFile.FieldType.object "java/lang/Integer"))).before args0 about1 = true := code_word (m := ⟨8, 0⟩) (meth := k8m0) (c := k8c0) (by decide +kernel) rfl rfl rfl (by decide +kernel)
set_option maxRecDepth 65536 in
theorem w_c6 : (Jvm.Cond.code ({ cls := "java/lang/Integer", name := "<init>", desc := "(I)V" } : Jvm.MethodName) jdk_33_method_23_code (2 : Nat) (Option.none : Option Jvm.ClassFile.FieldType)).before args0 about1 = true := code_word (m := ⟨8, 1⟩) (meth := k8m1) (c := k8c1) (by decide +kernel) rfl rfl rfl (by decide +kernel)
set_option maxRecDepth 65536 in
theorem w_c7 : (Jvm.Cond.code ({ cls := "java/lang/Number", name := "<init>", desc := "()V" } : Jvm.MethodName) jdk_18_method_1_code (1 : Nat) (Option.none : Option Jvm.ClassFile.FieldType)).before args0 about1 = true := code_word (m := ⟨5, 0⟩) (meth := k5m0) (c := k5c0) (by decide +kernel) rfl rfl rfl (by decide +kernel)
set_option maxRecDepth 65536 in
theorem w_c8 : (Jvm.Cond.code ({ cls := "com/example/rankweave/rankweave/io/FieldBytesEqualsPinLaw", name := "sameBytes", desc := "([BII[BII)Z" } : Jvm.MethodName) method_3_code (7 : Nat) (Option.some Jvm.ClassFile.FieldType.boolean)).before args0 about1 = true := code_word (m := ⟨1, 2⟩) (meth := k1m2) (c := k1c2) (by decide +kernel) rfl rfl rfl (by decide +kernel)
set_option maxRecDepth 65536 in
theorem w_c9 : (Jvm.Cond.code ({ cls := "com/example/rankweave/rankweave/io/FieldBytesEqualsPinLaw", name := "at", desc := "([BI[BIII)Z" } : Jvm.MethodName) method_4_code (6 : Nat) (Option.some Jvm.ClassFile.FieldType.boolean)).before args0 about1 = true := code_word (m := ⟨1, 3⟩) (meth := k1m3) (c := k1c3) (by decide +kernel) rfl rfl rfl (by decide +kernel)
def codes1 : List Jvm.Cond := [Jvm.Cond.code x code maxLocals ret, Jvm.Cond.code ({ cls := "com/example/rankweave/rankweave/io/FieldBytes", name := "<init>", desc := "()V" } : Jvm.MethodName) prog_45_method_1_code (1 : Nat) (Option.none : Option Jvm.ClassFile.FieldType), Jvm.Cond.code ({ cls := "java/lang/Object", name := "<init>", desc := "()V" } : Jvm.MethodName) object_method_1_code (1 : Nat) (Option.none : Option Jvm.ClassFile.FieldType), Jvm.Cond.code ({ cls := "com/example/rankweave/rankweave/io/FieldBytes", name := "view", desc := "([BII)V" } : Jvm.MethodName) prog_45_method_3_code (4 : Nat) (Option.none : Option Jvm.ClassFile.FieldType), Jvm.Cond.code ({ cls := "com/example/rankweave/rankweave/io/FieldBytes", name := "equals", desc := "(Ljava/lang/Object;)Z" } : Jvm.MethodName) prog_45_method_6_code (5 : Nat) (Option.some Jvm.ClassFile.FieldType.boolean), Jvm.Cond.code ({ cls := "java/lang/Integer", name := "valueOf", desc := "(I)Ljava/lang/Integer;" } : Jvm.MethodName) jdk_33_method_22_code (1 : Nat) (Option.some (Jvm.ClassFile.FieldType.object "java/lang/Integer")), Jvm.Cond.code ({ cls := "java/lang/Integer", name := "<init>", desc := "(I)V" } : Jvm.MethodName) jdk_33_method_23_code (2 : Nat) (Option.none : Option Jvm.ClassFile.FieldType), Jvm.Cond.code ({ cls := "java/lang/Number", name := "<init>", desc := "()V" } : Jvm.MethodName) jdk_18_method_1_code (1 : Nat) (Option.none : Option Jvm.ClassFile.FieldType), Jvm.Cond.code ({ cls := "com/example/rankweave/rankweave/io/FieldBytesEqualsPinLaw", name := "sameBytes", desc := "([BII[BII)Z" } : Jvm.MethodName) method_3_code (7 : Nat) (Option.some Jvm.ClassFile.FieldType.boolean), Jvm.Cond.code ({ cls := "com/example/rankweave/rankweave/io/FieldBytesEqualsPinLaw", name := "at", desc := "([BI[BIII)Z" } : Jvm.MethodName) method_4_code (6 : Nat) (Option.some Jvm.ClassFile.FieldType.boolean)]
set_option maxRecDepth 65536 in
theorem codes_eq : words1.filter isCode = codes1 := rfl
theorem w_codes : ∀ c ∈ words1.filter isCode, c.before args0 about1 = true := by
  rw [codes_eq]
  intro c hc
  simp only [codes1, List.mem_cons, List.not_mem_nil, or_false] at hc
  rcases hc with rfl | rfl | rfl | rfl | rfl | rfl | rfl | rfl | rfl | rfl
  · exact w_c0
  · exact w_c1
  · exact w_c2
  · exact w_c3
  · exact w_c4
  · exact w_c5
  · exact w_c6
  · exact w_c7
  · exact w_c8
  · exact w_c9
set_option maxRecDepth 65536 in
theorem w_t1 : (words1.take 24).all (fun c => isCode c || c.before args0 about1) = true := by decide +kernel
set_option maxRecDepth 65536 in
theorem w_t2 : ((words1.drop 24).take 24).all (fun c => isCode c || c.before args0 about1) = true := by decide +kernel
set_option maxRecDepth 65536 in
theorem w_t3 : ((words1.drop 24).drop 24).all (fun c => isCode c || c.before args0 about1) = true := by decide +kernel
theorem w_tables : (allAtoms (Jvm.Cond.code x code maxLocals ret :: tables_1)).before args0 about1 = true := by
  rw [allAtoms_all]
  show words1.all (fun c => c.before args0 about1) = true
  refine all_split ?_ w_codes
  rw [← List.take_append_drop 24 words1, List.all_append, w_t1, ← List.take_append_drop 24 (words1.drop 24), List.all_append, w_t2, w_t3]
  rfl
set_option maxRecDepth 65536 in
theorem w_rest : rest_1_c.before args0 about1 = true := by decide +kernel
set_option maxRecDepth 65536 in
theorem w_case : (Jvm.Cond.and given_1 narrow_1).before args0 about1 = true := by decide +kernel
theorem w_applies : (headSpec (Jvm.Cond.code x code maxLocals ret :: tables_1) room_1).applies x e0.platform about1 = true :=
  (Spec.applies_iff w_frames).mpr ⟨w_running, w_runnable, w_alone, w_named, w_hears, w_ripe, w_room, w_tables⟩
theorem atStart : AtStart classFile x code maxLocals ret World_1 tables_1 room_1 Calls_1 rest_1 Pre_1 launch0 p0 e0 about1 theMethod args0 below0 :=
  ⟨lists_1, trivial, launch0.admits_env _ _ _, launch0.least_env, fairChoices_fair.cas, fairChoices_fair.clock, w_frames, w_args, w_heap, w_applies, trivial, w_rest, w_case⟩
end start1
theorem witness_1 : WitnessClaimed_1 := ⟨start1.p0, start1.e0, start1.about1, start1.theMethod, start1.args0, start1.below0, start1.atStart⟩
end Jvm.Pilot.@@N@@
