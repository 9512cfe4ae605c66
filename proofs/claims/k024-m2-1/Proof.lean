import JvmDerived
import JvmDerived.Pilot.@@N@@Statement
import JvmDerived.Pilot.@@N@@Code
set_option linter.unusedVariables false
set_option linter.unusedSimpArgs false
namespace Jvm.RoadKit
open Sem ClassFile Op Lib Jvm.Stand Jvm.Free Jvm.LawKit
/-- from S the run goes on and returns; what it leaves is said by Q -/
def GoesW (tb : Tables) (e : Env) (below : List Frame) (s : State) (Q : Option Value → Heap → List Loc → Prop) (kc ks : Nat) (S : State) : Prop :=
  ∃ t o, Steps tb e below S t ∧ t.status = .running ∧ Ended t below o ∧ ∃ v L, o = .returned v ∧ Q v t.heap L ∧ FrameEnd s o t L kc ks
theorem GoesW.step {tb : Tables} {e : Env} {below : List Frame} {s : State} {Q : Option Value → Heap → List Loc → Prop} {kc ks : Nat} {S S' : State} (f : ∀ t, Steps tb e below S' t → Steps tb e below S t) (h : GoesW tb e below s Q kc ks S') : GoesW tb e below s Q kc ks S := by
  obtain ⟨t, o, h1, h2⟩ := h
  exact ⟨t, o, f t h1, h2⟩
/-- 0 where the branch is taken, 1 where it isn't: what 'if<c> +7; iconst_1; goto +4; iconst_0' leaves -/
def nb (b : Bool) : Int32 := if b then 0 else 1
theorem nb_01 (b : Bool) : nb b = 0 ∨ nb b = 1 := by cases b <;> simp [nb]
theorem nar_nb (b : Bool) : narrow .boolean (.int (nb b)) = .int (nb b) := by cases b <;> rfl
theorem fits_nb (b : Bool) : fits .boolean (.int (nb b)) = true := by cases b <;> rfl
theorem diam0 {tb : Tables} [Ours tb] {e : Env} {below : List Frame} {T target : State} {m : MethodId} {c : Code} {g : JFrame} (h : At T m c below) (hx : tb.exec = Jvm.exec) (hg : g.method = m) {cd : ClassFile.Cond} {x : Int32} {rest : List Value} {pc0 : Nat} (hpc : g.pc = pc0)
    (hd : decode c.code pc0 = .ok (.ifCond cd 7, 3)) (hs : g.stack = .int x :: rest) (hd1 : decode c.code (pc0 + 3) = .ok (.iconst 1, 1)) (hd2 : decode c.code (pc0 + 4) = .ok (.goto 4, 3)) (hd3 : decode c.code (pc0 + 7) = .ok (.iconst 0, 1))
    (hr : Steps tb e below (T.setTop { g with pc := pc0 + 8, stack := .int (nb (ifCond.holds cd x)) :: rest }) target) : Steps tb e below (T.setTop g) target := by
  subst hpc
  cases hb : ifCond.holds cd x with
  | true =>
    rw [hb] at hr
    refine XS.ifYes h hx hg (pc0 := g.pc) (pc' := g.pc + 7) rfl hd hs hb (by omega) (by omega) ?_
    exact XS.iconst (g := { g with pc := g.pc + 7, stack := rest }) h hx hg hd3 hr
  | false =>
    rw [hb] at hr
    refine XS.ifNo h hx hg hd hs hb ?_
    refine XS.iconst (g := { g with pc := g.pc + 3, stack := rest }) h hx hg hd1 ?_
    exact XS.goto (g := { g with pc := g.pc + 4, stack := .int 1 :: rest }) h hx hg (pc0 := g.pc + 4) (pc' := g.pc + 8) rfl hd2 (by omega) (by omega) hr
theorem diam2 {tb : Tables} [Ours tb] {e : Env} {below : List Frame} {T target : State} {m : MethodId} {c : Code} {g : JFrame} (h : At T m c below) (hx : tb.exec = Jvm.exec) (hg : g.method = m) {cd : ClassFile.Cond} {x y : Int32} {rest : List Value} {pc0 : Nat} (hpc : g.pc = pc0)
    (hd : decode c.code pc0 = .ok (.if_icmp cd 7, 3)) (hs : g.stack = .int y :: .int x :: rest) (hd1 : decode c.code (pc0 + 3) = .ok (.iconst 1, 1)) (hd2 : decode c.code (pc0 + 4) = .ok (.goto 4, 3)) (hd3 : decode c.code (pc0 + 7) = .ok (.iconst 0, 1))
    (hr : Steps tb e below (T.setTop { g with pc := pc0 + 8, stack := .int (nb (if_icmp.holds cd x y)) :: rest }) target) : Steps tb e below (T.setTop g) target := by
  subst hpc
  cases hb : if_icmp.holds cd x y with
  | true =>
    rw [hb] at hr
    refine XS.icmpYes h hx hg (pc0 := g.pc) (pc' := g.pc + 7) rfl hd hs hb (by omega) (by omega) ?_
    exact XS.iconst (g := { g with pc := g.pc + 7, stack := rest }) h hx hg hd3 hr
  | false =>
    rw [hb] at hr
    refine XS.icmpNo h hx hg hd hs hb ?_
    refine XS.iconst (g := { g with pc := g.pc + 3, stack := rest }) h hx hg hd1 ?_
    exact XS.goto (g := { g with pc := g.pc + 4, stack := .int 1 :: rest }) h hx hg (pc0 := g.pc + 4) (pc' := g.pc + 8) rfl hd2 (by omega) (by omega) hr
section New
variable {p : Program} {l : Launch} {e : Env} {R : Room} {s : State} {m : MethodId} {args : Array Value} {below : List Frame} {meth : Method} {c : Code} {T : State} {locs : List Loc} {cells slots : Nat} {Q : Option Value → Heap → List Loc → Prop} {kc ks : Nat}
theorem upS (X : Stand p l e R s m args below meth c T locs cells slots) {k n : Nat} (hc : cells ≤ k) (hn : slots ≤ n) : Stand p l e R s m args below meth c T locs k n := { X with same := X.same.mono hc hn }
theorem GoesW.out (X : Stand p l e R s m args below meth c T locs cells slots) {v : Option Value} {S : State} (hlk : meth.locks = false) (hv : meth.sig.returnType = none → v = none)
    (hst : ∀ fs, (∀ (f : JFrame) (acts : List Action), f.method = m → f.locked = none → f.entered = [] → (doReturn e (T.setTop f) acts v).1 = T.setFrames fs) → Steps p.tables e below S (T.setFrames fs)) (hq : Q v T.heap locs) (hc : cells ≤ kc) (hs : slots ≤ ks) : GoesW p.tables e below s Q kc ks S := by
  obtain ⟨fs, hr, hrun, hended, hW, hsame⟩ := X.leave (v := v) hv hlk
  exact ⟨_, _, hst fs hr, hrun, hended, _, _, rfl, hq, ⟨_, rfl⟩, hW, hsame.mono hc hs⟩
theorem GoesW.retI (X : Stand p l e R s m args below meth c T locs cells slots) (hx : p.tables.exec = Jvm.exec) (hlk : meth.locks = false) {pc : Nat} {Ls : Array Slot} {z : Int32} {rest : List Value} (hret : meth.sig.returnType = some .int) (hd : decode c.code pc = .ok (.ireturn, 1)) (hq : Q (some (.int z)) T.heap locs) (hc : cells ≤ kc) (hs : slots ≤ ks) :
    GoesW p.tables e below s Q kc ks (T.setTop (mkF m pc Ls (.int z :: rest))) :=
  GoesW.out X hlk (fun h => by rw [hret] at h; cases h) (fun fs hr => retOut X hx hret rfl (Or.inl ⟨rfl, Or.inl rfl, _, rfl⟩) hd hr) hq hc hs
theorem GoesW.retZ (X : Stand p l e R s m args below meth c T locs cells slots) (hx : p.tables.exec = Jvm.exec) (hlk : meth.locks = false) {pc : Nat} {Ls : Array Slot} {z : Int32} {t : FieldType} {rest : List Value} (hret : meth.sig.returnType = some t) (ht : t = .int ∨ t = .boolean ∨ t = .byte ∨ t = .char ∨ t = .short) (hn : narrow t (.int z) = .int z) (hd : decode c.code pc = .ok (.ireturn, 1)) (hq : Q (some (.int z)) T.heap locs) (hc : cells ≤ kc) (hs : slots ≤ ks) :
    GoesW p.tables e below s Q kc ks (T.setTop (mkF m pc Ls (.int z :: rest))) :=
  GoesW.out X hlk (fun h => by rw [hret] at h; cases h) (fun fs hr => retOut X hx hret hn (Or.inl ⟨rfl, ht, _, rfl⟩) hd hr) hq hc hs
theorem GoesW.retJ (X : Stand p l e R s m args below meth c T locs cells slots) (hx : p.tables.exec = Jvm.exec) (hlk : meth.locks = false) {pc : Nat} {Ls : Array Slot} {z : Int64} {rest : List Value} (hret : meth.sig.returnType = some .long) (hd : decode c.code pc = .ok (.lreturn, 1)) (hq : Q (some (.long z)) T.heap locs) (hc : cells ≤ kc) (hs : slots ≤ ks) :
    GoesW p.tables e below s Q kc ks (T.setTop (mkF m pc Ls (.long z :: rest))) :=
  GoesW.out X hlk (fun h => by rw [hret] at h; cases h) (fun fs hr => retOut X hx hret rfl (Or.inr (Or.inl ⟨rfl, rfl, _, rfl⟩)) hd hr) hq hc hs
theorem GoesW.retA (X : Stand p l e R s m args below meth c T locs cells slots) (hx : p.tables.exec = Jvm.exec) (hlk : meth.locks = false) {pc : Nat} {Ls : Array Slot} {w : Value} {t : FieldType} {rest : List Value} (hret : meth.sig.returnType = some t) (ht : t.isReference = true) (hw : w.isRef = true) (hd : decode c.code pc = .ok (.areturn, 1)) (hq : Q (some w) T.heap locs) (hc : cells ≤ kc) (hs : slots ≤ ks) :
    GoesW p.tables e below s Q kc ks (T.setTop (mkF m pc Ls (w :: rest))) :=
  GoesW.out X hlk (fun h => by rw [hret] at h; cases h) (fun fs hr => retOut X hx hret (by cases t <;> first | (cases ht; done) | rfl) (Or.inr (Or.inr (Or.inr (Or.inr ⟨rfl, ht, hw⟩)))) hd hr) hq hc hs
theorem GoesW.retV (X : Stand p l e R s m args below meth c T locs cells slots) (hx : p.tables.exec = Jvm.exec) (hlk : meth.locks = false) {pc : Nat} {Ls : Array Slot} (hret : meth.sig.returnType = none) (hd : decode c.code pc = .ok (.return_, 1)) (hq : Q none T.heap locs) (hc : cells ≤ kc) (hs : slots ≤ ks) :
    GoesW p.tables e below s Q kc ks (T.setTop (mkF m pc Ls [])) :=
  GoesW.out X hlk (fun _ => rfl) (fun fs hr => X.returnOut hx hret hd hr) hq hc hs
end New
end Jvm.RoadKit
namespace Jvm.Pilot.@@N@@
open Jvm Jvm.ClassFile Sem Op Lib Jvm.Free Jvm.Stand Jvm.LawKit Jvm.RoadKit Bundle Jvm.Pilot.@@N@@.Jvm.D
def own_ush (x k : Int32) : Int32 := (x.toUInt32 >>> (k &&& 31).toUInt32).toInt32
def own_nwt (c x : Int32) : Int32 := x * (2 - c * x)
def own_inv (c : Int32) : Int32 := own_nwt c (own_nwt c (own_nwt c (own_nwt c c)))
def own_spread (h : Int32) : Int32 :=
  let m1 := (h ^^^ own_ush h 16) * (-2048144789 : Int32)
  let m2 := (m1 ^^^ own_ush m1 13) * (-1028477387 : Int32)
  m2 ^^^ own_ush m2 16
def own_undo (y : Int32) : Int32 :=
  let m2 := y ^^^ own_ush y 16
  let t := m2 * own_inv (-1028477387 : Int32)
  let m1 := t ^^^ own_ush t 13 ^^^ own_ush t 26
  let s := m1 * own_inv (-2048144789 : Int32)
  s ^^^ own_ush s 16
theorem own_bv (x : Int32) (k : Int32) (n : Nat) (hn : k.toBitVec.toNat % 32 = n) : (own_ush x k).toBitVec = x.toBitVec >>> n := by
  have hk : ((k &&& 31).toUInt32 % 32).toBitVec.toNat = n := by
    show ((k &&& 31).toBitVec % 32#32).toNat = n
    rw [BitVec.toNat_umod, Int32.toBitVec_and, BitVec.toNat_and]
    show (k.toBitVec.toNat &&& (2 ^ 5 - 1)) % 32 = n
    rw [Nat.and_two_pow_sub_one_eq_mod]
    omega
  show x.toBitVec >>> ((k &&& 31).toUInt32 % 32).toBitVec = _
  rw [BitVec.ushiftRight_eq', hk]
theorem own_x16 (x : BitVec 32) : (x ^^^ x >>> 16) ^^^ ((x ^^^ x >>> 16) >>> 16) = x := by
  apply BitVec.eq_of_getLsbD_eq
  intro i hi
  simp only [BitVec.getLsbD_xor, BitVec.getLsbD_ushiftRight]
  rw [BitVec.getLsbD_of_ge x (16 + (16 + i)) (by omega)]
  cases x.getLsbD i <;> cases x.getLsbD (16 + i) <;> rfl
theorem own_x13 (x : BitVec 32) : (x ^^^ x >>> 13) ^^^ ((x ^^^ x >>> 13) >>> 13) ^^^ ((x ^^^ x >>> 13) >>> 26) = x := by
  apply BitVec.eq_of_getLsbD_eq
  intro i hi
  simp only [BitVec.getLsbD_xor, BitVec.getLsbD_ushiftRight]
  rw [BitVec.getLsbD_of_ge x (13 + (26 + i)) (by omega), show 13 + (13 + i) = 26 + i by omega]
  cases x.getLsbD i <;> cases x.getLsbD (13 + i) <;> cases x.getLsbD (26 + i) <;> rfl
theorem own_u16 (x : Int32) : (x ^^^ own_ush x 16) ^^^ own_ush (x ^^^ own_ush x 16) 16 = x := by
  apply Int32.toBitVec_inj.mp
  rw [Int32.toBitVec_xor, own_bv _ 16 16 (by decide), Int32.toBitVec_xor, own_bv _ 16 16 (by decide)]
  exact own_x16 _
theorem own_u13 (x : Int32) : (x ^^^ own_ush x 13) ^^^ own_ush (x ^^^ own_ush x 13) 13 ^^^ own_ush (x ^^^ own_ush x 13) 26 = x := by
  apply Int32.toBitVec_inj.mp
  rw [Int32.toBitVec_xor, Int32.toBitVec_xor, own_bv _ 13 13 (by decide), own_bv _ 26 26 (by decide), Int32.toBitVec_xor, own_bv _ 13 13 (by decide)]
  exact own_x13 _
theorem own_mul (x c : Int32) (h : c * own_inv c = 1) : x * c * own_inv c = x := by rw [Int32.mul_assoc, h, Int32.mul_one]
theorem own_law (h : Int32) : own_undo (own_spread h) = h := by
  unfold own_undo own_spread
  dsimp only
  rw [own_u16, own_mul _ _ (by decide), own_u13, own_mul _ _ (by decide), own_u16]
theorem own_pn0 : plainName "com/example/lockpoint/lockpoint/KeyTableSpreadPinLaw" = true := by first | (simp [plainName, overriddenIn]; done) | decide +kernel
theorem d3_0 : decode method_2_code 0 = .ok (.iload_n 0, 1) := by decide +kernel
theorem d3_1 : decode method_2_code 1 = .ok (.istore_n 1, 1) := by decide +kernel
theorem d3_2 : decode method_2_code 2 = .ok (.iload_n 1, 1) := by decide +kernel
theorem d3_3 : decode method_2_code 3 = .ok (.iconst 2, 1) := by decide +kernel
theorem d3_4 : decode method_2_code 4 = .ok (.iload_n 0, 1) := by decide +kernel
theorem d3_5 : decode method_2_code 5 = .ok (.iload_n 1, 1) := by decide +kernel
theorem d3_6 : decode method_2_code 6 = .ok (.imul, 1) := by decide +kernel
theorem d3_7 : decode method_2_code 7 = .ok (.isub, 1) := by decide +kernel
theorem d3_8 : decode method_2_code 8 = .ok (.imul, 1) := by decide +kernel
theorem d3_9 : decode method_2_code 9 = .ok (.istore_n 1, 1) := by decide +kernel
theorem d3_10 : decode method_2_code 10 = .ok (.iload_n 1, 1) := by decide +kernel
theorem d3_11 : decode method_2_code 11 = .ok (.iconst 2, 1) := by decide +kernel
theorem d3_12 : decode method_2_code 12 = .ok (.iload_n 0, 1) := by decide +kernel
theorem d3_13 : decode method_2_code 13 = .ok (.iload_n 1, 1) := by decide +kernel
theorem d3_14 : decode method_2_code 14 = .ok (.imul, 1) := by decide +kernel
theorem d3_15 : decode method_2_code 15 = .ok (.isub, 1) := by decide +kernel
theorem d3_16 : decode method_2_code 16 = .ok (.imul, 1) := by decide +kernel
theorem d3_17 : decode method_2_code 17 = .ok (.istore_n 1, 1) := by decide +kernel
theorem d3_18 : decode method_2_code 18 = .ok (.iload_n 1, 1) := by decide +kernel
theorem d3_19 : decode method_2_code 19 = .ok (.iconst 2, 1) := by decide +kernel
theorem d3_20 : decode method_2_code 20 = .ok (.iload_n 0, 1) := by decide +kernel
theorem d3_21 : decode method_2_code 21 = .ok (.iload_n 1, 1) := by decide +kernel
theorem d3_22 : decode method_2_code 22 = .ok (.imul, 1) := by decide +kernel
theorem d3_23 : decode method_2_code 23 = .ok (.isub, 1) := by decide +kernel
theorem d3_24 : decode method_2_code 24 = .ok (.imul, 1) := by decide +kernel
theorem d3_25 : decode method_2_code 25 = .ok (.istore_n 1, 1) := by decide +kernel
theorem d3_26 : decode method_2_code 26 = .ok (.iload_n 1, 1) := by decide +kernel
theorem d3_27 : decode method_2_code 27 = .ok (.iconst 2, 1) := by decide +kernel
theorem d3_28 : decode method_2_code 28 = .ok (.iload_n 0, 1) := by decide +kernel
theorem d3_29 : decode method_2_code 29 = .ok (.iload_n 1, 1) := by decide +kernel
theorem d3_30 : decode method_2_code 30 = .ok (.imul, 1) := by decide +kernel
theorem d3_31 : decode method_2_code 31 = .ok (.isub, 1) := by decide +kernel
theorem d3_32 : decode method_2_code 32 = .ok (.imul, 1) := by decide +kernel
theorem d3_33 : decode method_2_code 33 = .ok (.istore_n 1, 1) := by decide +kernel
theorem d3_34 : decode method_2_code 34 = .ok (.iload_n 1, 1) := by decide +kernel
theorem d3_35 : decode method_2_code 35 = .ok (.ireturn, 1) := by decide +kernel
theorem ef_rm3 (m : MethodId) (x0 : Int32) : entryFrame m #[(.int x0)] 2 = mkF m 0 #[.val (.int x0), .unset] [] := by first | (simp [entryFrame, mkF, argsToLocals, Value.category]; done) | rfl
def Q3 (Z : State) (p0 : Int32) (h0 : Heap) (n0 : Nat) (v : Option Value) (h : Heap) (L : List Loc) : Prop := v = some (.int (own_inv p0)) ∧ Fr n0 L ∧ h = h0
set_option maxRecDepth 65536 in
set_option maxHeartbeats 40000000 in
theorem rm3 (l : Launch) (Z : State) (a0 : Array Value) (hw : ∀ d ∈ tables_1, d.before a0 Z = true) (ws : List Jvm.Cond) (p0 : Int32) (h0 : Heap) (n0 : Nat) (Z0 : n0 ≤ h0.size)  :
    MetFree l (⟨"com/example/lockpoint/lockpoint/KeyTableSpreadPinLaw", "inverse", "(I)I"⟩ : MethodName) (head1 (Jvm.Cond.code (⟨"com/example/lockpoint/lockpoint/KeyTableSpreadPinLaw", "inverse", "(I)I"⟩ : MethodName) method_2_code 2 (some .int) :: ws) ({ frames := 0, cells := 0, slots := 0, locals := 0 } : Room)) (fun a U => a = #[(.int p0)] ∧ Z.Warmed39 U.vm ∧ U.heap = h0) (fun _ _ _ _ _ => True) (fun _ U o U' => ∃ v L, o = .returned v ∧ Q3 Z p0 h0 n0 v U'.heap L ∧ FrameEnd U o U' L ({ frames := 0, cells := 0, slots := 0, locals := 0 } : Room).cells ({ frames := 0, cells := 0, slots := 0, locals := 0 } : Room).slots) := by
  refine MetFree.of_bodySF (plainFor_of_name own_pn0) hisR ?_
  intro p e s m args below meth c s₁ Bd hml0 hP hK
  obtain ⟨rfl, hZ, hh⟩ := hP
  have hx := Bd.exec
  have hby := Bd.bytes
  have hml : c.maxLocals = 2 := hml0
  have hown : s.vm.findClass "com/example/lockpoint/lockpoint/KeyTableSpreadPinLaw" = some m.cls := findClass_of_methodNamed Bd.named
  have hnm := (name_of_methodNamed Bd.named Bd.method).1
  have hlk : meth.locks = false := BodyLoose.notSynchronized Bd
  have X0 : Stand p l e ({ frames := 0, cells := 0, slots := 0, locals := 0 } : Room) s m #[(.int p0)] below meth c s₁ [] 0 0 := Stand.of_body Bd
  have e0 : s₁.heap = h0 := by rw [← hh, Bd.state]; rfl
  have N0 := Fr.nil n0
  show GoesW p.tables e below s (Q3 Z p0 h0 n0) 0 0 (s₁.setTop (entryFrame m #[(.int p0)] 2))
  rw [ef_rm3 m p0]
  show GoesW p.tables e below s (Q3 Z p0 h0 n0) 0 0 (s₁.setTop (mkF m 0 #[.val (.int p0), .unset] []))
  refine GoesW.step (fun _ k => XS.iloadN X0.here hx rfl (hb hby d3_0) rfl k) ?_
  show GoesW p.tables e below s (Q3 Z p0 h0 n0) 0 0 (s₁.setTop (mkF m 1 #[.val (.int p0), .unset] [(.int p0)]))
  refine GoesW.step (fun _ k => XS.istoreN X0.here hx rfl (hb hby d3_1) rfl (l' := #[.val (.int p0), .val (.int p0)]) rfl k) ?_
  show GoesW p.tables e below s (Q3 Z p0 h0 n0) 0 0 (s₁.setTop (mkF m 2 #[.val (.int p0), .val (.int p0)] []))
  refine GoesW.step (fun _ k => XS.iloadN X0.here hx rfl (hb hby d3_2) rfl k) ?_
  show GoesW p.tables e below s (Q3 Z p0 h0 n0) 0 0 (s₁.setTop (mkF m 3 #[.val (.int p0), .val (.int p0)] [(.int p0)]))
  refine GoesW.step (fun _ k => XS.iconst X0.here hx rfl (hb hby d3_3) k) ?_
  show GoesW p.tables e below s (Q3 Z p0 h0 n0) 0 0 (s₁.setTop (mkF m 4 #[.val (.int p0), .val (.int p0)] [(.int (2 : Int32)), (.int p0)]))
  refine GoesW.step (fun _ k => XS.iloadN X0.here hx rfl (hb hby d3_4) rfl k) ?_
  show GoesW p.tables e below s (Q3 Z p0 h0 n0) 0 0 (s₁.setTop (mkF m 5 #[.val (.int p0), .val (.int p0)] [(.int p0), (.int (2 : Int32)), (.int p0)]))
  refine GoesW.step (fun _ k => XS.iloadN X0.here hx rfl (hb hby d3_5) rfl k) ?_
  show GoesW p.tables e below s (Q3 Z p0 h0 n0) 0 0 (s₁.setTop (mkF m 6 #[.val (.int p0), .val (.int p0)] [(.int p0), (.int p0), (.int (2 : Int32)), (.int p0)]))
  refine GoesW.step (fun _ k => XS.imul X0.here hx rfl (hb hby d3_6) rfl k) ?_
  show GoesW p.tables e below s (Q3 Z p0 h0 n0) 0 0 (s₁.setTop (mkF m 7 #[.val (.int p0), .val (.int p0)] [(.int (p0 * p0)), (.int (2 : Int32)), (.int p0)]))
  refine GoesW.step (fun _ k => XS.isub X0.here hx rfl (hb hby d3_7) rfl k) ?_
  show GoesW p.tables e below s (Q3 Z p0 h0 n0) 0 0 (s₁.setTop (mkF m 8 #[.val (.int p0), .val (.int p0)] [(.int ((2 : Int32) - (p0 * p0))), (.int p0)]))
  refine GoesW.step (fun _ k => XS.imul X0.here hx rfl (hb hby d3_8) rfl k) ?_
  show GoesW p.tables e below s (Q3 Z p0 h0 n0) 0 0 (s₁.setTop (mkF m 9 #[.val (.int p0), .val (.int p0)] [(.int (p0 * ((2 : Int32) - (p0 * p0))))]))
  generalize hx0 : (p0 * ((2 : Int32) - (p0 * p0))) = x0
  show GoesW p.tables e below s (Q3 Z p0 h0 n0) 0 0 (s₁.setTop (mkF m 9 #[.val (.int p0), .val (.int p0)] [(.int x0)]))
  refine GoesW.step (fun _ k => XS.istoreN X0.here hx rfl (hb hby d3_9) rfl (l' := #[.val (.int p0), .val (.int x0)]) rfl k) ?_
  show GoesW p.tables e below s (Q3 Z p0 h0 n0) 0 0 (s₁.setTop (mkF m 10 #[.val (.int p0), .val (.int x0)] []))
  refine GoesW.step (fun _ k => XS.iloadN X0.here hx rfl (hb hby d3_10) rfl k) ?_
  show GoesW p.tables e below s (Q3 Z p0 h0 n0) 0 0 (s₁.setTop (mkF m 11 #[.val (.int p0), .val (.int x0)] [(.int x0)]))
  refine GoesW.step (fun _ k => XS.iconst X0.here hx rfl (hb hby d3_11) k) ?_
  show GoesW p.tables e below s (Q3 Z p0 h0 n0) 0 0 (s₁.setTop (mkF m 12 #[.val (.int p0), .val (.int x0)] [(.int (2 : Int32)), (.int x0)]))
  refine GoesW.step (fun _ k => XS.iloadN X0.here hx rfl (hb hby d3_12) rfl k) ?_
  show GoesW p.tables e below s (Q3 Z p0 h0 n0) 0 0 (s₁.setTop (mkF m 13 #[.val (.int p0), .val (.int x0)] [(.int p0), (.int (2 : Int32)), (.int x0)]))
  refine GoesW.step (fun _ k => XS.iloadN X0.here hx rfl (hb hby d3_13) rfl k) ?_
  show GoesW p.tables e below s (Q3 Z p0 h0 n0) 0 0 (s₁.setTop (mkF m 14 #[.val (.int p0), .val (.int x0)] [(.int x0), (.int p0), (.int (2 : Int32)), (.int x0)]))
  refine GoesW.step (fun _ k => XS.imul X0.here hx rfl (hb hby d3_14) rfl k) ?_
  show GoesW p.tables e below s (Q3 Z p0 h0 n0) 0 0 (s₁.setTop (mkF m 15 #[.val (.int p0), .val (.int x0)] [(.int (p0 * x0)), (.int (2 : Int32)), (.int x0)]))
  refine GoesW.step (fun _ k => XS.isub X0.here hx rfl (hb hby d3_15) rfl k) ?_
  show GoesW p.tables e below s (Q3 Z p0 h0 n0) 0 0 (s₁.setTop (mkF m 16 #[.val (.int p0), .val (.int x0)] [(.int ((2 : Int32) - (p0 * x0))), (.int x0)]))
  refine GoesW.step (fun _ k => XS.imul X0.here hx rfl (hb hby d3_16) rfl k) ?_
  show GoesW p.tables e below s (Q3 Z p0 h0 n0) 0 0 (s₁.setTop (mkF m 17 #[.val (.int p0), .val (.int x0)] [(.int (x0 * ((2 : Int32) - (p0 * x0))))]))
  generalize hx1 : (x0 * ((2 : Int32) - (p0 * x0))) = x1
  show GoesW p.tables e below s (Q3 Z p0 h0 n0) 0 0 (s₁.setTop (mkF m 17 #[.val (.int p0), .val (.int x0)] [(.int x1)]))
  refine GoesW.step (fun _ k => XS.istoreN X0.here hx rfl (hb hby d3_17) rfl (l' := #[.val (.int p0), .val (.int x1)]) rfl k) ?_
  show GoesW p.tables e below s (Q3 Z p0 h0 n0) 0 0 (s₁.setTop (mkF m 18 #[.val (.int p0), .val (.int x1)] []))
  refine GoesW.step (fun _ k => XS.iloadN X0.here hx rfl (hb hby d3_18) rfl k) ?_
  show GoesW p.tables e below s (Q3 Z p0 h0 n0) 0 0 (s₁.setTop (mkF m 19 #[.val (.int p0), .val (.int x1)] [(.int x1)]))
  refine GoesW.step (fun _ k => XS.iconst X0.here hx rfl (hb hby d3_19) k) ?_
  show GoesW p.tables e below s (Q3 Z p0 h0 n0) 0 0 (s₁.setTop (mkF m 20 #[.val (.int p0), .val (.int x1)] [(.int (2 : Int32)), (.int x1)]))
  refine GoesW.step (fun _ k => XS.iloadN X0.here hx rfl (hb hby d3_20) rfl k) ?_
  show GoesW p.tables e below s (Q3 Z p0 h0 n0) 0 0 (s₁.setTop (mkF m 21 #[.val (.int p0), .val (.int x1)] [(.int p0), (.int (2 : Int32)), (.int x1)]))
  refine GoesW.step (fun _ k => XS.iloadN X0.here hx rfl (hb hby d3_21) rfl k) ?_
  show GoesW p.tables e below s (Q3 Z p0 h0 n0) 0 0 (s₁.setTop (mkF m 22 #[.val (.int p0), .val (.int x1)] [(.int x1), (.int p0), (.int (2 : Int32)), (.int x1)]))
  refine GoesW.step (fun _ k => XS.imul X0.here hx rfl (hb hby d3_22) rfl k) ?_
  show GoesW p.tables e below s (Q3 Z p0 h0 n0) 0 0 (s₁.setTop (mkF m 23 #[.val (.int p0), .val (.int x1)] [(.int (p0 * x1)), (.int (2 : Int32)), (.int x1)]))
  refine GoesW.step (fun _ k => XS.isub X0.here hx rfl (hb hby d3_23) rfl k) ?_
  show GoesW p.tables e below s (Q3 Z p0 h0 n0) 0 0 (s₁.setTop (mkF m 24 #[.val (.int p0), .val (.int x1)] [(.int ((2 : Int32) - (p0 * x1))), (.int x1)]))
  refine GoesW.step (fun _ k => XS.imul X0.here hx rfl (hb hby d3_24) rfl k) ?_
  show GoesW p.tables e below s (Q3 Z p0 h0 n0) 0 0 (s₁.setTop (mkF m 25 #[.val (.int p0), .val (.int x1)] [(.int (x1 * ((2 : Int32) - (p0 * x1))))]))
  generalize hx2 : (x1 * ((2 : Int32) - (p0 * x1))) = x2
  show GoesW p.tables e below s (Q3 Z p0 h0 n0) 0 0 (s₁.setTop (mkF m 25 #[.val (.int p0), .val (.int x1)] [(.int x2)]))
  refine GoesW.step (fun _ k => XS.istoreN X0.here hx rfl (hb hby d3_25) rfl (l' := #[.val (.int p0), .val (.int x2)]) rfl k) ?_
  show GoesW p.tables e below s (Q3 Z p0 h0 n0) 0 0 (s₁.setTop (mkF m 26 #[.val (.int p0), .val (.int x2)] []))
  refine GoesW.step (fun _ k => XS.iloadN X0.here hx rfl (hb hby d3_26) rfl k) ?_
  show GoesW p.tables e below s (Q3 Z p0 h0 n0) 0 0 (s₁.setTop (mkF m 27 #[.val (.int p0), .val (.int x2)] [(.int x2)]))
  refine GoesW.step (fun _ k => XS.iconst X0.here hx rfl (hb hby d3_27) k) ?_
  show GoesW p.tables e below s (Q3 Z p0 h0 n0) 0 0 (s₁.setTop (mkF m 28 #[.val (.int p0), .val (.int x2)] [(.int (2 : Int32)), (.int x2)]))
  refine GoesW.step (fun _ k => XS.iloadN X0.here hx rfl (hb hby d3_28) rfl k) ?_
  show GoesW p.tables e below s (Q3 Z p0 h0 n0) 0 0 (s₁.setTop (mkF m 29 #[.val (.int p0), .val (.int x2)] [(.int p0), (.int (2 : Int32)), (.int x2)]))
  refine GoesW.step (fun _ k => XS.iloadN X0.here hx rfl (hb hby d3_29) rfl k) ?_
  show GoesW p.tables e below s (Q3 Z p0 h0 n0) 0 0 (s₁.setTop (mkF m 30 #[.val (.int p0), .val (.int x2)] [(.int x2), (.int p0), (.int (2 : Int32)), (.int x2)]))
  refine GoesW.step (fun _ k => XS.imul X0.here hx rfl (hb hby d3_30) rfl k) ?_
  show GoesW p.tables e below s (Q3 Z p0 h0 n0) 0 0 (s₁.setTop (mkF m 31 #[.val (.int p0), .val (.int x2)] [(.int (p0 * x2)), (.int (2 : Int32)), (.int x2)]))
  refine GoesW.step (fun _ k => XS.isub X0.here hx rfl (hb hby d3_31) rfl k) ?_
  show GoesW p.tables e below s (Q3 Z p0 h0 n0) 0 0 (s₁.setTop (mkF m 32 #[.val (.int p0), .val (.int x2)] [(.int ((2 : Int32) - (p0 * x2))), (.int x2)]))
  refine GoesW.step (fun _ k => XS.imul X0.here hx rfl (hb hby d3_32) rfl k) ?_
  show GoesW p.tables e below s (Q3 Z p0 h0 n0) 0 0 (s₁.setTop (mkF m 33 #[.val (.int p0), .val (.int x2)] [(.int (x2 * ((2 : Int32) - (p0 * x2))))]))
  generalize hx3 : (x2 * ((2 : Int32) - (p0 * x2))) = x3
  show GoesW p.tables e below s (Q3 Z p0 h0 n0) 0 0 (s₁.setTop (mkF m 33 #[.val (.int p0), .val (.int x2)] [(.int x3)]))
  refine GoesW.step (fun _ k => XS.istoreN X0.here hx rfl (hb hby d3_33) rfl (l' := #[.val (.int p0), .val (.int x3)]) rfl k) ?_
  show GoesW p.tables e below s (Q3 Z p0 h0 n0) 0 0 (s₁.setTop (mkF m 34 #[.val (.int p0), .val (.int x3)] []))
  refine GoesW.step (fun _ k => XS.iloadN X0.here hx rfl (hb hby d3_34) rfl k) ?_
  show GoesW p.tables e below s (Q3 Z p0 h0 n0) 0 0 (s₁.setTop (mkF m 35 #[.val (.int p0), .val (.int x3)] [(.int x3)]))
  exact GoesW.retI X0 hx hlk Bd.returns (hb hby d3_35) (by show Q3 Z p0 h0 n0 _ s₁.heap _; rw [e0]; exact ⟨by rw [← hx3, ← hx2, ← hx1, ← hx0]; rfl, N0, rfl⟩) (by decide) (by decide)
theorem own_pn1 : plainName "com/example/lockpoint/lockpoint/KeyTable" = true := by first | (simp [plainName, overriddenIn]; done) | decide +kernel
theorem d1_0 : decode prog_23_method_10_code 0 = .ok (.iload_n 0, 1) := by decide +kernel
theorem d1_1 : decode prog_23_method_10_code 1 = .ok (.iload_n 0, 1) := by decide +kernel
theorem d1_2 : decode prog_23_method_10_code 2 = .ok (.bipush 16, 2) := by decide +kernel
theorem d1_4 : decode prog_23_method_10_code 4 = .ok (.iushr, 1) := by decide +kernel
theorem d1_5 : decode prog_23_method_10_code 5 = .ok (.ixor, 1) := by decide +kernel
theorem d1_6 : decode prog_23_method_10_code 6 = .ok (.ldc 96, 2) := by decide +kernel
theorem d1_8 : decode prog_23_method_10_code 8 = .ok (.imul, 1) := by decide +kernel
theorem d1_9 : decode prog_23_method_10_code 9 = .ok (.istore_n 1, 1) := by decide +kernel
theorem d1_10 : decode prog_23_method_10_code 10 = .ok (.iload_n 1, 1) := by decide +kernel
theorem d1_11 : decode prog_23_method_10_code 11 = .ok (.iload_n 1, 1) := by decide +kernel
theorem d1_12 : decode prog_23_method_10_code 12 = .ok (.bipush 13, 2) := by decide +kernel
theorem d1_14 : decode prog_23_method_10_code 14 = .ok (.iushr, 1) := by decide +kernel
theorem d1_15 : decode prog_23_method_10_code 15 = .ok (.ixor, 1) := by decide +kernel
theorem d1_16 : decode prog_23_method_10_code 16 = .ok (.ldc 97, 2) := by decide +kernel
theorem d1_18 : decode prog_23_method_10_code 18 = .ok (.imul, 1) := by decide +kernel
theorem d1_19 : decode prog_23_method_10_code 19 = .ok (.istore_n 1, 1) := by decide +kernel
theorem d1_20 : decode prog_23_method_10_code 20 = .ok (.iload_n 1, 1) := by decide +kernel
theorem d1_21 : decode prog_23_method_10_code 21 = .ok (.iload_n 1, 1) := by decide +kernel
theorem d1_22 : decode prog_23_method_10_code 22 = .ok (.bipush 16, 2) := by decide +kernel
theorem d1_24 : decode prog_23_method_10_code 24 = .ok (.iushr, 1) := by decide +kernel
theorem d1_25 : decode prog_23_method_10_code 25 = .ok (.ixor, 1) := by decide +kernel
theorem d1_26 : decode prog_23_method_10_code 26 = .ok (.ireturn, 1) := by decide +kernel
theorem ef_rm1 (m : MethodId) (x0 : Int32) : entryFrame m #[(.int x0)] 2 = mkF m 0 #[.val (.int x0), .unset] [] := by first | (simp [entryFrame, mkF, argsToLocals, Value.category]; done) | rfl
def Q1 (Z : State) (p0 : Int32) (h0 : Heap) (n0 : Nat) (v : Option Value) (h : Heap) (L : List Loc) : Prop := v = some (.int (own_spread p0)) ∧ Fr n0 L ∧ h = h0
set_option maxRecDepth 65536 in
set_option maxHeartbeats 40000000 in
theorem rm1 (l : Launch) (Z : State) (a0 : Array Value) (hw : ∀ d ∈ tables_1, d.before a0 Z = true) (ws : List Jvm.Cond) (p0 : Int32) (h0 : Heap) (n0 : Nat) (Z0 : n0 ≤ h0.size)  :
    MetFree l (⟨"com/example/lockpoint/lockpoint/KeyTable", "spread", "(I)I"⟩ : MethodName) (head1 (Jvm.Cond.code (⟨"com/example/lockpoint/lockpoint/KeyTable", "spread", "(I)I"⟩ : MethodName) prog_23_method_10_code 2 (some .int) :: ws) ({ frames := 0, cells := 0, slots := 0, locals := 0 } : Room)) (fun a U => a = #[(.int p0)] ∧ Z.Warmed39 U.vm ∧ U.heap = h0) (fun _ _ _ _ _ => True) (fun _ U o U' => ∃ v L, o = .returned v ∧ Q1 Z p0 h0 n0 v U'.heap L ∧ FrameEnd U o U' L ({ frames := 0, cells := 0, slots := 0, locals := 0 } : Room).cells ({ frames := 0, cells := 0, slots := 0, locals := 0 } : Room).slots) := by
  refine MetFree.of_bodySF (plainFor_of_name own_pn1) hisR ?_
  intro p e s m args below meth c s₁ Bd hml0 hP hK
  obtain ⟨rfl, hZ, hh⟩ := hP
  have hx := Bd.exec
  have hby := Bd.bytes
  have hml : c.maxLocals = 2 := hml0
  have hown : s.vm.findClass "com/example/lockpoint/lockpoint/KeyTable" = some m.cls := findClass_of_methodNamed Bd.named
  have hnm := (name_of_methodNamed Bd.named Bd.method).1
  have hlk : meth.locks = false := BodyLoose.notSynchronized Bd
  have X0 : Stand p l e ({ frames := 0, cells := 0, slots := 0, locals := 0 } : Room) s m #[(.int p0)] below meth c s₁ [] 0 0 := Stand.of_body Bd
  have e0 : s₁.heap = h0 := by rw [← hh, Bd.state]; rfl
  have N0 := Fr.nil n0
  show GoesW p.tables e below s (Q1 Z p0 h0 n0) 0 0 (s₁.setTop (entryFrame m #[(.int p0)] 2))
  rw [ef_rm1 m p0]
  show GoesW p.tables e below s (Q1 Z p0 h0 n0) 0 0 (s₁.setTop (mkF m 0 #[.val (.int p0), .unset] []))
  refine GoesW.step (fun _ k => XS.iloadN X0.here hx rfl (hb hby d1_0) rfl k) ?_
  show GoesW p.tables e below s (Q1 Z p0 h0 n0) 0 0 (s₁.setTop (mkF m 1 #[.val (.int p0), .unset] [(.int p0)]))
  refine GoesW.step (fun _ k => XS.iloadN X0.here hx rfl (hb hby d1_1) rfl k) ?_
  show GoesW p.tables e below s (Q1 Z p0 h0 n0) 0 0 (s₁.setTop (mkF m 2 #[.val (.int p0), .unset] [(.int p0), (.int p0)]))
  refine GoesW.step (fun _ k => XS.bipush X0.here hx rfl (hb hby d1_2) k) ?_
  show GoesW p.tables e below s (Q1 Z p0 h0 n0) 0 0 (s₁.setTop (mkF m 4 #[.val (.int p0), .unset] [(.int (16 : Int32)), (.int p0), (.int p0)]))
  refine GoesW.step (fun _ k => XS.iushr X0.here hx rfl (hb hby d1_4) rfl k) ?_
  show GoesW p.tables e below s (Q1 Z p0 h0 n0) 0 0 (s₁.setTop (mkF m 5 #[.val (.int p0), .unset] [(.int ((p0.toUInt32 >>> ((16 : Int32) &&& 31).toUInt32).toInt32)), (.int p0)]))
  refine GoesW.step (fun _ k => XS.ixor X0.here hx rfl (hb hby d1_5) rfl k) ?_
  show GoesW p.tables e below s (Q1 Z p0 h0 n0) 0 0 (s₁.setTop (mkF m 6 #[.val (.int p0), .unset] [(.int (p0 ^^^ ((p0.toUInt32 >>> ((16 : Int32) &&& 31).toUInt32).toInt32)))]))
  refine GoesW.step (fun _ k => X0.ldcInt hx hown (mvT hZ (hw _ (List.mem_of_getElem? (i := 4) rfl))) (g := (mkF m 6 #[.val (.int p0), .unset] [(.int (p0 ^^^ ((p0.toUInt32 >>> ((16 : Int32) &&& 31).toUInt32).toInt32)))])) rfl (hb hby d1_6) _ k) ?_
  show GoesW p.tables e below s (Q1 Z p0 h0 n0) 0 0 (s₁.setTop (mkF m 8 #[.val (.int p0), .unset] [(.int (-2048144789 : Int32)), (.int (p0 ^^^ ((p0.toUInt32 >>> ((16 : Int32) &&& 31).toUInt32).toInt32)))]))
  refine GoesW.step (fun _ k => XS.imul X0.here hx rfl (hb hby d1_8) rfl k) ?_
  show GoesW p.tables e below s (Q1 Z p0 h0 n0) 0 0 (s₁.setTop (mkF m 9 #[.val (.int p0), .unset] [(.int ((p0 ^^^ ((p0.toUInt32 >>> ((16 : Int32) &&& 31).toUInt32).toInt32)) * (-2048144789 : Int32)))]))
  generalize hx0 : ((p0 ^^^ ((p0.toUInt32 >>> ((16 : Int32) &&& 31).toUInt32).toInt32)) * (-2048144789 : Int32)) = x0
  show GoesW p.tables e below s (Q1 Z p0 h0 n0) 0 0 (s₁.setTop (mkF m 9 #[.val (.int p0), .unset] [(.int x0)]))
  refine GoesW.step (fun _ k => XS.istoreN X0.here hx rfl (hb hby d1_9) rfl (l' := #[.val (.int p0), .val (.int x0)]) rfl k) ?_
  show GoesW p.tables e below s (Q1 Z p0 h0 n0) 0 0 (s₁.setTop (mkF m 10 #[.val (.int p0), .val (.int x0)] []))
  refine GoesW.step (fun _ k => XS.iloadN X0.here hx rfl (hb hby d1_10) rfl k) ?_
  show GoesW p.tables e below s (Q1 Z p0 h0 n0) 0 0 (s₁.setTop (mkF m 11 #[.val (.int p0), .val (.int x0)] [(.int x0)]))
  refine GoesW.step (fun _ k => XS.iloadN X0.here hx rfl (hb hby d1_11) rfl k) ?_
  show GoesW p.tables e below s (Q1 Z p0 h0 n0) 0 0 (s₁.setTop (mkF m 12 #[.val (.int p0), .val (.int x0)] [(.int x0), (.int x0)]))
  refine GoesW.step (fun _ k => XS.bipush X0.here hx rfl (hb hby d1_12) k) ?_
  show GoesW p.tables e below s (Q1 Z p0 h0 n0) 0 0 (s₁.setTop (mkF m 14 #[.val (.int p0), .val (.int x0)] [(.int (13 : Int32)), (.int x0), (.int x0)]))
  refine GoesW.step (fun _ k => XS.iushr X0.here hx rfl (hb hby d1_14) rfl k) ?_
  show GoesW p.tables e below s (Q1 Z p0 h0 n0) 0 0 (s₁.setTop (mkF m 15 #[.val (.int p0), .val (.int x0)] [(.int ((x0.toUInt32 >>> ((13 : Int32) &&& 31).toUInt32).toInt32)), (.int x0)]))
  refine GoesW.step (fun _ k => XS.ixor X0.here hx rfl (hb hby d1_15) rfl k) ?_
  show GoesW p.tables e below s (Q1 Z p0 h0 n0) 0 0 (s₁.setTop (mkF m 16 #[.val (.int p0), .val (.int x0)] [(.int (x0 ^^^ ((x0.toUInt32 >>> ((13 : Int32) &&& 31).toUInt32).toInt32)))]))
  refine GoesW.step (fun _ k => X0.ldcInt hx hown (mvT hZ (hw _ (List.mem_of_getElem? (i := 5) rfl))) (g := (mkF m 16 #[.val (.int p0), .val (.int x0)] [(.int (x0 ^^^ ((x0.toUInt32 >>> ((13 : Int32) &&& 31).toUInt32).toInt32)))])) rfl (hb hby d1_16) _ k) ?_
  show GoesW p.tables e below s (Q1 Z p0 h0 n0) 0 0 (s₁.setTop (mkF m 18 #[.val (.int p0), .val (.int x0)] [(.int (-1028477387 : Int32)), (.int (x0 ^^^ ((x0.toUInt32 >>> ((13 : Int32) &&& 31).toUInt32).toInt32)))]))
  refine GoesW.step (fun _ k => XS.imul X0.here hx rfl (hb hby d1_18) rfl k) ?_
  show GoesW p.tables e below s (Q1 Z p0 h0 n0) 0 0 (s₁.setTop (mkF m 19 #[.val (.int p0), .val (.int x0)] [(.int ((x0 ^^^ ((x0.toUInt32 >>> ((13 : Int32) &&& 31).toUInt32).toInt32)) * (-1028477387 : Int32)))]))
  generalize hx1 : ((x0 ^^^ ((x0.toUInt32 >>> ((13 : Int32) &&& 31).toUInt32).toInt32)) * (-1028477387 : Int32)) = x1
  show GoesW p.tables e below s (Q1 Z p0 h0 n0) 0 0 (s₁.setTop (mkF m 19 #[.val (.int p0), .val (.int x0)] [(.int x1)]))
  refine GoesW.step (fun _ k => XS.istoreN X0.here hx rfl (hb hby d1_19) rfl (l' := #[.val (.int p0), .val (.int x1)]) rfl k) ?_
  show GoesW p.tables e below s (Q1 Z p0 h0 n0) 0 0 (s₁.setTop (mkF m 20 #[.val (.int p0), .val (.int x1)] []))
  refine GoesW.step (fun _ k => XS.iloadN X0.here hx rfl (hb hby d1_20) rfl k) ?_
  show GoesW p.tables e below s (Q1 Z p0 h0 n0) 0 0 (s₁.setTop (mkF m 21 #[.val (.int p0), .val (.int x1)] [(.int x1)]))
  refine GoesW.step (fun _ k => XS.iloadN X0.here hx rfl (hb hby d1_21) rfl k) ?_
  show GoesW p.tables e below s (Q1 Z p0 h0 n0) 0 0 (s₁.setTop (mkF m 22 #[.val (.int p0), .val (.int x1)] [(.int x1), (.int x1)]))
  refine GoesW.step (fun _ k => XS.bipush X0.here hx rfl (hb hby d1_22) k) ?_
  show GoesW p.tables e below s (Q1 Z p0 h0 n0) 0 0 (s₁.setTop (mkF m 24 #[.val (.int p0), .val (.int x1)] [(.int (16 : Int32)), (.int x1), (.int x1)]))
  refine GoesW.step (fun _ k => XS.iushr X0.here hx rfl (hb hby d1_24) rfl k) ?_
  show GoesW p.tables e below s (Q1 Z p0 h0 n0) 0 0 (s₁.setTop (mkF m 25 #[.val (.int p0), .val (.int x1)] [(.int ((x1.toUInt32 >>> ((16 : Int32) &&& 31).toUInt32).toInt32)), (.int x1)]))
  refine GoesW.step (fun _ k => XS.ixor X0.here hx rfl (hb hby d1_25) rfl k) ?_
  show GoesW p.tables e below s (Q1 Z p0 h0 n0) 0 0 (s₁.setTop (mkF m 26 #[.val (.int p0), .val (.int x1)] [(.int (x1 ^^^ ((x1.toUInt32 >>> ((16 : Int32) &&& 31).toUInt32).toInt32)))]))
  exact GoesW.retI X0 hx hlk Bd.returns (hb hby d1_26) (by show Q1 Z p0 h0 n0 _ s₁.heap _; rw [e0]; exact ⟨by rw [← hx1, ← hx0]; rfl, N0, rfl⟩) (by decide) (by decide)
theorem own_pd0 : parseMethodDescriptor "(I)I" = some ⟨[.int], some .int⟩ := by decide +kernel
theorem d2_0 : decode method_3_code 0 = .ok (.iload_n 0, 1) := by decide +kernel
theorem d2_1 : decode method_3_code 1 = .ok (.iload_n 0, 1) := by decide +kernel
theorem d2_2 : decode method_3_code 2 = .ok (.bipush 16, 2) := by decide +kernel
theorem d2_4 : decode method_3_code 4 = .ok (.iushr, 1) := by decide +kernel
theorem d2_5 : decode method_3_code 5 = .ok (.ixor, 1) := by decide +kernel
theorem d2_6 : decode method_3_code 6 = .ok (.istore_n 1, 1) := by decide +kernel
theorem d2_7 : decode method_3_code 7 = .ok (.iload_n 1, 1) := by decide +kernel
theorem d2_8 : decode method_3_code 8 = .ok (.ldc 7, 2) := by decide +kernel
theorem d2_10 : decode method_3_code 10 = .ok (.invokestatic 8, 3) := by decide +kernel
theorem d2_13 : decode method_3_code 13 = .ok (.imul, 1) := by decide +kernel
theorem d2_14 : decode method_3_code 14 = .ok (.istore_n 2, 1) := by decide +kernel
theorem d2_15 : decode method_3_code 15 = .ok (.iload_n 2, 1) := by decide +kernel
theorem d2_16 : decode method_3_code 16 = .ok (.iload_n 2, 1) := by decide +kernel
theorem d2_17 : decode method_3_code 17 = .ok (.bipush 13, 2) := by decide +kernel
theorem d2_19 : decode method_3_code 19 = .ok (.iushr, 1) := by decide +kernel
theorem d2_20 : decode method_3_code 20 = .ok (.ixor, 1) := by decide +kernel
theorem d2_21 : decode method_3_code 21 = .ok (.iload_n 2, 1) := by decide +kernel
theorem d2_22 : decode method_3_code 22 = .ok (.bipush 26, 2) := by decide +kernel
theorem d2_24 : decode method_3_code 24 = .ok (.iushr, 1) := by decide +kernel
theorem d2_25 : decode method_3_code 25 = .ok (.ixor, 1) := by decide +kernel
theorem d2_26 : decode method_3_code 26 = .ok (.istore_n 3, 1) := by decide +kernel
theorem d2_27 : decode method_3_code 27 = .ok (.iload_n 3, 1) := by decide +kernel
theorem d2_28 : decode method_3_code 28 = .ok (.ldc 14, 2) := by decide +kernel
theorem d2_30 : decode method_3_code 30 = .ok (.invokestatic 8, 3) := by decide +kernel
theorem d2_33 : decode method_3_code 33 = .ok (.imul, 1) := by decide +kernel
theorem d2_34 : decode method_3_code 34 = .ok (.istore 4, 2) := by decide +kernel
theorem d2_36 : decode method_3_code 36 = .ok (.iload 4, 2) := by decide +kernel
theorem d2_38 : decode method_3_code 38 = .ok (.iload 4, 2) := by decide +kernel
theorem d2_40 : decode method_3_code 40 = .ok (.bipush 16, 2) := by decide +kernel
theorem d2_42 : decode method_3_code 42 = .ok (.iushr, 1) := by decide +kernel
theorem d2_43 : decode method_3_code 43 = .ok (.ixor, 1) := by decide +kernel
theorem d2_44 : decode method_3_code 44 = .ok (.ireturn, 1) := by decide +kernel
theorem ef_rm2 (m : MethodId) (x0 : Int32) : entryFrame m #[(.int x0)] 5 = mkF m 0 #[.val (.int x0), .unset, .unset, .unset, .unset] [] := by first | (simp [entryFrame, mkF, argsToLocals, Value.category]; done) | rfl
def Q2 (Z : State) (p0 : Int32) (h0 : Heap) (n0 : Nat) (v : Option Value) (h : Heap) (L : List Loc) : Prop := v = some (.int (own_undo p0)) ∧ Fr n0 L ∧ h = h0
set_option maxRecDepth 65536 in
set_option maxHeartbeats 40000000 in
theorem rm2 (l : Launch) (Z : State) (a0 : Array Value) (hw : ∀ d ∈ tables_1, d.before a0 Z = true) (ws : List Jvm.Cond) (p0 : Int32) (h0 : Heap) (n0 : Nat) (Z0 : n0 ≤ h0.size)  :
    MetFree l (⟨"com/example/lockpoint/lockpoint/KeyTableSpreadPinLaw", "undo", "(I)I"⟩ : MethodName) (head1 (Jvm.Cond.code (⟨"com/example/lockpoint/lockpoint/KeyTableSpreadPinLaw", "undo", "(I)I"⟩ : MethodName) method_3_code 5 (some .int) :: ws) ({ frames := 1, cells := 0, slots := 0, locals := 14 } : Room)) (fun a U => a = #[(.int p0)] ∧ Z.Warmed39 U.vm ∧ U.heap = h0) (fun _ _ _ _ _ => True) (fun _ U o U' => ∃ v L, o = .returned v ∧ Q2 Z p0 h0 n0 v U'.heap L ∧ FrameEnd U o U' L ({ frames := 1, cells := 0, slots := 0, locals := 14 } : Room).cells ({ frames := 1, cells := 0, slots := 0, locals := 14 } : Room).slots) := by
  refine MetFree.of_bodySF (plainFor_of_name own_pn0) hisR ?_
  intro p e s m args below meth c s₁ Bd hml0 hP hK
  obtain ⟨rfl, hZ, hh⟩ := hP
  have hx := Bd.exec
  have hby := Bd.bytes
  have hml : c.maxLocals = 5 := hml0
  have hown : s.vm.findClass "com/example/lockpoint/lockpoint/KeyTableSpreadPinLaw" = some m.cls := findClass_of_methodNamed Bd.named
  have hnm := (name_of_methodNamed Bd.named Bd.method).1
  have hlk : meth.locks = false := BodyLoose.notSynchronized Bd
  have X0 : Stand p l e ({ frames := 1, cells := 0, slots := 0, locals := 14 } : Room) s m #[(.int p0)] below meth c s₁ [] 0 0 := Stand.of_body Bd
  have e0 : s₁.heap = h0 := by rw [← hh, Bd.state]; rfl
  have N0 := Fr.nil n0
  show GoesW p.tables e below s (Q2 Z p0 h0 n0) 0 0 (s₁.setTop (entryFrame m #[(.int p0)] 5))
  rw [ef_rm2 m p0]
  show GoesW p.tables e below s (Q2 Z p0 h0 n0) 0 0 (s₁.setTop (mkF m 0 #[.val (.int p0), .unset, .unset, .unset, .unset] []))
  refine GoesW.step (fun _ k => XS.iloadN X0.here hx rfl (hb hby d2_0) rfl k) ?_
  show GoesW p.tables e below s (Q2 Z p0 h0 n0) 0 0 (s₁.setTop (mkF m 1 #[.val (.int p0), .unset, .unset, .unset, .unset] [(.int p0)]))
  refine GoesW.step (fun _ k => XS.iloadN X0.here hx rfl (hb hby d2_1) rfl k) ?_
  show GoesW p.tables e below s (Q2 Z p0 h0 n0) 0 0 (s₁.setTop (mkF m 2 #[.val (.int p0), .unset, .unset, .unset, .unset] [(.int p0), (.int p0)]))
  refine GoesW.step (fun _ k => XS.bipush X0.here hx rfl (hb hby d2_2) k) ?_
  show GoesW p.tables e below s (Q2 Z p0 h0 n0) 0 0 (s₁.setTop (mkF m 4 #[.val (.int p0), .unset, .unset, .unset, .unset] [(.int (16 : Int32)), (.int p0), (.int p0)]))
  refine GoesW.step (fun _ k => XS.iushr X0.here hx rfl (hb hby d2_4) rfl k) ?_
  show GoesW p.tables e below s (Q2 Z p0 h0 n0) 0 0 (s₁.setTop (mkF m 5 #[.val (.int p0), .unset, .unset, .unset, .unset] [(.int ((p0.toUInt32 >>> ((16 : Int32) &&& 31).toUInt32).toInt32)), (.int p0)]))
  refine GoesW.step (fun _ k => XS.ixor X0.here hx rfl (hb hby d2_5) rfl k) ?_
  show GoesW p.tables e below s (Q2 Z p0 h0 n0) 0 0 (s₁.setTop (mkF m 6 #[.val (.int p0), .unset, .unset, .unset, .unset] [(.int (p0 ^^^ ((p0.toUInt32 >>> ((16 : Int32) &&& 31).toUInt32).toInt32)))]))
  generalize hx0 : (p0 ^^^ ((p0.toUInt32 >>> ((16 : Int32) &&& 31).toUInt32).toInt32)) = x0
  show GoesW p.tables e below s (Q2 Z p0 h0 n0) 0 0 (s₁.setTop (mkF m 6 #[.val (.int p0), .unset, .unset, .unset, .unset] [(.int x0)]))
  refine GoesW.step (fun _ k => XS.istoreN X0.here hx rfl (hb hby d2_6) rfl (l' := #[.val (.int p0), .val (.int x0), .unset, .unset, .unset]) rfl k) ?_
  show GoesW p.tables e below s (Q2 Z p0 h0 n0) 0 0 (s₁.setTop (mkF m 7 #[.val (.int p0), .val (.int x0), .unset, .unset, .unset] []))
  refine GoesW.step (fun _ k => XS.iloadN X0.here hx rfl (hb hby d2_7) rfl k) ?_
  show GoesW p.tables e below s (Q2 Z p0 h0 n0) 0 0 (s₁.setTop (mkF m 8 #[.val (.int p0), .val (.int x0), .unset, .unset, .unset] [(.int x0)]))
  refine GoesW.step (fun _ k => X0.ldcInt hx hown (mvT hZ (hw _ (List.mem_of_getElem? (i := 10) rfl))) (g := (mkF m 8 #[.val (.int p0), .val (.int x0), .unset, .unset, .unset] [(.int x0)])) rfl (hb hby d2_8) _ k) ?_
  show GoesW p.tables e below s (Q2 Z p0 h0 n0) 0 0 (s₁.setTop (mkF m 10 #[.val (.int p0), .val (.int x0), .unset, .unset, .unset] [(.int (-1028477387 : Int32)), (.int x0)]))
  obtain ⟨_, _, ⟨T1, L1, k1, n1⟩, -, X1, ⟨Lc1, hQ1, l1, y1, z1⟩, st1⟩ := Jvm.LawKit.callS X0 hx (y := (⟨"com/example/lockpoint/lockpoint/KeyTableSpreadPinLaw", "inverse", "(I)I"⟩ : MethodName)) hown (mvT hZ (hw _ (List.mem_of_getElem? (i := 11) rfl))) (mvT hZ (hw _ (List.mem_of_getElem? (i := 12) rfl))) (mvT hZ (hw _ (List.mem_of_getElem? (i := 8) rfl))) (mvT hZ (hw _ (List.mem_of_getElem? (i := 13) rfl))) (by decide) (backOf (W := 1) (rm3 l Z a0 hw [] (-1028477387 : Int32)  h0 n0 Z0 ) hZ (hw _ (List.mem_of_getElem? (i := 13) rfl)) (hw _ (List.mem_of_getElem? (i := 8) rfl)) (by decide) (by decide)) (g := (mkF m 10 #[.val (.int p0), .val (.int x0), .unset, .unset, .unset] [(.int (-1028477387 : Int32)), (.int x0)])) rfl (by rw [hml]; rfl) (argsL := [(.int (-1028477387 : Int32))]) (rest := [(.int x0)]) (lenOf own_pd0 rfl) rfl (by show 2 * 0 + _ ≤ _; exact Nat.le_of_eq rfl) (hb hby d2_10) (fun _ _ => ⟨rfl, e0, (by decide : 0 + 0 ≤ _), (by decide : 0 + 0 ≤ _)⟩)
  dsimp only [Pt.U, Pt.locs, Pt.cells, Pt.slots] at X1 l1 y1 z1 st1 hQ1
  subst l1 y1 z1
  obtain ⟨rfl, N1q, eq1⟩ := hQ1
  have N1 := Fr.app N0 N1q
  refine GoesW.step st1 ?_
  show GoesW p.tables e below s (Q2 Z p0 h0 n0) 0 0 (T1.setTop (mkF m 13 #[.val (.int p0), .val (.int x0), .unset, .unset, .unset] [(.int (own_inv (-1028477387 : Int32))), (.int x0)]))
  refine GoesW.step (fun _ k => XS.imul X1.here hx rfl (hb hby d2_13) rfl k) ?_
  show GoesW p.tables e below s (Q2 Z p0 h0 n0) 0 0 (T1.setTop (mkF m 14 #[.val (.int p0), .val (.int x0), .unset, .unset, .unset] [(.int (x0 * (own_inv (-1028477387 : Int32))))]))
  generalize hx1 : (x0 * (own_inv (-1028477387 : Int32))) = x1
  show GoesW p.tables e below s (Q2 Z p0 h0 n0) 0 0 (T1.setTop (mkF m 14 #[.val (.int p0), .val (.int x0), .unset, .unset, .unset] [(.int x1)]))
  refine GoesW.step (fun _ k => XS.istoreN X1.here hx rfl (hb hby d2_14) rfl (l' := #[.val (.int p0), .val (.int x0), .val (.int x1), .unset, .unset]) rfl k) ?_
  show GoesW p.tables e below s (Q2 Z p0 h0 n0) 0 0 (T1.setTop (mkF m 15 #[.val (.int p0), .val (.int x0), .val (.int x1), .unset, .unset] []))
  refine GoesW.step (fun _ k => XS.iloadN X1.here hx rfl (hb hby d2_15) rfl k) ?_
  show GoesW p.tables e below s (Q2 Z p0 h0 n0) 0 0 (T1.setTop (mkF m 16 #[.val (.int p0), .val (.int x0), .val (.int x1), .unset, .unset] [(.int x1)]))
  refine GoesW.step (fun _ k => XS.iloadN X1.here hx rfl (hb hby d2_16) rfl k) ?_
  show GoesW p.tables e below s (Q2 Z p0 h0 n0) 0 0 (T1.setTop (mkF m 17 #[.val (.int p0), .val (.int x0), .val (.int x1), .unset, .unset] [(.int x1), (.int x1)]))
  refine GoesW.step (fun _ k => XS.bipush X1.here hx rfl (hb hby d2_17) k) ?_
  show GoesW p.tables e below s (Q2 Z p0 h0 n0) 0 0 (T1.setTop (mkF m 19 #[.val (.int p0), .val (.int x0), .val (.int x1), .unset, .unset] [(.int (13 : Int32)), (.int x1), (.int x1)]))
  refine GoesW.step (fun _ k => XS.iushr X1.here hx rfl (hb hby d2_19) rfl k) ?_
  show GoesW p.tables e below s (Q2 Z p0 h0 n0) 0 0 (T1.setTop (mkF m 20 #[.val (.int p0), .val (.int x0), .val (.int x1), .unset, .unset] [(.int ((x1.toUInt32 >>> ((13 : Int32) &&& 31).toUInt32).toInt32)), (.int x1)]))
  refine GoesW.step (fun _ k => XS.ixor X1.here hx rfl (hb hby d2_20) rfl k) ?_
  show GoesW p.tables e below s (Q2 Z p0 h0 n0) 0 0 (T1.setTop (mkF m 21 #[.val (.int p0), .val (.int x0), .val (.int x1), .unset, .unset] [(.int (x1 ^^^ ((x1.toUInt32 >>> ((13 : Int32) &&& 31).toUInt32).toInt32)))]))
  refine GoesW.step (fun _ k => XS.iloadN X1.here hx rfl (hb hby d2_21) rfl k) ?_
  show GoesW p.tables e below s (Q2 Z p0 h0 n0) 0 0 (T1.setTop (mkF m 22 #[.val (.int p0), .val (.int x0), .val (.int x1), .unset, .unset] [(.int x1), (.int (x1 ^^^ ((x1.toUInt32 >>> ((13 : Int32) &&& 31).toUInt32).toInt32)))]))
  refine GoesW.step (fun _ k => XS.bipush X1.here hx rfl (hb hby d2_22) k) ?_
  show GoesW p.tables e below s (Q2 Z p0 h0 n0) 0 0 (T1.setTop (mkF m 24 #[.val (.int p0), .val (.int x0), .val (.int x1), .unset, .unset] [(.int (26 : Int32)), (.int x1), (.int (x1 ^^^ ((x1.toUInt32 >>> ((13 : Int32) &&& 31).toUInt32).toInt32)))]))
  refine GoesW.step (fun _ k => XS.iushr X1.here hx rfl (hb hby d2_24) rfl k) ?_
  show GoesW p.tables e below s (Q2 Z p0 h0 n0) 0 0 (T1.setTop (mkF m 25 #[.val (.int p0), .val (.int x0), .val (.int x1), .unset, .unset] [(.int ((x1.toUInt32 >>> ((26 : Int32) &&& 31).toUInt32).toInt32)), (.int (x1 ^^^ ((x1.toUInt32 >>> ((13 : Int32) &&& 31).toUInt32).toInt32)))]))
  refine GoesW.step (fun _ k => XS.ixor X1.here hx rfl (hb hby d2_25) rfl k) ?_
  show GoesW p.tables e below s (Q2 Z p0 h0 n0) 0 0 (T1.setTop (mkF m 26 #[.val (.int p0), .val (.int x0), .val (.int x1), .unset, .unset] [(.int ((x1 ^^^ ((x1.toUInt32 >>> ((13 : Int32) &&& 31).toUInt32).toInt32)) ^^^ ((x1.toUInt32 >>> ((26 : Int32) &&& 31).toUInt32).toInt32)))]))
  generalize hx2 : ((x1 ^^^ ((x1.toUInt32 >>> ((13 : Int32) &&& 31).toUInt32).toInt32)) ^^^ ((x1.toUInt32 >>> ((26 : Int32) &&& 31).toUInt32).toInt32)) = x2
  show GoesW p.tables e below s (Q2 Z p0 h0 n0) 0 0 (T1.setTop (mkF m 26 #[.val (.int p0), .val (.int x0), .val (.int x1), .unset, .unset] [(.int x2)]))
  refine GoesW.step (fun _ k => XS.istoreN X1.here hx rfl (hb hby d2_26) rfl (l' := #[.val (.int p0), .val (.int x0), .val (.int x1), .val (.int x2), .unset]) rfl k) ?_
  show GoesW p.tables e below s (Q2 Z p0 h0 n0) 0 0 (T1.setTop (mkF m 27 #[.val (.int p0), .val (.int x0), .val (.int x1), .val (.int x2), .unset] []))
  refine GoesW.step (fun _ k => XS.iloadN X1.here hx rfl (hb hby d2_27) rfl k) ?_
  show GoesW p.tables e below s (Q2 Z p0 h0 n0) 0 0 (T1.setTop (mkF m 28 #[.val (.int p0), .val (.int x0), .val (.int x1), .val (.int x2), .unset] [(.int x2)]))
  refine GoesW.step (fun _ k => X1.ldcInt hx hown (mvT hZ (hw _ (List.mem_of_getElem? (i := 14) rfl))) (g := (mkF m 28 #[.val (.int p0), .val (.int x0), .val (.int x1), .val (.int x2), .unset] [(.int x2)])) rfl (hb hby d2_28) _ k) ?_
  show GoesW p.tables e below s (Q2 Z p0 h0 n0) 0 0 (T1.setTop (mkF m 30 #[.val (.int p0), .val (.int x0), .val (.int x1), .val (.int x2), .unset] [(.int (-2048144789 : Int32)), (.int x2)]))
  obtain ⟨_, _, ⟨T2, L2, k2, n2⟩, -, X2, ⟨Lc2, hQ2, l2, y2, z2⟩, st2⟩ := Jvm.LawKit.callS X1 hx (y := (⟨"com/example/lockpoint/lockpoint/KeyTableSpreadPinLaw", "inverse", "(I)I"⟩ : MethodName)) hown (mvT hZ (hw _ (List.mem_of_getElem? (i := 11) rfl))) (mvT hZ (hw _ (List.mem_of_getElem? (i := 12) rfl))) (mvT hZ (hw _ (List.mem_of_getElem? (i := 8) rfl))) (mvT hZ (hw _ (List.mem_of_getElem? (i := 13) rfl))) (by decide) (backOf (W := 1) (rm3 l Z a0 hw [] (-2048144789 : Int32)  h0 n0 Z0 ) hZ (hw _ (List.mem_of_getElem? (i := 13) rfl)) (hw _ (List.mem_of_getElem? (i := 8) rfl)) (by decide) (by decide)) (g := (mkF m 30 #[.val (.int p0), .val (.int x0), .val (.int x1), .val (.int x2), .unset] [(.int (-2048144789 : Int32)), (.int x2)])) rfl (by rw [hml]; rfl) (argsL := [(.int (-2048144789 : Int32))]) (rest := [(.int x2)]) (lenOf own_pd0 rfl) rfl (by show 2 * 0 + _ ≤ _; exact Nat.le_of_eq rfl) (hb hby d2_30) (fun _ _ => ⟨rfl, eq1, (by decide : 0 + 0 ≤ _), (by decide : 0 + 0 ≤ _)⟩)
  dsimp only [Pt.U, Pt.locs, Pt.cells, Pt.slots] at X2 l2 y2 z2 st2 hQ2
  subst l2 y2 z2
  obtain ⟨rfl, N2q, eq2⟩ := hQ2
  have N2 := Fr.app N1 N2q
  refine GoesW.step st2 ?_
  show GoesW p.tables e below s (Q2 Z p0 h0 n0) 0 0 (T2.setTop (mkF m 33 #[.val (.int p0), .val (.int x0), .val (.int x1), .val (.int x2), .unset] [(.int (own_inv (-2048144789 : Int32))), (.int x2)]))
  refine GoesW.step (fun _ k => XS.imul X2.here hx rfl (hb hby d2_33) rfl k) ?_
  show GoesW p.tables e below s (Q2 Z p0 h0 n0) 0 0 (T2.setTop (mkF m 34 #[.val (.int p0), .val (.int x0), .val (.int x1), .val (.int x2), .unset] [(.int (x2 * (own_inv (-2048144789 : Int32))))]))
  generalize hx3 : (x2 * (own_inv (-2048144789 : Int32))) = x3
  show GoesW p.tables e below s (Q2 Z p0 h0 n0) 0 0 (T2.setTop (mkF m 34 #[.val (.int p0), .val (.int x0), .val (.int x1), .val (.int x2), .unset] [(.int x3)]))
  refine GoesW.step (fun _ k => XS.istore X2.here hx rfl (hb hby d2_34) rfl (l' := #[.val (.int p0), .val (.int x0), .val (.int x1), .val (.int x2), .val (.int x3)]) rfl k) ?_
  show GoesW p.tables e below s (Q2 Z p0 h0 n0) 0 0 (T2.setTop (mkF m 36 #[.val (.int p0), .val (.int x0), .val (.int x1), .val (.int x2), .val (.int x3)] []))
  refine GoesW.step (fun _ k => XS.iload X2.here hx rfl (hb hby d2_36) rfl k) ?_
  show GoesW p.tables e below s (Q2 Z p0 h0 n0) 0 0 (T2.setTop (mkF m 38 #[.val (.int p0), .val (.int x0), .val (.int x1), .val (.int x2), .val (.int x3)] [(.int x3)]))
  refine GoesW.step (fun _ k => XS.iload X2.here hx rfl (hb hby d2_38) rfl k) ?_
  show GoesW p.tables e below s (Q2 Z p0 h0 n0) 0 0 (T2.setTop (mkF m 40 #[.val (.int p0), .val (.int x0), .val (.int x1), .val (.int x2), .val (.int x3)] [(.int x3), (.int x3)]))
  refine GoesW.step (fun _ k => XS.bipush X2.here hx rfl (hb hby d2_40) k) ?_
  show GoesW p.tables e below s (Q2 Z p0 h0 n0) 0 0 (T2.setTop (mkF m 42 #[.val (.int p0), .val (.int x0), .val (.int x1), .val (.int x2), .val (.int x3)] [(.int (16 : Int32)), (.int x3), (.int x3)]))
  refine GoesW.step (fun _ k => XS.iushr X2.here hx rfl (hb hby d2_42) rfl k) ?_
  show GoesW p.tables e below s (Q2 Z p0 h0 n0) 0 0 (T2.setTop (mkF m 43 #[.val (.int p0), .val (.int x0), .val (.int x1), .val (.int x2), .val (.int x3)] [(.int ((x3.toUInt32 >>> ((16 : Int32) &&& 31).toUInt32).toInt32)), (.int x3)]))
  refine GoesW.step (fun _ k => XS.ixor X2.here hx rfl (hb hby d2_43) rfl k) ?_
  show GoesW p.tables e below s (Q2 Z p0 h0 n0) 0 0 (T2.setTop (mkF m 44 #[.val (.int p0), .val (.int x0), .val (.int x1), .val (.int x2), .val (.int x3)] [(.int (x3 ^^^ ((x3.toUInt32 >>> ((16 : Int32) &&& 31).toUInt32).toInt32)))]))
  exact GoesW.retI X2 hx hlk Bd.returns (hb hby d2_44) (by show Q2 Z p0 h0 n0 _ T2.heap _; rw [eq2]; exact ⟨by rw [← hx3, ← hx2, ← hx1, ← hx0]; rfl, N2, rfl⟩) (by decide) (by decide)
theorem ef_rm0 (m : MethodId) (x0 : Int32) : entryFrame m #[(.int x0)] maxLocals = mkF m 0 #[.val (.int x0), .unset] [] := by first | (simp [entryFrame, mkF, argsToLocals, Value.category, maxLocals]; done) | rfl
def Q0 (Z : State) (p0 : Int32) (h0 : Heap) (n0 : Nat) (v : Option Value) (h : Heap) (L : List Loc) : Prop := v = some (.int (1 : Int32)) ∧ Fr n0 L
set_option maxRecDepth 65536 in
set_option maxHeartbeats 40000000 in
theorem rm0 (l : Launch) (Z : State) (a0 : Array Value) (hw : ∀ d ∈ tables_1, d.before a0 Z = true) (ws : List Jvm.Cond) (p0 : Int32) (h0 : Heap) (n0 : Nat) (Z0 : n0 ≤ h0.size)  :
    MetFree l x (head1 (Jvm.Cond.code x code maxLocals ret :: ws) room_1) (fun a U => a = #[(.int p0)] ∧ Z.Warmed39 U.vm ∧ U.heap = h0) (fun _ _ _ _ _ => True) (fun _ U o U' => ∃ v L, o = .returned v ∧ Q0 Z p0 h0 n0 v U'.heap L ∧ FrameEnd U o U' L room_1.cells room_1.slots) := by
  refine MetFree.of_bodySF (plainFor_of_name own_pn0) hisR ?_
  intro p e s m args below meth c s₁ Bd hml0 hP hK
  obtain ⟨rfl, hZ, hh⟩ := hP
  have hx := Bd.exec
  have hby := Bd.bytes
  have hml : c.maxLocals = 2 := hml0
  have hown : s.vm.findClass "com/example/lockpoint/lockpoint/KeyTableSpreadPinLaw" = some m.cls := findClass_of_methodNamed Bd.named
  have hnm := (name_of_methodNamed Bd.named Bd.method).1
  have hlk : meth.locks = false := BodyLoose.notSynchronized Bd
  have X0 : Stand p l e room_1 s m #[(.int p0)] below meth c s₁ [] 0 0 := Stand.of_body Bd
  have e0 : s₁.heap = h0 := by rw [← hh, Bd.state]; rfl
  have N0 := Fr.nil n0
  show GoesW p.tables e below s (Q0 Z p0 h0 n0) room_1.cells room_1.slots (s₁.setTop (entryFrame m #[(.int p0)] maxLocals))
  rw [ef_rm0 m p0]
  show GoesW p.tables e below s (Q0 Z p0 h0 n0) room_1.cells room_1.slots (s₁.setTop (mkF m 0 #[.val (.int p0), .unset] []))
  refine GoesW.step (fun _ k => XS.iloadN X0.here hx rfl (hb hby at_0) rfl k) ?_
  show GoesW p.tables e below s (Q0 Z p0 h0 n0) room_1.cells room_1.slots (s₁.setTop (mkF m 1 #[.val (.int p0), .unset] [(.int p0)]))
  obtain ⟨_, _, ⟨T1, L1, k1, n1⟩, -, X1, ⟨Lc1, hQ1, l1, y1, z1⟩, st1⟩ := Jvm.LawKit.callS X0 hx (y := (⟨"com/example/lockpoint/lockpoint/KeyTable", "spread", "(I)I"⟩ : MethodName)) hown (mvT hZ (hw _ (List.mem_of_getElem? (i := 0) rfl))) (mvT hZ (hw _ (List.mem_of_getElem? (i := 1) rfl))) (mvT hZ (hw _ (List.mem_of_getElem? (i := 2) rfl))) (mvT hZ (hw _ (List.mem_of_getElem? (i := 3) rfl))) (by decide) (backOf (W := 0) (rm1 l Z a0 hw [] p0  h0 n0 Z0 ) hZ (hw _ (List.mem_of_getElem? (i := 3) rfl)) (hw _ (List.mem_of_getElem? (i := 2) rfl)) (by decide) (by decide)) (g := (mkF m 1 #[.val (.int p0), .unset] [(.int p0)])) rfl (by rw [hml]; rfl) (argsL := [(.int p0)]) (rest := []) (lenOf own_pd0 rfl) rfl (by show 2 * 0 + _ ≤ _; exact Nat.le_of_eq rfl) (hb hby at_1) (fun _ _ => ⟨rfl, e0, (by decide : 0 + 0 ≤ _), (by decide : 0 + 0 ≤ _)⟩)
  dsimp only [Pt.U, Pt.locs, Pt.cells, Pt.slots] at X1 l1 y1 z1 st1 hQ1
  subst l1 y1 z1
  obtain ⟨rfl, N1q, eq1⟩ := hQ1
  have N1 := Fr.app N0 N1q
  refine GoesW.step st1 ?_
  show GoesW p.tables e below s (Q0 Z p0 h0 n0) room_1.cells room_1.slots (T1.setTop (mkF m 4 #[.val (.int p0), .unset] [(.int (own_spread p0))]))
  refine GoesW.step (fun _ k => XS.istoreN X1.here hx rfl (hb hby at_4) rfl (l' := #[.val (.int p0), .val (.int (own_spread p0))]) rfl k) ?_
  show GoesW p.tables e below s (Q0 Z p0 h0 n0) room_1.cells room_1.slots (T1.setTop (mkF m 5 #[.val (.int p0), .val (.int (own_spread p0))] []))
  refine GoesW.step (fun _ k => XS.iloadN X1.here hx rfl (hb hby at_5) rfl k) ?_
  show GoesW p.tables e below s (Q0 Z p0 h0 n0) room_1.cells room_1.slots (T1.setTop (mkF m 6 #[.val (.int p0), .val (.int (own_spread p0))] [(.int (own_spread p0))]))
  obtain ⟨_, _, ⟨T2, L2, k2, n2⟩, -, X2, ⟨Lc2, hQ2, l2, y2, z2⟩, st2⟩ := Jvm.LawKit.callS X1 hx (y := (⟨"com/example/lockpoint/lockpoint/KeyTableSpreadPinLaw", "undo", "(I)I"⟩ : MethodName)) hown (mvT hZ (hw _ (List.mem_of_getElem? (i := 6) rfl))) (mvT hZ (hw _ (List.mem_of_getElem? (i := 7) rfl))) (mvT hZ (hw _ (List.mem_of_getElem? (i := 8) rfl))) (mvT hZ (hw _ (List.mem_of_getElem? (i := 9) rfl))) (by decide) (backOf (W := 0) (rm2 l Z a0 hw [] (own_spread p0)  h0 n0 Z0 ) hZ (hw _ (List.mem_of_getElem? (i := 9) rfl)) (hw _ (List.mem_of_getElem? (i := 8) rfl)) (by decide) (by decide)) (g := (mkF m 6 #[.val (.int p0), .val (.int (own_spread p0))] [(.int (own_spread p0))])) rfl (by rw [hml]; rfl) (argsL := [(.int (own_spread p0))]) (rest := []) (lenOf own_pd0 rfl) rfl (by show 2 * 0 + _ ≤ _; exact Nat.le_of_eq rfl) (hb hby at_6) (fun _ _ => ⟨rfl, eq1, (by decide : 0 + 0 ≤ _), (by decide : 0 + 0 ≤ _)⟩)
  dsimp only [Pt.U, Pt.locs, Pt.cells, Pt.slots] at X2 l2 y2 z2 st2 hQ2
  subst l2 y2 z2
  obtain ⟨rfl, N2q, eq2⟩ := hQ2
  have N2 := Fr.app N1 N2q
  refine GoesW.step st2 ?_
  show GoesW p.tables e below s (Q0 Z p0 h0 n0) room_1.cells room_1.slots (T2.setTop (mkF m 9 #[.val (.int p0), .val (.int (own_spread p0))] [(.int (own_undo (own_spread p0)))]))
  refine GoesW.step (fun _ k => XS.iloadN X2.here hx rfl (hb hby at_9) rfl k) ?_
  show GoesW p.tables e below s (Q0 Z p0 h0 n0) room_1.cells room_1.slots (T2.setTop (mkF m 10 #[.val (.int p0), .val (.int (own_spread p0))] [(.int p0), (.int (own_undo (own_spread p0)))]))
  refine GoesW.step (fun _ k => XS.icmpNo X2.here hx rfl (hb hby at_10) rfl (teq (own_law p0)).2 k) ?_
  show GoesW p.tables e below s (Q0 Z p0 h0 n0) room_1.cells room_1.slots (T2.setTop (mkF m 13 #[.val (.int p0), .val (.int (own_spread p0))] []))
  refine GoesW.step (fun _ k => XS.iconst X2.here hx rfl (hb hby at_13) k) ?_
  show GoesW p.tables e below s (Q0 Z p0 h0 n0) room_1.cells room_1.slots (T2.setTop (mkF m 14 #[.val (.int p0), .val (.int (own_spread p0))] [(.int (1 : Int32))]))
  refine GoesW.step (fun _ k => XS.goto X2.here hx rfl (pc0 := 14) (pc' := 18) rfl (hb hby at_14) (by decide) (by decide) k) ?_
  show GoesW p.tables e below s (Q0 Z p0 h0 n0) room_1.cells room_1.slots (T2.setTop (mkF m 18 #[.val (.int p0), .val (.int (own_spread p0))] [(.int (1 : Int32))]))
  exact GoesW.retZ X2 hx hlk (t := .boolean) Bd.returns (by simp) rfl (hb hby at_18) (by show Q0 Z p0 h0 n0 _ T2.heap _; rw [eq2]; exact ⟨rfl, N2⟩) (by decide) (by decide)
set_option maxRecDepth 65536 in
set_option maxHeartbeats 40000000 in
theorem comes_1 {Post : Tables → Env → Array Value → State → Outcome → State → Prop} (hpost : ∀ tb e args s v u, (limb_1_1.after args s (.returned v) u = true ∧ limb_1_2.after args s (.returned v) u = true ∧ True) → FrameEnd s (.returned v) u (Jvm.fieldLocs frame_1_writes args s ++ Jvm.arrayLocs frame_1_arrays args s ++ Jvm.staticLocs frame_1_statics s) 0 0 → Post tb e args s (.returned v) u) :
    ArmFor flags0 classFile x code maxLocals ret World_1 tables_1 room_1 Calls_1 rest_1 Pre_1 Post := by
  intro l hfl _ _ p e ha hc hk s m args below hf hA hF happ hP
  obtain ⟨hcalls, hrest, hpre⟩ := hP
  obtain ⟨-, -, -, hnamed, -, -, -, hat⟩ := (Spec.applies_iff hf).mp happ
  obtain ⟨hg, hn⟩ := and_e (Cond.before_iff.mp (show (Jvm.Cond.and given_1 narrow_1).before args s = true from hpre))
  obtain ⟨gc, gr0⟩ := and_e hg
  obtain ⟨w0, rfl⟩ : ∃ w0 : Value, args = #[w0] := by
    have hs : args.size = 1 := by simpa [Cond.value, given_1] using gc
    obtain ⟨L⟩ := args
    match L, hs with
    | [w0], _ => exact ⟨w0, rfl⟩
  have hw := fun d (hd : d ∈ tables_1) => atoms_spec (ws := Jvm.Cond.code x code maxLocals ret :: tables_1) hat d (List.mem_cons_of_mem _ hd)
  have hfit : Fit s := fun {y c} hc i hi => by
    obtain ⟨ha, rfl⟩ := Array.getElem?_eq_some_iff.mp hc
    have q := List.all_eq_true.mp ((Array.all_eq_true_iff_forall_mem.mp hF) _ (Array.getElem_mem ha)) i (List.mem_range.mpr hi)
    simpa [Array.getElem?_eq_getElem hi] using q
  obtain ⟨i0, ei0⟩ := is_v gr0
  obtain rfl : w0 = (.int i0) := Option.some.inj ei0
  obtain ⟨n, o, h1, h2, h3, _, L, rfl, ⟨rfl, N⟩, hq⟩ := rm0 l s _ hw tables_1 i0 s.heap s.heap.size (Nat.le_refl _) p e ha hc hk s m _ below hf ((Spec.applies_iff_loose hf).mp happ).1 ⟨rfl, State.Warmed39.refl s, rfl⟩ trivial
  refine ⟨n, _, h1, h2, h3, hpost _ _ _ _ _ _ ⟨Cond.after_iff.mpr rfl, Cond.after_iff.mpr (eq_i res_at (Term.int_eval (1)) rfl), trivial⟩ ⟨hq.1, hq.2.1, (hq.2.2.sift fun y hy => Or.inr (N y hy)).mono (by decide) (by decide)⟩⟩
theorem main_1_1 : Claimed_1_1 := comes_1 fun _ _ _ _ _ _ h hF => ⟨h.1, hF⟩
theorem main_1_2 : Claimed_1_2 := comes_1 fun _ _ _ _ _ _ h hF => ⟨h.2.1, hF⟩
end Jvm.Pilot.@@N@@
namespace Jvm.Pilot.@@N@@
open Jvm Jvm.ClassFile Sem Op Lib Jvm.Free Jvm.Stand Jvm.Pilot.@@N@@.Jvm.D
/-! MADE BY PROGRAM (witnessworld.py) out of the Statement's table words and the real class files: 9 classes; the members and pool entries that the words name. The judged class is class 1, her method 3. -/
namespace start1
open Jvm.ClassFile
def u (s : String) : CpInfo := .utf8 (stringToUtf16 s)
/-- a pool by its gaps: so many unusable entries, then the entry; so many at the end -/
def gap : Nat → List CpInfo → List CpInfo
  | 0, r => r
  | n + 1, r => .unusable :: gap n r
def poolList (es : List (Nat × CpInfo)) (last : Nat) : List CpInfo := es.foldr (fun e r => gap e.1 (e.2 :: r)) (gap last [])
def pool (es : List (Nat × CpInfo)) (last : Nat) : Array CpInfo := ⟨poolList es last⟩
def fileOf (pool : Array CpInfo) (this : Nat) (attrs : Array Attribute := #[]) (ms : Array MethodInfo := #[]) (fl : Nat := 33) (sup : Nat := 0) (ifs : Array Nat := #[]) (fds : Array FieldInfo := #[]) : ClassFile where
  minorVersion := 0
  majorVersion := 65
  constantPool := pool
  accessFlags := fl
  thisClass := this
  superClass := sup
  interfaces := ifs
  fields := fds
  methods := ms
  attributes := attrs
def plain (name : String) (sup : Option ClassId) : Class where
  name := name
  kind := .ordinary
  loader := none
  accessFlags := 33
  super := sup
  interfaces := #[]
  cf := none
  fields := #[]
  methods := #[]
  instanceTypes := #[]
  staticTypes := #[]
  resolved := #[]
  callSites := []
  init := .initialized
  statics := none
  mirror := none

def pool0 : Array CpInfo := pool [(5, u "<init>"), (0, u "()V"), (1, .class_ 10), (1, u "java/lang/Object")] 113

def k0m0 : Method := { name := "<init>", desc := "()V", sig := { parameters := [], returnType := none }, accessFlags := 1, code := none }
/-- java/lang/Object -/
def k0 : Class := { plain "java/lang/Object" none with
  accessFlags := 33
  interfaces := #[]
  cf := some (fileOf pool0 8 #[] #[{ accessFlags := 1, nameIndex := 5, descriptorIndex := 6, attributes := #[] }] 33 0 #[] #[])
  fields := #[]
  methods := #[k0m0]
  instanceTypes := #[]
  staticTypes := #[]
  resolved := Array.replicate 124 none
  statics := none }

def pool1 : Array CpInfo := pool [(2, .class_ 4), (1, u "java/lang/Object"), (0, u "<init>"), (0, u "()V"), (0, .integer 3266489909), (0, .methodref 9 10), (0, .class_ 11), (0, .nameAndType 12 13), (0, u "com/example/lockpoint/lockpoint/KeyTableSpreadPinLaw"), (0, u "inverse"), (0, u "(I)I"), (0, .integer 2246822507), (0, .methodref 16 17), (0, .class_ 18), (0, .nameAndType 19 13), (0, u "com/example/lockpoint/lockpoint/KeyTable"), (0, u "spread"), (0, .methodref 9 21), (0, .nameAndType 22 13), (0, u "undo"), (2, u "law"), (0, u "(I)Z")] 3

def k1m0 : Method := { name := "<init>", desc := "()V", sig := { parameters := [], returnType := none }, accessFlags := 1, code := none }
def k1c1 : Code := { maxStack := 4, maxLocals := 2, code := method_2_code, exceptionTable := #[], attributes := #[] }
def k1m1 : Method := { name := "inverse", desc := "(I)I", sig := { parameters := [.int], returnType := some .int }, accessFlags := 10, code := some k1c1 }
def k1c2 : Code := { maxStack := 3, maxLocals := 5, code := method_3_code, exceptionTable := #[], attributes := #[] }
def k1m2 : Method := { name := "undo", desc := "(I)I", sig := { parameters := [.int], returnType := some .int }, accessFlags := 10, code := some k1c2 }
def k1c3 : Code := { maxStack := 2, maxLocals := 2, code := code, exceptionTable := #[], attributes := #[] }
def k1m3 : Method := { name := "law", desc := "(I)Z", sig := { parameters := [.int], returnType := some .boolean }, accessFlags := 9, code := some k1c3 }
/-- com/example/lockpoint/lockpoint/KeyTableSpreadPinLaw -/
def k1 : Class := { plain "com/example/lockpoint/lockpoint/KeyTableSpreadPinLaw" (some 0) with
  accessFlags := 49
  interfaces := #[]
  cf := some (fileOf pool1 9 #[] #[{ accessFlags := 1, nameIndex := 5, descriptorIndex := 6, attributes := #[] }, { accessFlags := 10, nameIndex := 12, descriptorIndex := 13, attributes := #[] }, { accessFlags := 10, nameIndex := 22, descriptorIndex := 13, attributes := #[] }, { accessFlags := 9, nameIndex := 25, descriptorIndex := 26, attributes := #[] }] 49 2 #[] #[])
  fields := #[]
  methods := #[k1m0, k1m1, k1m2, k1m3]
  instanceTypes := #[]
  staticTypes := #[]
  resolved := Array.replicate 30 none
  statics := none }

def pool2 : Array CpInfo := pool [(4, .class_ 6), (1, u "java/lang/Object"), (0, u "<init>"), (0, u "()V"), (0, .class_ 10), (0, u "com/example/lockpoint/lockpoint/KeyTable"), (0, .class_ 12), (0, u "com/example/lockpoint/lockpoint/KeyTable$Segment"), (2, u "segments"), (0, u "[Lcom/example/lockpoint/lockpoint/KeyTable$Segment;"), (9, u "spread"), (0, u "(I)I"), (2, u "SEGMENT_SHIFT"), (0, u "I"), (10, u "PLACE"), (0, u "Ljava/lang/invoke/VarHandle;"), (12, .class_ 58), (1, u "com/example/lockpoint/lockpoint/KeyTable$Overflow"), (10, u "$assertionsDisabled"), (0, u "Z"), (25, .integer 2246822507), (0, .integer 3266489909), (25, u "REMOVED"), (0, u "Ljava/lang/Object;"), (0, u "SEGMENTS"), (2, u "FEWEST_PLACES"), (1, u "LONGEST_SEARCH"), (1, u "PAST_LONGEST_SEARCH")] 20

def k2m0 : Method := { name := "<init>", desc := "()V", sig := { parameters := [], returnType := none }, accessFlags := 0, code := none }
def k2c1 : Code := { maxStack := 3, maxLocals := 2, code := prog_23_method_10_code, exceptionTable := #[], attributes := #[] }
def k2m1 : Method := { name := "spread", desc := "(I)I", sig := { parameters := [.int], returnType := some .int }, accessFlags := 8, code := some k2c1 }
/-- com/example/lockpoint/lockpoint/KeyTable -/
def k2 : Class := { plain "com/example/lockpoint/lockpoint/KeyTable" (some 0) with
  accessFlags := 48
  interfaces := #[]
  cf := some (fileOf pool2 9 #[.nestMembers #[11, 56]] #[{ accessFlags := 0, nameIndex := 7, descriptorIndex := 8, attributes := #[] }, { accessFlags := 8, nameIndex := 26, descriptorIndex := 27, attributes := #[] }] 48 4 #[] #[{ accessFlags := 26, nameIndex := 125, descriptorIndex := 31, attributes := #[] }, { accessFlags := 26, nameIndex := 30, descriptorIndex := 31, attributes := #[] }, { accessFlags := 26, nameIndex := 128, descriptorIndex := 31, attributes := #[] }, { accessFlags := 26, nameIndex := 130, descriptorIndex := 31, attributes := #[] }, { accessFlags := 26, nameIndex := 132, descriptorIndex := 31, attributes := #[] }, { accessFlags := 26, nameIndex := 42, descriptorIndex := 43, attributes := #[] }, { accessFlags := 26, nameIndex := 123, descriptorIndex := 124, attributes := #[] }, { accessFlags := 18, nameIndex := 15, descriptorIndex := 16, attributes := #[] }, { accessFlags := 4120, nameIndex := 69, descriptorIndex := 70, attributes := #[] }])
  fields := #[{ name := "SEGMENTS", type := .int, accessFlags := 26, slot := 0, constantValue := 0 }, { name := "SEGMENT_SHIFT", type := .int, accessFlags := 26, slot := 1, constantValue := 0 }, { name := "FEWEST_PLACES", type := .int, accessFlags := 26, slot := 2, constantValue := 0 }, { name := "LONGEST_SEARCH", type := .int, accessFlags := 26, slot := 3, constantValue := 0 }, { name := "PAST_LONGEST_SEARCH", type := .int, accessFlags := 26, slot := 4, constantValue := 0 }, { name := "PLACE", type := (.object "java/lang/invoke/VarHandle"), accessFlags := 26, slot := 5, constantValue := 0 }, { name := "REMOVED", type := (.object "java/lang/Object"), accessFlags := 26, slot := 6, constantValue := 0 }, { name := "segments", type := (.array (.object "com/example/lockpoint/lockpoint/KeyTable$Segment")), accessFlags := 18, slot := 0, constantValue := 0 }, { name := "$assertionsDisabled", type := .boolean, accessFlags := 4120, slot := 7, constantValue := 0 }]
  methods := #[k2m0, k2m1]
  instanceTypes := #[(.array (.object "com/example/lockpoint/lockpoint/KeyTable$Segment"))]
  staticTypes := #[.int, .int, .int, .int, .int, (.object "java/lang/invoke/VarHandle"), (.object "java/lang/Object"), .boolean]
  resolved := Array.replicate 153 none
  statics := none }

def pool3 : Array CpInfo := pool [(1, u "java/lang/Cloneable"), (0, .class_ 1), (0, u "java/lang/Object"), (0, .class_ 3)] 3

/-- java/lang/Cloneable -/
def k3 : Class := { plain "java/lang/Cloneable" (some 0) with
  accessFlags := 1537
  interfaces := #[]
  cf := some (fileOf pool3 2 #[] #[] 1537 4 #[] #[])
  fields := #[]
  methods := #[]
  instanceTypes := #[]
  staticTypes := #[]
  resolved := Array.replicate 8 none
  statics := none }

def pool4 : Array CpInfo := pool [(1, u "java/io/Serializable"), (0, .class_ 1), (0, u "java/lang/Object"), (0, .class_ 3)] 3

/-- java/io/Serializable -/
def k4 : Class := { plain "java/io/Serializable" (some 0) with
  accessFlags := 1537
  interfaces := #[]
  cf := some (fileOf pool4 2 #[] #[] 1537 4 #[] #[])
  fields := #[]
  methods := #[]
  instanceTypes := #[]
  staticTypes := #[]
  resolved := Array.replicate 8 none
  statics := none }

/-- the primitive byte -/
def k5 : Class := { plain "byte" none with kind := .primitive 'B', accessFlags := 0x411 }
/-- [B -/
def k6 : Class := { plain "[B" (some 0) with kind := .array 5 .byte, interfaces := #[3, 4], accessFlags := 1041 }

/-- the primitive int -/
def k7 : Class := { plain "int" none with kind := .primitive 'I', accessFlags := 0x411 }
/-- [I -/
def k8 : Class := { plain "[I" (some 0) with kind := .array 7 .int, interfaces := #[3, 4], accessFlags := 1041 }

def heap : Heap := #[]
def classes : Array Class := #[k0, k1, k2, k3, k4, k5, k6, k7, k8]
def interned : List (Array UInt16 × Addr) := []
def slotsUsed : Nat := 0
def theMethod : MethodId := ⟨1, 3⟩
def args0 : Array Value := #[.int 5]
def aboutOver (below : List Frame) : State where
  vm := { classes := classes, interned := interned.toArray }
  heap := heap
  slotsUsed := slotsUsed
  threads := #[{ frames := .invoking theMethod args0 :: below }]
def below0 : List Frame := [.native { method := ⟨0, 0⟩, args := #[] }]
def about1 : State := aboutOver below0
def p0 : Program := .bare "" "" ""
def e0 : Env := launch0.env 0 0 0
theorem w_frames : about1.frames = Frame.invoking theMethod args0 :: below0 := rfl
set_option maxRecDepth 65536 in
theorem w_args : argsFit about1.vm theMethod args0 = true := by decide +kernel
set_option maxRecDepth 65536 in
theorem w_heap : heapFits about1 = true := by decide +kernel
set_option maxRecDepth 65536 in
theorem w_runnable : about1.curStatus? = some .runnable := by decide +kernel
set_option maxRecDepth 65536 in
theorem w_alone : about1.alone = true := by decide +kernel
set_option maxRecDepth 65536 in
theorem w_named : about1.methodNamed? x = some theMethod := by decide +kernel
set_option maxRecDepth 65536 in
theorem w_hears : about1.hears theMethod below0 = true := by decide +kernel
set_option maxRecDepth 65536 in
theorem w_ripe : about1.ripe theMethod args0 below0 = true := by decide +kernel
theorem w_running : about1.status = .running := rfl
set_option maxRecDepth 65536 in
theorem w_room : about1.hasRoom e0.platform room_1 = true :=
  launch0.hasRoom_least _ room_1 (by decide +kernel) (by decide +kernel) (by decide +kernel) (by decide +kernel) (by decide +kernel) (by decide +kernel)
theorem allAtoms_all (ts : List Jvm.Cond) (a : Array Jvm.Value) (st : Jvm.State) : (allAtoms ts).before a st = ts.all (fun c => c.before a st) := by
  induction ts with
  | nil => rfl
  | cons c t ih =>
    show (Jvm.Cond.and c (allAtoms t)).before a st = _
    rw [Jvm.Cond.before_and, ih, List.all_cons]
def words1 : List Jvm.Cond := Jvm.Cond.code x code maxLocals ret :: tables_1
/-- a 'code' word, met by the world's own term for the bytes: nothing is compared byte by byte -/
theorem code_word {y : MethodName} {bytes : ByteArray} {mx : Nat} {rt : Option FieldType} {a : Array Value} {s : State} {m : MethodId} {meth : Method} {c : Code} (h1 : s.methodNamed? y = some m) (h2 : s.vm.method? m = some meth) (h3 : meth.code = some c) (h4 : c.code = bytes)
    (h5 : (c.maxLocals == mx && c.exceptionTable.isEmpty && decide (c.maxStack ≤ mostOperands) && decide (meth.sig.returnType = rt) && !meth.locks && decide (parseMethodDescriptor y.desc = some meth.sig)) = true) : (Jvm.Cond.code y bytes mx rt).before a s = true := by
  simp only [Bool.and_eq_true, beq_iff_eq, Bool.not_eq_true', decide_eq_true_eq] at h5
  obtain ⟨⟨⟨⟨⟨g1, g2⟩, g3⟩, g4⟩, g5⟩, g6⟩ := h5
  simp [Cond.before, Cond.holds, Cond.value, h1, h2, h3, h4, g1, g2, g3, g4, g5, g6]
def isCode : Jvm.Cond → Bool
  | .code _ _ _ _ => true
  | _ => false
theorem all_split {L : List Jvm.Cond} {P : Jvm.Cond → Bool} (h1 : L.all (fun c => isCode c || P c) = true) (h2 : ∀ c ∈ L.filter isCode, P c = true) : L.all P = true := by
  refine List.all_eq_true.mpr fun c hc => ?_
  have h := List.all_eq_true.mp h1 c hc
  rcases Bool.eq_false_or_eq_true (isCode c) with hi | hi
  · exact h2 c (List.mem_filter.mpr ⟨hc, hi⟩)
  · simpa [hi] using h
set_option maxRecDepth 65536 in
theorem w_c0 : (Jvm.Cond.code x code maxLocals ret).before args0 about1 = true := code_word (m := ⟨1, 3⟩) (meth := k1m3) (c := k1c3) (by decide +kernel) rfl rfl rfl (by decide +kernel)
set_option maxRecDepth 65536 in
theorem w_c1 : (Jvm.Cond.code ({ cls := "com/example/lockpoint/lockpoint/KeyTable", name := "spread", desc := "(I)I" } : Jvm.MethodName) prog_23_method_10_code (2 : Nat) (Option.some Jvm.ClassFile.FieldType.int)).before args0 about1 = true := code_word (m := ⟨2, 1⟩) (meth := k2m1) (c := k2c1) (by decide +kernel) rfl rfl rfl (by decide +kernel)
set_option maxRecDepth 65536 in
theorem w_c2 : (Jvm.Cond.code ({ cls := "com/example/lockpoint/lockpoint/KeyTableSpreadPinLaw", name := "undo", desc := "(I)I" } : Jvm.MethodName) method_3_code (5 : Nat) (Option.some Jvm.ClassFile.FieldType.int)).before args0 about1 = true := code_word (m := ⟨1, 2⟩) (meth := k1m2) (c := k1c2) (by decide +kernel) rfl rfl rfl (by decide +kernel)
set_option maxRecDepth 65536 in
theorem w_c3 : (Jvm.Cond.code ({ cls := "com/example/lockpoint/lockpoint/KeyTableSpreadPinLaw", name := "inverse", desc := "(I)I" } : Jvm.MethodName) method_2_code (2 : Nat) (Option.some Jvm.ClassFile.FieldType.int)).before args0 about1 = true := code_word (m := ⟨1, 1⟩) (meth := k1m1) (c := k1c1) (by decide +kernel) rfl rfl rfl (by decide +kernel)
def codes1 : List Jvm.Cond := [Jvm.Cond.code x code maxLocals ret, Jvm.Cond.code ({ cls := "com/example/lockpoint/lockpoint/KeyTable", name := "spread", desc := "(I)I" } : Jvm.MethodName) prog_23_method_10_code (2 : Nat) (Option.some Jvm.ClassFile.FieldType.int), Jvm.Cond.code ({ cls := "com/example/lockpoint/lockpoint/KeyTableSpreadPinLaw", name := "undo", desc := "(I)I" } : Jvm.MethodName) method_3_code (5 : Nat) (Option.some Jvm.ClassFile.FieldType.int), Jvm.Cond.code ({ cls := "com/example/lockpoint/lockpoint/KeyTableSpreadPinLaw", name := "inverse", desc := "(I)I" } : Jvm.MethodName) method_2_code (2 : Nat) (Option.some Jvm.ClassFile.FieldType.int)]
set_option maxRecDepth 65536 in
theorem codes_eq : words1.filter isCode = codes1 := rfl
theorem w_codes : ∀ c ∈ words1.filter isCode, c.before args0 about1 = true := by
  rw [codes_eq]
  intro c hc
  simp only [codes1, List.mem_cons, List.not_mem_nil, or_false] at hc
  rcases hc with rfl | rfl | rfl | rfl
  · exact w_c0
  · exact w_c1
  · exact w_c2
  · exact w_c3
set_option maxRecDepth 65536 in
theorem w_t1 : words1.all (fun c => isCode c || c.before args0 about1) = true := by decide +kernel
theorem w_tables : (allAtoms (Jvm.Cond.code x code maxLocals ret :: tables_1)).before args0 about1 = true := by
  rw [allAtoms_all]
  show words1.all (fun c => c.before args0 about1) = true
  refine all_split ?_ w_codes
  rw [w_t1]
set_option maxRecDepth 65536 in
theorem w_case : (Jvm.Cond.and given_1 narrow_1).before args0 about1 = true := by decide +kernel
theorem w_applies : (headSpec (Jvm.Cond.code x code maxLocals ret :: tables_1) room_1).applies x e0.platform about1 = true :=
  (Spec.applies_iff w_frames).mpr ⟨w_running, w_runnable, w_alone, w_named, w_hears, w_ripe, w_room, w_tables⟩
theorem atStart : AtStart classFile x code maxLocals ret World_1 tables_1 room_1 Calls_1 rest_1 Pre_1 launch0 p0 e0 about1 theMethod args0 below0 :=
  ⟨lists_1, trivial, launch0.admits_env _ _ _, launch0.least_env, fairChoices_fair.cas, fairChoices_fair.clock, w_frames, w_args, w_heap, w_applies, trivial, trivial, w_case⟩
end start1
theorem witness_1 : WitnessClaimed_1 := ⟨start1.p0, start1.e0, start1.about1, start1.theMethod, start1.args0, start1.below0, start1.atStart⟩
end Jvm.Pilot.@@N@@
