import JvmDerived
import JvmDerived.Pilot.@@N@@Statement
import JvmDerived.Pilot.@@N@@Code
set_option linter.unusedVariables false
set_option linter.unusedSimpArgs false
namespace Jvm.RoadKit
open Sem ClassFile Op Lib Jvm.Stand Jvm.Free Jvm.LawKit
/-- from S the run goes on and returns; what it leaves is said by Q -/
def GoesW (tb : Tables) (e : Env) (below : List Frame) (s : State) (Q : Option Value → Heap → List Loc → Prop) (kc ks : Nat) (S : State) : Prop :=
  ∃ t o, Steps tb e below S t ∧ t.status = .running ∧ Ended t below o ∧ ∃ v L, o = .returned v ∧ Q v t.heap L ∧ FrameEnd s o t L kc ks
theorem GoesW.step {tb : Tables} {e : Env} {below : List Frame} {s : State} {Q : Option Value → Heap → List Loc → Prop} {kc ks : Nat} {S S' : State} (f : ∀ t, Steps tb e below S' t → Steps tb e below S t) (h : GoesW tb e below s Q kc ks S') : GoesW tb e below s Q kc ks S := by
  obtain ⟨t, o, h1, h2⟩ := h
  exact ⟨t, o, f t h1, h2⟩
/-- 0 where the branch is taken, 1 where it isn't: what 'if<c> +7; iconst_1; goto +4; iconst_0' leaves -/
def nb (b : Bool) : Int32 := if b then 0 else 1
theorem nb_01 (b : Bool) : nb b = 0 ∨ nb b = 1 := by cases b <;> simp [nb]
theorem nar_nb (b : Bool) : narrow .boolean (.int (nb b)) = .int (nb b) := by cases b <;> rfl
theorem fits_nb (b : Bool) : fits .boolean (.int (nb b)) = true := by cases b <;> rfl
theorem diam0 {tb : Tables} [Ours tb] {e : Env} {below : List Frame} {T target : State} {m : MethodId} {c : Code} {g : JFrame} (h : At T m c below) (hx : tb.exec = Jvm.exec) (hg : g.method = m) {cd : ClassFile.Cond} {x : Int32} {rest : List Value} {pc0 : Nat} (hpc : g.pc = pc0)
    (hd : decode c.code pc0 = .ok (.ifCond cd 7, 3)) (hs : g.stack = .int x :: rest) (hd1 : decode c.code (pc0 + 3) = .ok (.iconst 1, 1)) (hd2 : decode c.code (pc0 + 4) = .ok (.goto 4, 3)) (hd3 : decode c.code (pc0 + 7) = .ok (.iconst 0, 1))
    (hr : Steps tb e below (T.setTop { g with pc := pc0 + 8, stack := .int (nb (ifCond.holds cd x)) :: rest }) target) : Steps tb e below (T.setTop g) target := by
  subst hpc
  cases hb : ifCond.holds cd x with
  | true =>
    rw [hb] at hr
    refine XS.ifYes h hx hg (pc0 := g.pc) (pc' := g.pc + 7) rfl hd hs hb (by omega) (by omega) ?_
    exact XS.iconst (g := { g with pc := g.pc + 7, stack := rest }) h hx hg hd3 hr
  | false =>
    rw [hb] at hr
    refine XS.ifNo h hx hg hd hs hb ?_
    refine XS.iconst (g := { g with pc := g.pc + 3, stack := rest }) h hx hg hd1 ?_
    exact XS.goto (g := { g with pc := g.pc + 4, stack := .int 1 :: rest }) h hx hg (pc0 := g.pc + 4) (pc' := g.pc + 8) rfl hd2 (by omega) (by omega) hr
theorem diam2 {tb : Tables} [Ours tb] {e : Env} {below : List Frame} {T target : State} {m : MethodId} {c : Code} {g : JFrame} (h : At T m c below) (hx : tb.exec = Jvm.exec) (hg : g.method = m) {cd : ClassFile.Cond} {x y : Int32} {rest : List Value} {pc0 : Nat} (hpc : g.pc = pc0)
    (hd : decode c.code pc0 = .ok (.if_icmp cd 7, 3)) (hs : g.stack = .int y :: .int x :: rest) (hd1 : decode c.code (pc0 + 3) = .ok (.iconst 1, 1)) (hd2 : decode c.code (pc0 + 4) = .ok (.goto 4, 3)) (hd3 : decode c.code (pc0 + 7) = .ok (.iconst 0, 1))
    (hr : Steps tb e below (T.setTop { g with pc := pc0 + 8, stack := .int (nb (if_icmp.holds cd x y)) :: rest }) target) : Steps tb e below (T.setTop g) target := by
  subst hpc
  cases hb : if_icmp.holds cd x y with
  | true =>
    rw [hb] at hr
    refine XS.icmpYes h hx hg (pc0 := g.pc) (pc' := g.pc + 7) rfl hd hs hb (by omega) (by omega) ?_
    exact XS.iconst (g := { g with pc := g.pc + 7, stack := rest }) h hx hg hd3 hr
  | false =>
    rw [hb] at hr
    refine XS.icmpNo h hx hg hd hs hb ?_
    refine XS.iconst (g := { g with pc := g.pc + 3, stack := rest }) h hx hg hd1 ?_
    exact XS.goto (g := { g with pc := g.pc + 4, stack := .int 1 :: rest }) h hx hg (pc0 := g.pc + 4) (pc' := g.pc + 8) rfl hd2 (by omega) (by omega) hr
section New
variable {p : Program} {l : Launch} {e : Env} {R : Room} {s : State} {m : MethodId} {args : Array Value} {below : List Frame} {meth : Method} {c : Code} {T : State} {locs : List Loc} {cells slots : Nat} {Q : Option Value → Heap → List Loc → Prop} {kc ks : Nat}
theorem upS (X : Stand p l e R s m args below meth c T locs cells slots) {k n : Nat} (hc : cells ≤ k) (hn : slots ≤ n) : Stand p l e R s m args below meth c T locs k n := { X with same := X.same.mono hc hn }
theorem GoesW.out (X : Stand p l e R s m args below meth c T locs cells slots) {v : Option Value} {S : State} (hlk : meth.locks = false) (hv : meth.sig.returnType = none → v = none)
    (hst : ∀ fs, (∀ (f : JFrame) (acts : List Action), f.method = m → f.locked = none → f.entered = [] → (doReturn e (T.setTop f) acts v).1 = T.setFrames fs) → Steps p.tables e below S (T.setFrames fs)) (hq : Q v T.heap locs) (hc : cells ≤ kc) (hs : slots ≤ ks) : GoesW p.tables e below s Q kc ks S := by
  obtain ⟨fs, hr, hrun, hended, hW, hsame⟩ := X.leave (v := v) hv hlk
  exact ⟨_, _, hst fs hr, hrun, hended, _, _, rfl, hq, ⟨_, rfl⟩, hW, hsame.mono hc hs⟩
theorem GoesW.retI (X : Stand p l e R s m args below meth c T locs cells slots) (hx : p.tables.exec = Jvm.exec) (hlk : meth.locks = false) {pc : Nat} {Ls : Array Slot} {z : Int32} {rest : List Value} (hret : meth.sig.returnType = some .int) (hd : decode c.code pc = .ok (.ireturn, 1)) (hq : Q (some (.int z)) T.heap locs) (hc : cells ≤ kc) (hs : slots ≤ ks) :
    GoesW p.tables e below s Q kc ks (T.setTop (mkF m pc Ls (.int z :: rest))) :=
  GoesW.out X hlk (fun h => by rw [hret] at h; cases h) (fun fs hr => retOut X hx hret rfl (Or.inl ⟨rfl, Or.inl rfl, _, rfl⟩) hd hr) hq hc hs
theorem GoesW.retZ (X : Stand p l e R s m args below meth c T locs cells slots) (hx : p.tables.exec = Jvm.exec) (hlk : meth.locks = false) {pc : Nat} {Ls : Array Slot} {z : Int32} {t : FieldType} {rest : List Value} (hret : meth.sig.returnType = some t) (ht : t = .int ∨ t = .boolean ∨ t = .byte ∨ t = .char ∨ t = .short) (hn : narrow t (.int z) = .int z) (hd : decode c.code pc = .ok (.ireturn, 1)) (hq : Q (some (.int z)) T.heap locs) (hc : cells ≤ kc) (hs : slots ≤ ks) :
    GoesW p.tables e below s Q kc ks (T.setTop (mkF m pc Ls (.int z :: rest))) :=
  GoesW.out X hlk (fun h => by rw [hret] at h; cases h) (fun fs hr => retOut X hx hret hn (Or.inl ⟨rfl, ht, _, rfl⟩) hd hr) hq hc hs
theorem GoesW.retJ (X : Stand p l e R s m args below meth c T locs cells slots) (hx : p.tables.exec = Jvm.exec) (hlk : meth.locks = false) {pc : Nat} {Ls : Array Slot} {z : Int64} {rest : List Value} (hret : meth.sig.returnType = some .long) (hd : decode c.code pc = .ok (.lreturn, 1)) (hq : Q (some (.long z)) T.heap locs) (hc : cells ≤ kc) (hs : slots ≤ ks) :
    GoesW p.tables e below s Q kc ks (T.setTop (mkF m pc Ls (.long z :: rest))) :=
  GoesW.out X hlk (fun h => by rw [hret] at h; cases h) (fun fs hr => retOut X hx hret rfl (Or.inr (Or.inl ⟨rfl, rfl, _, rfl⟩)) hd hr) hq hc hs
theorem GoesW.retA (X : Stand p l e R s m args below meth c T locs cells slots) (hx : p.tables.exec = Jvm.exec) (hlk : meth.locks = false) {pc : Nat} {Ls : Array Slot} {w : Value} {t : FieldType} {rest : List Value} (hret : meth.sig.returnType = some t) (ht : t.isReference = true) (hw : w.isRef = true) (hd : decode c.code pc = .ok (.areturn, 1)) (hq : Q (some w) T.heap locs) (hc : cells ≤ kc) (hs : slots ≤ ks) :
    GoesW p.tables e below s Q kc ks (T.setTop (mkF m pc Ls (w :: rest))) :=
  GoesW.out X hlk (fun h => by rw [hret] at h; cases h) (fun fs hr => retOut X hx hret (by cases t <;> first | (cases ht; done) | rfl) (Or.inr (Or.inr (Or.inr (Or.inr ⟨rfl, ht, hw⟩)))) hd hr) hq hc hs
theorem GoesW.retV (X : Stand p l e R s m args below meth c T locs cells slots) (hx : p.tables.exec = Jvm.exec) (hlk : meth.locks = false) {pc : Nat} {Ls : Array Slot} (hret : meth.sig.returnType = none) (hd : decode c.code pc = .ok (.return_, 1)) (hq : Q none T.heap locs) (hc : cells ≤ kc) (hs : slots ≤ ks) :
    GoesW p.tables e below s Q kc ks (T.setTop (mkF m pc Ls [])) :=
  GoesW.out X hlk (fun _ => rfl) (fun fs hr => X.returnOut hx hret hd hr) hq hc hs
end New
end Jvm.RoadKit
namespace Jvm.Pilot.@@N@@
open Jvm Jvm.ClassFile Sem Op Lib Jvm.Free Jvm.Stand Jvm.LawKit Jvm.RoadKit Bundle Jvm.Pilot.@@N@@.Jvm.D
theorem own_ext {h h' : Heap} (K : Keep h h' []) : Ext h h' := ⟨K.1, fun a c q => K.2.1 a c q nin0⟩
def own_al (a b c : Int64) (n : Int32) (a' b' c' : Int64) (n' : Int32) : Int32 := if a = a' then if b = b' then if c = c' then if n = n' then 1 else 0 else 0 else 0 else 0
def own_P (pe pl pg pn : Int32) (d : Int64) : Prop := (¬ pe = 0 ∧ ¬ d = 0) ∨ (¬ pl = 0 ∧ ¬ d = 0) ∨ (¬ pg = 0 ∧ ¬ d = 0) ∨ (¬ pn = 0 ∧ ¬ d.toInt32 = 0)
theorem own_x64 (a d : Int64) : a = a ^^^ d ↔ d = 0 := by
  constructor
  · intro h
    have h1 : a ^^^ (a ^^^ d) = a ^^^ a := by rw [← h]
    rw [← Int64.xor_assoc, Int64.xor_self, Int64.zero_xor] at h1
    exact h1
  · intro h
    rw [h, Int64.xor_zero]
theorem own_x32 (a d : Int32) : a = a ^^^ d ↔ d = 0 := by
  constructor
  · intro h
    have h1 : a ^^^ (a ^^^ d) = a ^^^ a := by rw [← h]
    rw [← Int32.xor_assoc, Int32.xor_self, Int32.zero_xor] at h1
    exact h1
  · intro h
    rw [h, Int32.xor_zero]
theorem own_e64 {a d e : Int64} {p : Int32} (h : e = if p = 0 then a else a ^^^ d) : a = e ↔ ¬ (¬ p = 0 ∧ ¬ d = 0) := by
  by_cases q : p = 0
  · rw [if_pos q] at h; simp [h, q]
  · rw [if_neg q] at h; rw [h, own_x64]; simp [q]
theorem own_e32 {a d e : Int32} {p : Int32} (h : e = if p = 0 then a else a ^^^ d) : a = e ↔ ¬ (¬ p = 0 ∧ ¬ d = 0) := by
  by_cases q : p = 0
  · rw [if_pos q] at h; simp [h, q]
  · rw [if_neg q] at h; rw [h, own_x32]; simp [q]
theorem own_al1 {a b c a' b' c' : Int64} {n n' : Int32} (h1 : a = a') (h2 : b = b') (h3 : c = c') (h4 : n = n') : own_al a b c n a' b' c' n' = 1 := by rw [own_al, if_pos h1, if_pos h2, if_pos h3, if_pos h4]
theorem own_al0 {a b c a' b' c' : Int64} {n n' : Int32} (h : ¬ (a = a' ∧ b = b' ∧ c = c' ∧ n = n')) : own_al a b c n a' b' c' n' = 0 := by
  unfold own_al
  by_cases h1 : a = a'
  · by_cases h2 : b = b'
    · by_cases h3 : c = c'
      · by_cases h4 : n = n'
        · exact absurd ⟨h1, h2, h3, h4⟩ h
        · rw [if_pos h1, if_pos h2, if_pos h3, if_neg h4]
      · rw [if_pos h1, if_pos h2, if_neg h3]
    · rw [if_pos h1, if_neg h2]
  · rw [if_neg h1]
theorem own_iff {a b c d e2 l2 g2 : Int64} {n n2 pe pl pg pn : Int32} (he : e2 = if pe = 0 then a else a ^^^ d) (hl : l2 = if pl = 0 then b else b ^^^ d) (hg : g2 = if pg = 0 then c else c ^^^ d) (hn : n2 = if pn = 0 then n else n ^^^ d.toInt32) : (a = e2 ∧ b = l2 ∧ c = g2 ∧ n = n2) ↔ ¬ own_P pe pl pg pn d := by
  rw [own_e64 he, own_e64 hl, own_e64 hg, own_e32 hn]
  unfold own_P
  constructor
  · rintro ⟨h1, h2, h3, h4⟩ (q | q | q | q)
    · exact h1 q
    · exact h2 q
    · exact h3 q
    · exact h4 q
  · intro h
    exact ⟨fun q => h (Or.inl q), fun q => h (Or.inr (Or.inl q)), fun q => h (Or.inr (Or.inr (Or.inl q))), fun q => h (Or.inr (Or.inr (Or.inr q)))⟩
theorem own_sm {a b c d e2 l2 g2 : Int64} {n n2 pe pl pg pn ch : Int32} (he : e2 = if pe = 0 then a else a ^^^ d) (hl : l2 = if pl = 0 then b else b ^^^ d) (hg : g2 = if pg = 0 then c else c ^^^ d) (hn : n2 = if pn = 0 then n else n ^^^ d.toInt32) (hch : (ch = 1 ∧ own_P pe pl pg pn d) ∨ (ch = 0 ∧ ¬ own_P pe pl pg pn d)) :
    own_al a b c n e2 l2 g2 n2 = nb (ifCond.holds .ne ch) ∧ own_al e2 l2 g2 n2 a b c n = nb (ifCond.holds .ne ch) := by
  have hi := own_iff he hl hg hn
  rcases hch with ⟨rfl, q⟩ | ⟨rfl, q⟩
  · have hi' : ¬ (a = e2 ∧ b = l2 ∧ c = g2 ∧ n = n2) := fun z => (hi.mp z) q
    exact ⟨own_al0 hi', own_al0 fun z => hi' ⟨z.1.symm, z.2.1.symm, z.2.2.1.symm, z.2.2.2.symm⟩⟩
  · obtain ⟨h1, h2, h3, h4⟩ := hi.mpr q
    exact ⟨own_al1 h1 h2 h3 h4, own_al1 h1.symm h2.symm h3.symm h4.symm⟩
theorem own_255 (x : Int32) : ¬ (255 : Int32) < (x &&& (255 : Int32)) := by
  rw [Int32.lt_iff_toInt_lt, c_mask x 255 8 (by decide) (by decide)]
  have e : (255 : Int32).toInt = 255 := rfl
  omega
theorem own_pn0 : plainName "java/lang/StringLatin1" = true := by first | (simp [plainName, overriddenIn]; done) | decide +kernel
theorem d2_0 : decode jdk_43_method_3_code 0 = .ok (.iload_n 0, 1) := by decide +kernel
theorem d2_1 : decode jdk_43_method_3_code 1 = .ok (.sipush 255, 3) := by decide +kernel
theorem d2_4 : decode jdk_43_method_3_code 4 = .ok (.if_icmp .gt 7, 3) := by decide +kernel
theorem d2_7 : decode jdk_43_method_3_code 7 = .ok (.iconst 1, 1) := by decide +kernel
theorem d2_8 : decode jdk_43_method_3_code 8 = .ok (.goto 4, 3) := by decide +kernel
theorem d2_12 : decode jdk_43_method_3_code 12 = .ok (.ireturn, 1) := by decide +kernel
theorem ef_rm2 (m : MethodId) (x0 : Int32) : entryFrame m #[(.int x0)] 1 = mkF m 0 #[.val (.int x0)] [] := by first | (simp [entryFrame, mkF, argsToLocals, Value.category]; done) | rfl
def Q2 (Z : State) (p0 : Int32) (h0 : Heap) (n0 : Nat) (v : Option Value) (h : Heap) (L : List Loc) : Prop := v = some (.int (1 : Int32)) ∧ Fr n0 L ∧ h = h0
set_option maxRecDepth 65536 in
set_option maxHeartbeats 40000000 in
theorem rm2 (l : Launch) (Z : State) (a0 : Array Value) (hw : ∀ d ∈ tables_1, d.before a0 Z = true) (ws : List Jvm.Cond) (p0 : Int32) (h0 : Heap) (n0 : Nat) (Z0 : n0 ≤ h0.size) (hc : ¬ (255 : Int32) < p0) :
    MetFree l (⟨"java/lang/StringLatin1", "canEncode", "(C)Z"⟩ : MethodName) (head1 (Jvm.Cond.code (⟨"java/lang/StringLatin1", "canEncode", "(C)Z"⟩ : MethodName) jdk_43_method_3_code 1 (some .boolean) :: ws) ({ frames := 0, cells := 0, slots := 0, locals := 0 } : Room)) (fun a U => a = #[(.int p0)] ∧ Z.Warmed39 U.vm ∧ U.heap = h0) (fun _ _ _ _ _ => True) (fun _ U o U' => ∃ v L, o = .returned v ∧ Q2 Z p0 h0 n0 v U'.heap L ∧ FrameEnd U o U' L ({ frames := 0, cells := 0, slots := 0, locals := 0 } : Room).cells ({ frames := 0, cells := 0, slots := 0, locals := 0 } : Room).slots) := by
  refine MetFree.of_bodySF (plainFor_of_name own_pn0) hisR ?_
  intro p e s m args below meth c s₁ Bd hml0 hP hK
  obtain ⟨rfl, hZ, hh⟩ := hP
  have hx := Bd.exec
  have hby := Bd.bytes
  have hml : c.maxLocals = 1 := hml0
  have hown : s.vm.findClass "java/lang/StringLatin1" = some m.cls := findClass_of_methodNamed Bd.named
  have hnm := (name_of_methodNamed Bd.named Bd.method).1
  have hlk : meth.locks = false := BodyLoose.notSynchronized Bd
  have X0 : Stand p l e ({ frames := 0, cells := 0, slots := 0, locals := 0 } : Room) s m #[(.int p0)] below meth c s₁ [] 0 0 := Stand.of_body Bd
  have e0 : s₁.heap = h0 := by rw [← hh, Bd.state]; rfl
  have N0 := Fr.nil n0
  show GoesW p.tables e below s (Q2 Z p0 h0 n0) 0 0 (s₁.setTop (entryFrame m #[(.int p0)] 1))
  rw [ef_rm2 m p0]
  show GoesW p.tables e below s (Q2 Z p0 h0 n0) 0 0 (s₁.setTop (mkF m 0 #[.val (.int p0)] []))
  refine GoesW.step (fun _ k => XS.iloadN X0.here hx rfl (hb hby d2_0) rfl k) ?_
  show GoesW p.tables e below s (Q2 Z p0 h0 n0) 0 0 (s₁.setTop (mkF m 1 #[.val (.int p0)] [(.int p0)]))
  refine GoesW.step (fun _ k => XS.sipush X0.here hx rfl (hb hby d2_1) k) ?_
  show GoesW p.tables e below s (Q2 Z p0 h0 n0) 0 0 (s₁.setTop (mkF m 4 #[.val (.int p0)] [(.int (255 : Int32)), (.int p0)]))
  refine GoesW.step (fun _ k => XS.icmpNo X0.here hx rfl (hb hby d2_4) rfl (flt hc).2.2.1 k) ?_
  show GoesW p.tables e below s (Q2 Z p0 h0 n0) 0 0 (s₁.setTop (mkF m 7 #[.val (.int p0)] []))
  refine GoesW.step (fun _ k => XS.iconst X0.here hx rfl (hb hby d2_7) k) ?_
  show GoesW p.tables e below s (Q2 Z p0 h0 n0) 0 0 (s₁.setTop (mkF m 8 #[.val (.int p0)] [(.int (1 : Int32))]))
  refine GoesW.step (fun _ k => XS.goto X0.here hx rfl (pc0 := 8) (pc' := 12) rfl (hb hby d2_8) (by decide) (by decide) k) ?_
  show GoesW p.tables e below s (Q2 Z p0 h0 n0) 0 0 (s₁.setTop (mkF m 12 #[.val (.int p0)] [(.int (1 : Int32))]))
  exact GoesW.retZ X0 hx hlk (t := .boolean) Bd.returns (by simp) rfl (hb hby d2_12) (by show Q2 Z p0 h0 n0 _ s₁.heap _; rw [e0]; exact ⟨rfl, N0, rfl⟩) (by decide) (by decide)
theorem d3_0 : decode jdk_43_method_46_code 0 = .ok (.iconst 1, 1) := by decide +kernel
theorem d3_1 : decode jdk_43_method_46_code 1 = .ok (.newarray .byte, 2) := by decide +kernel
theorem d3_3 : decode jdk_43_method_46_code 3 = .ok (.dup, 1) := by decide +kernel
theorem d3_4 : decode jdk_43_method_46_code 4 = .ok (.iconst 0, 1) := by decide +kernel
theorem d3_5 : decode jdk_43_method_46_code 5 = .ok (.iload_n 0, 1) := by decide +kernel
theorem d3_6 : decode jdk_43_method_46_code 6 = .ok (.i2b, 1) := by decide +kernel
theorem d3_7 : decode jdk_43_method_46_code 7 = .ok (.bastore, 1) := by decide +kernel
theorem d3_8 : decode jdk_43_method_46_code 8 = .ok (.areturn, 1) := by decide +kernel
theorem ef_rm3 (m : MethodId) (x0 : Int32) : entryFrame m #[(.int x0)] 1 = mkF m 0 #[.val (.int x0)] [] := by first | (simp [entryFrame, mkF, argsToLocals, Value.category]; done) | rfl
def Q3 (Z : State) (p0 : Int32) (h0 : Heap) (n0 : Nat) (v : Option Value) (h : Heap) (L : List Loc) : Prop := (∃ a : Addr, v = some (.ref a)) ∧ Fr n0 L ∧ Ext h0 h
set_option maxRecDepth 65536 in
set_option maxHeartbeats 40000000 in
theorem rm3 (l : Launch) (Z : State) (a0 : Array Value) (hw : ∀ d ∈ tables_1, d.before a0 Z = true) (ws : List Jvm.Cond) (p0 : Int32) (h0 : Heap) (n0 : Nat) (Z0 : n0 ≤ h0.size)  :
    MetFree l (⟨"java/lang/StringLatin1", "toBytes", "(C)[B"⟩ : MethodName) (head1 (Jvm.Cond.code (⟨"java/lang/StringLatin1", "toBytes", "(C)[B"⟩ : MethodName) jdk_43_method_46_code 1 (some (.array .byte)) :: ws) ({ frames := 0, cells := 1, slots := 1, locals := 0 } : Room)) (fun a U => a = #[(.int p0)] ∧ Z.Warmed39 U.vm ∧ U.heap = h0) (fun _ _ _ _ _ => True) (fun _ U o U' => ∃ v L, o = .returned v ∧ Q3 Z p0 h0 n0 v U'.heap L ∧ FrameEnd U o U' L ({ frames := 0, cells := 1, slots := 1, locals := 0 } : Room).cells ({ frames := 0, cells := 1, slots := 1, locals := 0 } : Room).slots) := by
  refine MetFree.of_bodySF (plainFor_of_name own_pn0) hisR ?_
  intro p e s m args below meth c s₁ Bd hml0 hP hK
  obtain ⟨rfl, hZ, hh⟩ := hP
  have hx := Bd.exec
  have hby := Bd.bytes
  have hml : c.maxLocals = 1 := hml0
  have hown : s.vm.findClass "java/lang/StringLatin1" = some m.cls := findClass_of_methodNamed Bd.named
  have hnm := (name_of_methodNamed Bd.named Bd.method).1
  have hlk : meth.locks = false := BodyLoose.notSynchronized Bd
  have X0 : Stand p l e ({ frames := 0, cells := 1, slots := 1, locals := 0 } : Room) s m #[(.int p0)] below meth c s₁ [] 0 0 := Stand.of_body Bd
  have e0 : s₁.heap = h0 := by rw [← hh, Bd.state]; rfl
  have N0 := Fr.nil n0
  show GoesW p.tables e below s (Q3 Z p0 h0 n0) 1 1 (s₁.setTop (entryFrame m #[(.int p0)] 1))
  rw [ef_rm3 m p0]
  show GoesW p.tables e below s (Q3 Z p0 h0 n0) 1 1 (s₁.setTop (mkF m 0 #[.val (.int p0)] []))
  refine GoesW.step (fun _ k => XS.iconst X0.here hx rfl (hb hby d3_0) k) ?_
  show GoesW p.tables e below s (Q3 Z p0 h0 n0) 1 1 (s₁.setTop (mkF m 1 #[.val (.int p0)] [(.int (1 : Int32))]))
  obtain ⟨T1, h1, k1, X1, e1, E1, A1, st1⟩ := newP X0 hx hZ (hw _ (List.mem_of_getElem? (i := 14) rfl)) e0 (g := (mkF m 1 #[.val (.int p0)] [(.int (1 : Int32))])) rfl (hb hby d3_1) rfl (by decide) (cap := 1) (by decide) (by decide) (by decide) (by decide)
  obtain ⟨b1, gs1⟩ : ∃ z, z = h0.size := ⟨_, rfl⟩
  rw [← gs1] at A1 st1
  have g_b1 : n0 ≤ b1 := Nat.le_trans Z0 (Nat.le_of_eq gs1.symm)
  have sz_b1 : h0.size ≤ b1 := Nat.le_trans (Keep.refl h0 []).1 (Nat.le_of_eq gs1.symm)
  have Z1 : n0 ≤ h1.size := Nat.le_trans Z0 E1.1
  have K1 : Keep h0 h1 [] := (Keep.refl h0 []).ext E1
  have V_b1 : Arv Z h1 b1 k1 .byte (1 : Int32) [(.int (0 : Int32))] (.int (0 : Int32)) := (Arv.new A1 (by decide)).pad (pad_rep [] (.int (0 : Int32)) 1)
  refine GoesW.step st1 ?_
  show GoesW p.tables e below s (Q3 Z p0 h0 n0) 1 1 (T1.setTop (mkF m 3 #[.val (.int p0)] [(.ref b1)]))
  refine GoesW.step (fun _ k => XS.dup X1.here hx rfl (hb hby d3_3) rfl rfl k) ?_
  show GoesW p.tables e below s (Q3 Z p0 h0 n0) 1 1 (T1.setTop (mkF m 4 #[.val (.int p0)] [(.ref b1), (.ref b1)]))
  refine GoesW.step (fun _ k => XS.iconst X1.here hx rfl (hb hby d3_4) k) ?_
  show GoesW p.tables e below s (Q3 Z p0 h0 n0) 1 1 (T1.setTop (mkF m 5 #[.val (.int p0)] [(.int (0 : Int32)), (.ref b1), (.ref b1)]))
  refine GoesW.step (fun _ k => XS.iloadN X1.here hx rfl (hb hby d3_5) rfl k) ?_
  show GoesW p.tables e below s (Q3 Z p0 h0 n0) 1 1 (T1.setTop (mkF m 6 #[.val (.int p0)] [(.int p0), (.int (0 : Int32)), (.ref b1), (.ref b1)]))
  refine GoesW.step (fun _ k => XS.i2b X1.here hx rfl (hb hby d3_6) rfl k) ?_
  show GoesW p.tables e below s (Q3 Z p0 h0 n0) 1 1 (T1.setTop (mkF m 7 #[.val (.int p0)] [(.int (p0.toInt8.toInt32)), (.int (0 : Int32)), (.ref b1), (.ref b1)]))
  have vv2 := V_b1
  obtain ⟨cl2, Ar2, aq2, aS2, aN2, aH2, aG2⟩ := vv2
  have hin2 : ¬ ((0 : Int32) < 0 ∨ cl2.slots.size ≤ ((0 : Int32)).toNatClampNeg) := inb_of aS2 ⟨by decide, by decide⟩
  obtain ⟨T3, h3, X3, e3, W3, st3⟩ := stB X1 hx hZ e1 Ar2 (j := (0 : Int32)) hin2 (g := (mkF m 7 #[.val (.int p0)] [(.int (p0.toInt8.toInt32)), (.int (0 : Int32)), (.ref b1), (.ref b1)])) rfl rfl (hb hby d3_7)
  obtain ⟨x3, hx3⟩ : ∃ z : Int32, z = nar .byte (p0.toInt8.toInt32) := ⟨_, rfl⟩
  rw [← hx3] at W3
  have fx3 : fits .byte (.int x3) = true := by rw [hx3]; exact fits_nar_byte _
  have V3 : Arv Z h3 b1 k1 .byte (1 : Int32) [(.int x3)] (.int (0 : Int32)) := Arv.set Ar2 aq2 aS2 aN2 aH2 aG2 fx3 W3 0 rfl (Nat.le_of_ble_eq_true rfl)
  have N3 := Fr.snoc X3 N0 g_b1
  have Z3 : n0 ≤ h3.size := Nat.le_trans Z1 (Keep.of_wr W3).1
  have K3 : Keep h0 h3 [] := K1.wr W3 (Or.inr sz_b1)
  refine GoesW.step st3 ?_
  show GoesW p.tables e below s (Q3 Z p0 h0 n0) 1 1 (T3.setTop (mkF m 8 #[.val (.int p0)] [(.ref b1)]))
  exact GoesW.retA X3 hx hlk Bd.returns rfl rfl (hb hby d3_8) (by show Q3 Z p0 h0 n0 _ T3.heap _; rw [e3]; exact ⟨⟨_, rfl⟩, N3, own_ext K3⟩) (by decide) (by decide)
theorem own_pn1 : plainName "java/lang/String" = true := by first | (simp [plainName, overriddenIn]; done) | decide +kernel
theorem d4_0 : decode jdk_42_method_151_code 0 = .ok (.aload_n 0, 1) := by decide +kernel
theorem d4_1 : decode jdk_42_method_151_code 1 = .ok (.invokespecial 1, 3) := by decide +kernel
theorem d4_4 : decode jdk_42_method_151_code 4 = .ok (.aload_n 0, 1) := by decide +kernel
theorem d4_5 : decode jdk_42_method_151_code 5 = .ok (.aload_n 1, 1) := by decide +kernel
theorem d4_6 : decode jdk_42_method_151_code 6 = .ok (.putfield 9, 3) := by decide +kernel
theorem d4_9 : decode jdk_42_method_151_code 9 = .ok (.aload_n 0, 1) := by decide +kernel
theorem d4_10 : decode jdk_42_method_151_code 10 = .ok (.iload_n 2, 1) := by decide +kernel
theorem d4_11 : decode jdk_42_method_151_code 11 = .ok (.putfield 15, 3) := by decide +kernel
theorem d4_14 : decode jdk_42_method_151_code 14 = .ok (.return_, 1) := by decide +kernel
theorem ef_rm4 (m : MethodId) (x0 : Addr) (x1 : Addr) (x2 : Int32) : entryFrame m #[(.ref x0), (.ref x1), (.int x2)] 3 = mkF m 0 #[.val (.ref x0), .val (.ref x1), .val (.int x2)] [] := by first | (simp [entryFrame, mkF, argsToLocals, Value.category]; done) | rfl
def Q4 (Z : State) (r0 : Addr) (r1 : Addr) (p2 : Int32) (h0 : Heap) (n0 : Nat) (v : Option Value) (h : Heap) (L : List Loc) : Prop := v = none ∧ Fr n0 L ∧ Keep h0 h [r0]
set_option maxRecDepth 65536 in
set_option maxHeartbeats 40000000 in
theorem rm4 (l : Launch) (Z : State) (a0 : Array Value) (hw : ∀ d ∈ tables_1, d.before a0 Z = true) (ws : List Jvm.Cond) (r0 : Addr) (r1 : Addr) (p2 : Int32) (h0 : Heap) (n0 : Nat) (Z0 : n0 ≤ h0.size) (A0 : Exa Z h0 r0 "java/lang/String") (g_r0 : n0 ≤ r0) (b2 : narrow .byte (.int p2) = .int p2) (c2 : fits .byte (.int p2) = true) (F_value : Fld Z h0 r0 "java/lang/String" "value" "[B" .null) (F_coder : Fld Z h0 r0 "java/lang/String" "coder" "B" (.int (0 : Int32))) :
    MetFree l (⟨"java/lang/String", "<init>", "([BB)V"⟩ : MethodName) (head1 (Jvm.Cond.code (⟨"java/lang/String", "<init>", "([BB)V"⟩ : MethodName) jdk_42_method_151_code 3 none :: ws) ({ frames := 1, cells := 0, slots := 0, locals := 12 } : Room)) (fun a U => a = #[(.ref r0), (.ref r1), (.int p2)] ∧ Z.Warmed39 U.vm ∧ U.heap = h0) (fun _ _ _ _ _ => True) (fun _ U o U' => ∃ v L, o = .returned v ∧ Q4 Z r0 r1 p2 h0 n0 v U'.heap L ∧ FrameEnd U o U' L ({ frames := 1, cells := 0, slots := 0, locals := 12 } : Room).cells ({ frames := 1, cells := 0, slots := 0, locals := 12 } : Room).slots) := by
  refine MetFree.of_bodySF (plainFor_of_name own_pn1) hisR ?_
  intro p e s m args below meth c s₁ Bd hml0 hP hK
  obtain ⟨rfl, hZ, hh⟩ := hP
  have hx := Bd.exec
  have hby := Bd.bytes
  have hml : c.maxLocals = 3 := hml0
  have hown : s.vm.findClass "java/lang/String" = some m.cls := findClass_of_methodNamed Bd.named
  have hnm := (name_of_methodNamed Bd.named Bd.method).1
  have hlk : meth.locks = false := BodyLoose.notSynchronized Bd
  have X0 : Stand p l e ({ frames := 1, cells := 0, slots := 0, locals := 12 } : Room) s m #[(.ref r0), (.ref r1), (.int p2)] below meth c s₁ [] 0 0 := Stand.of_body Bd
  have e0 : s₁.heap = h0 := by rw [← hh, Bd.state]; rfl
  have N0 := Fr.nil n0
  show GoesW p.tables e below s (Q4 Z r0 r1 p2 h0 n0) 0 0 (s₁.setTop (entryFrame m #[(.ref r0), (.ref r1), (.int p2)] 3))
  rw [ef_rm4 m r0 r1 p2]
  show GoesW p.tables e below s (Q4 Z r0 r1 p2 h0 n0) 0 0 (s₁.setTop (mkF m 0 #[.val (.ref r0), .val (.ref r1), .val (.int p2)] []))
  refine GoesW.step (fun _ k => XS.aloadN X0.here hx rfl (hb hby d4_0) rfl rfl k) ?_
  show GoesW p.tables e below s (Q4 Z r0 r1 p2 h0 n0) 0 0 (s₁.setTop (mkF m 1 #[.val (.ref r0), .val (.ref r1), .val (.int p2)] [(.ref r0)]))
  obtain ⟨T1, X1, e1, st1⟩ := initO X0 hx hZ hown (hw _ (List.mem_of_getElem? (i := 19) rfl)) (hw _ (List.mem_of_getElem? (i := 20) rfl)) (hw _ (List.mem_of_getElem? (i := 21) rfl)) e0 (g := (mkF m 1 #[.val (.ref r0), .val (.ref r1), .val (.int p2)] [(.ref r0)])) rfl (by rw [hml]; rfl) rfl (hb hby d4_1) (by decide) (W := 0) (by show 2 * 0 + _ ≤ _; exact Nat.le_of_eq rfl) (by decide)
  refine GoesW.step st1 ?_
  show GoesW p.tables e below s (Q4 Z r0 r1 p2 h0 n0) 0 0 (T1.setTop (mkF m 4 #[.val (.ref r0), .val (.ref r1), .val (.int p2)] []))
  refine GoesW.step (fun _ k => XS.aloadN X1.here hx rfl (hb hby d4_4) rfl rfl k) ?_
  show GoesW p.tables e below s (Q4 Z r0 r1 p2 h0 n0) 0 0 (T1.setTop (mkF m 5 #[.val (.ref r0), .val (.ref r1), .val (.int p2)] [(.ref r0)]))
  refine GoesW.step (fun _ k => XS.aloadN X1.here hx rfl (hb hby d4_5) rfl rfl k) ?_
  show GoesW p.tables e below s (Q4 Z r0 r1 p2 h0 n0) 0 0 (T1.setTop (mkF m 6 #[.val (.ref r0), .val (.ref r1), .val (.int p2)] [(.ref r1), (.ref r0)]))
  obtain ⟨T2, h2, X2, e2, W2, st2⟩ := putF X1 hx hZ hown (host := "") (Or.inl (hw _ (List.mem_of_getElem? (i := 22) rfl))) Via.refl e1 F_value A0 (Or.inr ⟨(hw _ (List.mem_of_getElem? (i := 23) rfl)), rfl, hnm⟩) (hw _ (List.mem_of_getElem? (i := 10) rfl)) (ty := (.array .byte)) (by decide) rfl rfl (g := (mkF m 6 #[.val (.ref r0), .val (.ref r1), .val (.int p2)] [(.ref r1), (.ref r0)])) rfl rfl (hb hby d4_6)
  have F2 := F_value.same W2
  have N2 := Fr.snoc X2 N0 g_r0
  have Z2 : n0 ≤ h2.size := Nat.le_trans Z0 (Keep.of_wr W2).1
  have K2 : Keep h0 h2 [r0] := (Keep.refl h0 [r0]).wr W2 (Or.inl (List.mem_of_getElem? (i := 0) rfl))
  refine GoesW.step st2 ?_
  show GoesW p.tables e below s (Q4 Z r0 r1 p2 h0 n0) 0 0 (T2.setTop (mkF m 9 #[.val (.ref r0), .val (.ref r1), .val (.int p2)] []))
  refine GoesW.step (fun _ k => XS.aloadN X2.here hx rfl (hb hby d4_9) rfl rfl k) ?_
  show GoesW p.tables e below s (Q4 Z r0 r1 p2 h0 n0) 0 0 (T2.setTop (mkF m 10 #[.val (.ref r0), .val (.ref r1), .val (.int p2)] [(.ref r0)]))
  refine GoesW.step (fun _ k => XS.iloadN X2.here hx rfl (hb hby d4_10) rfl k) ?_
  show GoesW p.tables e below s (Q4 Z r0 r1 p2 h0 n0) 0 0 (T2.setTop (mkF m 11 #[.val (.ref r0), .val (.ref r1), .val (.int p2)] [(.int p2), (.ref r0)]))
  have Exa_r0_3 := (A0.wr W2)
  have Fld_r0_coder_4 := (F_coder.other W2 (Or.inr (slot_ne (Or.inr (hw _ (List.mem_of_getElem? (i := 25) rfl))) (Or.inr (hw _ (List.mem_of_getElem? (i := 23) rfl))) (by decide) (t := .byte) (t' := (.array .byte)) (by decide) (by decide))))
  obtain ⟨T5, h5, X5, e5, W5, st5⟩ := putFN X2 hx hZ hown (hw _ (List.mem_of_getElem? (i := 24) rfl)) Via.refl e2 Fld_r0_coder_4 Exa_r0_3 (Or.inr ⟨(hw _ (List.mem_of_getElem? (i := 25) rfl)), rfl, hnm⟩) (hw _ (List.mem_of_getElem? (i := 10) rfl)) (ty := .byte) (v' := (.int p2)) (by decide) b2 c2 (g := (mkF m 11 #[.val (.ref r0), .val (.ref r1), .val (.int p2)] [(.int p2), (.ref r0)])) rfl rfl (hb hby d4_11)
  have F5 := Fld_r0_coder_4.same W5
  have N5 := Fr.snoc X5 N2 g_r0
  have Z5 : n0 ≤ h5.size := Nat.le_trans Z2 (Keep.of_wr W5).1
  have K5 : Keep h0 h5 [r0] := K2.wr W5 (Or.inl (List.mem_of_getElem? (i := 0) rfl))
  refine GoesW.step st5 ?_
  show GoesW p.tables e below s (Q4 Z r0 r1 p2 h0 n0) 0 0 (T5.setTop (mkF m 14 #[.val (.ref r0), .val (.ref r1), .val (.int p2)] []))
  exact GoesW.retV X5 hx hlk Bd.returns (hb hby d4_14) (by show Q4 Z r0 r1 p2 h0 n0 _ T5.heap _; rw [e5]; exact ⟨rfl, N5, K5⟩) (by decide) (by decide)
theorem own_pd0 : parseMethodDescriptor "(C)Z" = some ⟨[.char], some .boolean⟩ := by decide +kernel
theorem own_pd1 : parseMethodDescriptor "(C)[B" = some ⟨[.char], some (.array .byte)⟩ := by decide +kernel
theorem own_pd2 : parseMethodDescriptor "([BB)V" = some ⟨[(.array .byte), .byte], none⟩ := by decide +kernel
theorem d1_0 : decode jdk_42_method_139_code 0 = .ok (.getstatic 38, 3) := by decide +kernel
theorem d1_3 : decode jdk_42_method_139_code 3 = .ok (.ifCond .eq 23, 3) := by decide +kernel
theorem d1_6 : decode jdk_42_method_139_code 6 = .ok (.iload_n 0, 1) := by decide +kernel
theorem d1_7 : decode jdk_42_method_139_code 7 = .ok (.invokestatic 1015, 3) := by decide +kernel
theorem d1_10 : decode jdk_42_method_139_code 10 = .ok (.ifCond .eq 16, 3) := by decide +kernel
theorem d1_13 : decode jdk_42_method_139_code 13 = .ok (.new 10, 3) := by decide +kernel
theorem d1_16 : decode jdk_42_method_139_code 16 = .ok (.dup, 1) := by decide +kernel
theorem d1_17 : decode jdk_42_method_139_code 17 = .ok (.iload_n 0, 1) := by decide +kernel
theorem d1_18 : decode jdk_42_method_139_code 18 = .ok (.invokestatic 1018, 3) := by decide +kernel
theorem d1_21 : decode jdk_42_method_139_code 21 = .ok (.iconst 0, 1) := by decide +kernel
theorem d1_22 : decode jdk_42_method_139_code 22 = .ok (.invokespecial 209, 3) := by decide +kernel
theorem d1_25 : decode jdk_42_method_139_code 25 = .ok (.areturn, 1) := by decide +kernel
theorem ef_rm1 (m : MethodId) (x0 : Int32) : entryFrame m #[(.int x0)] 1 = mkF m 0 #[.val (.int x0)] [] := by first | (simp [entryFrame, mkF, argsToLocals, Value.category]; done) | rfl
def Q1 (Z : State) (p0 : Int32) (cs : Int32) (h0 : Heap) (n0 : Nat) (v : Option Value) (h : Heap) (L : List Loc) : Prop := (∃ a : Addr, v = some (.ref a)) ∧ Fr n0 L ∧ Ext h0 h
set_option maxRecDepth 65536 in
set_option maxHeartbeats 40000000 in
theorem rm1 (l : Launch) (Z : State) (a0 : Array Value) (hw : ∀ d ∈ tables_1, d.before a0 Z = true) (ws : List Jvm.Cond) (p0 : Int32) (cs : Int32) (h0 : Heap) (n0 : Nat) (Z0 : n0 ≤ h0.size) (S_CS : Sta Z h0 "java/lang/String" "COMPACT_STRINGS" "Z" (.int cs)) (hcs : ¬ cs = (0 : Int32)) (hc : ¬ (255 : Int32) < p0) :
    MetFree l (⟨"java/lang/String", "valueOf", "(C)Ljava/lang/String;"⟩ : MethodName) (head1 (Jvm.Cond.code (⟨"java/lang/String", "valueOf", "(C)Ljava/lang/String;"⟩ : MethodName) jdk_42_method_139_code 1 (some (.object "java/lang/String")) :: ws) ({ frames := 2, cells := 2, slots := 5, locals := 27 } : Room)) (fun a U => a = #[(.int p0)] ∧ Z.Warmed39 U.vm ∧ U.heap = h0) (fun _ _ _ _ _ => True) (fun _ U o U' => ∃ v L, o = .returned v ∧ Q1 Z p0 cs h0 n0 v U'.heap L ∧ FrameEnd U o U' L ({ frames := 2, cells := 2, slots := 5, locals := 27 } : Room).cells ({ frames := 2, cells := 2, slots := 5, locals := 27 } : Room).slots) := by
  refine MetFree.of_bodySF (plainFor_of_name own_pn1) hisR ?_
  intro p e s m args below meth c s₁ Bd hml0 hP hK
  obtain ⟨rfl, hZ, hh⟩ := hP
  have hx := Bd.exec
  have hby := Bd.bytes
  have hml : c.maxLocals = 1 := hml0
  have hown : s.vm.findClass "java/lang/String" = some m.cls := findClass_of_methodNamed Bd.named
  have hnm := (name_of_methodNamed Bd.named Bd.method).1
  have hlk : meth.locks = false := BodyLoose.notSynchronized Bd
  have X0 : Stand p l e ({ frames := 2, cells := 2, slots := 5, locals := 27 } : Room) s m #[(.int p0)] below meth c s₁ [] 0 0 := Stand.of_body Bd
  have e0 : s₁.heap = h0 := by rw [← hh, Bd.state]; rfl
  have N0 := Fr.nil n0
  show GoesW p.tables e below s (Q1 Z p0 cs h0 n0) 2 5 (s₁.setTop (entryFrame m #[(.int p0)] 1))
  rw [ef_rm1 m p0]
  show GoesW p.tables e below s (Q1 Z p0 cs h0 n0) 2 5 (s₁.setTop (mkF m 0 #[.val (.int p0)] []))
  obtain ⟨T1, X1, e1, st1⟩ := getS2 X0 hx hZ hown (host := "") (Or.inl (hw _ (List.mem_of_getElem? (i := 4) rfl))) Via.refl e0 S_CS (g := (mkF m 0 #[.val (.int p0)] [])) rfl (hb hby d1_0)
  refine GoesW.step st1 ?_
  show GoesW p.tables e below s (Q1 Z p0 cs h0 n0) 2 5 (T1.setTop (mkF m 3 #[.val (.int p0)] [(.int cs)]))
  refine GoesW.step (fun _ k => XS.ifNo X1.here hx rfl (hb hby d1_3) rfl ((if0 _ _).trans (feq hcs).1) k) ?_
  show GoesW p.tables e below s (Q1 Z p0 cs h0 n0) 2 5 (T1.setTop (mkF m 6 #[.val (.int p0)] []))
  refine GoesW.step (fun _ k => XS.iloadN X1.here hx rfl (hb hby d1_6) rfl k) ?_
  show GoesW p.tables e below s (Q1 Z p0 cs h0 n0) 2 5 (T1.setTop (mkF m 7 #[.val (.int p0)] [(.int p0)]))
  obtain ⟨_, _, ⟨T2, L2, k2, n2⟩, -, X2, ⟨Lc2, hQ2, l2, y2, z2⟩, st2⟩ := Jvm.LawKit.callS X1 hx (y := (⟨"java/lang/StringLatin1", "canEncode", "(C)Z"⟩ : MethodName)) hown (mvT hZ (hw _ (List.mem_of_getElem? (i := 5) rfl))) (mvT hZ (hw _ (List.mem_of_getElem? (i := 6) rfl))) (mvT hZ (hw _ (List.mem_of_getElem? (i := 7) rfl))) (mvT hZ (hw _ (List.mem_of_getElem? (i := 8) rfl))) (by decide) (backOf (W := 0) (rm2 l Z a0 hw [] p0  h0 n0 Z0 hc) hZ (hw _ (List.mem_of_getElem? (i := 8) rfl)) (hw _ (List.mem_of_getElem? (i := 7) rfl)) (by decide) (by decide)) (g := (mkF m 7 #[.val (.int p0)] [(.int p0)])) rfl (by rw [hml]; rfl) (argsL := [(.int p0)]) (rest := []) (lenOf own_pd0 rfl) rfl (by show 2 * 0 + _ ≤ _; exact Nat.le_of_eq rfl) (hb hby d1_7) (fun _ _ => ⟨rfl, e1, (by decide : 0 + 0 ≤ _), (by decide : 0 + 0 ≤ _)⟩)
  dsimp only [Pt.U, Pt.locs, Pt.cells, Pt.slots] at X2 l2 y2 z2 st2 hQ2
  subst l2 y2 z2
  obtain ⟨rfl, N2q, eq2⟩ := hQ2
  have N2 := Fr.app N0 N2q
  refine GoesW.step st2 ?_
  show GoesW p.tables e below s (Q1 Z p0 cs h0 n0) 2 5 (T2.setTop (mkF m 10 #[.val (.int p0)] [(.int (1 : Int32))]))
  refine GoesW.step (fun _ k => XS.ifNo X2.here hx rfl (hb hby d1_10) rfl ((if0 _ _).trans (feq (show ¬ (1 : Int32) = (0 : Int32) by decide)).1) k) ?_
  show GoesW p.tables e below s (Q1 Z p0 cs h0 n0) 2 5 (T2.setTop (mkF m 13 #[.val (.int p0)] []))
  obtain ⟨T3, h3, X3, e3, E3, A3, D3, -, st3⟩ := newO X2 hx hZ hown (hw _ (List.mem_of_getElem? (i := 9) rfl)) (hw _ (List.mem_of_getElem? (i := 10) rfl)) (hw _ (List.mem_of_getElem? (i := 2) rfl)) eq2 (g := (mkF m 13 #[.val (.int p0)] [])) rfl (hb hby d1_13) (by decide) (by decide)
  obtain ⟨b3, gs3⟩ : ∃ z, z = h0.size := ⟨_, rfl⟩
  rw [← gs3] at A3 D3 st3
  have g_b3 : n0 ≤ b3 := Nat.le_trans Z0 (Nat.le_of_eq gs3.symm)
  have sz_b3 : h0.size ≤ b3 := Nat.le_trans (Keep.refl h0 []).1 (Nat.le_of_eq gs3.symm)
  have Z3 : n0 ≤ h3.size := Nat.le_trans Z0 E3.1
  have K3 : Keep h0 h3 [] := (Keep.refl h0 []).ext E3
  have F_value_b3 : Fld Z h3 b3 "java/lang/String" "value" "[B" .null := D3 (Or.inr (hw _ (List.mem_of_getElem? (i := 23) rfl))) (ty := (.array .byte)) (by decide)
  have F_coder_b3 : Fld Z h3 b3 "java/lang/String" "coder" "B" (.int (0 : Int32)) := D3 (Or.inr (hw _ (List.mem_of_getElem? (i := 25) rfl))) (ty := .byte) (by decide)
  refine GoesW.step st3 ?_
  show GoesW p.tables e below s (Q1 Z p0 cs h0 n0) 2 5 (T3.setTop (mkF m 16 #[.val (.int p0)] [(.ref b3)]))
  refine GoesW.step (fun _ k => XS.dup X3.here hx rfl (hb hby d1_16) rfl rfl k) ?_
  show GoesW p.tables e below s (Q1 Z p0 cs h0 n0) 2 5 (T3.setTop (mkF m 17 #[.val (.int p0)] [(.ref b3), (.ref b3)]))
  refine GoesW.step (fun _ k => XS.iloadN X3.here hx rfl (hb hby d1_17) rfl k) ?_
  show GoesW p.tables e below s (Q1 Z p0 cs h0 n0) 2 5 (T3.setTop (mkF m 18 #[.val (.int p0)] [(.int p0), (.ref b3), (.ref b3)]))
  obtain ⟨_, _, ⟨T4, L4, k4, n4⟩, -, X4, ⟨Lc4, hQ4, l4, y4, z4⟩, st4⟩ := Jvm.LawKit.callS X3 hx (y := (⟨"java/lang/StringLatin1", "toBytes", "(C)[B"⟩ : MethodName)) hown (mvT hZ (hw _ (List.mem_of_getElem? (i := 11) rfl))) (mvT hZ (hw _ (List.mem_of_getElem? (i := 12) rfl))) (mvT hZ (hw _ (List.mem_of_getElem? (i := 7) rfl))) (mvT hZ (hw _ (List.mem_of_getElem? (i := 13) rfl))) (by decide) (backOf (W := 2) (rm3 l Z a0 hw [] p0  h3 n0 Z3 ) hZ (hw _ (List.mem_of_getElem? (i := 13) rfl)) (hw _ (List.mem_of_getElem? (i := 7) rfl)) (by decide) (by decide)) (g := (mkF m 18 #[.val (.int p0)] [(.int p0), (.ref b3), (.ref b3)])) rfl (by rw [hml]; rfl) (argsL := [(.int p0)]) (rest := [(.ref b3), (.ref b3)]) (lenOf own_pd1 rfl) rfl (by show 2 * 0 + _ ≤ _; exact Nat.le_of_eq rfl) (hb hby d1_18) (fun _ _ => ⟨rfl, e3, (by decide : 1 + 1 ≤ _), (by decide : 4 + 1 ≤ _)⟩)
  dsimp only [Pt.U, Pt.locs, Pt.cells, Pt.slots] at X4 l4 y4 z4 st4 hQ4
  subst l4 y4 z4
  obtain ⟨⟨ra4, rfl⟩, N4q, E4q⟩ := hQ4
  have N4 := Fr.app N2 N4q
  have Z4 : n0 ≤ T4.heap.size := Nat.le_trans Z3 E4q.1
  have K4 : Keep h0 T4.heap [] := K3.ext E4q
  refine GoesW.step st4 ?_
  show GoesW p.tables e below s (Q1 Z p0 cs h0 n0) 2 5 (T4.setTop (mkF m 21 #[.val (.int p0)] [(.ref ra4), (.ref b3), (.ref b3)]))
  refine GoesW.step (fun _ k => XS.iconst X4.here hx rfl (hb hby d1_21) k) ?_
  show GoesW p.tables e below s (Q1 Z p0 cs h0 n0) 2 5 (T4.setTop (mkF m 22 #[.val (.int p0)] [(.int (0 : Int32)), (.ref ra4), (.ref b3), (.ref b3)]))
  have Exa_b3_5 := (A3.ext E4q)
  have Fld_b3_value_6 := (F_value_b3.ext E4q)
  have Fld_b3_coder_7 := (F_coder_b3.ext E4q)
  obtain ⟨_, _, ⟨T8, L8, k8, n8⟩, -, X8, ⟨Lc8, hQ8, l8, y8, z8⟩, st8⟩ := X4.specialBack hx (y := (⟨"java/lang/String", "<init>", "([BB)V"⟩ : MethodName)) rfl hown (mvT hZ (hw _ (List.mem_of_getElem? (i := 15) rfl))) (mvT hZ (hw _ (List.mem_of_getElem? (i := 16) rfl))) (mvT hZ (hw _ (List.mem_of_getElem? (i := 18) rfl))) (by decide) (backOf (W := 1) (rm4 l Z a0 hw [] b3 ra4 (0 : Int32)  T4.heap n0 Z4 Exa_b3_5 g_b3 rfl rfl Fld_b3_value_6 Fld_b3_coder_7) hZ (hw _ (List.mem_of_getElem? (i := 18) rfl)) (hw _ (List.mem_of_getElem? (i := 2) rfl)) (by decide) (by decide)) (g := (mkF m 22 #[.val (.int p0)] [(.int (0 : Int32)), (.ref ra4), (.ref b3), (.ref b3)])) rfl (by rw [hml]; rfl) (Steps.refl _) (a := b3) (argsL := [(.ref ra4), (.int (0 : Int32))]) (rest := [(.ref b3)]) (lenOf own_pd2 rfl) rfl (by show 2 * 0 + _ ≤ _; exact Nat.le_of_eq rfl) (hb hby d1_22) (fun _ _ => ⟨rfl, rfl, (by decide : 2 + 0 ≤ _), (by decide : 5 + 0 ≤ _)⟩)
  dsimp only [Pt.U, Pt.locs, Pt.cells, Pt.slots] at X8 l8 y8 z8 st8 hQ8
  subst l8 y8 z8
  obtain ⟨rfl, N8q, K8q⟩ := hQ8
  have N8 := Fr.app N4 N8q
  have Z8 : n0 ≤ T8.heap.size := Nat.le_trans Z4 K8q.1
  have K8 : Keep h0 T8.heap [] := K4.trans K8q (fun x hx' => (List.mem_cons.mp hx').elim (fun q => by rw [q]; exact Or.inr sz_b3) (fun hx' => nomatch hx'))
  refine GoesW.step (fun _ k => st8.trans k) ?_
  show GoesW p.tables e below s (Q1 Z p0 cs h0 n0) 2 5 (T8.setTop (mkF m 25 #[.val (.int p0)] [(.ref b3)]))
  exact GoesW.retA X8 hx hlk Bd.returns rfl rfl (hb hby d1_25) (by show Q1 Z p0 cs h0 n0 _ T8.heap _; exact ⟨⟨_, rfl⟩, N8, own_ext K8⟩) (by decide) (by decide)
theorem own_pn2 : plainName "com/example/forehold/forehold/ledger/JobAlikePinLaw" = true := by first | (simp [plainName, overriddenIn]; done) | decide +kernel
theorem d6_0 : decode method_2_code 0 = .ok (.iload_n 0, 1) := by decide +kernel
theorem d6_1 : decode method_2_code 1 = .ok (.ifCond .ne 7, 3) := by decide +kernel
theorem d6_4 : decode method_2_code 4 = .ok (.getstatic 7, 3) := by decide +kernel
theorem d6_7 : decode method_2_code 7 = .ok (.areturn, 1) := by decide +kernel
theorem d6_8 : decode method_2_code 8 = .ok (.iload_n 0, 1) := by decide +kernel
theorem d6_9 : decode method_2_code 9 = .ok (.iconst 1, 1) := by decide +kernel
theorem d6_10 : decode method_2_code 10 = .ok (.if_icmp .ne 7, 3) := by decide +kernel
theorem d6_13 : decode method_2_code 13 = .ok (.getstatic 13, 3) := by decide +kernel
theorem d6_16 : decode method_2_code 16 = .ok (.areturn, 1) := by decide +kernel
theorem d6_17 : decode method_2_code 17 = .ok (.iload_n 0, 1) := by decide +kernel
theorem d6_18 : decode method_2_code 18 = .ok (.iconst 2, 1) := by decide +kernel
theorem d6_19 : decode method_2_code 19 = .ok (.if_icmp .ne 7, 3) := by decide +kernel
theorem d6_22 : decode method_2_code 22 = .ok (.getstatic 16, 3) := by decide +kernel
theorem d6_25 : decode method_2_code 25 = .ok (.areturn, 1) := by decide +kernel
theorem d6_26 : decode method_2_code 26 = .ok (.iload_n 0, 1) := by decide +kernel
theorem d6_27 : decode method_2_code 27 = .ok (.iconst 3, 1) := by decide +kernel
theorem d6_28 : decode method_2_code 28 = .ok (.if_icmp .ne 7, 3) := by decide +kernel
theorem d6_31 : decode method_2_code 31 = .ok (.getstatic 19, 3) := by decide +kernel
theorem d6_34 : decode method_2_code 34 = .ok (.areturn, 1) := by decide +kernel
theorem d6_35 : decode method_2_code 35 = .ok (.getstatic 22, 3) := by decide +kernel
theorem d6_38 : decode method_2_code 38 = .ok (.areturn, 1) := by decide +kernel
theorem ef_rm6 (m : MethodId) (x0 : Int32) : entryFrame m #[(.int x0)] 1 = mkF m 0 #[.val (.int x0)] [] := by first | (simp [entryFrame, mkF, argsToLocals, Value.category]; done) | rfl
def Q6 (Z : State) (p0 : Int32) (x_CO : Addr) (x_BUNDLE : Addr) (x_SERIES : Addr) (x_OUTAGE : Addr) (x_QUEUED : Addr) (h0 : Heap) (n0 : Nat) (v : Option Value) (h : Heap) (L : List Loc) : Prop := (∃ a : Addr, v = some (.ref a)) ∧ Fr n0 L ∧ h = h0
set_option maxRecDepth 65536 in
set_option maxHeartbeats 40000000 in
theorem rm6 (l : Launch) (Z : State) (a0 : Array Value) (hw : ∀ d ∈ tables_1, d.before a0 Z = true) (ws : List Jvm.Cond) (p0 : Int32) (x_CO : Addr) (x_BUNDLE : Addr) (x_SERIES : Addr) (x_OUTAGE : Addr) (x_QUEUED : Addr) (h0 : Heap) (n0 : Nat) (Z0 : n0 ≤ h0.size) (S_CO : Sta Z h0 "com/example/forehold/forehold/ledger/Kind" "CO" "Lcom/example/forehold/forehold/ledger/Kind;" (.ref x_CO)) (S_BUNDLE : Sta Z h0 "com/example/forehold/forehold/ledger/Kind" "BUNDLE" "Lcom/example/forehold/forehold/ledger/Kind;" (.ref x_BUNDLE)) (S_SERIES : Sta Z h0 "com/example/forehold/forehold/ledger/Kind" "SERIES" "Lcom/example/forehold/forehold/ledger/Kind;" (.ref x_SERIES)) (S_OUTAGE : Sta Z h0 "com/example/forehold/forehold/ledger/Kind" "OUTAGE" "Lcom/example/forehold/forehold/ledger/Kind;" (.ref x_OUTAGE)) (S_QUEUED : Sta Z h0 "com/example/forehold/forehold/ledger/Kind" "QUEUED" "Lcom/example/forehold/forehold/ledger/Kind;" (.ref x_QUEUED)) :
    MetFree l (⟨"com/example/forehold/forehold/ledger/JobAlikePinLaw", "kindOf", "(I)Lcom/example/forehold/forehold/ledger/Kind;"⟩ : MethodName) (head1 (Jvm.Cond.code (⟨"com/example/forehold/forehold/ledger/JobAlikePinLaw", "kindOf", "(I)Lcom/example/forehold/forehold/ledger/Kind;"⟩ : MethodName) method_2_code 1 (some (.object "com/example/forehold/forehold/ledger/Kind")) :: ws) ({ frames := 0, cells := 0, slots := 0, locals := 0 } : Room)) (fun a U => a = #[(.int p0)] ∧ Z.Warmed39 U.vm ∧ U.heap = h0) (fun _ _ _ _ _ => True) (fun _ U o U' => ∃ v L, o = .returned v ∧ Q6 Z p0 x_CO x_BUNDLE x_SERIES x_OUTAGE x_QUEUED h0 n0 v U'.heap L ∧ FrameEnd U o U' L ({ frames := 0, cells := 0, slots := 0, locals := 0 } : Room).cells ({ frames := 0, cells := 0, slots := 0, locals := 0 } : Room).slots) := by
  refine MetFree.of_bodySF (plainFor_of_name own_pn2) hisR ?_
  intro p e s m args below meth c s₁ Bd hml0 hP hK
  obtain ⟨rfl, hZ, hh⟩ := hP
  have hx := Bd.exec
  have hby := Bd.bytes
  have hml : c.maxLocals = 1 := hml0
  have hown : s.vm.findClass "com/example/forehold/forehold/ledger/JobAlikePinLaw" = some m.cls := findClass_of_methodNamed Bd.named
  have hnm := (name_of_methodNamed Bd.named Bd.method).1
  have hlk : meth.locks = false := BodyLoose.notSynchronized Bd
  have X0 : Stand p l e ({ frames := 0, cells := 0, slots := 0, locals := 0 } : Room) s m #[(.int p0)] below meth c s₁ [] 0 0 := Stand.of_body Bd
  have e0 : s₁.heap = h0 := by rw [← hh, Bd.state]; rfl
  have N0 := Fr.nil n0
  show GoesW p.tables e below s (Q6 Z p0 x_CO x_BUNDLE x_SERIES x_OUTAGE x_QUEUED h0 n0) 0 0 (s₁.setTop (entryFrame m #[(.int p0)] 1))
  rw [ef_rm6 m p0]
  show GoesW p.tables e below s (Q6 Z p0 x_CO x_BUNDLE x_SERIES x_OUTAGE x_QUEUED h0 n0) 0 0 (s₁.setTop (mkF m 0 #[.val (.int p0)] []))
  refine GoesW.step (fun _ k => XS.iloadN X0.here hx rfl (hb hby d6_0) rfl k) ?_
  show GoesW p.tables e below s (Q6 Z p0 x_CO x_BUNDLE x_SERIES x_OUTAGE x_QUEUED h0 n0) 0 0 (s₁.setTop (mkF m 1 #[.val (.int p0)] [(.int p0)]))
  by_cases hk0 : p0 = (0 : Int32)
  · skip
    refine GoesW.step (fun _ k => XS.ifNo X0.here hx rfl (hb hby d6_1) rfl ((if0 _ _).trans (teq hk0).2) k) ?_
    show GoesW p.tables e below s (Q6 Z p0 x_CO x_BUNDLE x_SERIES x_OUTAGE x_QUEUED h0 n0) 0 0 (s₁.setTop (mkF m 4 #[.val (.int p0)] []))
    obtain ⟨T1, X1, e1, st1⟩ := getS2 X0 hx hZ hown (host := "") (Or.inl (hw _ (List.mem_of_getElem? (i := 30) rfl))) Via.refl e0 S_CO (g := (mkF m 4 #[.val (.int p0)] [])) rfl (hb hby d6_4)
    refine GoesW.step st1 ?_
    show GoesW p.tables e below s (Q6 Z p0 x_CO x_BUNDLE x_SERIES x_OUTAGE x_QUEUED h0 n0) 0 0 (T1.setTop (mkF m 7 #[.val (.int p0)] [(.ref x_CO)]))
    exact GoesW.retA X1 hx hlk Bd.returns rfl rfl (hb hby d6_7) (by show Q6 Z p0 x_CO x_BUNDLE x_SERIES x_OUTAGE x_QUEUED h0 n0 _ T1.heap _; rw [e1]; exact ⟨⟨_, rfl⟩, N0, rfl⟩) (by decide) (by decide)
  · skip
    refine GoesW.step (fun _ k => XS.ifYes X0.here hx rfl (pc0 := 1) (pc' := 8) rfl (hb hby d6_1) rfl ((if0 _ _).trans (feq hk0).2) (by decide) (by decide) k) ?_
    show GoesW p.tables e below s (Q6 Z p0 x_CO x_BUNDLE x_SERIES x_OUTAGE x_QUEUED h0 n0) 0 0 (s₁.setTop (mkF m 8 #[.val (.int p0)] []))
    refine GoesW.step (fun _ k => XS.iloadN X0.here hx rfl (hb hby d6_8) rfl k) ?_
    show GoesW p.tables e below s (Q6 Z p0 x_CO x_BUNDLE x_SERIES x_OUTAGE x_QUEUED h0 n0) 0 0 (s₁.setTop (mkF m 9 #[.val (.int p0)] [(.int p0)]))
    refine GoesW.step (fun _ k => XS.iconst X0.here hx rfl (hb hby d6_9) k) ?_
    show GoesW p.tables e below s (Q6 Z p0 x_CO x_BUNDLE x_SERIES x_OUTAGE x_QUEUED h0 n0) 0 0 (s₁.setTop (mkF m 10 #[.val (.int p0)] [(.int (1 : Int32)), (.int p0)]))
    by_cases hk1 : p0 = (1 : Int32)
    · skip
      refine GoesW.step (fun _ k => XS.icmpNo X0.here hx rfl (hb hby d6_10) rfl (teq hk1).2 k) ?_
      show GoesW p.tables e below s (Q6 Z p0 x_CO x_BUNDLE x_SERIES x_OUTAGE x_QUEUED h0 n0) 0 0 (s₁.setTop (mkF m 13 #[.val (.int p0)] []))
      obtain ⟨T2, X2, e2, st2⟩ := getS2 X0 hx hZ hown (host := "") (Or.inl (hw _ (List.mem_of_getElem? (i := 72) rfl))) Via.refl e0 S_BUNDLE (g := (mkF m 13 #[.val (.int p0)] [])) rfl (hb hby d6_13)
      refine GoesW.step st2 ?_
      show GoesW p.tables e below s (Q6 Z p0 x_CO x_BUNDLE x_SERIES x_OUTAGE x_QUEUED h0 n0) 0 0 (T2.setTop (mkF m 16 #[.val (.int p0)] [(.ref x_BUNDLE)]))
      exact GoesW.retA X2 hx hlk Bd.returns rfl rfl (hb hby d6_16) (by show Q6 Z p0 x_CO x_BUNDLE x_SERIES x_OUTAGE x_QUEUED h0 n0 _ T2.heap _; rw [e2]; exact ⟨⟨_, rfl⟩, N0, rfl⟩) (by decide) (by decide)
    · skip
      refine GoesW.step (fun _ k => XS.icmpYes X0.here hx rfl (pc0 := 10) (pc' := 17) rfl (hb hby d6_10) rfl (feq hk1).2 (by decide) (by decide) k) ?_
      show GoesW p.tables e below s (Q6 Z p0 x_CO x_BUNDLE x_SERIES x_OUTAGE x_QUEUED h0 n0) 0 0 (s₁.setTop (mkF m 17 #[.val (.int p0)] []))
      refine GoesW.step (fun _ k => XS.iloadN X0.here hx rfl (hb hby d6_17) rfl k) ?_
      show GoesW p.tables e below s (Q6 Z p0 x_CO x_BUNDLE x_SERIES x_OUTAGE x_QUEUED h0 n0) 0 0 (s₁.setTop (mkF m 18 #[.val (.int p0)] [(.int p0)]))
      refine GoesW.step (fun _ k => XS.iconst X0.here hx rfl (hb hby d6_18) k) ?_
      show GoesW p.tables e below s (Q6 Z p0 x_CO x_BUNDLE x_SERIES x_OUTAGE x_QUEUED h0 n0) 0 0 (s₁.setTop (mkF m 19 #[.val (.int p0)] [(.int (2 : Int32)), (.int p0)]))
      by_cases hk2 : p0 = (2 : Int32)
      · skip
        refine GoesW.step (fun _ k => XS.icmpNo X0.here hx rfl (hb hby d6_19) rfl (teq hk2).2 k) ?_
        show GoesW p.tables e below s (Q6 Z p0 x_CO x_BUNDLE x_SERIES x_OUTAGE x_QUEUED h0 n0) 0 0 (s₁.setTop (mkF m 22 #[.val (.int p0)] []))
        obtain ⟨T3, X3, e3, st3⟩ := getS2 X0 hx hZ hown (host := "") (Or.inl (hw _ (List.mem_of_getElem? (i := 68) rfl))) Via.refl e0 S_SERIES (g := (mkF m 22 #[.val (.int p0)] [])) rfl (hb hby d6_22)
        refine GoesW.step st3 ?_
        show GoesW p.tables e below s (Q6 Z p0 x_CO x_BUNDLE x_SERIES x_OUTAGE x_QUEUED h0 n0) 0 0 (T3.setTop (mkF m 25 #[.val (.int p0)] [(.ref x_SERIES)]))
        exact GoesW.retA X3 hx hlk Bd.returns rfl rfl (hb hby d6_25) (by show Q6 Z p0 x_CO x_BUNDLE x_SERIES x_OUTAGE x_QUEUED h0 n0 _ T3.heap _; rw [e3]; exact ⟨⟨_, rfl⟩, N0, rfl⟩) (by decide) (by decide)
      · skip
        refine GoesW.step (fun _ k => XS.icmpYes X0.here hx rfl (pc0 := 19) (pc' := 26) rfl (hb hby d6_19) rfl (feq hk2).2 (by decide) (by decide) k) ?_
        show GoesW p.tables e below s (Q6 Z p0 x_CO x_BUNDLE x_SERIES x_OUTAGE x_QUEUED h0 n0) 0 0 (s₁.setTop (mkF m 26 #[.val (.int p0)] []))
        refine GoesW.step (fun _ k => XS.iloadN X0.here hx rfl (hb hby d6_26) rfl k) ?_
        show GoesW p.tables e below s (Q6 Z p0 x_CO x_BUNDLE x_SERIES x_OUTAGE x_QUEUED h0 n0) 0 0 (s₁.setTop (mkF m 27 #[.val (.int p0)] [(.int p0)]))
        refine GoesW.step (fun _ k => XS.iconst X0.here hx rfl (hb hby d6_27) k) ?_
        show GoesW p.tables e below s (Q6 Z p0 x_CO x_BUNDLE x_SERIES x_OUTAGE x_QUEUED h0 n0) 0 0 (s₁.setTop (mkF m 28 #[.val (.int p0)] [(.int (3 : Int32)), (.int p0)]))
        by_cases hk3 : p0 = (3 : Int32)
        · skip
          refine GoesW.step (fun _ k => XS.icmpNo X0.here hx rfl (hb hby d6_28) rfl (teq hk3).2 k) ?_
          show GoesW p.tables e below s (Q6 Z p0 x_CO x_BUNDLE x_SERIES x_OUTAGE x_QUEUED h0 n0) 0 0 (s₁.setTop (mkF m 31 #[.val (.int p0)] []))
          obtain ⟨T4, X4, e4, st4⟩ := getS2 X0 hx hZ hown (host := "") (Or.inl (hw _ (List.mem_of_getElem? (i := 66) rfl))) Via.refl e0 S_OUTAGE (g := (mkF m 31 #[.val (.int p0)] [])) rfl (hb hby d6_31)
          refine GoesW.step st4 ?_
          show GoesW p.tables e below s (Q6 Z p0 x_CO x_BUNDLE x_SERIES x_OUTAGE x_QUEUED h0 n0) 0 0 (T4.setTop (mkF m 34 #[.val (.int p0)] [(.ref x_OUTAGE)]))
          exact GoesW.retA X4 hx hlk Bd.returns rfl rfl (hb hby d6_34) (by show Q6 Z p0 x_CO x_BUNDLE x_SERIES x_OUTAGE x_QUEUED h0 n0 _ T4.heap _; rw [e4]; exact ⟨⟨_, rfl⟩, N0, rfl⟩) (by decide) (by decide)
        · skip
          refine GoesW.step (fun _ k => XS.icmpYes X0.here hx rfl (pc0 := 28) (pc' := 35) rfl (hb hby d6_28) rfl (feq hk3).2 (by decide) (by decide) k) ?_
          show GoesW p.tables e below s (Q6 Z p0 x_CO x_BUNDLE x_SERIES x_OUTAGE x_QUEUED h0 n0) 0 0 (s₁.setTop (mkF m 35 #[.val (.int p0)] []))
          obtain ⟨T5, X5, e5, st5⟩ := getS2 X0 hx hZ hown (host := "") (Or.inl (hw _ (List.mem_of_getElem? (i := 70) rfl))) Via.refl e0 S_QUEUED (g := (mkF m 35 #[.val (.int p0)] [])) rfl (hb hby d6_35)
          refine GoesW.step st5 ?_
          show GoesW p.tables e below s (Q6 Z p0 x_CO x_BUNDLE x_SERIES x_OUTAGE x_QUEUED h0 n0) 0 0 (T5.setTop (mkF m 38 #[.val (.int p0)] [(.ref x_QUEUED)]))
          exact GoesW.retA X5 hx hlk Bd.returns rfl rfl (hb hby d6_38) (by show Q6 Z p0 x_CO x_BUNDLE x_SERIES x_OUTAGE x_QUEUED h0 n0 _ T5.heap _; rw [e5]; exact ⟨⟨_, rfl⟩, N0, rfl⟩) (by decide) (by decide)
theorem own_pn3 : plainName "java/lang/Record" = true := by first | (simp [plainName, overriddenIn]; done) | decide +kernel
theorem d8_0 : decode jdk_30_method_1_code 0 = .ok (.aload_n 0, 1) := by decide +kernel
theorem d8_1 : decode jdk_30_method_1_code 1 = .ok (.invokespecial 1, 3) := by decide +kernel
theorem d8_4 : decode jdk_30_method_1_code 4 = .ok (.return_, 1) := by decide +kernel
theorem ef_rm8 (m : MethodId) (x0 : Addr) : entryFrame m #[(.ref x0)] 1 = mkF m 0 #[.val (.ref x0)] [] := by first | (simp [entryFrame, mkF, argsToLocals, Value.category]; done) | rfl
def Q8 (Z : State) (r0 : Addr) (h0 : Heap) (n0 : Nat) (v : Option Value) (h : Heap) (L : List Loc) : Prop := v = none ∧ Fr n0 L ∧ h = h0
set_option maxRecDepth 65536 in
set_option maxHeartbeats 40000000 in
theorem rm8 (l : Launch) (Z : State) (a0 : Array Value) (hw : ∀ d ∈ tables_1, d.before a0 Z = true) (ws : List Jvm.Cond) (r0 : Addr) (h0 : Heap) (n0 : Nat) (Z0 : n0 ≤ h0.size)  :
    MetFree l (⟨"java/lang/Record", "<init>", "()V"⟩ : MethodName) (head1 (Jvm.Cond.code (⟨"java/lang/Record", "<init>", "()V"⟩ : MethodName) jdk_30_method_1_code 1 none :: ws) ({ frames := 1, cells := 0, slots := 0, locals := 12 } : Room)) (fun a U => a = #[(.ref r0)] ∧ Z.Warmed39 U.vm ∧ U.heap = h0) (fun _ _ _ _ _ => True) (fun _ U o U' => ∃ v L, o = .returned v ∧ Q8 Z r0 h0 n0 v U'.heap L ∧ FrameEnd U o U' L ({ frames := 1, cells := 0, slots := 0, locals := 12 } : Room).cells ({ frames := 1, cells := 0, slots := 0, locals := 12 } : Room).slots) := by
  refine MetFree.of_bodySF (plainFor_of_name own_pn3) hisR ?_
  intro p e s m args below meth c s₁ Bd hml0 hP hK
  obtain ⟨rfl, hZ, hh⟩ := hP
  have hx := Bd.exec
  have hby := Bd.bytes
  have hml : c.maxLocals = 1 := hml0
  have hown : s.vm.findClass "java/lang/Record" = some m.cls := findClass_of_methodNamed Bd.named
  have hnm := (name_of_methodNamed Bd.named Bd.method).1
  have hlk : meth.locks = false := BodyLoose.notSynchronized Bd
  have X0 : Stand p l e ({ frames := 1, cells := 0, slots := 0, locals := 12 } : Room) s m #[(.ref r0)] below meth c s₁ [] 0 0 := Stand.of_body Bd
  have e0 : s₁.heap = h0 := by rw [← hh, Bd.state]; rfl
  have N0 := Fr.nil n0
  show GoesW p.tables e below s (Q8 Z r0 h0 n0) 0 0 (s₁.setTop (entryFrame m #[(.ref r0)] 1))
  rw [ef_rm8 m r0]
  show GoesW p.tables e below s (Q8 Z r0 h0 n0) 0 0 (s₁.setTop (mkF m 0 #[.val (.ref r0)] []))
  refine GoesW.step (fun _ k => XS.aloadN X0.here hx rfl (hb hby d8_0) rfl rfl k) ?_
  show GoesW p.tables e below s (Q8 Z r0 h0 n0) 0 0 (s₁.setTop (mkF m 1 #[.val (.ref r0)] [(.ref r0)]))
  obtain ⟨T1, X1, e1, st1⟩ := initO X0 hx hZ hown (hw _ (List.mem_of_getElem? (i := 44) rfl)) (hw _ (List.mem_of_getElem? (i := 20) rfl)) (hw _ (List.mem_of_getElem? (i := 21) rfl)) e0 (g := (mkF m 1 #[.val (.ref r0)] [(.ref r0)])) rfl (by rw [hml]; rfl) rfl (hb hby d8_1) (by decide) (W := 0) (by show 2 * 0 + _ ≤ _; exact Nat.le_of_eq rfl) (by decide)
  refine GoesW.step st1 ?_
  show GoesW p.tables e below s (Q8 Z r0 h0 n0) 0 0 (T1.setTop (mkF m 4 #[.val (.ref r0)] []))
  exact GoesW.retV X1 hx hlk Bd.returns (hb hby d8_4) (by show Q8 Z r0 h0 n0 _ T1.heap _; rw [e1]; exact ⟨rfl, N0, rfl⟩) (by decide) (by decide)
theorem own_pd3 : parseMethodDescriptor "()V" = some ⟨[], none⟩ := by decide +kernel
theorem own_pn4 : plainName "com/example/forehold/forehold/ledger/Job" = true := by first | (simp [plainName, overriddenIn]; done) | decide +kernel
theorem d7_0 : decode prog_87_method_2_code 0 = .ok (.aload_n 0, 1) := by decide +kernel
theorem d7_1 : decode prog_87_method_2_code 1 = .ok (.invokespecial 1, 3) := by decide +kernel
theorem d7_4 : decode prog_87_method_2_code 4 = .ok (.aload_n 0, 1) := by decide +kernel
theorem d7_5 : decode prog_87_method_2_code 5 = .ok (.aload_n 1, 1) := by decide +kernel
theorem d7_6 : decode prog_87_method_2_code 6 = .ok (.putfield 7, 3) := by decide +kernel
theorem d7_9 : decode prog_87_method_2_code 9 = .ok (.aload_n 0, 1) := by decide +kernel
theorem d7_10 : decode prog_87_method_2_code 10 = .ok (.aload_n 2, 1) := by decide +kernel
theorem d7_11 : decode prog_87_method_2_code 11 = .ok (.putfield 13, 3) := by decide +kernel
theorem d7_14 : decode prog_87_method_2_code 14 = .ok (.aload_n 0, 1) := by decide +kernel
theorem d7_15 : decode prog_87_method_2_code 15 = .ok (.lload_n 3, 1) := by decide +kernel
theorem d7_16 : decode prog_87_method_2_code 16 = .ok (.putfield 17, 3) := by decide +kernel
theorem d7_19 : decode prog_87_method_2_code 19 = .ok (.aload_n 0, 1) := by decide +kernel
theorem d7_20 : decode prog_87_method_2_code 20 = .ok (.lload 5, 2) := by decide +kernel
theorem d7_22 : decode prog_87_method_2_code 22 = .ok (.putfield 21, 3) := by decide +kernel
theorem d7_25 : decode prog_87_method_2_code 25 = .ok (.aload_n 0, 1) := by decide +kernel
theorem d7_26 : decode prog_87_method_2_code 26 = .ok (.lload 7, 2) := by decide +kernel
theorem d7_28 : decode prog_87_method_2_code 28 = .ok (.putfield 24, 3) := by decide +kernel
theorem d7_31 : decode prog_87_method_2_code 31 = .ok (.aload_n 0, 1) := by decide +kernel
theorem d7_32 : decode prog_87_method_2_code 32 = .ok (.iload 9, 2) := by decide +kernel
theorem d7_34 : decode prog_87_method_2_code 34 = .ok (.putfield 27, 3) := by decide +kernel
theorem d7_37 : decode prog_87_method_2_code 37 = .ok (.aload_n 0, 1) := by decide +kernel
theorem d7_38 : decode prog_87_method_2_code 38 = .ok (.iload 10, 2) := by decide +kernel
theorem d7_40 : decode prog_87_method_2_code 40 = .ok (.putfield 31, 3) := by decide +kernel
theorem d7_43 : decode prog_87_method_2_code 43 = .ok (.aload_n 0, 1) := by decide +kernel
theorem d7_44 : decode prog_87_method_2_code 44 = .ok (.iload 11, 2) := by decide +kernel
theorem d7_46 : decode prog_87_method_2_code 46 = .ok (.putfield 35, 3) := by decide +kernel
theorem d7_49 : decode prog_87_method_2_code 49 = .ok (.return_, 1) := by decide +kernel
theorem ef_rm7 (m : MethodId) (x0 : Addr) (x1 : Addr) (x2 : Addr) (x3 : Int64) (x4 : Int64) (x5 : Int64) (x6 : Int32) (x7 : Int32) (x8 : Int32) : entryFrame m #[(.ref x0), (.ref x1), (.ref x2), (.long x3), (.long x4), (.long x5), (.int x6), (.int x7), (.int x8)] 12 = mkF m 0 #[.val (.ref x0), .val (.ref x1), .val (.ref x2), .val (.long x3), .second, .val (.long x4), .second, .val (.long x5), .second, .val (.int x6), .val (.int x7), .val (.int x8)] [] := by first | (simp [entryFrame, mkF, argsToLocals, Value.category]; done) | rfl
def Q7 (Z : State) (r0 : Addr) (r1 : Addr) (r2 : Addr) (q3 : Int64) (q4 : Int64) (q5 : Int64) (p6 : Int32) (p7 : Int32) (p8 : Int32) (h0 : Heap) (n0 : Nat) (v : Option Value) (h : Heap) (L : List Loc) : Prop := v = none ∧ Fr n0 L ∧ Keep h0 h [r0] ∧ Fld Z h r0 "com/example/forehold/forehold/ledger/Job" "earliest" "J" (.long q3) ∧ Fld Z h r0 "com/example/forehold/forehold/ledger/Job" "latest" "J" (.long q4) ∧ Fld Z h r0 "com/example/forehold/forehold/ledger/Job" "length" "J" (.long q5) ∧ Fld Z h r0 "com/example/forehold/forehold/ledger/Job" "nodes" "I" (.int p6)
set_option maxRecDepth 65536 in
set_option maxHeartbeats 40000000 in
theorem rm7 (l : Launch) (Z : State) (a0 : Array Value) (hw : ∀ d ∈ tables_1, d.before a0 Z = true) (ws : List Jvm.Cond) (r0 : Addr) (r1 : Addr) (r2 : Addr) (q3 : Int64) (q4 : Int64) (q5 : Int64) (p6 : Int32) (p7 : Int32) (p8 : Int32) (h0 : Heap) (n0 : Nat) (Z0 : n0 ≤ h0.size) (A0 : Exa Z h0 r0 "com/example/forehold/forehold/ledger/Job") (g_r0 : n0 ≤ r0) (b7 : narrow .boolean (.int p7) = .int p7) (c7 : fits .boolean (.int p7) = true) (b8 : narrow .boolean (.int p8) = .int p8) (c8 : fits .boolean (.int p8) = true) (F_id : Fld Z h0 r0 "com/example/forehold/forehold/ledger/Job" "id" "Ljava/lang/String;" .null) (F_kind : Fld Z h0 r0 "com/example/forehold/forehold/ledger/Job" "kind" "Lcom/example/forehold/forehold/ledger/Kind;" .null) (F_earliest : Fld Z h0 r0 "com/example/forehold/forehold/ledger/Job" "earliest" "J" (.long (0 : Int64))) (F_latest : Fld Z h0 r0 "com/example/forehold/forehold/ledger/Job" "latest" "J" (.long (0 : Int64))) (F_length : Fld Z h0 r0 "com/example/forehold/forehold/ledger/Job" "length" "J" (.long (0 : Int64))) (F_nodes : Fld Z h0 r0 "com/example/forehold/forehold/ledger/Job" "nodes" "I" (.int (0 : Int32))) (F_softLength : Fld Z h0 r0 "com/example/forehold/forehold/ledger/Job" "softLength" "Z" (.int (0 : Int32))) (F_softNodes : Fld Z h0 r0 "com/example/forehold/forehold/ledger/Job" "softNodes" "Z" (.int (0 : Int32))) :
    MetFree l (⟨"com/example/forehold/forehold/ledger/Job", "<init>", "(Ljava/lang/String;Lcom/example/forehold/forehold/ledger/Kind;JJJIZZ)V"⟩ : MethodName) (head1 (Jvm.Cond.code (⟨"com/example/forehold/forehold/ledger/Job", "<init>", "(Ljava/lang/String;Lcom/example/forehold/forehold/ledger/Kind;JJJIZZ)V"⟩ : MethodName) prog_87_method_2_code 12 none :: ws) ({ frames := 2, cells := 0, slots := 0, locals := 24 } : Room)) (fun a U => a = #[(.ref r0), (.ref r1), (.ref r2), (.long q3), (.long q4), (.long q5), (.int p6), (.int p7), (.int p8)] ∧ Z.Warmed39 U.vm ∧ U.heap = h0) (fun _ _ _ _ _ => True) (fun _ U o U' => ∃ v L, o = .returned v ∧ Q7 Z r0 r1 r2 q3 q4 q5 p6 p7 p8 h0 n0 v U'.heap L ∧ FrameEnd U o U' L ({ frames := 2, cells := 0, slots := 0, locals := 24 } : Room).cells ({ frames := 2, cells := 0, slots := 0, locals := 24 } : Room).slots) := by
  refine MetFree.of_bodySF (plainFor_of_name own_pn4) hisR ?_
  intro p e s m args below meth c s₁ Bd hml0 hP hK
  obtain ⟨rfl, hZ, hh⟩ := hP
  have hx := Bd.exec
  have hby := Bd.bytes
  have hml : c.maxLocals = 12 := hml0
  have hown : s.vm.findClass "com/example/forehold/forehold/ledger/Job" = some m.cls := findClass_of_methodNamed Bd.named
  have hnm := (name_of_methodNamed Bd.named Bd.method).1
  have hlk : meth.locks = false := BodyLoose.notSynchronized Bd
  have X0 : Stand p l e ({ frames := 2, cells := 0, slots := 0, locals := 24 } : Room) s m #[(.ref r0), (.ref r1), (.ref r2), (.long q3), (.long q4), (.long q5), (.int p6), (.int p7), (.int p8)] below meth c s₁ [] 0 0 := Stand.of_body Bd
  have e0 : s₁.heap = h0 := by rw [← hh, Bd.state]; rfl
  have N0 := Fr.nil n0
  show GoesW p.tables e below s (Q7 Z r0 r1 r2 q3 q4 q5 p6 p7 p8 h0 n0) 0 0 (s₁.setTop (entryFrame m #[(.ref r0), (.ref r1), (.ref r2), (.long q3), (.long q4), (.long q5), (.int p6), (.int p7), (.int p8)] 12))
  rw [ef_rm7 m r0 r1 r2 q3 q4 q5 p6 p7 p8]
  show GoesW p.tables e below s (Q7 Z r0 r1 r2 q3 q4 q5 p6 p7 p8 h0 n0) 0 0 (s₁.setTop (mkF m 0 #[.val (.ref r0), .val (.ref r1), .val (.ref r2), .val (.long q3), .second, .val (.long q4), .second, .val (.long q5), .second, .val (.int p6), .val (.int p7), .val (.int p8)] []))
  refine GoesW.step (fun _ k => XS.aloadN X0.here hx rfl (hb hby d7_0) rfl rfl k) ?_
  show GoesW p.tables e below s (Q7 Z r0 r1 r2 q3 q4 q5 p6 p7 p8 h0 n0) 0 0 (s₁.setTop (mkF m 1 #[.val (.ref r0), .val (.ref r1), .val (.ref r2), .val (.long q3), .second, .val (.long q4), .second, .val (.long q5), .second, .val (.int p6), .val (.int p7), .val (.int p8)] [(.ref r0)]))
  obtain ⟨_, _, ⟨T1, L1, k1, n1⟩, -, X1, ⟨Lc1, hQ1, l1, y1, z1⟩, st1⟩ := X0.specialBack hx (y := (⟨"java/lang/Record", "<init>", "()V"⟩ : MethodName)) rfl hown (mvT hZ (hw _ (List.mem_of_getElem? (i := 39) rfl))) (mvT hZ (hw _ (List.mem_of_getElem? (i := 40) rfl))) (mvT hZ (hw _ (List.mem_of_getElem? (i := 43) rfl))) (by decide) (backOf (W := 0) (rm8 l Z a0 hw [] r0  h0 n0 Z0 ) hZ (hw _ (List.mem_of_getElem? (i := 43) rfl)) (hw _ (List.mem_of_getElem? (i := 42) rfl)) (by decide) (by decide)) (g := (mkF m 1 #[.val (.ref r0), .val (.ref r1), .val (.ref r2), .val (.long q3), .second, .val (.long q4), .second, .val (.long q5), .second, .val (.int p6), .val (.int p7), .val (.int p8)] [(.ref r0)])) rfl (by rw [hml]; rfl) (Steps.refl _) (a := r0) (argsL := []) (rest := []) (lenOf own_pd3 rfl) rfl (by show 2 * 0 + _ ≤ _; exact Nat.le_of_eq rfl) (hb hby d7_1) (fun _ _ => ⟨rfl, e0, (by decide : 0 + 0 ≤ _), (by decide : 0 + 0 ≤ _)⟩)
  dsimp only [Pt.U, Pt.locs, Pt.cells, Pt.slots] at X1 l1 y1 z1 st1 hQ1
  subst l1 y1 z1
  obtain ⟨rfl, N1q, eq1⟩ := hQ1
  have N1 := Fr.app N0 N1q
  refine GoesW.step (fun _ k => st1.trans k) ?_
  show GoesW p.tables e below s (Q7 Z r0 r1 r2 q3 q4 q5 p6 p7 p8 h0 n0) 0 0 (T1.setTop (mkF m 4 #[.val (.ref r0), .val (.ref r1), .val (.ref r2), .val (.long q3), .second, .val (.long q4), .second, .val (.long q5), .second, .val (.int p6), .val (.int p7), .val (.int p8)] []))
  refine GoesW.step (fun _ k => XS.aloadN X1.here hx rfl (hb hby d7_4) rfl rfl k) ?_
  show GoesW p.tables e below s (Q7 Z r0 r1 r2 q3 q4 q5 p6 p7 p8 h0 n0) 0 0 (T1.setTop (mkF m 5 #[.val (.ref r0), .val (.ref r1), .val (.ref r2), .val (.long q3), .second, .val (.long q4), .second, .val (.long q5), .second, .val (.int p6), .val (.int p7), .val (.int p8)] [(.ref r0)]))
  refine GoesW.step (fun _ k => XS.aloadN X1.here hx rfl (hb hby d7_5) rfl rfl k) ?_
  show GoesW p.tables e below s (Q7 Z r0 r1 r2 q3 q4 q5 p6 p7 p8 h0 n0) 0 0 (T1.setTop (mkF m 6 #[.val (.ref r0), .val (.ref r1), .val (.ref r2), .val (.long q3), .second, .val (.long q4), .second, .val (.long q5), .second, .val (.int p6), .val (.int p7), .val (.int p8)] [(.ref r1), (.ref r0)]))
  obtain ⟨T2, h2, X2, e2, W2, st2⟩ := putF X1 hx hZ hown (host := "") (Or.inl (hw _ (List.mem_of_getElem? (i := 45) rfl))) Via.refl eq1 F_id A0 (Or.inr ⟨(hw _ (List.mem_of_getElem? (i := 46) rfl)), rfl, hnm⟩) (hw _ (List.mem_of_getElem? (i := 34) rfl)) (ty := (.object "java/lang/String")) (by decide) rfl rfl (g := (mkF m 6 #[.val (.ref r0), .val (.ref r1), .val (.ref r2), .val (.long q3), .second, .val (.long q4), .second, .val (.long q5), .second, .val (.int p6), .val (.int p7), .val (.int p8)] [(.ref r1), (.ref r0)])) rfl rfl (hb hby d7_6)
  have F2 := F_id.same W2
  have N2 := Fr.snoc X2 N1 g_r0
  have Z2 : n0 ≤ h2.size := Nat.le_trans Z0 (Keep.of_wr W2).1
  have K2 : Keep h0 h2 [r0] := (Keep.refl h0 [r0]).wr W2 (Or.inl (List.mem_of_getElem? (i := 0) rfl))
  refine GoesW.step st2 ?_
  show GoesW p.tables e below s (Q7 Z r0 r1 r2 q3 q4 q5 p6 p7 p8 h0 n0) 0 0 (T2.setTop (mkF m 9 #[.val (.ref r0), .val (.ref r1), .val (.ref r2), .val (.long q3), .second, .val (.long q4), .second, .val (.long q5), .second, .val (.int p6), .val (.int p7), .val (.int p8)] []))
  refine GoesW.step (fun _ k => XS.aloadN X2.here hx rfl (hb hby d7_9) rfl rfl k) ?_
  show GoesW p.tables e below s (Q7 Z r0 r1 r2 q3 q4 q5 p6 p7 p8 h0 n0) 0 0 (T2.setTop (mkF m 10 #[.val (.ref r0), .val (.ref r1), .val (.ref r2), .val (.long q3), .second, .val (.long q4), .second, .val (.long q5), .second, .val (.int p6), .val (.int p7), .val (.int p8)] [(.ref r0)]))
  refine GoesW.step (fun _ k => XS.aloadN X2.here hx rfl (hb hby d7_10) rfl rfl k) ?_
  show GoesW p.tables e below s (Q7 Z r0 r1 r2 q3 q4 q5 p6 p7 p8 h0 n0) 0 0 (T2.setTop (mkF m 11 #[.val (.ref r0), .val (.ref r1), .val (.ref r2), .val (.long q3), .second, .val (.long q4), .second, .val (.long q5), .second, .val (.int p6), .val (.int p7), .val (.int p8)] [(.ref r2), (.ref r0)]))
  have Exa_r0_3 := (A0.wr W2)
  have Fld_r0_kind_4 := (F_kind.other W2 (Or.inr (slot_ne (Or.inr (hw _ (List.mem_of_getElem? (i := 48) rfl))) (Or.inr (hw _ (List.mem_of_getElem? (i := 46) rfl))) (by decide) (t := (.object "com/example/forehold/forehold/ledger/Kind")) (t' := (.object "java/lang/String")) (by decide) (by decide))))
  obtain ⟨T5, h5, X5, e5, W5, st5⟩ := putF X2 hx hZ hown (host := "") (Or.inl (hw _ (List.mem_of_getElem? (i := 47) rfl))) Via.refl e2 Fld_r0_kind_4 Exa_r0_3 (Or.inr ⟨(hw _ (List.mem_of_getElem? (i := 48) rfl)), rfl, hnm⟩) (hw _ (List.mem_of_getElem? (i := 34) rfl)) (ty := (.object "com/example/forehold/forehold/ledger/Kind")) (by decide) rfl rfl (g := (mkF m 11 #[.val (.ref r0), .val (.ref r1), .val (.ref r2), .val (.long q3), .second, .val (.long q4), .second, .val (.long q5), .second, .val (.int p6), .val (.int p7), .val (.int p8)] [(.ref r2), (.ref r0)])) rfl rfl (hb hby d7_11)
  have F5 := Fld_r0_kind_4.same W5
  have N5 := Fr.snoc X5 N2 g_r0
  have Z5 : n0 ≤ h5.size := Nat.le_trans Z2 (Keep.of_wr W5).1
  have K5 : Keep h0 h5 [r0] := K2.wr W5 (Or.inl (List.mem_of_getElem? (i := 0) rfl))
  refine GoesW.step st5 ?_
  show GoesW p.tables e below s (Q7 Z r0 r1 r2 q3 q4 q5 p6 p7 p8 h0 n0) 0 0 (T5.setTop (mkF m 14 #[.val (.ref r0), .val (.ref r1), .val (.ref r2), .val (.long q3), .second, .val (.long q4), .second, .val (.long q5), .second, .val (.int p6), .val (.int p7), .val (.int p8)] []))
  refine GoesW.step (fun _ k => XS.aloadN X5.here hx rfl (hb hby d7_14) rfl rfl k) ?_
  show GoesW p.tables e below s (Q7 Z r0 r1 r2 q3 q4 q5 p6 p7 p8 h0 n0) 0 0 (T5.setTop (mkF m 15 #[.val (.ref r0), .val (.ref r1), .val (.ref r2), .val (.long q3), .second, .val (.long q4), .second, .val (.long q5), .second, .val (.int p6), .val (.int p7), .val (.int p8)] [(.ref r0)]))
  refine GoesW.step (fun _ k => XS.lloadN X5.here hx rfl (hb hby d7_15) rfl k) ?_
  show GoesW p.tables e below s (Q7 Z r0 r1 r2 q3 q4 q5 p6 p7 p8 h0 n0) 0 0 (T5.setTop (mkF m 16 #[.val (.ref r0), .val (.ref r1), .val (.ref r2), .val (.long q3), .second, .val (.long q4), .second, .val (.long q5), .second, .val (.int p6), .val (.int p7), .val (.int p8)] [(.long q3), (.ref r0)]))
  have Exa_r0_6 := (Exa_r0_3.wr W5)
  have Fld_r0_earliest_7 := ((F_earliest.other W2 (Or.inr (slot_ne (Or.inr (hw _ (List.mem_of_getElem? (i := 50) rfl))) (Or.inr (hw _ (List.mem_of_getElem? (i := 46) rfl))) (by decide) (t := .long) (t' := (.object "java/lang/String")) (by decide) (by decide)))).other W5 (Or.inr (slot_ne (Or.inr (hw _ (List.mem_of_getElem? (i := 50) rfl))) (Or.inr (hw _ (List.mem_of_getElem? (i := 48) rfl))) (by decide) (t := .long) (t' := (.object "com/example/forehold/forehold/ledger/Kind")) (by decide) (by decide))))
  obtain ⟨T8, h8, X8, e8, W8, st8⟩ := putF X5 hx hZ hown (host := "") (Or.inl (hw _ (List.mem_of_getElem? (i := 49) rfl))) Via.refl e5 Fld_r0_earliest_7 Exa_r0_6 (Or.inr ⟨(hw _ (List.mem_of_getElem? (i := 50) rfl)), rfl, hnm⟩) (hw _ (List.mem_of_getElem? (i := 34) rfl)) (ty := .long) (by decide) rfl rfl (g := (mkF m 16 #[.val (.ref r0), .val (.ref r1), .val (.ref r2), .val (.long q3), .second, .val (.long q4), .second, .val (.long q5), .second, .val (.int p6), .val (.int p7), .val (.int p8)] [(.long q3), (.ref r0)])) rfl rfl (hb hby d7_16)
  have F8 := Fld_r0_earliest_7.same W8
  have N8 := Fr.snoc X8 N5 g_r0
  have Z8 : n0 ≤ h8.size := Nat.le_trans Z5 (Keep.of_wr W8).1
  have K8 : Keep h0 h8 [r0] := K5.wr W8 (Or.inl (List.mem_of_getElem? (i := 0) rfl))
  refine GoesW.step st8 ?_
  show GoesW p.tables e below s (Q7 Z r0 r1 r2 q3 q4 q5 p6 p7 p8 h0 n0) 0 0 (T8.setTop (mkF m 19 #[.val (.ref r0), .val (.ref r1), .val (.ref r2), .val (.long q3), .second, .val (.long q4), .second, .val (.long q5), .second, .val (.int p6), .val (.int p7), .val (.int p8)] []))
  refine GoesW.step (fun _ k => XS.aloadN X8.here hx rfl (hb hby d7_19) rfl rfl k) ?_
  show GoesW p.tables e below s (Q7 Z r0 r1 r2 q3 q4 q5 p6 p7 p8 h0 n0) 0 0 (T8.setTop (mkF m 20 #[.val (.ref r0), .val (.ref r1), .val (.ref r2), .val (.long q3), .second, .val (.long q4), .second, .val (.long q5), .second, .val (.int p6), .val (.int p7), .val (.int p8)] [(.ref r0)]))
  refine GoesW.step (fun _ k => XS.lload X8.here hx rfl (hb hby d7_20) rfl k) ?_
  show GoesW p.tables e below s (Q7 Z r0 r1 r2 q3 q4 q5 p6 p7 p8 h0 n0) 0 0 (T8.setTop (mkF m 22 #[.val (.ref r0), .val (.ref r1), .val (.ref r2), .val (.long q3), .second, .val (.long q4), .second, .val (.long q5), .second, .val (.int p6), .val (.int p7), .val (.int p8)] [(.long q4), (.ref r0)]))
  have Exa_r0_9 := (Exa_r0_6.wr W8)
  have Fld_r0_latest_10 := (((F_latest.other W2 (Or.inr (slot_ne (Or.inr (hw _ (List.mem_of_getElem? (i := 52) rfl))) (Or.inr (hw _ (List.mem_of_getElem? (i := 46) rfl))) (by decide) (t := .long) (t' := (.object "java/lang/String")) (by decide) (by decide)))).other W5 (Or.inr (slot_ne (Or.inr (hw _ (List.mem_of_getElem? (i := 52) rfl))) (Or.inr (hw _ (List.mem_of_getElem? (i := 48) rfl))) (by decide) (t := .long) (t' := (.object "com/example/forehold/forehold/ledger/Kind")) (by decide) (by decide)))).other W8 (Or.inr (slot_ne (Or.inr (hw _ (List.mem_of_getElem? (i := 52) rfl))) (Or.inr (hw _ (List.mem_of_getElem? (i := 50) rfl))) (by decide) (t := .long) (t' := .long) (by decide) (by decide))))
  obtain ⟨T11, h11, X11, e11, W11, st11⟩ := putF X8 hx hZ hown (host := "") (Or.inl (hw _ (List.mem_of_getElem? (i := 51) rfl))) Via.refl e8 Fld_r0_latest_10 Exa_r0_9 (Or.inr ⟨(hw _ (List.mem_of_getElem? (i := 52) rfl)), rfl, hnm⟩) (hw _ (List.mem_of_getElem? (i := 34) rfl)) (ty := .long) (by decide) rfl rfl (g := (mkF m 22 #[.val (.ref r0), .val (.ref r1), .val (.ref r2), .val (.long q3), .second, .val (.long q4), .second, .val (.long q5), .second, .val (.int p6), .val (.int p7), .val (.int p8)] [(.long q4), (.ref r0)])) rfl rfl (hb hby d7_22)
  have F11 := Fld_r0_latest_10.same W11
  have N11 := Fr.snoc X11 N8 g_r0
  have Z11 : n0 ≤ h11.size := Nat.le_trans Z8 (Keep.of_wr W11).1
  have K11 : Keep h0 h11 [r0] := K8.wr W11 (Or.inl (List.mem_of_getElem? (i := 0) rfl))
  refine GoesW.step st11 ?_
  show GoesW p.tables e below s (Q7 Z r0 r1 r2 q3 q4 q5 p6 p7 p8 h0 n0) 0 0 (T11.setTop (mkF m 25 #[.val (.ref r0), .val (.ref r1), .val (.ref r2), .val (.long q3), .second, .val (.long q4), .second, .val (.long q5), .second, .val (.int p6), .val (.int p7), .val (.int p8)] []))
  refine GoesW.step (fun _ k => XS.aloadN X11.here hx rfl (hb hby d7_25) rfl rfl k) ?_
  show GoesW p.tables e below s (Q7 Z r0 r1 r2 q3 q4 q5 p6 p7 p8 h0 n0) 0 0 (T11.setTop (mkF m 26 #[.val (.ref r0), .val (.ref r1), .val (.ref r2), .val (.long q3), .second, .val (.long q4), .second, .val (.long q5), .second, .val (.int p6), .val (.int p7), .val (.int p8)] [(.ref r0)]))
  refine GoesW.step (fun _ k => XS.lload X11.here hx rfl (hb hby d7_26) rfl k) ?_
  show GoesW p.tables e below s (Q7 Z r0 r1 r2 q3 q4 q5 p6 p7 p8 h0 n0) 0 0 (T11.setTop (mkF m 28 #[.val (.ref r0), .val (.ref r1), .val (.ref r2), .val (.long q3), .second, .val (.long q4), .second, .val (.long q5), .second, .val (.int p6), .val (.int p7), .val (.int p8)] [(.long q5), (.ref r0)]))
  have Exa_r0_12 := (Exa_r0_9.wr W11)
  have Fld_r0_length_13 := ((((F_length.other W2 (Or.inr (slot_ne (Or.inr (hw _ (List.mem_of_getElem? (i := 54) rfl))) (Or.inr (hw _ (List.mem_of_getElem? (i := 46) rfl))) (by decide) (t := .long) (t' := (.object "java/lang/String")) (by decide) (by decide)))).other W5 (Or.inr (slot_ne (Or.inr (hw _ (List.mem_of_getElem? (i := 54) rfl))) (Or.inr (hw _ (List.mem_of_getElem? (i := 48) rfl))) (by decide) (t := .long) (t' := (.object "com/example/forehold/forehold/ledger/Kind")) (by decide) (by decide)))).other W8 (Or.inr (slot_ne (Or.inr (hw _ (List.mem_of_getElem? (i := 54) rfl))) (Or.inr (hw _ (List.mem_of_getElem? (i := 50) rfl))) (by decide) (t := .long) (t' := .long) (by decide) (by decide)))).other W11 (Or.inr (slot_ne (Or.inr (hw _ (List.mem_of_getElem? (i := 54) rfl))) (Or.inr (hw _ (List.mem_of_getElem? (i := 52) rfl))) (by decide) (t := .long) (t' := .long) (by decide) (by decide))))
  obtain ⟨T14, h14, X14, e14, W14, st14⟩ := putF X11 hx hZ hown (host := "") (Or.inl (hw _ (List.mem_of_getElem? (i := 53) rfl))) Via.refl e11 Fld_r0_length_13 Exa_r0_12 (Or.inr ⟨(hw _ (List.mem_of_getElem? (i := 54) rfl)), rfl, hnm⟩) (hw _ (List.mem_of_getElem? (i := 34) rfl)) (ty := .long) (by decide) rfl rfl (g := (mkF m 28 #[.val (.ref r0), .val (.ref r1), .val (.ref r2), .val (.long q3), .second, .val (.long q4), .second, .val (.long q5), .second, .val (.int p6), .val (.int p7), .val (.int p8)] [(.long q5), (.ref r0)])) rfl rfl (hb hby d7_28)
  have F14 := Fld_r0_length_13.same W14
  have N14 := Fr.snoc X14 N11 g_r0
  have Z14 : n0 ≤ h14.size := Nat.le_trans Z11 (Keep.of_wr W14).1
  have K14 : Keep h0 h14 [r0] := K11.wr W14 (Or.inl (List.mem_of_getElem? (i := 0) rfl))
  refine GoesW.step st14 ?_
  show GoesW p.tables e below s (Q7 Z r0 r1 r2 q3 q4 q5 p6 p7 p8 h0 n0) 0 0 (T14.setTop (mkF m 31 #[.val (.ref r0), .val (.ref r1), .val (.ref r2), .val (.long q3), .second, .val (.long q4), .second, .val (.long q5), .second, .val (.int p6), .val (.int p7), .val (.int p8)] []))
  refine GoesW.step (fun _ k => XS.aloadN X14.here hx rfl (hb hby d7_31) rfl rfl k) ?_
  show GoesW p.tables e below s (Q7 Z r0 r1 r2 q3 q4 q5 p6 p7 p8 h0 n0) 0 0 (T14.setTop (mkF m 32 #[.val (.ref r0), .val (.ref r1), .val (.ref r2), .val (.long q3), .second, .val (.long q4), .second, .val (.long q5), .second, .val (.int p6), .val (.int p7), .val (.int p8)] [(.ref r0)]))
  refine GoesW.step (fun _ k => XS.iload X14.here hx rfl (hb hby d7_32) rfl k) ?_
  show GoesW p.tables e below s (Q7 Z r0 r1 r2 q3 q4 q5 p6 p7 p8 h0 n0) 0 0 (T14.setTop (mkF m 34 #[.val (.ref r0), .val (.ref r1), .val (.ref r2), .val (.long q3), .second, .val (.long q4), .second, .val (.long q5), .second, .val (.int p6), .val (.int p7), .val (.int p8)] [(.int p6), (.ref r0)]))
  have Exa_r0_15 := (Exa_r0_12.wr W14)
  have Fld_r0_nodes_16 := (((((F_nodes.other W2 (Or.inr (slot_ne (Or.inr (hw _ (List.mem_of_getElem? (i := 56) rfl))) (Or.inr (hw _ (List.mem_of_getElem? (i := 46) rfl))) (by decide) (t := .int) (t' := (.object "java/lang/String")) (by decide) (by decide)))).other W5 (Or.inr (slot_ne (Or.inr (hw _ (List.mem_of_getElem? (i := 56) rfl))) (Or.inr (hw _ (List.mem_of_getElem? (i := 48) rfl))) (by decide) (t := .int) (t' := (.object "com/example/forehold/forehold/ledger/Kind")) (by decide) (by decide)))).other W8 (Or.inr (slot_ne (Or.inr (hw _ (List.mem_of_getElem? (i := 56) rfl))) (Or.inr (hw _ (List.mem_of_getElem? (i := 50) rfl))) (by decide) (t := .int) (t' := .long) (by decide) (by decide)))).other W11 (Or.inr (slot_ne (Or.inr (hw _ (List.mem_of_getElem? (i := 56) rfl))) (Or.inr (hw _ (List.mem_of_getElem? (i := 52) rfl))) (by decide) (t := .int) (t' := .long) (by decide) (by decide)))).other W14 (Or.inr (slot_ne (Or.inr (hw _ (List.mem_of_getElem? (i := 56) rfl))) (Or.inr (hw _ (List.mem_of_getElem? (i := 54) rfl))) (by decide) (t := .int) (t' := .long) (by decide) (by decide))))
  obtain ⟨T17, h17, X17, e17, W17, st17⟩ := putF X14 hx hZ hown (host := "") (Or.inl (hw _ (List.mem_of_getElem? (i := 55) rfl))) Via.refl e14 Fld_r0_nodes_16 Exa_r0_15 (Or.inr ⟨(hw _ (List.mem_of_getElem? (i := 56) rfl)), rfl, hnm⟩) (hw _ (List.mem_of_getElem? (i := 34) rfl)) (ty := .int) (by decide) rfl rfl (g := (mkF m 34 #[.val (.ref r0), .val (.ref r1), .val (.ref r2), .val (.long q3), .second, .val (.long q4), .second, .val (.long q5), .second, .val (.int p6), .val (.int p7), .val (.int p8)] [(.int p6), (.ref r0)])) rfl rfl (hb hby d7_34)
  have F17 := Fld_r0_nodes_16.same W17
  have N17 := Fr.snoc X17 N14 g_r0
  have Z17 : n0 ≤ h17.size := Nat.le_trans Z14 (Keep.of_wr W17).1
  have K17 : Keep h0 h17 [r0] := K14.wr W17 (Or.inl (List.mem_of_getElem? (i := 0) rfl))
  refine GoesW.step st17 ?_
  show GoesW p.tables e below s (Q7 Z r0 r1 r2 q3 q4 q5 p6 p7 p8 h0 n0) 0 0 (T17.setTop (mkF m 37 #[.val (.ref r0), .val (.ref r1), .val (.ref r2), .val (.long q3), .second, .val (.long q4), .second, .val (.long q5), .second, .val (.int p6), .val (.int p7), .val (.int p8)] []))
  refine GoesW.step (fun _ k => XS.aloadN X17.here hx rfl (hb hby d7_37) rfl rfl k) ?_
  show GoesW p.tables e below s (Q7 Z r0 r1 r2 q3 q4 q5 p6 p7 p8 h0 n0) 0 0 (T17.setTop (mkF m 38 #[.val (.ref r0), .val (.ref r1), .val (.ref r2), .val (.long q3), .second, .val (.long q4), .second, .val (.long q5), .second, .val (.int p6), .val (.int p7), .val (.int p8)] [(.ref r0)]))
  refine GoesW.step (fun _ k => XS.iload X17.here hx rfl (hb hby d7_38) rfl k) ?_
  show GoesW p.tables e below s (Q7 Z r0 r1 r2 q3 q4 q5 p6 p7 p8 h0 n0) 0 0 (T17.setTop (mkF m 40 #[.val (.ref r0), .val (.ref r1), .val (.ref r2), .val (.long q3), .second, .val (.long q4), .second, .val (.long q5), .second, .val (.int p6), .val (.int p7), .val (.int p8)] [(.int p7), (.ref r0)]))
  have Exa_r0_18 := (Exa_r0_15.wr W17)
  have Fld_r0_softLength_19 := ((((((F_softLength.other W2 (Or.inr (slot_ne (Or.inr (hw _ (List.mem_of_getElem? (i := 58) rfl))) (Or.inr (hw _ (List.mem_of_getElem? (i := 46) rfl))) (by decide) (t := .boolean) (t' := (.object "java/lang/String")) (by decide) (by decide)))).other W5 (Or.inr (slot_ne (Or.inr (hw _ (List.mem_of_getElem? (i := 58) rfl))) (Or.inr (hw _ (List.mem_of_getElem? (i := 48) rfl))) (by decide) (t := .boolean) (t' := (.object "com/example/forehold/forehold/ledger/Kind")) (by decide) (by decide)))).other W8 (Or.inr (slot_ne (Or.inr (hw _ (List.mem_of_getElem? (i := 58) rfl))) (Or.inr (hw _ (List.mem_of_getElem? (i := 50) rfl))) (by decide) (t := .boolean) (t' := .long) (by decide) (by decide)))).other W11 (Or.inr (slot_ne (Or.inr (hw _ (List.mem_of_getElem? (i := 58) rfl))) (Or.inr (hw _ (List.mem_of_getElem? (i := 52) rfl))) (by decide) (t := .boolean) (t' := .long) (by decide) (by decide)))).other W14 (Or.inr (slot_ne (Or.inr (hw _ (List.mem_of_getElem? (i := 58) rfl))) (Or.inr (hw _ (List.mem_of_getElem? (i := 54) rfl))) (by decide) (t := .boolean) (t' := .long) (by decide) (by decide)))).other W17 (Or.inr (slot_ne (Or.inr (hw _ (List.mem_of_getElem? (i := 58) rfl))) (Or.inr (hw _ (List.mem_of_getElem? (i := 56) rfl))) (by decide) (t := .boolean) (t' := .int) (by decide) (by decide))))
  obtain ⟨T20, h20, X20, e20, W20, st20⟩ := putFN X17 hx hZ hown (hw _ (List.mem_of_getElem? (i := 57) rfl)) Via.refl e17 Fld_r0_softLength_19 Exa_r0_18 (Or.inr ⟨(hw _ (List.mem_of_getElem? (i := 58) rfl)), rfl, hnm⟩) (hw _ (List.mem_of_getElem? (i := 34) rfl)) (ty := .boolean) (v' := (.int p7)) (by decide) b7 c7 (g := (mkF m 40 #[.val (.ref r0), .val (.ref r1), .val (.ref r2), .val (.long q3), .second, .val (.long q4), .second, .val (.long q5), .second, .val (.int p6), .val (.int p7), .val (.int p8)] [(.int p7), (.ref r0)])) rfl rfl (hb hby d7_40)
  have F20 := Fld_r0_softLength_19.same W20
  have N20 := Fr.snoc X20 N17 g_r0
  have Z20 : n0 ≤ h20.size := Nat.le_trans Z17 (Keep.of_wr W20).1
  have K20 : Keep h0 h20 [r0] := K17.wr W20 (Or.inl (List.mem_of_getElem? (i := 0) rfl))
  refine GoesW.step st20 ?_
  show GoesW p.tables e below s (Q7 Z r0 r1 r2 q3 q4 q5 p6 p7 p8 h0 n0) 0 0 (T20.setTop (mkF m 43 #[.val (.ref r0), .val (.ref r1), .val (.ref r2), .val (.long q3), .second, .val (.long q4), .second, .val (.long q5), .second, .val (.int p6), .val (.int p7), .val (.int p8)] []))
  refine GoesW.step (fun _ k => XS.aloadN X20.here hx rfl (hb hby d7_43) rfl rfl k) ?_
  show GoesW p.tables e below s (Q7 Z r0 r1 r2 q3 q4 q5 p6 p7 p8 h0 n0) 0 0 (T20.setTop (mkF m 44 #[.val (.ref r0), .val (.ref r1), .val (.ref r2), .val (.long q3), .second, .val (.long q4), .second, .val (.long q5), .second, .val (.int p6), .val (.int p7), .val (.int p8)] [(.ref r0)]))
  refine GoesW.step (fun _ k => XS.iload X20.here hx rfl (hb hby d7_44) rfl k) ?_
  show GoesW p.tables e below s (Q7 Z r0 r1 r2 q3 q4 q5 p6 p7 p8 h0 n0) 0 0 (T20.setTop (mkF m 46 #[.val (.ref r0), .val (.ref r1), .val (.ref r2), .val (.long q3), .second, .val (.long q4), .second, .val (.long q5), .second, .val (.int p6), .val (.int p7), .val (.int p8)] [(.int p8), (.ref r0)]))
  have Exa_r0_21 := (Exa_r0_18.wr W20)
  have Fld_r0_softNodes_22 := (((((((F_softNodes.other W2 (Or.inr (slot_ne (Or.inr (hw _ (List.mem_of_getElem? (i := 60) rfl))) (Or.inr (hw _ (List.mem_of_getElem? (i := 46) rfl))) (by decide) (t := .boolean) (t' := (.object "java/lang/String")) (by decide) (by decide)))).other W5 (Or.inr (slot_ne (Or.inr (hw _ (List.mem_of_getElem? (i := 60) rfl))) (Or.inr (hw _ (List.mem_of_getElem? (i := 48) rfl))) (by decide) (t := .boolean) (t' := (.object "com/example/forehold/forehold/ledger/Kind")) (by decide) (by decide)))).other W8 (Or.inr (slot_ne (Or.inr (hw _ (List.mem_of_getElem? (i := 60) rfl))) (Or.inr (hw _ (List.mem_of_getElem? (i := 50) rfl))) (by decide) (t := .boolean) (t' := .long) (by decide) (by decide)))).other W11 (Or.inr (slot_ne (Or.inr (hw _ (List.mem_of_getElem? (i := 60) rfl))) (Or.inr (hw _ (List.mem_of_getElem? (i := 52) rfl))) (by decide) (t := .boolean) (t' := .long) (by decide) (by decide)))).other W14 (Or.inr (slot_ne (Or.inr (hw _ (List.mem_of_getElem? (i := 60) rfl))) (Or.inr (hw _ (List.mem_of_getElem? (i := 54) rfl))) (by decide) (t := .boolean) (t' := .long) (by decide) (by decide)))).other W17 (Or.inr (slot_ne (Or.inr (hw _ (List.mem_of_getElem? (i := 60) rfl))) (Or.inr (hw _ (List.mem_of_getElem? (i := 56) rfl))) (by decide) (t := .boolean) (t' := .int) (by decide) (by decide)))).other W20 (Or.inr (slot_ne (Or.inr (hw _ (List.mem_of_getElem? (i := 60) rfl))) (Or.inr (hw _ (List.mem_of_getElem? (i := 58) rfl))) (by decide) (t := .boolean) (t' := .boolean) (by decide) (by decide))))
  obtain ⟨T23, h23, X23, e23, W23, st23⟩ := putFN X20 hx hZ hown (hw _ (List.mem_of_getElem? (i := 59) rfl)) Via.refl e20 Fld_r0_softNodes_22 Exa_r0_21 (Or.inr ⟨(hw _ (List.mem_of_getElem? (i := 60) rfl)), rfl, hnm⟩) (hw _ (List.mem_of_getElem? (i := 34) rfl)) (ty := .boolean) (v' := (.int p8)) (by decide) b8 c8 (g := (mkF m 46 #[.val (.ref r0), .val (.ref r1), .val (.ref r2), .val (.long q3), .second, .val (.long q4), .second, .val (.long q5), .second, .val (.int p6), .val (.int p7), .val (.int p8)] [(.int p8), (.ref r0)])) rfl rfl (hb hby d7_46)
  have F23 := Fld_r0_softNodes_22.same W23
  have N23 := Fr.snoc X23 N20 g_r0
  have Z23 : n0 ≤ h23.size := Nat.le_trans Z20 (Keep.of_wr W23).1
  have K23 : Keep h0 h23 [r0] := K20.wr W23 (Or.inl (List.mem_of_getElem? (i := 0) rfl))
  refine GoesW.step st23 ?_
  show GoesW p.tables e below s (Q7 Z r0 r1 r2 q3 q4 q5 p6 p7 p8 h0 n0) 0 0 (T23.setTop (mkF m 49 #[.val (.ref r0), .val (.ref r1), .val (.ref r2), .val (.long q3), .second, .val (.long q4), .second, .val (.long q5), .second, .val (.int p6), .val (.int p7), .val (.int p8)] []))
  have Fld_r0_earliest_24 := (((((F8.other W11 (Or.inr (slot_ne (Or.inr (hw _ (List.mem_of_getElem? (i := 50) rfl))) (Or.inr (hw _ (List.mem_of_getElem? (i := 52) rfl))) (by decide) (t := .long) (t' := .long) (by decide) (by decide)))).other W14 (Or.inr (slot_ne (Or.inr (hw _ (List.mem_of_getElem? (i := 50) rfl))) (Or.inr (hw _ (List.mem_of_getElem? (i := 54) rfl))) (by decide) (t := .long) (t' := .long) (by decide) (by decide)))).other W17 (Or.inr (slot_ne (Or.inr (hw _ (List.mem_of_getElem? (i := 50) rfl))) (Or.inr (hw _ (List.mem_of_getElem? (i := 56) rfl))) (by decide) (t := .long) (t' := .int) (by decide) (by decide)))).other W20 (Or.inr (slot_ne (Or.inr (hw _ (List.mem_of_getElem? (i := 50) rfl))) (Or.inr (hw _ (List.mem_of_getElem? (i := 58) rfl))) (by decide) (t := .long) (t' := .boolean) (by decide) (by decide)))).other W23 (Or.inr (slot_ne (Or.inr (hw _ (List.mem_of_getElem? (i := 50) rfl))) (Or.inr (hw _ (List.mem_of_getElem? (i := 60) rfl))) (by decide) (t := .long) (t' := .boolean) (by decide) (by decide))))
  have Fld_r0_latest_25 := ((((F11.other W14 (Or.inr (slot_ne (Or.inr (hw _ (List.mem_of_getElem? (i := 52) rfl))) (Or.inr (hw _ (List.mem_of_getElem? (i := 54) rfl))) (by decide) (t := .long) (t' := .long) (by decide) (by decide)))).other W17 (Or.inr (slot_ne (Or.inr (hw _ (List.mem_of_getElem? (i := 52) rfl))) (Or.inr (hw _ (List.mem_of_getElem? (i := 56) rfl))) (by decide) (t := .long) (t' := .int) (by decide) (by decide)))).other W20 (Or.inr (slot_ne (Or.inr (hw _ (List.mem_of_getElem? (i := 52) rfl))) (Or.inr (hw _ (List.mem_of_getElem? (i := 58) rfl))) (by decide) (t := .long) (t' := .boolean) (by decide) (by decide)))).other W23 (Or.inr (slot_ne (Or.inr (hw _ (List.mem_of_getElem? (i := 52) rfl))) (Or.inr (hw _ (List.mem_of_getElem? (i := 60) rfl))) (by decide) (t := .long) (t' := .boolean) (by decide) (by decide))))
  have Fld_r0_length_26 := (((F14.other W17 (Or.inr (slot_ne (Or.inr (hw _ (List.mem_of_getElem? (i := 54) rfl))) (Or.inr (hw _ (List.mem_of_getElem? (i := 56) rfl))) (by decide) (t := .long) (t' := .int) (by decide) (by decide)))).other W20 (Or.inr (slot_ne (Or.inr (hw _ (List.mem_of_getElem? (i := 54) rfl))) (Or.inr (hw _ (List.mem_of_getElem? (i := 58) rfl))) (by decide) (t := .long) (t' := .boolean) (by decide) (by decide)))).other W23 (Or.inr (slot_ne (Or.inr (hw _ (List.mem_of_getElem? (i := 54) rfl))) (Or.inr (hw _ (List.mem_of_getElem? (i := 60) rfl))) (by decide) (t := .long) (t' := .boolean) (by decide) (by decide))))
  have Fld_r0_nodes_27 := ((F17.other W20 (Or.inr (slot_ne (Or.inr (hw _ (List.mem_of_getElem? (i := 56) rfl))) (Or.inr (hw _ (List.mem_of_getElem? (i := 58) rfl))) (by decide) (t := .int) (t' := .boolean) (by decide) (by decide)))).other W23 (Or.inr (slot_ne (Or.inr (hw _ (List.mem_of_getElem? (i := 56) rfl))) (Or.inr (hw _ (List.mem_of_getElem? (i := 60) rfl))) (by decide) (t := .int) (t' := .boolean) (by decide) (by decide))))
  exact GoesW.retV X23 hx hlk Bd.returns (hb hby d7_49) (by show Q7 Z r0 r1 r2 q3 q4 q5 p6 p7 p8 h0 n0 _ T23.heap _; rw [e23]; exact ⟨rfl, N23, K23, Fld_r0_earliest_24, Fld_r0_latest_25, Fld_r0_length_26, Fld_r0_nodes_27⟩) (by decide) (by decide)
theorem d9_0 : decode prog_87_method_3_code 0 = .ok (.aload_n 0, 1) := by decide +kernel
theorem d9_1 : decode prog_87_method_3_code 1 = .ok (.getfield 17, 3) := by decide +kernel
theorem d9_4 : decode prog_87_method_3_code 4 = .ok (.aload_n 1, 1) := by decide +kernel
theorem d9_5 : decode prog_87_method_3_code 5 = .ok (.getfield 17, 3) := by decide +kernel
theorem d9_8 : decode prog_87_method_3_code 8 = .ok (.lcmp, 1) := by decide +kernel
theorem d9_9 : decode prog_87_method_3_code 9 = .ok (.ifCond .ne 42, 3) := by decide +kernel
theorem d9_12 : decode prog_87_method_3_code 12 = .ok (.aload_n 0, 1) := by decide +kernel
theorem d9_13 : decode prog_87_method_3_code 13 = .ok (.getfield 21, 3) := by decide +kernel
theorem d9_16 : decode prog_87_method_3_code 16 = .ok (.aload_n 1, 1) := by decide +kernel
theorem d9_17 : decode prog_87_method_3_code 17 = .ok (.getfield 21, 3) := by decide +kernel
theorem d9_20 : decode prog_87_method_3_code 20 = .ok (.lcmp, 1) := by decide +kernel
theorem d9_21 : decode prog_87_method_3_code 21 = .ok (.ifCond .ne 30, 3) := by decide +kernel
theorem d9_24 : decode prog_87_method_3_code 24 = .ok (.aload_n 0, 1) := by decide +kernel
theorem d9_25 : decode prog_87_method_3_code 25 = .ok (.getfield 24, 3) := by decide +kernel
theorem d9_28 : decode prog_87_method_3_code 28 = .ok (.aload_n 1, 1) := by decide +kernel
theorem d9_29 : decode prog_87_method_3_code 29 = .ok (.getfield 24, 3) := by decide +kernel
theorem d9_32 : decode prog_87_method_3_code 32 = .ok (.lcmp, 1) := by decide +kernel
theorem d9_33 : decode prog_87_method_3_code 33 = .ok (.ifCond .ne 18, 3) := by decide +kernel
theorem d9_36 : decode prog_87_method_3_code 36 = .ok (.aload_n 0, 1) := by decide +kernel
theorem d9_37 : decode prog_87_method_3_code 37 = .ok (.getfield 27, 3) := by decide +kernel
theorem d9_40 : decode prog_87_method_3_code 40 = .ok (.aload_n 1, 1) := by decide +kernel
theorem d9_41 : decode prog_87_method_3_code 41 = .ok (.getfield 27, 3) := by decide +kernel
theorem d9_44 : decode prog_87_method_3_code 44 = .ok (.if_icmp .ne 7, 3) := by decide +kernel
theorem d9_47 : decode prog_87_method_3_code 47 = .ok (.iconst 1, 1) := by decide +kernel
theorem d9_48 : decode prog_87_method_3_code 48 = .ok (.goto 4, 3) := by decide +kernel
theorem d9_51 : decode prog_87_method_3_code 51 = .ok (.iconst 0, 1) := by decide +kernel
theorem d9_52 : decode prog_87_method_3_code 52 = .ok (.ireturn, 1) := by decide +kernel
theorem ef_rm9 (m : MethodId) (x0 : Addr) (x1 : Addr) : entryFrame m #[(.ref x0), (.ref x1)] 2 = mkF m 0 #[.val (.ref x0), .val (.ref x1)] [] := by first | (simp [entryFrame, mkF, argsToLocals, Value.category]; done) | rfl
def Q9 (Z : State) (r0 : Addr) (r1 : Addr) (va : Int64) (vb : Int64) (vc : Int64) (vn : Int32) (wa : Int64) (wb : Int64) (wc : Int64) (wn : Int32) (h0 : Heap) (n0 : Nat) (v : Option Value) (h : Heap) (L : List Loc) : Prop := v = some (.int (own_al va vb vc vn wa wb wc wn)) ∧ Fr n0 L ∧ h = h0
set_option maxRecDepth 65536 in
set_option maxHeartbeats 40000000 in
theorem rm9 (l : Launch) (Z : State) (a0 : Array Value) (hw : ∀ d ∈ tables_1, d.before a0 Z = true) (ws : List Jvm.Cond) (r0 : Addr) (r1 : Addr) (va : Int64) (vb : Int64) (vc : Int64) (vn : Int32) (wa : Int64) (wb : Int64) (wc : Int64) (wn : Int32) (h0 : Heap) (n0 : Nat) (Z0 : n0 ≤ h0.size) (F0_earliest : Fld Z h0 r0 "com/example/forehold/forehold/ledger/Job" "earliest" "J" (.long va)) (F0_latest : Fld Z h0 r0 "com/example/forehold/forehold/ledger/Job" "latest" "J" (.long vb)) (F0_length : Fld Z h0 r0 "com/example/forehold/forehold/ledger/Job" "length" "J" (.long vc)) (F0_nodes : Fld Z h0 r0 "com/example/forehold/forehold/ledger/Job" "nodes" "I" (.int vn)) (F1_earliest : Fld Z h0 r1 "com/example/forehold/forehold/ledger/Job" "earliest" "J" (.long wa)) (F1_latest : Fld Z h0 r1 "com/example/forehold/forehold/ledger/Job" "latest" "J" (.long wb)) (F1_length : Fld Z h0 r1 "com/example/forehold/forehold/ledger/Job" "length" "J" (.long wc)) (F1_nodes : Fld Z h0 r1 "com/example/forehold/forehold/ledger/Job" "nodes" "I" (.int wn)) :
    MetFree l (⟨"com/example/forehold/forehold/ledger/Job", "alike", "(Lcom/example/forehold/forehold/ledger/Job;)Z"⟩ : MethodName) (head1 (Jvm.Cond.code (⟨"com/example/forehold/forehold/ledger/Job", "alike", "(Lcom/example/forehold/forehold/ledger/Job;)Z"⟩ : MethodName) prog_87_method_3_code 2 (some .boolean) :: ws) ({ frames := 0, cells := 0, slots := 0, locals := 0 } : Room)) (fun a U => a = #[(.ref r0), (.ref r1)] ∧ Z.Warmed39 U.vm ∧ U.heap = h0) (fun _ _ _ _ _ => True) (fun _ U o U' => ∃ v L, o = .returned v ∧ Q9 Z r0 r1 va vb vc vn wa wb wc wn h0 n0 v U'.heap L ∧ FrameEnd U o U' L ({ frames := 0, cells := 0, slots := 0, locals := 0 } : Room).cells ({ frames := 0, cells := 0, slots := 0, locals := 0 } : Room).slots) := by
  refine MetFree.of_bodySF (plainFor_of_name own_pn4) hisR ?_
  intro p e s m args below meth c s₁ Bd hml0 hP hK
  obtain ⟨rfl, hZ, hh⟩ := hP
  have hx := Bd.exec
  have hby := Bd.bytes
  have hml : c.maxLocals = 2 := hml0
  have hown : s.vm.findClass "com/example/forehold/forehold/ledger/Job" = some m.cls := findClass_of_methodNamed Bd.named
  have hnm := (name_of_methodNamed Bd.named Bd.method).1
  have hlk : meth.locks = false := BodyLoose.notSynchronized Bd
  have X0 : Stand p l e ({ frames := 0, cells := 0, slots := 0, locals := 0 } : Room) s m #[(.ref r0), (.ref r1)] below meth c s₁ [] 0 0 := Stand.of_body Bd
  have e0 : s₁.heap = h0 := by rw [← hh, Bd.state]; rfl
  have N0 := Fr.nil n0
  show GoesW p.tables e below s (Q9 Z r0 r1 va vb vc vn wa wb wc wn h0 n0) 0 0 (s₁.setTop (entryFrame m #[(.ref r0), (.ref r1)] 2))
  rw [ef_rm9 m r0 r1]
  show GoesW p.tables e below s (Q9 Z r0 r1 va vb vc vn wa wb wc wn h0 n0) 0 0 (s₁.setTop (mkF m 0 #[.val (.ref r0), .val (.ref r1)] []))
  refine GoesW.step (fun _ k => XS.aloadN X0.here hx rfl (hb hby d9_0) rfl rfl k) ?_
  show GoesW p.tables e below s (Q9 Z r0 r1 va vb vc vn wa wb wc wn h0 n0) 0 0 (s₁.setTop (mkF m 1 #[.val (.ref r0), .val (.ref r1)] [(.ref r0)]))
  obtain ⟨T1, X1, e1, st1⟩ := getF X0 hx hZ hown (host := "") (Or.inl (hw _ (List.mem_of_getElem? (i := 49) rfl))) Via.refl e0 F0_earliest (g := (mkF m 1 #[.val (.ref r0), .val (.ref r1)] [(.ref r0)])) rfl rfl (hb hby d9_1)
  refine GoesW.step st1 ?_
  show GoesW p.tables e below s (Q9 Z r0 r1 va vb vc vn wa wb wc wn h0 n0) 0 0 (T1.setTop (mkF m 4 #[.val (.ref r0), .val (.ref r1)] [(.long va)]))
  refine GoesW.step (fun _ k => XS.aloadN X1.here hx rfl (hb hby d9_4) rfl rfl k) ?_
  show GoesW p.tables e below s (Q9 Z r0 r1 va vb vc vn wa wb wc wn h0 n0) 0 0 (T1.setTop (mkF m 5 #[.val (.ref r0), .val (.ref r1)] [(.ref r1), (.long va)]))
  obtain ⟨T2, X2, e2, st2⟩ := getF X1 hx hZ hown (host := "") (Or.inl (hw _ (List.mem_of_getElem? (i := 49) rfl))) Via.refl e1 F1_earliest (g := (mkF m 5 #[.val (.ref r0), .val (.ref r1)] [(.ref r1), (.long va)])) rfl rfl (hb hby d9_5)
  refine GoesW.step st2 ?_
  show GoesW p.tables e below s (Q9 Z r0 r1 va vb vc vn wa wb wc wn h0 n0) 0 0 (T2.setTop (mkF m 8 #[.val (.ref r0), .val (.ref r1)] [(.long wa), (.long va)]))
  refine GoesW.step (fun _ k => XS.lcmp X2.here hx rfl (hb hby d9_8) rfl k) ?_
  show GoesW p.tables e below s (Q9 Z r0 r1 va vb vc vn wa wb wc wn h0 n0) 0 0 (T2.setTop (mkF m 9 #[.val (.ref r0), .val (.ref r1)] [(.int (lcmpW va wa))]))
  by_cases ha0 : (lcmpW va wa) = (0 : Int32)
  · skip
    refine GoesW.step (fun _ k => XS.ifNo X2.here hx rfl (hb hby d9_9) rfl ((if0 _ _).trans (teq ha0).2) k) ?_
    show GoesW p.tables e below s (Q9 Z r0 r1 va vb vc vn wa wb wc wn h0 n0) 0 0 (T2.setTop (mkF m 12 #[.val (.ref r0), .val (.ref r1)] []))
    refine GoesW.step (fun _ k => XS.aloadN X2.here hx rfl (hb hby d9_12) rfl rfl k) ?_
    show GoesW p.tables e below s (Q9 Z r0 r1 va vb vc vn wa wb wc wn h0 n0) 0 0 (T2.setTop (mkF m 13 #[.val (.ref r0), .val (.ref r1)] [(.ref r0)]))
    obtain ⟨T3, X3, e3, st3⟩ := getF X2 hx hZ hown (host := "") (Or.inl (hw _ (List.mem_of_getElem? (i := 51) rfl))) Via.refl e2 F0_latest (g := (mkF m 13 #[.val (.ref r0), .val (.ref r1)] [(.ref r0)])) rfl rfl (hb hby d9_13)
    refine GoesW.step st3 ?_
    show GoesW p.tables e below s (Q9 Z r0 r1 va vb vc vn wa wb wc wn h0 n0) 0 0 (T3.setTop (mkF m 16 #[.val (.ref r0), .val (.ref r1)] [(.long vb)]))
    refine GoesW.step (fun _ k => XS.aloadN X3.here hx rfl (hb hby d9_16) rfl rfl k) ?_
    show GoesW p.tables e below s (Q9 Z r0 r1 va vb vc vn wa wb wc wn h0 n0) 0 0 (T3.setTop (mkF m 17 #[.val (.ref r0), .val (.ref r1)] [(.ref r1), (.long vb)]))
    obtain ⟨T4, X4, e4, st4⟩ := getF X3 hx hZ hown (host := "") (Or.inl (hw _ (List.mem_of_getElem? (i := 51) rfl))) Via.refl e3 F1_latest (g := (mkF m 17 #[.val (.ref r0), .val (.ref r1)] [(.ref r1), (.long vb)])) rfl rfl (hb hby d9_17)
    refine GoesW.step st4 ?_
    show GoesW p.tables e below s (Q9 Z r0 r1 va vb vc vn wa wb wc wn h0 n0) 0 0 (T4.setTop (mkF m 20 #[.val (.ref r0), .val (.ref r1)] [(.long wb), (.long vb)]))
    refine GoesW.step (fun _ k => XS.lcmp X4.here hx rfl (hb hby d9_20) rfl k) ?_
    show GoesW p.tables e below s (Q9 Z r0 r1 va vb vc vn wa wb wc wn h0 n0) 0 0 (T4.setTop (mkF m 21 #[.val (.ref r0), .val (.ref r1)] [(.int (lcmpW vb wb))]))
    by_cases ha1 : (lcmpW vb wb) = (0 : Int32)
    · skip
      refine GoesW.step (fun _ k => XS.ifNo X4.here hx rfl (hb hby d9_21) rfl ((if0 _ _).trans (teq ha1).2) k) ?_
      show GoesW p.tables e below s (Q9 Z r0 r1 va vb vc vn wa wb wc wn h0 n0) 0 0 (T4.setTop (mkF m 24 #[.val (.ref r0), .val (.ref r1)] []))
      refine GoesW.step (fun _ k => XS.aloadN X4.here hx rfl (hb hby d9_24) rfl rfl k) ?_
      show GoesW p.tables e below s (Q9 Z r0 r1 va vb vc vn wa wb wc wn h0 n0) 0 0 (T4.setTop (mkF m 25 #[.val (.ref r0), .val (.ref r1)] [(.ref r0)]))
      obtain ⟨T5, X5, e5, st5⟩ := getF X4 hx hZ hown (host := "") (Or.inl (hw _ (List.mem_of_getElem? (i := 53) rfl))) Via.refl e4 F0_length (g := (mkF m 25 #[.val (.ref r0), .val (.ref r1)] [(.ref r0)])) rfl rfl (hb hby d9_25)
      refine GoesW.step st5 ?_
      show GoesW p.tables e below s (Q9 Z r0 r1 va vb vc vn wa wb wc wn h0 n0) 0 0 (T5.setTop (mkF m 28 #[.val (.ref r0), .val (.ref r1)] [(.long vc)]))
      refine GoesW.step (fun _ k => XS.aloadN X5.here hx rfl (hb hby d9_28) rfl rfl k) ?_
      show GoesW p.tables e below s (Q9 Z r0 r1 va vb vc vn wa wb wc wn h0 n0) 0 0 (T5.setTop (mkF m 29 #[.val (.ref r0), .val (.ref r1)] [(.ref r1), (.long vc)]))
      obtain ⟨T6, X6, e6, st6⟩ := getF X5 hx hZ hown (host := "") (Or.inl (hw _ (List.mem_of_getElem? (i := 53) rfl))) Via.refl e5 F1_length (g := (mkF m 29 #[.val (.ref r0), .val (.ref r1)] [(.ref r1), (.long vc)])) rfl rfl (hb hby d9_29)
      refine GoesW.step st6 ?_
      show GoesW p.tables e below s (Q9 Z r0 r1 va vb vc vn wa wb wc wn h0 n0) 0 0 (T6.setTop (mkF m 32 #[.val (.ref r0), .val (.ref r1)] [(.long wc), (.long vc)]))
      refine GoesW.step (fun _ k => XS.lcmp X6.here hx rfl (hb hby d9_32) rfl k) ?_
      show GoesW p.tables e below s (Q9 Z r0 r1 va vb vc vn wa wb wc wn h0 n0) 0 0 (T6.setTop (mkF m 33 #[.val (.ref r0), .val (.ref r1)] [(.int (lcmpW vc wc))]))
      by_cases ha2 : (lcmpW vc wc) = (0 : Int32)
      · skip
        refine GoesW.step (fun _ k => XS.ifNo X6.here hx rfl (hb hby d9_33) rfl ((if0 _ _).trans (teq ha2).2) k) ?_
        show GoesW p.tables e below s (Q9 Z r0 r1 va vb vc vn wa wb wc wn h0 n0) 0 0 (T6.setTop (mkF m 36 #[.val (.ref r0), .val (.ref r1)] []))
        refine GoesW.step (fun _ k => XS.aloadN X6.here hx rfl (hb hby d9_36) rfl rfl k) ?_
        show GoesW p.tables e below s (Q9 Z r0 r1 va vb vc vn wa wb wc wn h0 n0) 0 0 (T6.setTop (mkF m 37 #[.val (.ref r0), .val (.ref r1)] [(.ref r0)]))
        obtain ⟨T7, X7, e7, st7⟩ := getF X6 hx hZ hown (host := "") (Or.inl (hw _ (List.mem_of_getElem? (i := 55) rfl))) Via.refl e6 F0_nodes (g := (mkF m 37 #[.val (.ref r0), .val (.ref r1)] [(.ref r0)])) rfl rfl (hb hby d9_37)
        refine GoesW.step st7 ?_
        show GoesW p.tables e below s (Q9 Z r0 r1 va vb vc vn wa wb wc wn h0 n0) 0 0 (T7.setTop (mkF m 40 #[.val (.ref r0), .val (.ref r1)] [(.int vn)]))
        refine GoesW.step (fun _ k => XS.aloadN X7.here hx rfl (hb hby d9_40) rfl rfl k) ?_
        show GoesW p.tables e below s (Q9 Z r0 r1 va vb vc vn wa wb wc wn h0 n0) 0 0 (T7.setTop (mkF m 41 #[.val (.ref r0), .val (.ref r1)] [(.ref r1), (.int vn)]))
        obtain ⟨T8, X8, e8, st8⟩ := getF X7 hx hZ hown (host := "") (Or.inl (hw _ (List.mem_of_getElem? (i := 55) rfl))) Via.refl e7 F1_nodes (g := (mkF m 41 #[.val (.ref r0), .val (.ref r1)] [(.ref r1), (.int vn)])) rfl rfl (hb hby d9_41)
        refine GoesW.step st8 ?_
        show GoesW p.tables e below s (Q9 Z r0 r1 va vb vc vn wa wb wc wn h0 n0) 0 0 (T8.setTop (mkF m 44 #[.val (.ref r0), .val (.ref r1)] [(.int wn), (.int vn)]))
        by_cases ha3 : vn = wn
        · skip
          refine GoesW.step (fun _ k => XS.icmpNo X8.here hx rfl (hb hby d9_44) rfl (teq ha3).2 k) ?_
          show GoesW p.tables e below s (Q9 Z r0 r1 va vb vc vn wa wb wc wn h0 n0) 0 0 (T8.setTop (mkF m 47 #[.val (.ref r0), .val (.ref r1)] []))
          refine GoesW.step (fun _ k => XS.iconst X8.here hx rfl (hb hby d9_47) k) ?_
          show GoesW p.tables e below s (Q9 Z r0 r1 va vb vc vn wa wb wc wn h0 n0) 0 0 (T8.setTop (mkF m 48 #[.val (.ref r0), .val (.ref r1)] [(.int (1 : Int32))]))
          refine GoesW.step (fun _ k => XS.goto X8.here hx rfl (pc0 := 48) (pc' := 52) rfl (hb hby d9_48) (by decide) (by decide) k) ?_
          show GoesW p.tables e below s (Q9 Z r0 r1 va vb vc vn wa wb wc wn h0 n0) 0 0 (T8.setTop (mkF m 52 #[.val (.ref r0), .val (.ref r1)] [(.int (1 : Int32))]))
          exact GoesW.retZ X8 hx hlk (t := .boolean) Bd.returns (by simp) rfl (hb hby d9_52) (by show Q9 Z r0 r1 va vb vc vn wa wb wc wn h0 n0 _ T8.heap _; rw [e8]; exact ⟨by rw [own_al, if_pos ((lw_eq _ _).mp ha0), if_pos ((lw_eq _ _).mp ha1), if_pos ((lw_eq _ _).mp ha2), if_pos ha3], N0, rfl⟩) (by decide) (by decide)
        · skip
          refine GoesW.step (fun _ k => XS.icmpYes X8.here hx rfl (pc0 := 44) (pc' := 51) rfl (hb hby d9_44) rfl (feq ha3).2 (by decide) (by decide) k) ?_
          show GoesW p.tables e below s (Q9 Z r0 r1 va vb vc vn wa wb wc wn h0 n0) 0 0 (T8.setTop (mkF m 51 #[.val (.ref r0), .val (.ref r1)] []))
          refine GoesW.step (fun _ k => XS.iconst X8.here hx rfl (hb hby d9_51) k) ?_
          show GoesW p.tables e below s (Q9 Z r0 r1 va vb vc vn wa wb wc wn h0 n0) 0 0 (T8.setTop (mkF m 52 #[.val (.ref r0), .val (.ref r1)] [(.int (0 : Int32))]))
          exact GoesW.retZ X8 hx hlk (t := .boolean) Bd.returns (by simp) rfl (hb hby d9_52) (by show Q9 Z r0 r1 va vb vc vn wa wb wc wn h0 n0 _ T8.heap _; rw [e8]; exact ⟨by rw [own_al, if_pos ((lw_eq _ _).mp ha0), if_pos ((lw_eq _ _).mp ha1), if_pos ((lw_eq _ _).mp ha2), if_neg ha3], N0, rfl⟩) (by decide) (by decide)
      · skip
        refine GoesW.step (fun _ k => XS.ifYes X6.here hx rfl (pc0 := 33) (pc' := 51) rfl (hb hby d9_33) rfl ((if0 _ _).trans (feq ha2).2) (by decide) (by decide) k) ?_
        show GoesW p.tables e below s (Q9 Z r0 r1 va vb vc vn wa wb wc wn h0 n0) 0 0 (T6.setTop (mkF m 51 #[.val (.ref r0), .val (.ref r1)] []))
        refine GoesW.step (fun _ k => XS.iconst X6.here hx rfl (hb hby d9_51) k) ?_
        show GoesW p.tables e below s (Q9 Z r0 r1 va vb vc vn wa wb wc wn h0 n0) 0 0 (T6.setTop (mkF m 52 #[.val (.ref r0), .val (.ref r1)] [(.int (0 : Int32))]))
        exact GoesW.retZ X6 hx hlk (t := .boolean) Bd.returns (by simp) rfl (hb hby d9_52) (by show Q9 Z r0 r1 va vb vc vn wa wb wc wn h0 n0 _ T6.heap _; rw [e6]; exact ⟨by rw [own_al, if_pos ((lw_eq _ _).mp ha0), if_pos ((lw_eq _ _).mp ha1), if_neg (fun q => ha2 ((lw_eq _ _).mpr q))], N0, rfl⟩) (by decide) (by decide)
    · skip
      refine GoesW.step (fun _ k => XS.ifYes X4.here hx rfl (pc0 := 21) (pc' := 51) rfl (hb hby d9_21) rfl ((if0 _ _).trans (feq ha1).2) (by decide) (by decide) k) ?_
      show GoesW p.tables e below s (Q9 Z r0 r1 va vb vc vn wa wb wc wn h0 n0) 0 0 (T4.setTop (mkF m 51 #[.val (.ref r0), .val (.ref r1)] []))
      refine GoesW.step (fun _ k => XS.iconst X4.here hx rfl (hb hby d9_51) k) ?_
      show GoesW p.tables e below s (Q9 Z r0 r1 va vb vc vn wa wb wc wn h0 n0) 0 0 (T4.setTop (mkF m 52 #[.val (.ref r0), .val (.ref r1)] [(.int (0 : Int32))]))
      exact GoesW.retZ X4 hx hlk (t := .boolean) Bd.returns (by simp) rfl (hb hby d9_52) (by show Q9 Z r0 r1 va vb vc vn wa wb wc wn h0 n0 _ T4.heap _; rw [e4]; exact ⟨by rw [own_al, if_pos ((lw_eq _ _).mp ha0), if_neg (fun q => ha1 ((lw_eq _ _).mpr q))], N0, rfl⟩) (by decide) (by decide)
  · skip
    refine GoesW.step (fun _ k => XS.ifYes X2.here hx rfl (pc0 := 9) (pc' := 51) rfl (hb hby d9_9) rfl ((if0 _ _).trans (feq ha0).2) (by decide) (by decide) k) ?_
    show GoesW p.tables e below s (Q9 Z r0 r1 va vb vc vn wa wb wc wn h0 n0) 0 0 (T2.setTop (mkF m 51 #[.val (.ref r0), .val (.ref r1)] []))
    refine GoesW.step (fun _ k => XS.iconst X2.here hx rfl (hb hby d9_51) k) ?_
    show GoesW p.tables e below s (Q9 Z r0 r1 va vb vc vn wa wb wc wn h0 n0) 0 0 (T2.setTop (mkF m 52 #[.val (.ref r0), .val (.ref r1)] [(.int (0 : Int32))]))
    exact GoesW.retZ X2 hx hlk (t := .boolean) Bd.returns (by simp) rfl (hb hby d9_52) (by show Q9 Z r0 r1 va vb vc vn wa wb wc wn h0 n0 _ T2.heap _; rw [e2]; exact ⟨by rw [own_al, if_neg (fun q => ha0 ((lw_eq _ _).mpr q))], N0, rfl⟩) (by decide) (by decide)
theorem own_pd4 : parseMethodDescriptor "(C)Ljava/lang/String;" = some ⟨[.char], some (.object "java/lang/String")⟩ := by decide +kernel
theorem own_pd5 : parseMethodDescriptor "(I)Lcom/example/forehold/forehold/ledger/Kind;" = some ⟨[.int], some (.object "com/example/forehold/forehold/ledger/Kind")⟩ := by decide +kernel
theorem own_pd6 : parseMethodDescriptor "(Ljava/lang/String;Lcom/example/forehold/forehold/ledger/Kind;JJJIZZ)V" = some ⟨[(.object "java/lang/String"), (.object "com/example/forehold/forehold/ledger/Kind"), .long, .long, .long, .int, .boolean, .boolean], none⟩ := by decide +kernel
theorem own_pd7 : parseMethodDescriptor "(Lcom/example/forehold/forehold/ledger/Job;)Z" = some ⟨[(.object "com/example/forehold/forehold/ledger/Job")], some .boolean⟩ := by decide +kernel
theorem ef_rm0 (m : MethodId) (x0 : Int64) (x1 : Int64) (x2 : Int64) (x3 : Int32) (x4 : Int32) (x5 : Int64) : entryFrame m #[(.long x0), (.long x1), (.long x2), (.int x3), (.int x4), (.long x5)] maxLocals = mkF m 0 #[.val (.long x0), .second, .val (.long x1), .second, .val (.long x2), .second, .val (.int x3), .val (.int x4), .val (.long x5), .second, .unset, .unset, .unset, .unset, .unset, .unset, .unset, .unset, .unset, .unset, .unset, .unset, .unset, .unset, .unset, .unset, .unset, .unset, .unset, .unset, .unset, .unset, .unset] [] := by first | (simp [entryFrame, mkF, argsToLocals, Value.category, maxLocals]; done) | rfl
def Q0 (Z : State) (q0 : Int64) (q1 : Int64) (q2 : Int64) (p3 : Int32) (p4 : Int32) (q5 : Int64) (cs : Int32) (x_CO : Addr) (x_BUNDLE : Addr) (x_SERIES : Addr) (x_OUTAGE : Addr) (x_QUEUED : Addr) (h0 : Heap) (n0 : Nat) (v : Option Value) (h : Heap) (L : List Loc) : Prop := v = some (.int (1 : Int32)) ∧ Fr n0 L
set_option maxRecDepth 65536 in
set_option maxHeartbeats 40000000 in
theorem rm0 (l : Launch) (Z : State) (a0 : Array Value) (hw : ∀ d ∈ tables_1, d.before a0 Z = true) (ws : List Jvm.Cond) (q0 : Int64) (q1 : Int64) (q2 : Int64) (p3 : Int32) (p4 : Int32) (q5 : Int64) (cs : Int32) (x_CO : Addr) (x_BUNDLE : Addr) (x_SERIES : Addr) (x_OUTAGE : Addr) (x_QUEUED : Addr) (h0 : Heap) (n0 : Nat) (Z0 : n0 ≤ h0.size) (S_CS : Sta Z h0 "java/lang/String" "COMPACT_STRINGS" "Z" (.int cs)) (hcs : ¬ cs = (0 : Int32)) (S_CO : Sta Z h0 "com/example/forehold/forehold/ledger/Kind" "CO" "Lcom/example/forehold/forehold/ledger/Kind;" (.ref x_CO)) (S_BUNDLE : Sta Z h0 "com/example/forehold/forehold/ledger/Kind" "BUNDLE" "Lcom/example/forehold/forehold/ledger/Kind;" (.ref x_BUNDLE)) (S_SERIES : Sta Z h0 "com/example/forehold/forehold/ledger/Kind" "SERIES" "Lcom/example/forehold/forehold/ledger/Kind;" (.ref x_SERIES)) (S_OUTAGE : Sta Z h0 "com/example/forehold/forehold/ledger/Kind" "OUTAGE" "Lcom/example/forehold/forehold/ledger/Kind;" (.ref x_OUTAGE)) (S_QUEUED : Sta Z h0 "com/example/forehold/forehold/ledger/Kind" "QUEUED" "Lcom/example/forehold/forehold/ledger/Kind;" (.ref x_QUEUED)) :
    MetFree l x (head1 (Jvm.Cond.code x code maxLocals ret :: ws) room_1) (fun a U => a = #[(.long q0), (.long q1), (.long q2), (.int p3), (.int p4), (.long q5)] ∧ Z.Warmed39 U.vm ∧ U.heap = h0) (fun _ _ _ _ _ => True) (fun _ U o U' => ∃ v L, o = .returned v ∧ Q0 Z q0 q1 q2 p3 p4 q5 cs x_CO x_BUNDLE x_SERIES x_OUTAGE x_QUEUED h0 n0 v U'.heap L ∧ FrameEnd U o U' L room_1.cells room_1.slots) := by
  refine MetFree.of_bodySF (plainFor_of_name own_pn2) hisR ?_
  intro p e s m args below meth c s₁ Bd hml0 hP hK
  obtain ⟨rfl, hZ, hh⟩ := hP
  have hx := Bd.exec
  have hby := Bd.bytes
  have hml : c.maxLocals = 33 := hml0
  have hown : s.vm.findClass "com/example/forehold/forehold/ledger/JobAlikePinLaw" = some m.cls := findClass_of_methodNamed Bd.named
  have hnm := (name_of_methodNamed Bd.named Bd.method).1
  have hlk : meth.locks = false := BodyLoose.notSynchronized Bd
  have X0 : Stand p l e room_1 s m #[(.long q0), (.long q1), (.long q2), (.int p3), (.int p4), (.long q5)] below meth c s₁ [] 0 0 := Stand.of_body Bd
  have e0 : s₁.heap = h0 := by rw [← hh, Bd.state]; rfl
  have N0 := Fr.nil n0
  show GoesW p.tables e below s (Q0 Z q0 q1 q2 p3 p4 q5 cs x_CO x_BUNDLE x_SERIES x_OUTAGE x_QUEUED h0 n0) room_1.cells room_1.slots (s₁.setTop (entryFrame m #[(.long q0), (.long q1), (.long q2), (.int p3), (.int p4), (.long q5)] maxLocals))
  rw [ef_rm0 m q0 q1 q2 p3 p4 q5]
  show GoesW p.tables e below s (Q0 Z q0 q1 q2 p3 p4 q5 cs x_CO x_BUNDLE x_SERIES x_OUTAGE x_QUEUED h0 n0) room_1.cells room_1.slots (s₁.setTop (mkF m 0 #[.val (.long q0), .second, .val (.long q1), .second, .val (.long q2), .second, .val (.int p3), .val (.int p4), .val (.long q5), .second, .unset, .unset, .unset, .unset, .unset, .unset, .unset, .unset, .unset, .unset, .unset, .unset, .unset, .unset, .unset, .unset, .unset, .unset, .unset, .unset, .unset, .unset, .unset] []))
  refine GoesW.step (fun _ k => XS.iload X0.here hx rfl (hb hby at_0) rfl k) ?_
  show GoesW p.tables e below s (Q0 Z q0 q1 q2 p3 p4 q5 cs x_CO x_BUNDLE x_SERIES x_OUTAGE x_QUEUED h0 n0) room_1.cells room_1.slots (s₁.setTop (mkF m 2 #[.val (.long q0), .second, .val (.long q1), .second, .val (.long q2), .second, .val (.int p3), .val (.int p4), .val (.long q5), .second, .unset, .unset, .unset, .unset, .unset, .unset, .unset, .unset, .unset, .unset, .unset, .unset, .unset, .unset, .unset, .unset, .unset, .unset, .unset, .unset, .unset, .unset, .unset] [(.int p4)]))
  refine GoesW.step (fun _ k => XS.iconst X0.here hx rfl (hb hby at_2) k) ?_
  show GoesW p.tables e below s (Q0 Z q0 q1 q2 p3 p4 q5 cs x_CO x_BUNDLE x_SERIES x_OUTAGE x_QUEUED h0 n0) room_1.cells room_1.slots (s₁.setTop (mkF m 3 #[.val (.long q0), .second, .val (.long q1), .second, .val (.long q2), .second, .val (.int p3), .val (.int p4), .val (.long q5), .second, .unset, .unset, .unset, .unset, .unset, .unset, .unset, .unset, .unset, .unset, .unset, .unset, .unset, .unset, .unset, .unset, .unset, .unset, .unset, .unset, .unset, .unset, .unset] [(.int (1 : Int32)), (.int p4)]))
  refine GoesW.step (fun _ k => XS.iand X0.here hx rfl (hb hby at_3) rfl k) ?_
  show GoesW p.tables e below s (Q0 Z q0 q1 q2 p3 p4 q5 cs x_CO x_BUNDLE x_SERIES x_OUTAGE x_QUEUED h0 n0) room_1.cells room_1.slots (s₁.setTop (mkF m 4 #[.val (.long q0), .second, .val (.long q1), .second, .val (.long q2), .second, .val (.int p3), .val (.int p4), .val (.long q5), .second, .unset, .unset, .unset, .unset, .unset, .unset, .unset, .unset, .unset, .unset, .unset, .unset, .unset, .unset, .unset, .unset, .unset, .unset, .unset, .unset, .unset, .unset, .unset] [(.int (p4 &&& (1 : Int32)))]))
  refine GoesW.step (fun _ k => diam0 X0.here hx rfl (pc0 := 4) rfl (hb hby at_4) rfl (hb hby at_7) (hb hby at_8) (hb hby at_11) k) ?_
  show GoesW p.tables e below s (Q0 Z q0 q1 q2 p3 p4 q5 cs x_CO x_BUNDLE x_SERIES x_OUTAGE x_QUEUED h0 n0) room_1.cells room_1.slots (s₁.setTop (mkF m 12 #[.val (.long q0), .second, .val (.long q1), .second, .val (.long q2), .second, .val (.int p3), .val (.int p4), .val (.long q5), .second, .unset, .unset, .unset, .unset, .unset, .unset, .unset, .unset, .unset, .unset, .unset, .unset, .unset, .unset, .unset, .unset, .unset, .unset, .unset, .unset, .unset, .unset, .unset] [(.int (nb (ifCond.holds .eq (p4 &&& (1 : Int32)))))]))
  generalize hpe : (nb (ifCond.holds .eq (p4 &&& (1 : Int32)))) = pe
  show GoesW p.tables e below s (Q0 Z q0 q1 q2 p3 p4 q5 cs x_CO x_BUNDLE x_SERIES x_OUTAGE x_QUEUED h0 n0) room_1.cells room_1.slots (s₁.setTop (mkF m 12 #[.val (.long q0), .second, .val (.long q1), .second, .val (.long q2), .second, .val (.int p3), .val (.int p4), .val (.long q5), .second, .unset, .unset, .unset, .unset, .unset, .unset, .unset, .unset, .unset, .unset, .unset, .unset, .unset, .unset, .unset, .unset, .unset, .unset, .unset, .unset, .unset, .unset, .unset] [(.int pe)]))
  refine GoesW.step (fun _ k => XS.istore X0.here hx rfl (hb hby at_12) rfl (l' := #[.val (.long q0), .second, .val (.long q1), .second, .val (.long q2), .second, .val (.int p3), .val (.int p4), .val (.long q5), .second, .val (.int pe), .unset, .unset, .unset, .unset, .unset, .unset, .unset, .unset, .unset, .unset, .unset, .unset, .unset, .unset, .unset, .unset, .unset, .unset, .unset, .unset, .unset, .unset]) rfl k) ?_
  show GoesW p.tables e below s (Q0 Z q0 q1 q2 p3 p4 q5 cs x_CO x_BUNDLE x_SERIES x_OUTAGE x_QUEUED h0 n0) room_1.cells room_1.slots (s₁.setTop (mkF m 14 #[.val (.long q0), .second, .val (.long q1), .second, .val (.long q2), .second, .val (.int p3), .val (.int p4), .val (.long q5), .second, .val (.int pe), .unset, .unset, .unset, .unset, .unset, .unset, .unset, .unset, .unset, .unset, .unset, .unset, .unset, .unset, .unset, .unset, .unset, .unset, .unset, .unset, .unset, .unset] []))
  refine GoesW.step (fun _ k => XS.iload X0.here hx rfl (hb hby at_14) rfl k) ?_
  show GoesW p.tables e below s (Q0 Z q0 q1 q2 p3 p4 q5 cs x_CO x_BUNDLE x_SERIES x_OUTAGE x_QUEUED h0 n0) room_1.cells room_1.slots (s₁.setTop (mkF m 16 #[.val (.long q0), .second, .val (.long q1), .second, .val (.long q2), .second, .val (.int p3), .val (.int p4), .val (.long q5), .second, .val (.int pe), .unset, .unset, .unset, .unset, .unset, .unset, .unset, .unset, .unset, .unset, .unset, .unset, .unset, .unset, .unset, .unset, .unset, .unset, .unset, .unset, .unset, .unset] [(.int p4)]))
  refine GoesW.step (fun _ k => XS.iconst X0.here hx rfl (hb hby at_16) k) ?_
  show GoesW p.tables e below s (Q0 Z q0 q1 q2 p3 p4 q5 cs x_CO x_BUNDLE x_SERIES x_OUTAGE x_QUEUED h0 n0) room_1.cells room_1.slots (s₁.setTop (mkF m 17 #[.val (.long q0), .second, .val (.long q1), .second, .val (.long q2), .second, .val (.int p3), .val (.int p4), .val (.long q5), .second, .val (.int pe), .unset, .unset, .unset, .unset, .unset, .unset, .unset, .unset, .unset, .unset, .unset, .unset, .unset, .unset, .unset, .unset, .unset, .unset, .unset, .unset, .unset, .unset] [(.int (2 : Int32)), (.int p4)]))
  refine GoesW.step (fun _ k => XS.iand X0.here hx rfl (hb hby at_17) rfl k) ?_
  show GoesW p.tables e below s (Q0 Z q0 q1 q2 p3 p4 q5 cs x_CO x_BUNDLE x_SERIES x_OUTAGE x_QUEUED h0 n0) room_1.cells room_1.slots (s₁.setTop (mkF m 18 #[.val (.long q0), .second, .val (.long q1), .second, .val (.long q2), .second, .val (.int p3), .val (.int p4), .val (.long q5), .second, .val (.int pe), .unset, .unset, .unset, .unset, .unset, .unset, .unset, .unset, .unset, .unset, .unset, .unset, .unset, .unset, .unset, .unset, .unset, .unset, .unset, .unset, .unset, .unset] [(.int (p4 &&& (2 : Int32)))]))
  refine GoesW.step (fun _ k => diam0 X0.here hx rfl (pc0 := 18) rfl (hb hby at_18) rfl (hb hby at_21) (hb hby at_22) (hb hby at_25) k) ?_
  show GoesW p.tables e below s (Q0 Z q0 q1 q2 p3 p4 q5 cs x_CO x_BUNDLE x_SERIES x_OUTAGE x_QUEUED h0 n0) room_1.cells room_1.slots (s₁.setTop (mkF m 26 #[.val (.long q0), .second, .val (.long q1), .second, .val (.long q2), .second, .val (.int p3), .val (.int p4), .val (.long q5), .second, .val (.int pe), .unset, .unset, .unset, .unset, .unset, .unset, .unset, .unset, .unset, .unset, .unset, .unset, .unset, .unset, .unset, .unset, .unset, .unset, .unset, .unset, .unset, .unset] [(.int (nb (ifCond.holds .eq (p4 &&& (2 : Int32)))))]))
  generalize hpl : (nb (ifCond.holds .eq (p4 &&& (2 : Int32)))) = pl
  show GoesW p.tables e below s (Q0 Z q0 q1 q2 p3 p4 q5 cs x_CO x_BUNDLE x_SERIES x_OUTAGE x_QUEUED h0 n0) room_1.cells room_1.slots (s₁.setTop (mkF m 26 #[.val (.long q0), .second, .val (.long q1), .second, .val (.long q2), .second, .val (.int p3), .val (.int p4), .val (.long q5), .second, .val (.int pe), .unset, .unset, .unset, .unset, .unset, .unset, .unset, .unset, .unset, .unset, .unset, .unset, .unset, .unset, .unset, .unset, .unset, .unset, .unset, .unset, .unset, .unset] [(.int pl)]))
  refine GoesW.step (fun _ k => XS.istore X0.here hx rfl (hb hby at_26) rfl (l' := #[.val (.long q0), .second, .val (.long q1), .second, .val (.long q2), .second, .val (.int p3), .val (.int p4), .val (.long q5), .second, .val (.int pe), .val (.int pl), .unset, .unset, .unset, .unset, .unset, .unset, .unset, .unset, .unset, .unset, .unset, .unset, .unset, .unset, .unset, .unset, .unset, .unset, .unset, .unset, .unset]) rfl k) ?_
  show GoesW p.tables e below s (Q0 Z q0 q1 q2 p3 p4 q5 cs x_CO x_BUNDLE x_SERIES x_OUTAGE x_QUEUED h0 n0) room_1.cells room_1.slots (s₁.setTop (mkF m 28 #[.val (.long q0), .second, .val (.long q1), .second, .val (.long q2), .second, .val (.int p3), .val (.int p4), .val (.long q5), .second, .val (.int pe), .val (.int pl), .unset, .unset, .unset, .unset, .unset, .unset, .unset, .unset, .unset, .unset, .unset, .unset, .unset, .unset, .unset, .unset, .unset, .unset, .unset, .unset, .unset] []))
  refine GoesW.step (fun _ k => XS.iload X0.here hx rfl (hb hby at_28) rfl k) ?_
  show GoesW p.tables e below s (Q0 Z q0 q1 q2 p3 p4 q5 cs x_CO x_BUNDLE x_SERIES x_OUTAGE x_QUEUED h0 n0) room_1.cells room_1.slots (s₁.setTop (mkF m 30 #[.val (.long q0), .second, .val (.long q1), .second, .val (.long q2), .second, .val (.int p3), .val (.int p4), .val (.long q5), .second, .val (.int pe), .val (.int pl), .unset, .unset, .unset, .unset, .unset, .unset, .unset, .unset, .unset, .unset, .unset, .unset, .unset, .unset, .unset, .unset, .unset, .unset, .unset, .unset, .unset] [(.int p4)]))
  refine GoesW.step (fun _ k => XS.iconst X0.here hx rfl (hb hby at_30) k) ?_
  show GoesW p.tables e below s (Q0 Z q0 q1 q2 p3 p4 q5 cs x_CO x_BUNDLE x_SERIES x_OUTAGE x_QUEUED h0 n0) room_1.cells room_1.slots (s₁.setTop (mkF m 31 #[.val (.long q0), .second, .val (.long q1), .second, .val (.long q2), .second, .val (.int p3), .val (.int p4), .val (.long q5), .second, .val (.int pe), .val (.int pl), .unset, .unset, .unset, .unset, .unset, .unset, .unset, .unset, .unset, .unset, .unset, .unset, .unset, .unset, .unset, .unset, .unset, .unset, .unset, .unset, .unset] [(.int (4 : Int32)), (.int p4)]))
  refine GoesW.step (fun _ k => XS.iand X0.here hx rfl (hb hby at_31) rfl k) ?_
  show GoesW p.tables e below s (Q0 Z q0 q1 q2 p3 p4 q5 cs x_CO x_BUNDLE x_SERIES x_OUTAGE x_QUEUED h0 n0) room_1.cells room_1.slots (s₁.setTop (mkF m 32 #[.val (.long q0), .second, .val (.long q1), .second, .val (.long q2), .second, .val (.int p3), .val (.int p4), .val (.long q5), .second, .val (.int pe), .val (.int pl), .unset, .unset, .unset, .unset, .unset, .unset, .unset, .unset, .unset, .unset, .unset, .unset, .unset, .unset, .unset, .unset, .unset, .unset, .unset, .unset, .unset] [(.int (p4 &&& (4 : Int32)))]))
  refine GoesW.step (fun _ k => diam0 X0.here hx rfl (pc0 := 32) rfl (hb hby at_32) rfl (hb hby at_35) (hb hby at_36) (hb hby at_39) k) ?_
  show GoesW p.tables e below s (Q0 Z q0 q1 q2 p3 p4 q5 cs x_CO x_BUNDLE x_SERIES x_OUTAGE x_QUEUED h0 n0) room_1.cells room_1.slots (s₁.setTop (mkF m 40 #[.val (.long q0), .second, .val (.long q1), .second, .val (.long q2), .second, .val (.int p3), .val (.int p4), .val (.long q5), .second, .val (.int pe), .val (.int pl), .unset, .unset, .unset, .unset, .unset, .unset, .unset, .unset, .unset, .unset, .unset, .unset, .unset, .unset, .unset, .unset, .unset, .unset, .unset, .unset, .unset] [(.int (nb (ifCond.holds .eq (p4 &&& (4 : Int32)))))]))
  generalize hpg : (nb (ifCond.holds .eq (p4 &&& (4 : Int32)))) = pg
  show GoesW p.tables e below s (Q0 Z q0 q1 q2 p3 p4 q5 cs x_CO x_BUNDLE x_SERIES x_OUTAGE x_QUEUED h0 n0) room_1.cells room_1.slots (s₁.setTop (mkF m 40 #[.val (.long q0), .second, .val (.long q1), .second, .val (.long q2), .second, .val (.int p3), .val (.int p4), .val (.long q5), .second, .val (.int pe), .val (.int pl), .unset, .unset, .unset, .unset, .unset, .unset, .unset, .unset, .unset, .unset, .unset, .unset, .unset, .unset, .unset, .unset, .unset, .unset, .unset, .unset, .unset] [(.int pg)]))
  refine GoesW.step (fun _ k => XS.istore X0.here hx rfl (hb hby at_40) rfl (l' := #[.val (.long q0), .second, .val (.long q1), .second, .val (.long q2), .second, .val (.int p3), .val (.int p4), .val (.long q5), .second, .val (.int pe), .val (.int pl), .val (.int pg), .unset, .unset, .unset, .unset, .unset, .unset, .unset, .unset, .unset, .unset, .unset, .unset, .unset, .unset, .unset, .unset, .unset, .unset, .unset, .unset]) rfl k) ?_
  show GoesW p.tables e below s (Q0 Z q0 q1 q2 p3 p4 q5 cs x_CO x_BUNDLE x_SERIES x_OUTAGE x_QUEUED h0 n0) room_1.cells room_1.slots (s₁.setTop (mkF m 42 #[.val (.long q0), .second, .val (.long q1), .second, .val (.long q2), .second, .val (.int p3), .val (.int p4), .val (.long q5), .second, .val (.int pe), .val (.int pl), .val (.int pg), .unset, .unset, .unset, .unset, .unset, .unset, .unset, .unset, .unset, .unset, .unset, .unset, .unset, .unset, .unset, .unset, .unset, .unset, .unset, .unset] []))
  refine GoesW.step (fun _ k => XS.iload X0.here hx rfl (hb hby at_42) rfl k) ?_
  show GoesW p.tables e below s (Q0 Z q0 q1 q2 p3 p4 q5 cs x_CO x_BUNDLE x_SERIES x_OUTAGE x_QUEUED h0 n0) room_1.cells room_1.slots (s₁.setTop (mkF m 44 #[.val (.long q0), .second, .val (.long q1), .second, .val (.long q2), .second, .val (.int p3), .val (.int p4), .val (.long q5), .second, .val (.int pe), .val (.int pl), .val (.int pg), .unset, .unset, .unset, .unset, .unset, .unset, .unset, .unset, .unset, .unset, .unset, .unset, .unset, .unset, .unset, .unset, .unset, .unset, .unset, .unset] [(.int p4)]))
  refine GoesW.step (fun _ k => XS.bipush X0.here hx rfl (hb hby at_44) k) ?_
  show GoesW p.tables e below s (Q0 Z q0 q1 q2 p3 p4 q5 cs x_CO x_BUNDLE x_SERIES x_OUTAGE x_QUEUED h0 n0) room_1.cells room_1.slots (s₁.setTop (mkF m 46 #[.val (.long q0), .second, .val (.long q1), .second, .val (.long q2), .second, .val (.int p3), .val (.int p4), .val (.long q5), .second, .val (.int pe), .val (.int pl), .val (.int pg), .unset, .unset, .unset, .unset, .unset, .unset, .unset, .unset, .unset, .unset, .unset, .unset, .unset, .unset, .unset, .unset, .unset, .unset, .unset, .unset] [(.int (8 : Int32)), (.int p4)]))
  refine GoesW.step (fun _ k => XS.iand X0.here hx rfl (hb hby at_46) rfl k) ?_
  show GoesW p.tables e below s (Q0 Z q0 q1 q2 p3 p4 q5 cs x_CO x_BUNDLE x_SERIES x_OUTAGE x_QUEUED h0 n0) room_1.cells room_1.slots (s₁.setTop (mkF m 47 #[.val (.long q0), .second, .val (.long q1), .second, .val (.long q2), .second, .val (.int p3), .val (.int p4), .val (.long q5), .second, .val (.int pe), .val (.int pl), .val (.int pg), .unset, .unset, .unset, .unset, .unset, .unset, .unset, .unset, .unset, .unset, .unset, .unset, .unset, .unset, .unset, .unset, .unset, .unset, .unset, .unset] [(.int (p4 &&& (8 : Int32)))]))
  refine GoesW.step (fun _ k => diam0 X0.here hx rfl (pc0 := 47) rfl (hb hby at_47) rfl (hb hby at_50) (hb hby at_51) (hb hby at_54) k) ?_
  show GoesW p.tables e below s (Q0 Z q0 q1 q2 p3 p4 q5 cs x_CO x_BUNDLE x_SERIES x_OUTAGE x_QUEUED h0 n0) room_1.cells room_1.slots (s₁.setTop (mkF m 55 #[.val (.long q0), .second, .val (.long q1), .second, .val (.long q2), .second, .val (.int p3), .val (.int p4), .val (.long q5), .second, .val (.int pe), .val (.int pl), .val (.int pg), .unset, .unset, .unset, .unset, .unset, .unset, .unset, .unset, .unset, .unset, .unset, .unset, .unset, .unset, .unset, .unset, .unset, .unset, .unset, .unset] [(.int (nb (ifCond.holds .eq (p4 &&& (8 : Int32)))))]))
  generalize hpn : (nb (ifCond.holds .eq (p4 &&& (8 : Int32)))) = pn
  show GoesW p.tables e below s (Q0 Z q0 q1 q2 p3 p4 q5 cs x_CO x_BUNDLE x_SERIES x_OUTAGE x_QUEUED h0 n0) room_1.cells room_1.slots (s₁.setTop (mkF m 55 #[.val (.long q0), .second, .val (.long q1), .second, .val (.long q2), .second, .val (.int p3), .val (.int p4), .val (.long q5), .second, .val (.int pe), .val (.int pl), .val (.int pg), .unset, .unset, .unset, .unset, .unset, .unset, .unset, .unset, .unset, .unset, .unset, .unset, .unset, .unset, .unset, .unset, .unset, .unset, .unset, .unset] [(.int pn)]))
  refine GoesW.step (fun _ k => XS.istore X0.here hx rfl (hb hby at_55) rfl (l' := #[.val (.long q0), .second, .val (.long q1), .second, .val (.long q2), .second, .val (.int p3), .val (.int p4), .val (.long q5), .second, .val (.int pe), .val (.int pl), .val (.int pg), .val (.int pn), .unset, .unset, .unset, .unset, .unset, .unset, .unset, .unset, .unset, .unset, .unset, .unset, .unset, .unset, .unset, .unset, .unset, .unset, .unset]) rfl k) ?_
  show GoesW p.tables e below s (Q0 Z q0 q1 q2 p3 p4 q5 cs x_CO x_BUNDLE x_SERIES x_OUTAGE x_QUEUED h0 n0) room_1.cells room_1.slots (s₁.setTop (mkF m 57 #[.val (.long q0), .second, .val (.long q1), .second, .val (.long q2), .second, .val (.int p3), .val (.int p4), .val (.long q5), .second, .val (.int pe), .val (.int pl), .val (.int pg), .val (.int pn), .unset, .unset, .unset, .unset, .unset, .unset, .unset, .unset, .unset, .unset, .unset, .unset, .unset, .unset, .unset, .unset, .unset, .unset, .unset] []))
  refine GoesW.step (fun _ k => XS.iload X0.here hx rfl (hb hby at_57) rfl k) ?_
  show GoesW p.tables e below s (Q0 Z q0 q1 q2 p3 p4 q5 cs x_CO x_BUNDLE x_SERIES x_OUTAGE x_QUEUED h0 n0) room_1.cells room_1.slots (s₁.setTop (mkF m 59 #[.val (.long q0), .second, .val (.long q1), .second, .val (.long q2), .second, .val (.int p3), .val (.int p4), .val (.long q5), .second, .val (.int pe), .val (.int pl), .val (.int pg), .val (.int pn), .unset, .unset, .unset, .unset, .unset, .unset, .unset, .unset, .unset, .unset, .unset, .unset, .unset, .unset, .unset, .unset, .unset, .unset, .unset] [(.int p4)]))
  refine GoesW.step (fun _ k => XS.bipush X0.here hx rfl (hb hby at_59) k) ?_
  show GoesW p.tables e below s (Q0 Z q0 q1 q2 p3 p4 q5 cs x_CO x_BUNDLE x_SERIES x_OUTAGE x_QUEUED h0 n0) room_1.cells room_1.slots (s₁.setTop (mkF m 61 #[.val (.long q0), .second, .val (.long q1), .second, .val (.long q2), .second, .val (.int p3), .val (.int p4), .val (.long q5), .second, .val (.int pe), .val (.int pl), .val (.int pg), .val (.int pn), .unset, .unset, .unset, .unset, .unset, .unset, .unset, .unset, .unset, .unset, .unset, .unset, .unset, .unset, .unset, .unset, .unset, .unset, .unset] [(.int (16 : Int32)), (.int p4)]))
  refine GoesW.step (fun _ k => XS.iand X0.here hx rfl (hb hby at_61) rfl k) ?_
  show GoesW p.tables e below s (Q0 Z q0 q1 q2 p3 p4 q5 cs x_CO x_BUNDLE x_SERIES x_OUTAGE x_QUEUED h0 n0) room_1.cells room_1.slots (s₁.setTop (mkF m 62 #[.val (.long q0), .second, .val (.long q1), .second, .val (.long q2), .second, .val (.int p3), .val (.int p4), .val (.long q5), .second, .val (.int pe), .val (.int pl), .val (.int pg), .val (.int pn), .unset, .unset, .unset, .unset, .unset, .unset, .unset, .unset, .unset, .unset, .unset, .unset, .unset, .unset, .unset, .unset, .unset, .unset, .unset] [(.int (p4 &&& (16 : Int32)))]))
  refine GoesW.step (fun _ k => diam0 X0.here hx rfl (pc0 := 62) rfl (hb hby at_62) rfl (hb hby at_65) (hb hby at_66) (hb hby at_69) k) ?_
  show GoesW p.tables e below s (Q0 Z q0 q1 q2 p3 p4 q5 cs x_CO x_BUNDLE x_SERIES x_OUTAGE x_QUEUED h0 n0) room_1.cells room_1.slots (s₁.setTop (mkF m 70 #[.val (.long q0), .second, .val (.long q1), .second, .val (.long q2), .second, .val (.int p3), .val (.int p4), .val (.long q5), .second, .val (.int pe), .val (.int pl), .val (.int pg), .val (.int pn), .unset, .unset, .unset, .unset, .unset, .unset, .unset, .unset, .unset, .unset, .unset, .unset, .unset, .unset, .unset, .unset, .unset, .unset, .unset] [(.int (nb (ifCond.holds .eq (p4 &&& (16 : Int32)))))]))
  generalize hs1 : (nb (ifCond.holds .eq (p4 &&& (16 : Int32)))) = s1
  show GoesW p.tables e below s (Q0 Z q0 q1 q2 p3 p4 q5 cs x_CO x_BUNDLE x_SERIES x_OUTAGE x_QUEUED h0 n0) room_1.cells room_1.slots (s₁.setTop (mkF m 70 #[.val (.long q0), .second, .val (.long q1), .second, .val (.long q2), .second, .val (.int p3), .val (.int p4), .val (.long q5), .second, .val (.int pe), .val (.int pl), .val (.int pg), .val (.int pn), .unset, .unset, .unset, .unset, .unset, .unset, .unset, .unset, .unset, .unset, .unset, .unset, .unset, .unset, .unset, .unset, .unset, .unset, .unset] [(.int s1)]))
  refine GoesW.step (fun _ k => XS.istore X0.here hx rfl (hb hby at_70) rfl (l' := #[.val (.long q0), .second, .val (.long q1), .second, .val (.long q2), .second, .val (.int p3), .val (.int p4), .val (.long q5), .second, .val (.int pe), .val (.int pl), .val (.int pg), .val (.int pn), .val (.int s1), .unset, .unset, .unset, .unset, .unset, .unset, .unset, .unset, .unset, .unset, .unset, .unset, .unset, .unset, .unset, .unset, .unset, .unset]) rfl k) ?_
  show GoesW p.tables e below s (Q0 Z q0 q1 q2 p3 p4 q5 cs x_CO x_BUNDLE x_SERIES x_OUTAGE x_QUEUED h0 n0) room_1.cells room_1.slots (s₁.setTop (mkF m 72 #[.val (.long q0), .second, .val (.long q1), .second, .val (.long q2), .second, .val (.int p3), .val (.int p4), .val (.long q5), .second, .val (.int pe), .val (.int pl), .val (.int pg), .val (.int pn), .val (.int s1), .unset, .unset, .unset, .unset, .unset, .unset, .unset, .unset, .unset, .unset, .unset, .unset, .unset, .unset, .unset, .unset, .unset, .unset] []))
  refine GoesW.step (fun _ k => XS.iload X0.here hx rfl (hb hby at_72) rfl k) ?_
  show GoesW p.tables e below s (Q0 Z q0 q1 q2 p3 p4 q5 cs x_CO x_BUNDLE x_SERIES x_OUTAGE x_QUEUED h0 n0) room_1.cells room_1.slots (s₁.setTop (mkF m 74 #[.val (.long q0), .second, .val (.long q1), .second, .val (.long q2), .second, .val (.int p3), .val (.int p4), .val (.long q5), .second, .val (.int pe), .val (.int pl), .val (.int pg), .val (.int pn), .val (.int s1), .unset, .unset, .unset, .unset, .unset, .unset, .unset, .unset, .unset, .unset, .unset, .unset, .unset, .unset, .unset, .unset, .unset, .unset] [(.int p4)]))
  refine GoesW.step (fun _ k => XS.bipush X0.here hx rfl (hb hby at_74) k) ?_
  show GoesW p.tables e below s (Q0 Z q0 q1 q2 p3 p4 q5 cs x_CO x_BUNDLE x_SERIES x_OUTAGE x_QUEUED h0 n0) room_1.cells room_1.slots (s₁.setTop (mkF m 76 #[.val (.long q0), .second, .val (.long q1), .second, .val (.long q2), .second, .val (.int p3), .val (.int p4), .val (.long q5), .second, .val (.int pe), .val (.int pl), .val (.int pg), .val (.int pn), .val (.int s1), .unset, .unset, .unset, .unset, .unset, .unset, .unset, .unset, .unset, .unset, .unset, .unset, .unset, .unset, .unset, .unset, .unset, .unset] [(.int (32 : Int32)), (.int p4)]))
  refine GoesW.step (fun _ k => XS.iand X0.here hx rfl (hb hby at_76) rfl k) ?_
  show GoesW p.tables e below s (Q0 Z q0 q1 q2 p3 p4 q5 cs x_CO x_BUNDLE x_SERIES x_OUTAGE x_QUEUED h0 n0) room_1.cells room_1.slots (s₁.setTop (mkF m 77 #[.val (.long q0), .second, .val (.long q1), .second, .val (.long q2), .second, .val (.int p3), .val (.int p4), .val (.long q5), .second, .val (.int pe), .val (.int pl), .val (.int pg), .val (.int pn), .val (.int s1), .unset, .unset, .unset, .unset, .unset, .unset, .unset, .unset, .unset, .unset, .unset, .unset, .unset, .unset, .unset, .unset, .unset, .unset] [(.int (p4 &&& (32 : Int32)))]))
  refine GoesW.step (fun _ k => diam0 X0.here hx rfl (pc0 := 77) rfl (hb hby at_77) rfl (hb hby at_80) (hb hby at_81) (hb hby at_84) k) ?_
  show GoesW p.tables e below s (Q0 Z q0 q1 q2 p3 p4 q5 cs x_CO x_BUNDLE x_SERIES x_OUTAGE x_QUEUED h0 n0) room_1.cells room_1.slots (s₁.setTop (mkF m 85 #[.val (.long q0), .second, .val (.long q1), .second, .val (.long q2), .second, .val (.int p3), .val (.int p4), .val (.long q5), .second, .val (.int pe), .val (.int pl), .val (.int pg), .val (.int pn), .val (.int s1), .unset, .unset, .unset, .unset, .unset, .unset, .unset, .unset, .unset, .unset, .unset, .unset, .unset, .unset, .unset, .unset, .unset, .unset] [(.int (nb (ifCond.holds .eq (p4 &&& (32 : Int32)))))]))
  generalize hs2 : (nb (ifCond.holds .eq (p4 &&& (32 : Int32)))) = s2
  show GoesW p.tables e below s (Q0 Z q0 q1 q2 p3 p4 q5 cs x_CO x_BUNDLE x_SERIES x_OUTAGE x_QUEUED h0 n0) room_1.cells room_1.slots (s₁.setTop (mkF m 85 #[.val (.long q0), .second, .val (.long q1), .second, .val (.long q2), .second, .val (.int p3), .val (.int p4), .val (.long q5), .second, .val (.int pe), .val (.int pl), .val (.int pg), .val (.int pn), .val (.int s1), .unset, .unset, .unset, .unset, .unset, .unset, .unset, .unset, .unset, .unset, .unset, .unset, .unset, .unset, .unset, .unset, .unset, .unset] [(.int s2)]))
  refine GoesW.step (fun _ k => XS.istore X0.here hx rfl (hb hby at_85) rfl (l' := #[.val (.long q0), .second, .val (.long q1), .second, .val (.long q2), .second, .val (.int p3), .val (.int p4), .val (.long q5), .second, .val (.int pe), .val (.int pl), .val (.int pg), .val (.int pn), .val (.int s1), .val (.int s2), .unset, .unset, .unset, .unset, .unset, .unset, .unset, .unset, .unset, .unset, .unset, .unset, .unset, .unset, .unset, .unset, .unset]) rfl k) ?_
  show GoesW p.tables e below s (Q0 Z q0 q1 q2 p3 p4 q5 cs x_CO x_BUNDLE x_SERIES x_OUTAGE x_QUEUED h0 n0) room_1.cells room_1.slots (s₁.setTop (mkF m 87 #[.val (.long q0), .second, .val (.long q1), .second, .val (.long q2), .second, .val (.int p3), .val (.int p4), .val (.long q5), .second, .val (.int pe), .val (.int pl), .val (.int pg), .val (.int pn), .val (.int s1), .val (.int s2), .unset, .unset, .unset, .unset, .unset, .unset, .unset, .unset, .unset, .unset, .unset, .unset, .unset, .unset, .unset, .unset, .unset] []))
  refine GoesW.step (fun _ k => XS.iload X0.here hx rfl (hb hby at_87) rfl k) ?_
  show GoesW p.tables e below s (Q0 Z q0 q1 q2 p3 p4 q5 cs x_CO x_BUNDLE x_SERIES x_OUTAGE x_QUEUED h0 n0) room_1.cells room_1.slots (s₁.setTop (mkF m 89 #[.val (.long q0), .second, .val (.long q1), .second, .val (.long q2), .second, .val (.int p3), .val (.int p4), .val (.long q5), .second, .val (.int pe), .val (.int pl), .val (.int pg), .val (.int pn), .val (.int s1), .val (.int s2), .unset, .unset, .unset, .unset, .unset, .unset, .unset, .unset, .unset, .unset, .unset, .unset, .unset, .unset, .unset, .unset, .unset] [(.int p4)]))
  refine GoesW.step (fun _ k => XS.bipush X0.here hx rfl (hb hby at_89) k) ?_
  show GoesW p.tables e below s (Q0 Z q0 q1 q2 p3 p4 q5 cs x_CO x_BUNDLE x_SERIES x_OUTAGE x_QUEUED h0 n0) room_1.cells room_1.slots (s₁.setTop (mkF m 91 #[.val (.long q0), .second, .val (.long q1), .second, .val (.long q2), .second, .val (.int p3), .val (.int p4), .val (.long q5), .second, .val (.int pe), .val (.int pl), .val (.int pg), .val (.int pn), .val (.int s1), .val (.int s2), .unset, .unset, .unset, .unset, .unset, .unset, .unset, .unset, .unset, .unset, .unset, .unset, .unset, .unset, .unset, .unset, .unset] [(.int (64 : Int32)), (.int p4)]))
  refine GoesW.step (fun _ k => XS.iand X0.here hx rfl (hb hby at_91) rfl k) ?_
  show GoesW p.tables e below s (Q0 Z q0 q1 q2 p3 p4 q5 cs x_CO x_BUNDLE x_SERIES x_OUTAGE x_QUEUED h0 n0) room_1.cells room_1.slots (s₁.setTop (mkF m 92 #[.val (.long q0), .second, .val (.long q1), .second, .val (.long q2), .second, .val (.int p3), .val (.int p4), .val (.long q5), .second, .val (.int pe), .val (.int pl), .val (.int pg), .val (.int pn), .val (.int s1), .val (.int s2), .unset, .unset, .unset, .unset, .unset, .unset, .unset, .unset, .unset, .unset, .unset, .unset, .unset, .unset, .unset, .unset, .unset] [(.int (p4 &&& (64 : Int32)))]))
  refine GoesW.step (fun _ k => diam0 X0.here hx rfl (pc0 := 92) rfl (hb hby at_92) rfl (hb hby at_95) (hb hby at_96) (hb hby at_99) k) ?_
  show GoesW p.tables e below s (Q0 Z q0 q1 q2 p3 p4 q5 cs x_CO x_BUNDLE x_SERIES x_OUTAGE x_QUEUED h0 n0) room_1.cells room_1.slots (s₁.setTop (mkF m 100 #[.val (.long q0), .second, .val (.long q1), .second, .val (.long q2), .second, .val (.int p3), .val (.int p4), .val (.long q5), .second, .val (.int pe), .val (.int pl), .val (.int pg), .val (.int pn), .val (.int s1), .val (.int s2), .unset, .unset, .unset, .unset, .unset, .unset, .unset, .unset, .unset, .unset, .unset, .unset, .unset, .unset, .unset, .unset, .unset] [(.int (nb (ifCond.holds .eq (p4 &&& (64 : Int32)))))]))
  generalize hs3 : (nb (ifCond.holds .eq (p4 &&& (64 : Int32)))) = s3
  show GoesW p.tables e below s (Q0 Z q0 q1 q2 p3 p4 q5 cs x_CO x_BUNDLE x_SERIES x_OUTAGE x_QUEUED h0 n0) room_1.cells room_1.slots (s₁.setTop (mkF m 100 #[.val (.long q0), .second, .val (.long q1), .second, .val (.long q2), .second, .val (.int p3), .val (.int p4), .val (.long q5), .second, .val (.int pe), .val (.int pl), .val (.int pg), .val (.int pn), .val (.int s1), .val (.int s2), .unset, .unset, .unset, .unset, .unset, .unset, .unset, .unset, .unset, .unset, .unset, .unset, .unset, .unset, .unset, .unset, .unset] [(.int s3)]))
  refine GoesW.step (fun _ k => XS.istore X0.here hx rfl (hb hby at_100) rfl (l' := #[.val (.long q0), .second, .val (.long q1), .second, .val (.long q2), .second, .val (.int p3), .val (.int p4), .val (.long q5), .second, .val (.int pe), .val (.int pl), .val (.int pg), .val (.int pn), .val (.int s1), .val (.int s2), .val (.int s3), .unset, .unset, .unset, .unset, .unset, .unset, .unset, .unset, .unset, .unset, .unset, .unset, .unset, .unset, .unset, .unset]) rfl k) ?_
  show GoesW p.tables e below s (Q0 Z q0 q1 q2 p3 p4 q5 cs x_CO x_BUNDLE x_SERIES x_OUTAGE x_QUEUED h0 n0) room_1.cells room_1.slots (s₁.setTop (mkF m 102 #[.val (.long q0), .second, .val (.long q1), .second, .val (.long q2), .second, .val (.int p3), .val (.int p4), .val (.long q5), .second, .val (.int pe), .val (.int pl), .val (.int pg), .val (.int pn), .val (.int s1), .val (.int s2), .val (.int s3), .unset, .unset, .unset, .unset, .unset, .unset, .unset, .unset, .unset, .unset, .unset, .unset, .unset, .unset, .unset, .unset] []))
  refine GoesW.step (fun _ k => XS.iload X0.here hx rfl (hb hby at_102) rfl k) ?_
  show GoesW p.tables e below s (Q0 Z q0 q1 q2 p3 p4 q5 cs x_CO x_BUNDLE x_SERIES x_OUTAGE x_QUEUED h0 n0) room_1.cells room_1.slots (s₁.setTop (mkF m 104 #[.val (.long q0), .second, .val (.long q1), .second, .val (.long q2), .second, .val (.int p3), .val (.int p4), .val (.long q5), .second, .val (.int pe), .val (.int pl), .val (.int pg), .val (.int pn), .val (.int s1), .val (.int s2), .val (.int s3), .unset, .unset, .unset, .unset, .unset, .unset, .unset, .unset, .unset, .unset, .unset, .unset, .unset, .unset, .unset, .unset] [(.int p4)]))
  refine GoesW.step (fun _ k => XS.sipush X0.here hx rfl (hb hby at_104) k) ?_
  show GoesW p.tables e below s (Q0 Z q0 q1 q2 p3 p4 q5 cs x_CO x_BUNDLE x_SERIES x_OUTAGE x_QUEUED h0 n0) room_1.cells room_1.slots (s₁.setTop (mkF m 107 #[.val (.long q0), .second, .val (.long q1), .second, .val (.long q2), .second, .val (.int p3), .val (.int p4), .val (.long q5), .second, .val (.int pe), .val (.int pl), .val (.int pg), .val (.int pn), .val (.int s1), .val (.int s2), .val (.int s3), .unset, .unset, .unset, .unset, .unset, .unset, .unset, .unset, .unset, .unset, .unset, .unset, .unset, .unset, .unset, .unset] [(.int (128 : Int32)), (.int p4)]))
  refine GoesW.step (fun _ k => XS.iand X0.here hx rfl (hb hby at_107) rfl k) ?_
  show GoesW p.tables e below s (Q0 Z q0 q1 q2 p3 p4 q5 cs x_CO x_BUNDLE x_SERIES x_OUTAGE x_QUEUED h0 n0) room_1.cells room_1.slots (s₁.setTop (mkF m 108 #[.val (.long q0), .second, .val (.long q1), .second, .val (.long q2), .second, .val (.int p3), .val (.int p4), .val (.long q5), .second, .val (.int pe), .val (.int pl), .val (.int pg), .val (.int pn), .val (.int s1), .val (.int s2), .val (.int s3), .unset, .unset, .unset, .unset, .unset, .unset, .unset, .unset, .unset, .unset, .unset, .unset, .unset, .unset, .unset, .unset] [(.int (p4 &&& (128 : Int32)))]))
  refine GoesW.step (fun _ k => diam0 X0.here hx rfl (pc0 := 108) rfl (hb hby at_108) rfl (hb hby at_111) (hb hby at_112) (hb hby at_115) k) ?_
  show GoesW p.tables e below s (Q0 Z q0 q1 q2 p3 p4 q5 cs x_CO x_BUNDLE x_SERIES x_OUTAGE x_QUEUED h0 n0) room_1.cells room_1.slots (s₁.setTop (mkF m 116 #[.val (.long q0), .second, .val (.long q1), .second, .val (.long q2), .second, .val (.int p3), .val (.int p4), .val (.long q5), .second, .val (.int pe), .val (.int pl), .val (.int pg), .val (.int pn), .val (.int s1), .val (.int s2), .val (.int s3), .unset, .unset, .unset, .unset, .unset, .unset, .unset, .unset, .unset, .unset, .unset, .unset, .unset, .unset, .unset, .unset] [(.int (nb (ifCond.holds .eq (p4 &&& (128 : Int32)))))]))
  generalize hs4 : (nb (ifCond.holds .eq (p4 &&& (128 : Int32)))) = s4
  show GoesW p.tables e below s (Q0 Z q0 q1 q2 p3 p4 q5 cs x_CO x_BUNDLE x_SERIES x_OUTAGE x_QUEUED h0 n0) room_1.cells room_1.slots (s₁.setTop (mkF m 116 #[.val (.long q0), .second, .val (.long q1), .second, .val (.long q2), .second, .val (.int p3), .val (.int p4), .val (.long q5), .second, .val (.int pe), .val (.int pl), .val (.int pg), .val (.int pn), .val (.int s1), .val (.int s2), .val (.int s3), .unset, .unset, .unset, .unset, .unset, .unset, .unset, .unset, .unset, .unset, .unset, .unset, .unset, .unset, .unset, .unset] [(.int s4)]))
  refine GoesW.step (fun _ k => XS.istore X0.here hx rfl (hb hby at_116) rfl (l' := #[.val (.long q0), .second, .val (.long q1), .second, .val (.long q2), .second, .val (.int p3), .val (.int p4), .val (.long q5), .second, .val (.int pe), .val (.int pl), .val (.int pg), .val (.int pn), .val (.int s1), .val (.int s2), .val (.int s3), .val (.int s4), .unset, .unset, .unset, .unset, .unset, .unset, .unset, .unset, .unset, .unset, .unset, .unset, .unset, .unset, .unset]) rfl k) ?_
  show GoesW p.tables e below s (Q0 Z q0 q1 q2 p3 p4 q5 cs x_CO x_BUNDLE x_SERIES x_OUTAGE x_QUEUED h0 n0) room_1.cells room_1.slots (s₁.setTop (mkF m 118 #[.val (.long q0), .second, .val (.long q1), .second, .val (.long q2), .second, .val (.int p3), .val (.int p4), .val (.long q5), .second, .val (.int pe), .val (.int pl), .val (.int pg), .val (.int pn), .val (.int s1), .val (.int s2), .val (.int s3), .val (.int s4), .unset, .unset, .unset, .unset, .unset, .unset, .unset, .unset, .unset, .unset, .unset, .unset, .unset, .unset, .unset] []))
  refine GoesW.step (fun _ k => XS.iload X0.here hx rfl (hb hby at_118) rfl k) ?_
  show GoesW p.tables e below s (Q0 Z q0 q1 q2 p3 p4 q5 cs x_CO x_BUNDLE x_SERIES x_OUTAGE x_QUEUED h0 n0) room_1.cells room_1.slots (s₁.setTop (mkF m 120 #[.val (.long q0), .second, .val (.long q1), .second, .val (.long q2), .second, .val (.int p3), .val (.int p4), .val (.long q5), .second, .val (.int pe), .val (.int pl), .val (.int pg), .val (.int pn), .val (.int s1), .val (.int s2), .val (.int s3), .val (.int s4), .unset, .unset, .unset, .unset, .unset, .unset, .unset, .unset, .unset, .unset, .unset, .unset, .unset, .unset, .unset] [(.int p4)]))
  refine GoesW.step (fun _ k => XS.bipush X0.here hx rfl (hb hby at_120) k) ?_
  show GoesW p.tables e below s (Q0 Z q0 q1 q2 p3 p4 q5 cs x_CO x_BUNDLE x_SERIES x_OUTAGE x_QUEUED h0 n0) room_1.cells room_1.slots (s₁.setTop (mkF m 122 #[.val (.long q0), .second, .val (.long q1), .second, .val (.long q2), .second, .val (.int p3), .val (.int p4), .val (.long q5), .second, .val (.int pe), .val (.int pl), .val (.int pg), .val (.int pn), .val (.int s1), .val (.int s2), .val (.int s3), .val (.int s4), .unset, .unset, .unset, .unset, .unset, .unset, .unset, .unset, .unset, .unset, .unset, .unset, .unset, .unset, .unset] [(.int (8 : Int32)), (.int p4)]))
  refine GoesW.step (fun _ k => XS.iushr X0.here hx rfl (hb hby at_122) rfl k) ?_
  show GoesW p.tables e below s (Q0 Z q0 q1 q2 p3 p4 q5 cs x_CO x_BUNDLE x_SERIES x_OUTAGE x_QUEUED h0 n0) room_1.cells room_1.slots (s₁.setTop (mkF m 123 #[.val (.long q0), .second, .val (.long q1), .second, .val (.long q2), .second, .val (.int p3), .val (.int p4), .val (.long q5), .second, .val (.int pe), .val (.int pl), .val (.int pg), .val (.int pn), .val (.int s1), .val (.int s2), .val (.int s3), .val (.int s4), .unset, .unset, .unset, .unset, .unset, .unset, .unset, .unset, .unset, .unset, .unset, .unset, .unset, .unset, .unset] [(.int ((p4.toUInt32 >>> ((8 : Int32) &&& 31).toUInt32).toInt32))]))
  refine GoesW.step (fun _ k => XS.sipush X0.here hx rfl (hb hby at_123) k) ?_
  show GoesW p.tables e below s (Q0 Z q0 q1 q2 p3 p4 q5 cs x_CO x_BUNDLE x_SERIES x_OUTAGE x_QUEUED h0 n0) room_1.cells room_1.slots (s₁.setTop (mkF m 126 #[.val (.long q0), .second, .val (.long q1), .second, .val (.long q2), .second, .val (.int p3), .val (.int p4), .val (.long q5), .second, .val (.int pe), .val (.int pl), .val (.int pg), .val (.int pn), .val (.int s1), .val (.int s2), .val (.int s3), .val (.int s4), .unset, .unset, .unset, .unset, .unset, .unset, .unset, .unset, .unset, .unset, .unset, .unset, .unset, .unset, .unset] [(.int (255 : Int32)), (.int ((p4.toUInt32 >>> ((8 : Int32) &&& 31).toUInt32).toInt32))]))
  refine GoesW.step (fun _ k => XS.iand X0.here hx rfl (hb hby at_126) rfl k) ?_
  show GoesW p.tables e below s (Q0 Z q0 q1 q2 p3 p4 q5 cs x_CO x_BUNDLE x_SERIES x_OUTAGE x_QUEUED h0 n0) room_1.cells room_1.slots (s₁.setTop (mkF m 127 #[.val (.long q0), .second, .val (.long q1), .second, .val (.long q2), .second, .val (.int p3), .val (.int p4), .val (.long q5), .second, .val (.int pe), .val (.int pl), .val (.int pg), .val (.int pn), .val (.int s1), .val (.int s2), .val (.int s3), .val (.int s4), .unset, .unset, .unset, .unset, .unset, .unset, .unset, .unset, .unset, .unset, .unset, .unset, .unset, .unset, .unset] [(.int (((p4.toUInt32 >>> ((8 : Int32) &&& 31).toUInt32).toInt32) &&& (255 : Int32)))]))
  refine GoesW.step (fun _ k => XS.i2c X0.here hx rfl (hb hby at_127) rfl k) ?_
  show GoesW p.tables e below s (Q0 Z q0 q1 q2 p3 p4 q5 cs x_CO x_BUNDLE x_SERIES x_OUTAGE x_QUEUED h0 n0) room_1.cells room_1.slots (s₁.setTop (mkF m 128 #[.val (.long q0), .second, .val (.long q1), .second, .val (.long q2), .second, .val (.int p3), .val (.int p4), .val (.long q5), .second, .val (.int pe), .val (.int pl), .val (.int pg), .val (.int pn), .val (.int s1), .val (.int s2), .val (.int s3), .val (.int s4), .unset, .unset, .unset, .unset, .unset, .unset, .unset, .unset, .unset, .unset, .unset, .unset, .unset, .unset, .unset] [(.int ((((p4.toUInt32 >>> ((8 : Int32) &&& 31).toUInt32).toInt32) &&& (255 : Int32)).toUInt32.toUInt16.toUInt32.toInt32))]))
  rw [show ((((p4.toUInt32 >>> ((8 : Int32) &&& 31).toUInt32).toInt32) &&& (255 : Int32)).toUInt32.toUInt16.toUInt32.toInt32) = (((p4.toUInt32 >>> ((8 : Int32) &&& 31).toUInt32).toInt32) &&& (255 : Int32)) from i2c_mask _]
  show GoesW p.tables e below s (Q0 Z q0 q1 q2 p3 p4 q5 cs x_CO x_BUNDLE x_SERIES x_OUTAGE x_QUEUED h0 n0) room_1.cells room_1.slots (s₁.setTop (mkF m 128 #[.val (.long q0), .second, .val (.long q1), .second, .val (.long q2), .second, .val (.int p3), .val (.int p4), .val (.long q5), .second, .val (.int pe), .val (.int pl), .val (.int pg), .val (.int pn), .val (.int s1), .val (.int s2), .val (.int s3), .val (.int s4), .unset, .unset, .unset, .unset, .unset, .unset, .unset, .unset, .unset, .unset, .unset, .unset, .unset, .unset, .unset] [(.int (((p4.toUInt32 >>> ((8 : Int32) &&& 31).toUInt32).toInt32) &&& (255 : Int32)))]))
  have h255c1 := own_255 ((p4.toUInt32 >>> ((8 : Int32) &&& 31).toUInt32).toInt32)
  generalize hc1 : (((p4.toUInt32 >>> ((8 : Int32) &&& 31).toUInt32).toInt32) &&& (255 : Int32)) = c1 at h255c1 ⊢
  show GoesW p.tables e below s (Q0 Z q0 q1 q2 p3 p4 q5 cs x_CO x_BUNDLE x_SERIES x_OUTAGE x_QUEUED h0 n0) room_1.cells room_1.slots (s₁.setTop (mkF m 128 #[.val (.long q0), .second, .val (.long q1), .second, .val (.long q2), .second, .val (.int p3), .val (.int p4), .val (.long q5), .second, .val (.int pe), .val (.int pl), .val (.int pg), .val (.int pn), .val (.int s1), .val (.int s2), .val (.int s3), .val (.int s4), .unset, .unset, .unset, .unset, .unset, .unset, .unset, .unset, .unset, .unset, .unset, .unset, .unset, .unset, .unset] [(.int c1)]))
  obtain ⟨_, _, ⟨T1, L1, k1, n1⟩, -, X1, ⟨Lc1, hQ1, l1, y1, z1⟩, st1⟩ := Jvm.LawKit.callS X0 hx (y := (⟨"java/lang/String", "valueOf", "(C)Ljava/lang/String;"⟩ : MethodName)) hown (mvT hZ (hw _ (List.mem_of_getElem? (i := 0) rfl))) (mvT hZ (hw _ (List.mem_of_getElem? (i := 1) rfl))) (mvT hZ (hw _ (List.mem_of_getElem? (i := 2) rfl))) (mvT hZ (hw _ (List.mem_of_getElem? (i := 3) rfl))) (by decide) (backOf (W := 0) (rm1 l Z a0 hw [] c1 cs h0 n0 Z0 S_CS hcs h255c1) hZ (hw _ (List.mem_of_getElem? (i := 3) rfl)) (hw _ (List.mem_of_getElem? (i := 2) rfl)) (by decide) (by decide)) (g := (mkF m 128 #[.val (.long q0), .second, .val (.long q1), .second, .val (.long q2), .second, .val (.int p3), .val (.int p4), .val (.long q5), .second, .val (.int pe), .val (.int pl), .val (.int pg), .val (.int pn), .val (.int s1), .val (.int s2), .val (.int s3), .val (.int s4), .unset, .unset, .unset, .unset, .unset, .unset, .unset, .unset, .unset, .unset, .unset, .unset, .unset, .unset, .unset] [(.int c1)])) rfl (by rw [hml]; rfl) (argsL := [(.int c1)]) (rest := []) (lenOf own_pd4 rfl) rfl (by show 2 * 0 + _ ≤ _; exact Nat.le_of_eq rfl) (hb hby at_128) (fun _ _ => ⟨rfl, e0, (by decide : 0 + 2 ≤ _), (by decide : 0 + 5 ≤ _)⟩)
  dsimp only [Pt.U, Pt.locs, Pt.cells, Pt.slots] at X1 l1 y1 z1 st1 hQ1
  subst l1 y1 z1
  obtain ⟨⟨id1, rfl⟩, N1q, E1q⟩ := hQ1
  have N1 := Fr.app N0 N1q
  have Z1 : n0 ≤ T1.heap.size := Nat.le_trans Z0 E1q.1
  refine GoesW.step st1 ?_
  show GoesW p.tables e below s (Q0 Z q0 q1 q2 p3 p4 q5 cs x_CO x_BUNDLE x_SERIES x_OUTAGE x_QUEUED h0 n0) room_1.cells room_1.slots (T1.setTop (mkF m 131 #[.val (.long q0), .second, .val (.long q1), .second, .val (.long q2), .second, .val (.int p3), .val (.int p4), .val (.long q5), .second, .val (.int pe), .val (.int pl), .val (.int pg), .val (.int pn), .val (.int s1), .val (.int s2), .val (.int s3), .val (.int s4), .unset, .unset, .unset, .unset, .unset, .unset, .unset, .unset, .unset, .unset, .unset, .unset, .unset, .unset, .unset] [(.ref id1)]))
  refine GoesW.step (fun _ k => XS.astore X1.here hx rfl (hb hby at_131) rfl rfl (l' := #[.val (.long q0), .second, .val (.long q1), .second, .val (.long q2), .second, .val (.int p3), .val (.int p4), .val (.long q5), .second, .val (.int pe), .val (.int pl), .val (.int pg), .val (.int pn), .val (.int s1), .val (.int s2), .val (.int s3), .val (.int s4), .val (.ref id1), .unset, .unset, .unset, .unset, .unset, .unset, .unset, .unset, .unset, .unset, .unset, .unset, .unset, .unset]) rfl k) ?_
  show GoesW p.tables e below s (Q0 Z q0 q1 q2 p3 p4 q5 cs x_CO x_BUNDLE x_SERIES x_OUTAGE x_QUEUED h0 n0) room_1.cells room_1.slots (T1.setTop (mkF m 133 #[.val (.long q0), .second, .val (.long q1), .second, .val (.long q2), .second, .val (.int p3), .val (.int p4), .val (.long q5), .second, .val (.int pe), .val (.int pl), .val (.int pg), .val (.int pn), .val (.int s1), .val (.int s2), .val (.int s3), .val (.int s4), .val (.ref id1), .unset, .unset, .unset, .unset, .unset, .unset, .unset, .unset, .unset, .unset, .unset, .unset, .unset, .unset] []))
  refine GoesW.step (fun _ k => XS.iload X1.here hx rfl (hb hby at_133) rfl k) ?_
  show GoesW p.tables e below s (Q0 Z q0 q1 q2 p3 p4 q5 cs x_CO x_BUNDLE x_SERIES x_OUTAGE x_QUEUED h0 n0) room_1.cells room_1.slots (T1.setTop (mkF m 135 #[.val (.long q0), .second, .val (.long q1), .second, .val (.long q2), .second, .val (.int p3), .val (.int p4), .val (.long q5), .second, .val (.int pe), .val (.int pl), .val (.int pg), .val (.int pn), .val (.int s1), .val (.int s2), .val (.int s3), .val (.int s4), .val (.ref id1), .unset, .unset, .unset, .unset, .unset, .unset, .unset, .unset, .unset, .unset, .unset, .unset, .unset, .unset] [(.int p4)]))
  refine GoesW.step (fun _ k => XS.bipush X1.here hx rfl (hb hby at_135) k) ?_
  show GoesW p.tables e below s (Q0 Z q0 q1 q2 p3 p4 q5 cs x_CO x_BUNDLE x_SERIES x_OUTAGE x_QUEUED h0 n0) room_1.cells room_1.slots (T1.setTop (mkF m 137 #[.val (.long q0), .second, .val (.long q1), .second, .val (.long q2), .second, .val (.int p3), .val (.int p4), .val (.long q5), .second, .val (.int pe), .val (.int pl), .val (.int pg), .val (.int pn), .val (.int s1), .val (.int s2), .val (.int s3), .val (.int s4), .val (.ref id1), .unset, .unset, .unset, .unset, .unset, .unset, .unset, .unset, .unset, .unset, .unset, .unset, .unset, .unset] [(.int (22 : Int32)), (.int p4)]))
  refine GoesW.step (fun _ k => XS.iushr X1.here hx rfl (hb hby at_137) rfl k) ?_
  show GoesW p.tables e below s (Q0 Z q0 q1 q2 p3 p4 q5 cs x_CO x_BUNDLE x_SERIES x_OUTAGE x_QUEUED h0 n0) room_1.cells room_1.slots (T1.setTop (mkF m 138 #[.val (.long q0), .second, .val (.long q1), .second, .val (.long q2), .second, .val (.int p3), .val (.int p4), .val (.long q5), .second, .val (.int pe), .val (.int pl), .val (.int pg), .val (.int pn), .val (.int s1), .val (.int s2), .val (.int s3), .val (.int s4), .val (.ref id1), .unset, .unset, .unset, .unset, .unset, .unset, .unset, .unset, .unset, .unset, .unset, .unset, .unset, .unset] [(.int ((p4.toUInt32 >>> ((22 : Int32) &&& 31).toUInt32).toInt32))]))
  refine GoesW.step (fun _ k => XS.sipush X1.here hx rfl (hb hby at_138) k) ?_
  show GoesW p.tables e below s (Q0 Z q0 q1 q2 p3 p4 q5 cs x_CO x_BUNDLE x_SERIES x_OUTAGE x_QUEUED h0 n0) room_1.cells room_1.slots (T1.setTop (mkF m 141 #[.val (.long q0), .second, .val (.long q1), .second, .val (.long q2), .second, .val (.int p3), .val (.int p4), .val (.long q5), .second, .val (.int pe), .val (.int pl), .val (.int pg), .val (.int pn), .val (.int s1), .val (.int s2), .val (.int s3), .val (.int s4), .val (.ref id1), .unset, .unset, .unset, .unset, .unset, .unset, .unset, .unset, .unset, .unset, .unset, .unset, .unset, .unset] [(.int (255 : Int32)), (.int ((p4.toUInt32 >>> ((22 : Int32) &&& 31).toUInt32).toInt32))]))
  refine GoesW.step (fun _ k => XS.iand X1.here hx rfl (hb hby at_141) rfl k) ?_
  show GoesW p.tables e below s (Q0 Z q0 q1 q2 p3 p4 q5 cs x_CO x_BUNDLE x_SERIES x_OUTAGE x_QUEUED h0 n0) room_1.cells room_1.slots (T1.setTop (mkF m 142 #[.val (.long q0), .second, .val (.long q1), .second, .val (.long q2), .second, .val (.int p3), .val (.int p4), .val (.long q5), .second, .val (.int pe), .val (.int pl), .val (.int pg), .val (.int pn), .val (.int s1), .val (.int s2), .val (.int s3), .val (.int s4), .val (.ref id1), .unset, .unset, .unset, .unset, .unset, .unset, .unset, .unset, .unset, .unset, .unset, .unset, .unset, .unset] [(.int (((p4.toUInt32 >>> ((22 : Int32) &&& 31).toUInt32).toInt32) &&& (255 : Int32)))]))
  refine GoesW.step (fun _ k => XS.i2c X1.here hx rfl (hb hby at_142) rfl k) ?_
  show GoesW p.tables e below s (Q0 Z q0 q1 q2 p3 p4 q5 cs x_CO x_BUNDLE x_SERIES x_OUTAGE x_QUEUED h0 n0) room_1.cells room_1.slots (T1.setTop (mkF m 143 #[.val (.long q0), .second, .val (.long q1), .second, .val (.long q2), .second, .val (.int p3), .val (.int p4), .val (.long q5), .second, .val (.int pe), .val (.int pl), .val (.int pg), .val (.int pn), .val (.int s1), .val (.int s2), .val (.int s3), .val (.int s4), .val (.ref id1), .unset, .unset, .unset, .unset, .unset, .unset, .unset, .unset, .unset, .unset, .unset, .unset, .unset, .unset] [(.int ((((p4.toUInt32 >>> ((22 : Int32) &&& 31).toUInt32).toInt32) &&& (255 : Int32)).toUInt32.toUInt16.toUInt32.toInt32))]))
  rw [show ((((p4.toUInt32 >>> ((22 : Int32) &&& 31).toUInt32).toInt32) &&& (255 : Int32)).toUInt32.toUInt16.toUInt32.toInt32) = (((p4.toUInt32 >>> ((22 : Int32) &&& 31).toUInt32).toInt32) &&& (255 : Int32)) from i2c_mask _]
  show GoesW p.tables e below s (Q0 Z q0 q1 q2 p3 p4 q5 cs x_CO x_BUNDLE x_SERIES x_OUTAGE x_QUEUED h0 n0) room_1.cells room_1.slots (T1.setTop (mkF m 143 #[.val (.long q0), .second, .val (.long q1), .second, .val (.long q2), .second, .val (.int p3), .val (.int p4), .val (.long q5), .second, .val (.int pe), .val (.int pl), .val (.int pg), .val (.int pn), .val (.int s1), .val (.int s2), .val (.int s3), .val (.int s4), .val (.ref id1), .unset, .unset, .unset, .unset, .unset, .unset, .unset, .unset, .unset, .unset, .unset, .unset, .unset, .unset] [(.int (((p4.toUInt32 >>> ((22 : Int32) &&& 31).toUInt32).toInt32) &&& (255 : Int32)))]))
  have h255c2 := own_255 ((p4.toUInt32 >>> ((22 : Int32) &&& 31).toUInt32).toInt32)
  generalize hc2 : (((p4.toUInt32 >>> ((22 : Int32) &&& 31).toUInt32).toInt32) &&& (255 : Int32)) = c2 at h255c2 ⊢
  show GoesW p.tables e below s (Q0 Z q0 q1 q2 p3 p4 q5 cs x_CO x_BUNDLE x_SERIES x_OUTAGE x_QUEUED h0 n0) room_1.cells room_1.slots (T1.setTop (mkF m 143 #[.val (.long q0), .second, .val (.long q1), .second, .val (.long q2), .second, .val (.int p3), .val (.int p4), .val (.long q5), .second, .val (.int pe), .val (.int pl), .val (.int pg), .val (.int pn), .val (.int s1), .val (.int s2), .val (.int s3), .val (.int s4), .val (.ref id1), .unset, .unset, .unset, .unset, .unset, .unset, .unset, .unset, .unset, .unset, .unset, .unset, .unset, .unset] [(.int c2)]))
  have Sta_COMPACT_STRINGS_2 := (S_CS.ext E1q)
  obtain ⟨_, _, ⟨T3, L3, k3, n3⟩, -, X3, ⟨Lc3, hQ3, l3, y3, z3⟩, st3⟩ := Jvm.LawKit.callS X1 hx (y := (⟨"java/lang/String", "valueOf", "(C)Ljava/lang/String;"⟩ : MethodName)) hown (mvT hZ (hw _ (List.mem_of_getElem? (i := 0) rfl))) (mvT hZ (hw _ (List.mem_of_getElem? (i := 1) rfl))) (mvT hZ (hw _ (List.mem_of_getElem? (i := 2) rfl))) (mvT hZ (hw _ (List.mem_of_getElem? (i := 3) rfl))) (by decide) (backOf (W := 0) (rm1 l Z a0 hw [] c2 cs T1.heap n0 Z1 Sta_COMPACT_STRINGS_2 hcs h255c2) hZ (hw _ (List.mem_of_getElem? (i := 3) rfl)) (hw _ (List.mem_of_getElem? (i := 2) rfl)) (by decide) (by decide)) (g := (mkF m 143 #[.val (.long q0), .second, .val (.long q1), .second, .val (.long q2), .second, .val (.int p3), .val (.int p4), .val (.long q5), .second, .val (.int pe), .val (.int pl), .val (.int pg), .val (.int pn), .val (.int s1), .val (.int s2), .val (.int s3), .val (.int s4), .val (.ref id1), .unset, .unset, .unset, .unset, .unset, .unset, .unset, .unset, .unset, .unset, .unset, .unset, .unset, .unset] [(.int c2)])) rfl (by rw [hml]; rfl) (argsL := [(.int c2)]) (rest := []) (lenOf own_pd4 rfl) rfl (by show 2 * 0 + _ ≤ _; exact Nat.le_of_eq rfl) (hb hby at_143) (fun _ _ => ⟨rfl, rfl, (by decide : 2 + 2 ≤ _), (by decide : 5 + 5 ≤ _)⟩)
  dsimp only [Pt.U, Pt.locs, Pt.cells, Pt.slots] at X3 l3 y3 z3 st3 hQ3
  subst l3 y3 z3
  obtain ⟨⟨id3, rfl⟩, N3q, E3q⟩ := hQ3
  have N3 := Fr.app N1 N3q
  have Z3 : n0 ≤ T3.heap.size := Nat.le_trans Z1 E3q.1
  refine GoesW.step st3 ?_
  show GoesW p.tables e below s (Q0 Z q0 q1 q2 p3 p4 q5 cs x_CO x_BUNDLE x_SERIES x_OUTAGE x_QUEUED h0 n0) room_1.cells room_1.slots (T3.setTop (mkF m 146 #[.val (.long q0), .second, .val (.long q1), .second, .val (.long q2), .second, .val (.int p3), .val (.int p4), .val (.long q5), .second, .val (.int pe), .val (.int pl), .val (.int pg), .val (.int pn), .val (.int s1), .val (.int s2), .val (.int s3), .val (.int s4), .val (.ref id1), .unset, .unset, .unset, .unset, .unset, .unset, .unset, .unset, .unset, .unset, .unset, .unset, .unset, .unset] [(.ref id3)]))
  refine GoesW.step (fun _ k => XS.astore X3.here hx rfl (hb hby at_146) rfl rfl (l' := #[.val (.long q0), .second, .val (.long q1), .second, .val (.long q2), .second, .val (.int p3), .val (.int p4), .val (.long q5), .second, .val (.int pe), .val (.int pl), .val (.int pg), .val (.int pn), .val (.int s1), .val (.int s2), .val (.int s3), .val (.int s4), .val (.ref id1), .val (.ref id3), .unset, .unset, .unset, .unset, .unset, .unset, .unset, .unset, .unset, .unset, .unset, .unset, .unset]) rfl k) ?_
  show GoesW p.tables e below s (Q0 Z q0 q1 q2 p3 p4 q5 cs x_CO x_BUNDLE x_SERIES x_OUTAGE x_QUEUED h0 n0) room_1.cells room_1.slots (T3.setTop (mkF m 148 #[.val (.long q0), .second, .val (.long q1), .second, .val (.long q2), .second, .val (.int p3), .val (.int p4), .val (.long q5), .second, .val (.int pe), .val (.int pl), .val (.int pg), .val (.int pn), .val (.int s1), .val (.int s2), .val (.int s3), .val (.int s4), .val (.ref id1), .val (.ref id3), .unset, .unset, .unset, .unset, .unset, .unset, .unset, .unset, .unset, .unset, .unset, .unset, .unset] []))
  refine GoesW.step (fun _ k => XS.iload X3.here hx rfl (hb hby at_148) rfl k) ?_
  show GoesW p.tables e below s (Q0 Z q0 q1 q2 p3 p4 q5 cs x_CO x_BUNDLE x_SERIES x_OUTAGE x_QUEUED h0 n0) room_1.cells room_1.slots (T3.setTop (mkF m 150 #[.val (.long q0), .second, .val (.long q1), .second, .val (.long q2), .second, .val (.int p3), .val (.int p4), .val (.long q5), .second, .val (.int pe), .val (.int pl), .val (.int pg), .val (.int pn), .val (.int s1), .val (.int s2), .val (.int s3), .val (.int s4), .val (.ref id1), .val (.ref id3), .unset, .unset, .unset, .unset, .unset, .unset, .unset, .unset, .unset, .unset, .unset, .unset, .unset] [(.int p4)]))
  refine GoesW.step (fun _ k => XS.bipush X3.here hx rfl (hb hby at_150) k) ?_
  show GoesW p.tables e below s (Q0 Z q0 q1 q2 p3 p4 q5 cs x_CO x_BUNDLE x_SERIES x_OUTAGE x_QUEUED h0 n0) room_1.cells room_1.slots (T3.setTop (mkF m 152 #[.val (.long q0), .second, .val (.long q1), .second, .val (.long q2), .second, .val (.int p3), .val (.int p4), .val (.long q5), .second, .val (.int pe), .val (.int pl), .val (.int pg), .val (.int pn), .val (.int s1), .val (.int s2), .val (.int s3), .val (.int s4), .val (.ref id1), .val (.ref id3), .unset, .unset, .unset, .unset, .unset, .unset, .unset, .unset, .unset, .unset, .unset, .unset, .unset] [(.int (16 : Int32)), (.int p4)]))
  refine GoesW.step (fun _ k => XS.iushr X3.here hx rfl (hb hby at_152) rfl k) ?_
  show GoesW p.tables e below s (Q0 Z q0 q1 q2 p3 p4 q5 cs x_CO x_BUNDLE x_SERIES x_OUTAGE x_QUEUED h0 n0) room_1.cells room_1.slots (T3.setTop (mkF m 153 #[.val (.long q0), .second, .val (.long q1), .second, .val (.long q2), .second, .val (.int p3), .val (.int p4), .val (.long q5), .second, .val (.int pe), .val (.int pl), .val (.int pg), .val (.int pn), .val (.int s1), .val (.int s2), .val (.int s3), .val (.int s4), .val (.ref id1), .val (.ref id3), .unset, .unset, .unset, .unset, .unset, .unset, .unset, .unset, .unset, .unset, .unset, .unset, .unset] [(.int ((p4.toUInt32 >>> ((16 : Int32) &&& 31).toUInt32).toInt32))]))
  refine GoesW.step (fun _ k => XS.bipush X3.here hx rfl (hb hby at_153) k) ?_
  show GoesW p.tables e below s (Q0 Z q0 q1 q2 p3 p4 q5 cs x_CO x_BUNDLE x_SERIES x_OUTAGE x_QUEUED h0 n0) room_1.cells room_1.slots (T3.setTop (mkF m 155 #[.val (.long q0), .second, .val (.long q1), .second, .val (.long q2), .second, .val (.int p3), .val (.int p4), .val (.long q5), .second, .val (.int pe), .val (.int pl), .val (.int pg), .val (.int pn), .val (.int s1), .val (.int s2), .val (.int s3), .val (.int s4), .val (.ref id1), .val (.ref id3), .unset, .unset, .unset, .unset, .unset, .unset, .unset, .unset, .unset, .unset, .unset, .unset, .unset] [(.int (7 : Int32)), (.int ((p4.toUInt32 >>> ((16 : Int32) &&& 31).toUInt32).toInt32))]))
  refine GoesW.step (fun _ k => XS.iand X3.here hx rfl (hb hby at_155) rfl k) ?_
  show GoesW p.tables e below s (Q0 Z q0 q1 q2 p3 p4 q5 cs x_CO x_BUNDLE x_SERIES x_OUTAGE x_QUEUED h0 n0) room_1.cells room_1.slots (T3.setTop (mkF m 156 #[.val (.long q0), .second, .val (.long q1), .second, .val (.long q2), .second, .val (.int p3), .val (.int p4), .val (.long q5), .second, .val (.int pe), .val (.int pl), .val (.int pg), .val (.int pn), .val (.int s1), .val (.int s2), .val (.int s3), .val (.int s4), .val (.ref id1), .val (.ref id3), .unset, .unset, .unset, .unset, .unset, .unset, .unset, .unset, .unset, .unset, .unset, .unset, .unset] [(.int (((p4.toUInt32 >>> ((16 : Int32) &&& 31).toUInt32).toInt32) &&& (7 : Int32)))]))
  refine GoesW.step (fun _ k => XS.iconst X3.here hx rfl (hb hby at_156) k) ?_
  show GoesW p.tables e below s (Q0 Z q0 q1 q2 p3 p4 q5 cs x_CO x_BUNDLE x_SERIES x_OUTAGE x_QUEUED h0 n0) room_1.cells room_1.slots (T3.setTop (mkF m 157 #[.val (.long q0), .second, .val (.long q1), .second, .val (.long q2), .second, .val (.int p3), .val (.int p4), .val (.long q5), .second, .val (.int pe), .val (.int pl), .val (.int pg), .val (.int pn), .val (.int s1), .val (.int s2), .val (.int s3), .val (.int s4), .val (.ref id1), .val (.ref id3), .unset, .unset, .unset, .unset, .unset, .unset, .unset, .unset, .unset, .unset, .unset, .unset, .unset] [(.int (5 : Int32)), (.int (((p4.toUInt32 >>> ((16 : Int32) &&& 31).toUInt32).toInt32) &&& (7 : Int32)))]))
  refine GoesW.step (fun _ k => iremM X3 hx rfl (hb hby at_157) rfl (by decide) k) ?_
  show GoesW p.tables e below s (Q0 Z q0 q1 q2 p3 p4 q5 cs x_CO x_BUNDLE x_SERIES x_OUTAGE x_QUEUED h0 n0) room_1.cells room_1.slots (T3.setTop (mkF m 158 #[.val (.long q0), .second, .val (.long q1), .second, .val (.long q2), .second, .val (.int p3), .val (.int p4), .val (.long q5), .second, .val (.int pe), .val (.int pl), .val (.int pg), .val (.int pn), .val (.int s1), .val (.int s2), .val (.int s3), .val (.int s4), .val (.ref id1), .val (.ref id3), .unset, .unset, .unset, .unset, .unset, .unset, .unset, .unset, .unset, .unset, .unset, .unset, .unset] [(.int ((((p4.toUInt32 >>> ((16 : Int32) &&& 31).toUInt32).toInt32) &&& (7 : Int32)) % (5 : Int32)))]))
  generalize hk1 : ((((p4.toUInt32 >>> ((16 : Int32) &&& 31).toUInt32).toInt32) &&& (7 : Int32)) % (5 : Int32)) = k1
  show GoesW p.tables e below s (Q0 Z q0 q1 q2 p3 p4 q5 cs x_CO x_BUNDLE x_SERIES x_OUTAGE x_QUEUED h0 n0) room_1.cells room_1.slots (T3.setTop (mkF m 158 #[.val (.long q0), .second, .val (.long q1), .second, .val (.long q2), .second, .val (.int p3), .val (.int p4), .val (.long q5), .second, .val (.int pe), .val (.int pl), .val (.int pg), .val (.int pn), .val (.int s1), .val (.int s2), .val (.int s3), .val (.int s4), .val (.ref id1), .val (.ref id3), .unset, .unset, .unset, .unset, .unset, .unset, .unset, .unset, .unset, .unset, .unset, .unset, .unset] [(.int k1)]))
  have Sta_CO_4 := ((S_CO.ext E1q).ext E3q)
  have Sta_BUNDLE_5 := ((S_BUNDLE.ext E1q).ext E3q)
  have Sta_SERIES_6 := ((S_SERIES.ext E1q).ext E3q)
  have Sta_OUTAGE_7 := ((S_OUTAGE.ext E1q).ext E3q)
  have Sta_QUEUED_8 := ((S_QUEUED.ext E1q).ext E3q)
  obtain ⟨_, _, ⟨T9, L9, k9, n9⟩, -, X9, ⟨Lc9, hQ9, l9, y9, z9⟩, st9⟩ := Jvm.LawKit.callS X3 hx (y := (⟨"com/example/forehold/forehold/ledger/JobAlikePinLaw", "kindOf", "(I)Lcom/example/forehold/forehold/ledger/Kind;"⟩ : MethodName)) hown (mvT hZ (hw _ (List.mem_of_getElem? (i := 26) rfl))) (mvT hZ (hw _ (List.mem_of_getElem? (i := 27) rfl))) (mvT hZ (hw _ (List.mem_of_getElem? (i := 28) rfl))) (mvT hZ (hw _ (List.mem_of_getElem? (i := 29) rfl))) (by decide) (backOf (W := 0) (rm6 l Z a0 hw [] k1 x_CO x_BUNDLE x_SERIES x_OUTAGE x_QUEUED T3.heap n0 Z3 Sta_CO_4 Sta_BUNDLE_5 Sta_SERIES_6 Sta_OUTAGE_7 Sta_QUEUED_8) hZ (hw _ (List.mem_of_getElem? (i := 29) rfl)) (hw _ (List.mem_of_getElem? (i := 28) rfl)) (by decide) (by decide)) (g := (mkF m 158 #[.val (.long q0), .second, .val (.long q1), .second, .val (.long q2), .second, .val (.int p3), .val (.int p4), .val (.long q5), .second, .val (.int pe), .val (.int pl), .val (.int pg), .val (.int pn), .val (.int s1), .val (.int s2), .val (.int s3), .val (.int s4), .val (.ref id1), .val (.ref id3), .unset, .unset, .unset, .unset, .unset, .unset, .unset, .unset, .unset, .unset, .unset, .unset, .unset] [(.int k1)])) rfl (by rw [hml]; rfl) (argsL := [(.int k1)]) (rest := []) (lenOf own_pd5 rfl) rfl (by show 2 * 0 + _ ≤ _; exact Nat.le_of_eq rfl) (hb hby at_158) (fun _ _ => ⟨rfl, rfl, (by decide : 4 + 0 ≤ _), (by decide : 10 + 0 ≤ _)⟩)
  dsimp only [Pt.U, Pt.locs, Pt.cells, Pt.slots] at X9 l9 y9 z9 st9 hQ9
  subst l9 y9 z9
  obtain ⟨⟨kd9, rfl⟩, N9q, eq9⟩ := hQ9
  have N9 := Fr.app N3 N9q
  refine GoesW.step st9 ?_
  show GoesW p.tables e below s (Q0 Z q0 q1 q2 p3 p4 q5 cs x_CO x_BUNDLE x_SERIES x_OUTAGE x_QUEUED h0 n0) room_1.cells room_1.slots (T9.setTop (mkF m 161 #[.val (.long q0), .second, .val (.long q1), .second, .val (.long q2), .second, .val (.int p3), .val (.int p4), .val (.long q5), .second, .val (.int pe), .val (.int pl), .val (.int pg), .val (.int pn), .val (.int s1), .val (.int s2), .val (.int s3), .val (.int s4), .val (.ref id1), .val (.ref id3), .unset, .unset, .unset, .unset, .unset, .unset, .unset, .unset, .unset, .unset, .unset, .unset, .unset] [(.ref kd9)]))
  refine GoesW.step (fun _ k => XS.astore X9.here hx rfl (hb hby at_161) rfl rfl (l' := #[.val (.long q0), .second, .val (.long q1), .second, .val (.long q2), .second, .val (.int p3), .val (.int p4), .val (.long q5), .second, .val (.int pe), .val (.int pl), .val (.int pg), .val (.int pn), .val (.int s1), .val (.int s2), .val (.int s3), .val (.int s4), .val (.ref id1), .val (.ref id3), .val (.ref kd9), .unset, .unset, .unset, .unset, .unset, .unset, .unset, .unset, .unset, .unset, .unset, .unset]) rfl k) ?_
  show GoesW p.tables e below s (Q0 Z q0 q1 q2 p3 p4 q5 cs x_CO x_BUNDLE x_SERIES x_OUTAGE x_QUEUED h0 n0) room_1.cells room_1.slots (T9.setTop (mkF m 163 #[.val (.long q0), .second, .val (.long q1), .second, .val (.long q2), .second, .val (.int p3), .val (.int p4), .val (.long q5), .second, .val (.int pe), .val (.int pl), .val (.int pg), .val (.int pn), .val (.int s1), .val (.int s2), .val (.int s3), .val (.int s4), .val (.ref id1), .val (.ref id3), .val (.ref kd9), .unset, .unset, .unset, .unset, .unset, .unset, .unset, .unset, .unset, .unset, .unset, .unset] []))
  refine GoesW.step (fun _ k => XS.iload X9.here hx rfl (hb hby at_163) rfl k) ?_
  show GoesW p.tables e below s (Q0 Z q0 q1 q2 p3 p4 q5 cs x_CO x_BUNDLE x_SERIES x_OUTAGE x_QUEUED h0 n0) room_1.cells room_1.slots (T9.setTop (mkF m 165 #[.val (.long q0), .second, .val (.long q1), .second, .val (.long q2), .second, .val (.int p3), .val (.int p4), .val (.long q5), .second, .val (.int pe), .val (.int pl), .val (.int pg), .val (.int pn), .val (.int s1), .val (.int s2), .val (.int s3), .val (.int s4), .val (.ref id1), .val (.ref id3), .val (.ref kd9), .unset, .unset, .unset, .unset, .unset, .unset, .unset, .unset, .unset, .unset, .unset, .unset] [(.int p4)]))
  refine GoesW.step (fun _ k => XS.bipush X9.here hx rfl (hb hby at_165) k) ?_
  show GoesW p.tables e below s (Q0 Z q0 q1 q2 p3 p4 q5 cs x_CO x_BUNDLE x_SERIES x_OUTAGE x_QUEUED h0 n0) room_1.cells room_1.slots (T9.setTop (mkF m 167 #[.val (.long q0), .second, .val (.long q1), .second, .val (.long q2), .second, .val (.int p3), .val (.int p4), .val (.long q5), .second, .val (.int pe), .val (.int pl), .val (.int pg), .val (.int pn), .val (.int s1), .val (.int s2), .val (.int s3), .val (.int s4), .val (.ref id1), .val (.ref id3), .val (.ref kd9), .unset, .unset, .unset, .unset, .unset, .unset, .unset, .unset, .unset, .unset, .unset, .unset] [(.int (19 : Int32)), (.int p4)]))
  refine GoesW.step (fun _ k => XS.iushr X9.here hx rfl (hb hby at_167) rfl k) ?_
  show GoesW p.tables e below s (Q0 Z q0 q1 q2 p3 p4 q5 cs x_CO x_BUNDLE x_SERIES x_OUTAGE x_QUEUED h0 n0) room_1.cells room_1.slots (T9.setTop (mkF m 168 #[.val (.long q0), .second, .val (.long q1), .second, .val (.long q2), .second, .val (.int p3), .val (.int p4), .val (.long q5), .second, .val (.int pe), .val (.int pl), .val (.int pg), .val (.int pn), .val (.int s1), .val (.int s2), .val (.int s3), .val (.int s4), .val (.ref id1), .val (.ref id3), .val (.ref kd9), .unset, .unset, .unset, .unset, .unset, .unset, .unset, .unset, .unset, .unset, .unset, .unset] [(.int ((p4.toUInt32 >>> ((19 : Int32) &&& 31).toUInt32).toInt32))]))
  refine GoesW.step (fun _ k => XS.bipush X9.here hx rfl (hb hby at_168) k) ?_
  show GoesW p.tables e below s (Q0 Z q0 q1 q2 p3 p4 q5 cs x_CO x_BUNDLE x_SERIES x_OUTAGE x_QUEUED h0 n0) room_1.cells room_1.slots (T9.setTop (mkF m 170 #[.val (.long q0), .second, .val (.long q1), .second, .val (.long q2), .second, .val (.int p3), .val (.int p4), .val (.long q5), .second, .val (.int pe), .val (.int pl), .val (.int pg), .val (.int pn), .val (.int s1), .val (.int s2), .val (.int s3), .val (.int s4), .val (.ref id1), .val (.ref id3), .val (.ref kd9), .unset, .unset, .unset, .unset, .unset, .unset, .unset, .unset, .unset, .unset, .unset, .unset] [(.int (7 : Int32)), (.int ((p4.toUInt32 >>> ((19 : Int32) &&& 31).toUInt32).toInt32))]))
  refine GoesW.step (fun _ k => XS.iand X9.here hx rfl (hb hby at_170) rfl k) ?_
  show GoesW p.tables e below s (Q0 Z q0 q1 q2 p3 p4 q5 cs x_CO x_BUNDLE x_SERIES x_OUTAGE x_QUEUED h0 n0) room_1.cells room_1.slots (T9.setTop (mkF m 171 #[.val (.long q0), .second, .val (.long q1), .second, .val (.long q2), .second, .val (.int p3), .val (.int p4), .val (.long q5), .second, .val (.int pe), .val (.int pl), .val (.int pg), .val (.int pn), .val (.int s1), .val (.int s2), .val (.int s3), .val (.int s4), .val (.ref id1), .val (.ref id3), .val (.ref kd9), .unset, .unset, .unset, .unset, .unset, .unset, .unset, .unset, .unset, .unset, .unset, .unset] [(.int (((p4.toUInt32 >>> ((19 : Int32) &&& 31).toUInt32).toInt32) &&& (7 : Int32)))]))
  refine GoesW.step (fun _ k => XS.iconst X9.here hx rfl (hb hby at_171) k) ?_
  show GoesW p.tables e below s (Q0 Z q0 q1 q2 p3 p4 q5 cs x_CO x_BUNDLE x_SERIES x_OUTAGE x_QUEUED h0 n0) room_1.cells room_1.slots (T9.setTop (mkF m 172 #[.val (.long q0), .second, .val (.long q1), .second, .val (.long q2), .second, .val (.int p3), .val (.int p4), .val (.long q5), .second, .val (.int pe), .val (.int pl), .val (.int pg), .val (.int pn), .val (.int s1), .val (.int s2), .val (.int s3), .val (.int s4), .val (.ref id1), .val (.ref id3), .val (.ref kd9), .unset, .unset, .unset, .unset, .unset, .unset, .unset, .unset, .unset, .unset, .unset, .unset] [(.int (5 : Int32)), (.int (((p4.toUInt32 >>> ((19 : Int32) &&& 31).toUInt32).toInt32) &&& (7 : Int32)))]))
  refine GoesW.step (fun _ k => iremM X9 hx rfl (hb hby at_172) rfl (by decide) k) ?_
  show GoesW p.tables e below s (Q0 Z q0 q1 q2 p3 p4 q5 cs x_CO x_BUNDLE x_SERIES x_OUTAGE x_QUEUED h0 n0) room_1.cells room_1.slots (T9.setTop (mkF m 173 #[.val (.long q0), .second, .val (.long q1), .second, .val (.long q2), .second, .val (.int p3), .val (.int p4), .val (.long q5), .second, .val (.int pe), .val (.int pl), .val (.int pg), .val (.int pn), .val (.int s1), .val (.int s2), .val (.int s3), .val (.int s4), .val (.ref id1), .val (.ref id3), .val (.ref kd9), .unset, .unset, .unset, .unset, .unset, .unset, .unset, .unset, .unset, .unset, .unset, .unset] [(.int ((((p4.toUInt32 >>> ((19 : Int32) &&& 31).toUInt32).toInt32) &&& (7 : Int32)) % (5 : Int32)))]))
  generalize hk2 : ((((p4.toUInt32 >>> ((19 : Int32) &&& 31).toUInt32).toInt32) &&& (7 : Int32)) % (5 : Int32)) = k2
  show GoesW p.tables e below s (Q0 Z q0 q1 q2 p3 p4 q5 cs x_CO x_BUNDLE x_SERIES x_OUTAGE x_QUEUED h0 n0) room_1.cells room_1.slots (T9.setTop (mkF m 173 #[.val (.long q0), .second, .val (.long q1), .second, .val (.long q2), .second, .val (.int p3), .val (.int p4), .val (.long q5), .second, .val (.int pe), .val (.int pl), .val (.int pg), .val (.int pn), .val (.int s1), .val (.int s2), .val (.int s3), .val (.int s4), .val (.ref id1), .val (.ref id3), .val (.ref kd9), .unset, .unset, .unset, .unset, .unset, .unset, .unset, .unset, .unset, .unset, .unset, .unset] [(.int k2)]))
  obtain ⟨_, _, ⟨T10, L10, k10, n10⟩, -, X10, ⟨Lc10, hQ10, l10, y10, z10⟩, st10⟩ := Jvm.LawKit.callS X9 hx (y := (⟨"com/example/forehold/forehold/ledger/JobAlikePinLaw", "kindOf", "(I)Lcom/example/forehold/forehold/ledger/Kind;"⟩ : MethodName)) hown (mvT hZ (hw _ (List.mem_of_getElem? (i := 26) rfl))) (mvT hZ (hw _ (List.mem_of_getElem? (i := 27) rfl))) (mvT hZ (hw _ (List.mem_of_getElem? (i := 28) rfl))) (mvT hZ (hw _ (List.mem_of_getElem? (i := 29) rfl))) (by decide) (backOf (W := 0) (rm6 l Z a0 hw [] k2 x_CO x_BUNDLE x_SERIES x_OUTAGE x_QUEUED T3.heap n0 Z3 Sta_CO_4 Sta_BUNDLE_5 Sta_SERIES_6 Sta_OUTAGE_7 Sta_QUEUED_8) hZ (hw _ (List.mem_of_getElem? (i := 29) rfl)) (hw _ (List.mem_of_getElem? (i := 28) rfl)) (by decide) (by decide)) (g := (mkF m 173 #[.val (.long q0), .second, .val (.long q1), .second, .val (.long q2), .second, .val (.int p3), .val (.int p4), .val (.long q5), .second, .val (.int pe), .val (.int pl), .val (.int pg), .val (.int pn), .val (.int s1), .val (.int s2), .val (.int s3), .val (.int s4), .val (.ref id1), .val (.ref id3), .val (.ref kd9), .unset, .unset, .unset, .unset, .unset, .unset, .unset, .unset, .unset, .unset, .unset, .unset] [(.int k2)])) rfl (by rw [hml]; rfl) (argsL := [(.int k2)]) (rest := []) (lenOf own_pd5 rfl) rfl (by show 2 * 0 + _ ≤ _; exact Nat.le_of_eq rfl) (hb hby at_173) (fun _ _ => ⟨rfl, eq9, (by decide : 4 + 0 ≤ _), (by decide : 10 + 0 ≤ _)⟩)
  dsimp only [Pt.U, Pt.locs, Pt.cells, Pt.slots] at X10 l10 y10 z10 st10 hQ10
  subst l10 y10 z10
  obtain ⟨⟨kd10, rfl⟩, N10q, eq10⟩ := hQ10
  have N10 := Fr.app N9 N10q
  refine GoesW.step st10 ?_
  show GoesW p.tables e below s (Q0 Z q0 q1 q2 p3 p4 q5 cs x_CO x_BUNDLE x_SERIES x_OUTAGE x_QUEUED h0 n0) room_1.cells room_1.slots (T10.setTop (mkF m 176 #[.val (.long q0), .second, .val (.long q1), .second, .val (.long q2), .second, .val (.int p3), .val (.int p4), .val (.long q5), .second, .val (.int pe), .val (.int pl), .val (.int pg), .val (.int pn), .val (.int s1), .val (.int s2), .val (.int s3), .val (.int s4), .val (.ref id1), .val (.ref id3), .val (.ref kd9), .unset, .unset, .unset, .unset, .unset, .unset, .unset, .unset, .unset, .unset, .unset, .unset] [(.ref kd10)]))
  refine GoesW.step (fun _ k => XS.astore X10.here hx rfl (hb hby at_176) rfl rfl (l' := #[.val (.long q0), .second, .val (.long q1), .second, .val (.long q2), .second, .val (.int p3), .val (.int p4), .val (.long q5), .second, .val (.int pe), .val (.int pl), .val (.int pg), .val (.int pn), .val (.int s1), .val (.int s2), .val (.int s3), .val (.int s4), .val (.ref id1), .val (.ref id3), .val (.ref kd9), .val (.ref kd10), .unset, .unset, .unset, .unset, .unset, .unset, .unset, .unset, .unset, .unset, .unset]) rfl k) ?_
  show GoesW p.tables e below s (Q0 Z q0 q1 q2 p3 p4 q5 cs x_CO x_BUNDLE x_SERIES x_OUTAGE x_QUEUED h0 n0) room_1.cells room_1.slots (T10.setTop (mkF m 178 #[.val (.long q0), .second, .val (.long q1), .second, .val (.long q2), .second, .val (.int p3), .val (.int p4), .val (.long q5), .second, .val (.int pe), .val (.int pl), .val (.int pg), .val (.int pn), .val (.int s1), .val (.int s2), .val (.int s3), .val (.int s4), .val (.ref id1), .val (.ref id3), .val (.ref kd9), .val (.ref kd10), .unset, .unset, .unset, .unset, .unset, .unset, .unset, .unset, .unset, .unset, .unset] []))
  refine GoesW.step (fun _ k => XS.iload X10.here hx rfl (hb hby at_178) rfl k) ?_
  show GoesW p.tables e below s (Q0 Z q0 q1 q2 p3 p4 q5 cs x_CO x_BUNDLE x_SERIES x_OUTAGE x_QUEUED h0 n0) room_1.cells room_1.slots (T10.setTop (mkF m 180 #[.val (.long q0), .second, .val (.long q1), .second, .val (.long q2), .second, .val (.int p3), .val (.int p4), .val (.long q5), .second, .val (.int pe), .val (.int pl), .val (.int pg), .val (.int pn), .val (.int s1), .val (.int s2), .val (.int s3), .val (.int s4), .val (.ref id1), .val (.ref id3), .val (.ref kd9), .val (.ref kd10), .unset, .unset, .unset, .unset, .unset, .unset, .unset, .unset, .unset, .unset, .unset] [(.int pe)]))
  have J191 : ∀ (TJ11 : State) (LJ11 : List Loc) (e2 : Int64), Stand p l e room_1 s m #[(.long q0), (.long q1), (.long q2), (.int p3), (.int p4), (.long q5)] below meth c TJ11 LJ11 4 10 → TJ11.heap = T3.heap → Fr n0 LJ11 → (e2 = if pe = 0 then q0 else q0 ^^^ q5) → GoesW p.tables e below s (Q0 Z q0 q1 q2 p3 p4 q5 cs x_CO x_BUNDLE x_SERIES x_OUTAGE x_QUEUED h0 n0) room_1.cells room_1.slots (TJ11.setTop (mkF m 191 #[.val (.long q0), .second, .val (.long q1), .second, .val (.long q2), .second, .val (.int p3), .val (.int p4), .val (.long q5), .second, .val (.int pe), .val (.int pl), .val (.int pg), .val (.int pn), .val (.int s1), .val (.int s2), .val (.int s3), .val (.int s4), .val (.ref id1), .val (.ref id3), .val (.ref kd9), .val (.ref kd10), .unset, .unset, .unset, .unset, .unset, .unset, .unset, .unset, .unset, .unset, .unset] [(.long e2)])) := by
    intro TJ11 LJ11 e2 XJ11 eJ11 NJ11 he2
    show GoesW p.tables e below s (Q0 Z q0 q1 q2 p3 p4 q5 cs x_CO x_BUNDLE x_SERIES x_OUTAGE x_QUEUED h0 n0) room_1.cells room_1.slots (TJ11.setTop (mkF m 191 #[.val (.long q0), .second, .val (.long q1), .second, .val (.long q2), .second, .val (.int p3), .val (.int p4), .val (.long q5), .second, .val (.int pe), .val (.int pl), .val (.int pg), .val (.int pn), .val (.int s1), .val (.int s2), .val (.int s3), .val (.int s4), .val (.ref id1), .val (.ref id3), .val (.ref kd9), .val (.ref kd10), .unset, .unset, .unset, .unset, .unset, .unset, .unset, .unset, .unset, .unset, .unset] [(.long e2)]))
    refine GoesW.step (fun _ k => XS.lstore XJ11.here hx rfl (hb hby at_191) rfl (l' := #[.val (.long q0), .second, .val (.long q1), .second, .val (.long q2), .second, .val (.int p3), .val (.int p4), .val (.long q5), .second, .val (.int pe), .val (.int pl), .val (.int pg), .val (.int pn), .val (.int s1), .val (.int s2), .val (.int s3), .val (.int s4), .val (.ref id1), .val (.ref id3), .val (.ref kd9), .val (.ref kd10), .val (.long e2), .second, .unset, .unset, .unset, .unset, .unset, .unset, .unset, .unset, .unset]) rfl k) ?_
    show GoesW p.tables e below s (Q0 Z q0 q1 q2 p3 p4 q5 cs x_CO x_BUNDLE x_SERIES x_OUTAGE x_QUEUED h0 n0) room_1.cells room_1.slots (TJ11.setTop (mkF m 193 #[.val (.long q0), .second, .val (.long q1), .second, .val (.long q2), .second, .val (.int p3), .val (.int p4), .val (.long q5), .second, .val (.int pe), .val (.int pl), .val (.int pg), .val (.int pn), .val (.int s1), .val (.int s2), .val (.int s3), .val (.int s4), .val (.ref id1), .val (.ref id3), .val (.ref kd9), .val (.ref kd10), .val (.long e2), .second, .unset, .unset, .unset, .unset, .unset, .unset, .unset, .unset, .unset] []))
    refine GoesW.step (fun _ k => XS.iload XJ11.here hx rfl (hb hby at_193) rfl k) ?_
    show GoesW p.tables e below s (Q0 Z q0 q1 q2 p3 p4 q5 cs x_CO x_BUNDLE x_SERIES x_OUTAGE x_QUEUED h0 n0) room_1.cells room_1.slots (TJ11.setTop (mkF m 195 #[.val (.long q0), .second, .val (.long q1), .second, .val (.long q2), .second, .val (.int p3), .val (.int p4), .val (.long q5), .second, .val (.int pe), .val (.int pl), .val (.int pg), .val (.int pn), .val (.int s1), .val (.int s2), .val (.int s3), .val (.int s4), .val (.ref id1), .val (.ref id3), .val (.ref kd9), .val (.ref kd10), .val (.long e2), .second, .unset, .unset, .unset, .unset, .unset, .unset, .unset, .unset, .unset] [(.int pl)]))
    have J206 : ∀ (TJ12 : State) (LJ12 : List Loc) (l2 : Int64), Stand p l e room_1 s m #[(.long q0), (.long q1), (.long q2), (.int p3), (.int p4), (.long q5)] below meth c TJ12 LJ12 4 10 → TJ12.heap = T3.heap → Fr n0 LJ12 → (l2 = if pl = 0 then q1 else q1 ^^^ q5) → GoesW p.tables e below s (Q0 Z q0 q1 q2 p3 p4 q5 cs x_CO x_BUNDLE x_SERIES x_OUTAGE x_QUEUED h0 n0) room_1.cells room_1.slots (TJ12.setTop (mkF m 206 #[.val (.long q0), .second, .val (.long q1), .second, .val (.long q2), .second, .val (.int p3), .val (.int p4), .val (.long q5), .second, .val (.int pe), .val (.int pl), .val (.int pg), .val (.int pn), .val (.int s1), .val (.int s2), .val (.int s3), .val (.int s4), .val (.ref id1), .val (.ref id3), .val (.ref kd9), .val (.ref kd10), .val (.long e2), .second, .unset, .unset, .unset, .unset, .unset, .unset, .unset, .unset, .unset] [(.long l2)])) := by
      intro TJ12 LJ12 l2 XJ12 eJ12 NJ12 hl2
      show GoesW p.tables e below s (Q0 Z q0 q1 q2 p3 p4 q5 cs x_CO x_BUNDLE x_SERIES x_OUTAGE x_QUEUED h0 n0) room_1.cells room_1.slots (TJ12.setTop (mkF m 206 #[.val (.long q0), .second, .val (.long q1), .second, .val (.long q2), .second, .val (.int p3), .val (.int p4), .val (.long q5), .second, .val (.int pe), .val (.int pl), .val (.int pg), .val (.int pn), .val (.int s1), .val (.int s2), .val (.int s3), .val (.int s4), .val (.ref id1), .val (.ref id3), .val (.ref kd9), .val (.ref kd10), .val (.long e2), .second, .unset, .unset, .unset, .unset, .unset, .unset, .unset, .unset, .unset] [(.long l2)]))
      refine GoesW.step (fun _ k => XS.lstore XJ12.here hx rfl (hb hby at_206) rfl (l' := #[.val (.long q0), .second, .val (.long q1), .second, .val (.long q2), .second, .val (.int p3), .val (.int p4), .val (.long q5), .second, .val (.int pe), .val (.int pl), .val (.int pg), .val (.int pn), .val (.int s1), .val (.int s2), .val (.int s3), .val (.int s4), .val (.ref id1), .val (.ref id3), .val (.ref kd9), .val (.ref kd10), .val (.long e2), .second, .val (.long l2), .second, .unset, .unset, .unset, .unset, .unset, .unset, .unset]) rfl k) ?_
      show GoesW p.tables e below s (Q0 Z q0 q1 q2 p3 p4 q5 cs x_CO x_BUNDLE x_SERIES x_OUTAGE x_QUEUED h0 n0) room_1.cells room_1.slots (TJ12.setTop (mkF m 208 #[.val (.long q0), .second, .val (.long q1), .second, .val (.long q2), .second, .val (.int p3), .val (.int p4), .val (.long q5), .second, .val (.int pe), .val (.int pl), .val (.int pg), .val (.int pn), .val (.int s1), .val (.int s2), .val (.int s3), .val (.int s4), .val (.ref id1), .val (.ref id3), .val (.ref kd9), .val (.ref kd10), .val (.long e2), .second, .val (.long l2), .second, .unset, .unset, .unset, .unset, .unset, .unset, .unset] []))
      refine GoesW.step (fun _ k => XS.iload XJ12.here hx rfl (hb hby at_208) rfl k) ?_
      show GoesW p.tables e below s (Q0 Z q0 q1 q2 p3 p4 q5 cs x_CO x_BUNDLE x_SERIES x_OUTAGE x_QUEUED h0 n0) room_1.cells room_1.slots (TJ12.setTop (mkF m 210 #[.val (.long q0), .second, .val (.long q1), .second, .val (.long q2), .second, .val (.int p3), .val (.int p4), .val (.long q5), .second, .val (.int pe), .val (.int pl), .val (.int pg), .val (.int pn), .val (.int s1), .val (.int s2), .val (.int s3), .val (.int s4), .val (.ref id1), .val (.ref id3), .val (.ref kd9), .val (.ref kd10), .val (.long e2), .second, .val (.long l2), .second, .unset, .unset, .unset, .unset, .unset, .unset, .unset] [(.int pg)]))
      have J223 : ∀ (TJ13 : State) (LJ13 : List Loc) (g2 : Int64), Stand p l e room_1 s m #[(.long q0), (.long q1), (.long q2), (.int p3), (.int p4), (.long q5)] below meth c TJ13 LJ13 4 10 → TJ13.heap = T3.heap → Fr n0 LJ13 → (g2 = if pg = 0 then q2 else q2 ^^^ q5) → GoesW p.tables e below s (Q0 Z q0 q1 q2 p3 p4 q5 cs x_CO x_BUNDLE x_SERIES x_OUTAGE x_QUEUED h0 n0) room_1.cells room_1.slots (TJ13.setTop (mkF m 223 #[.val (.long q0), .second, .val (.long q1), .second, .val (.long q2), .second, .val (.int p3), .val (.int p4), .val (.long q5), .second, .val (.int pe), .val (.int pl), .val (.int pg), .val (.int pn), .val (.int s1), .val (.int s2), .val (.int s3), .val (.int s4), .val (.ref id1), .val (.ref id3), .val (.ref kd9), .val (.ref kd10), .val (.long e2), .second, .val (.long l2), .second, .unset, .unset, .unset, .unset, .unset, .unset, .unset] [(.long g2)])) := by
        intro TJ13 LJ13 g2 XJ13 eJ13 NJ13 hg2
        show GoesW p.tables e below s (Q0 Z q0 q1 q2 p3 p4 q5 cs x_CO x_BUNDLE x_SERIES x_OUTAGE x_QUEUED h0 n0) room_1.cells room_1.slots (TJ13.setTop (mkF m 223 #[.val (.long q0), .second, .val (.long q1), .second, .val (.long q2), .second, .val (.int p3), .val (.int p4), .val (.long q5), .second, .val (.int pe), .val (.int pl), .val (.int pg), .val (.int pn), .val (.int s1), .val (.int s2), .val (.int s3), .val (.int s4), .val (.ref id1), .val (.ref id3), .val (.ref kd9), .val (.ref kd10), .val (.long e2), .second, .val (.long l2), .second, .unset, .unset, .unset, .unset, .unset, .unset, .unset] [(.long g2)]))
        refine GoesW.step (fun _ k => XS.lstore XJ13.here hx rfl (hb hby at_223) rfl (l' := #[.val (.long q0), .second, .val (.long q1), .second, .val (.long q2), .second, .val (.int p3), .val (.int p4), .val (.long q5), .second, .val (.int pe), .val (.int pl), .val (.int pg), .val (.int pn), .val (.int s1), .val (.int s2), .val (.int s3), .val (.int s4), .val (.ref id1), .val (.ref id3), .val (.ref kd9), .val (.ref kd10), .val (.long e2), .second, .val (.long l2), .second, .val (.long g2), .second, .unset, .unset, .unset, .unset, .unset]) rfl k) ?_
        show GoesW p.tables e below s (Q0 Z q0 q1 q2 p3 p4 q5 cs x_CO x_BUNDLE x_SERIES x_OUTAGE x_QUEUED h0 n0) room_1.cells room_1.slots (TJ13.setTop (mkF m 225 #[.val (.long q0), .second, .val (.long q1), .second, .val (.long q2), .second, .val (.int p3), .val (.int p4), .val (.long q5), .second, .val (.int pe), .val (.int pl), .val (.int pg), .val (.int pn), .val (.int s1), .val (.int s2), .val (.int s3), .val (.int s4), .val (.ref id1), .val (.ref id3), .val (.ref kd9), .val (.ref kd10), .val (.long e2), .second, .val (.long l2), .second, .val (.long g2), .second, .unset, .unset, .unset, .unset, .unset] []))
        refine GoesW.step (fun _ k => XS.iload XJ13.here hx rfl (hb hby at_225) rfl k) ?_
        show GoesW p.tables e below s (Q0 Z q0 q1 q2 p3 p4 q5 cs x_CO x_BUNDLE x_SERIES x_OUTAGE x_QUEUED h0 n0) room_1.cells room_1.slots (TJ13.setTop (mkF m 227 #[.val (.long q0), .second, .val (.long q1), .second, .val (.long q2), .second, .val (.int p3), .val (.int p4), .val (.long q5), .second, .val (.int pe), .val (.int pl), .val (.int pg), .val (.int pn), .val (.int s1), .val (.int s2), .val (.int s3), .val (.int s4), .val (.ref id1), .val (.ref id3), .val (.ref kd9), .val (.ref kd10), .val (.long e2), .second, .val (.long l2), .second, .val (.long g2), .second, .unset, .unset, .unset, .unset, .unset] [(.int pn)]))
        have J241 : ∀ (TJ14 : State) (LJ14 : List Loc) (n2 : Int32), Stand p l e room_1 s m #[(.long q0), (.long q1), (.long q2), (.int p3), (.int p4), (.long q5)] below meth c TJ14 LJ14 4 10 → TJ14.heap = T3.heap → Fr n0 LJ14 → (n2 = if pn = 0 then p3 else p3 ^^^ q5.toInt32) → GoesW p.tables e below s (Q0 Z q0 q1 q2 p3 p4 q5 cs x_CO x_BUNDLE x_SERIES x_OUTAGE x_QUEUED h0 n0) room_1.cells room_1.slots (TJ14.setTop (mkF m 241 #[.val (.long q0), .second, .val (.long q1), .second, .val (.long q2), .second, .val (.int p3), .val (.int p4), .val (.long q5), .second, .val (.int pe), .val (.int pl), .val (.int pg), .val (.int pn), .val (.int s1), .val (.int s2), .val (.int s3), .val (.int s4), .val (.ref id1), .val (.ref id3), .val (.ref kd9), .val (.ref kd10), .val (.long e2), .second, .val (.long l2), .second, .val (.long g2), .second, .unset, .unset, .unset, .unset, .unset] [(.int n2)])) := by
          intro TJ14 LJ14 n2 XJ14 eJ14 NJ14 hn2
          show GoesW p.tables e below s (Q0 Z q0 q1 q2 p3 p4 q5 cs x_CO x_BUNDLE x_SERIES x_OUTAGE x_QUEUED h0 n0) room_1.cells room_1.slots (TJ14.setTop (mkF m 241 #[.val (.long q0), .second, .val (.long q1), .second, .val (.long q2), .second, .val (.int p3), .val (.int p4), .val (.long q5), .second, .val (.int pe), .val (.int pl), .val (.int pg), .val (.int pn), .val (.int s1), .val (.int s2), .val (.int s3), .val (.int s4), .val (.ref id1), .val (.ref id3), .val (.ref kd9), .val (.ref kd10), .val (.long e2), .second, .val (.long l2), .second, .val (.long g2), .second, .unset, .unset, .unset, .unset, .unset] [(.int n2)]))
          refine GoesW.step (fun _ k => XS.istore XJ14.here hx rfl (hb hby at_241) rfl (l' := #[.val (.long q0), .second, .val (.long q1), .second, .val (.long q2), .second, .val (.int p3), .val (.int p4), .val (.long q5), .second, .val (.int pe), .val (.int pl), .val (.int pg), .val (.int pn), .val (.int s1), .val (.int s2), .val (.int s3), .val (.int s4), .val (.ref id1), .val (.ref id3), .val (.ref kd9), .val (.ref kd10), .val (.long e2), .second, .val (.long l2), .second, .val (.long g2), .second, .val (.int n2), .unset, .unset, .unset, .unset]) rfl k) ?_
          show GoesW p.tables e below s (Q0 Z q0 q1 q2 p3 p4 q5 cs x_CO x_BUNDLE x_SERIES x_OUTAGE x_QUEUED h0 n0) room_1.cells room_1.slots (TJ14.setTop (mkF m 243 #[.val (.long q0), .second, .val (.long q1), .second, .val (.long q2), .second, .val (.int p3), .val (.int p4), .val (.long q5), .second, .val (.int pe), .val (.int pl), .val (.int pg), .val (.int pn), .val (.int s1), .val (.int s2), .val (.int s3), .val (.int s4), .val (.ref id1), .val (.ref id3), .val (.ref kd9), .val (.ref kd10), .val (.long e2), .second, .val (.long l2), .second, .val (.long g2), .second, .val (.int n2), .unset, .unset, .unset, .unset] []))
          obtain ⟨T15, h15, X15, e15, E15, A15, D15, -, st15⟩ := newO XJ14 hx hZ hown (hw _ (List.mem_of_getElem? (i := 33) rfl)) (hw _ (List.mem_of_getElem? (i := 34) rfl)) (hw _ (List.mem_of_getElem? (i := 35) rfl)) eJ14 (g := (mkF m 243 #[.val (.long q0), .second, .val (.long q1), .second, .val (.long q2), .second, .val (.int p3), .val (.int p4), .val (.long q5), .second, .val (.int pe), .val (.int pl), .val (.int pg), .val (.int pn), .val (.int s1), .val (.int s2), .val (.int s3), .val (.int s4), .val (.ref id1), .val (.ref id3), .val (.ref kd9), .val (.ref kd10), .val (.long e2), .second, .val (.long l2), .second, .val (.long g2), .second, .val (.int n2), .unset, .unset, .unset, .unset] [])) rfl (hb hby at_243) (by decide) (by decide)
          obtain ⟨x1, gs15⟩ : ∃ z, z = T3.heap.size := ⟨_, rfl⟩
          rw [← gs15] at A15 D15 st15
          have g_x1 : n0 ≤ x1 := Nat.le_trans Z3 (Nat.le_of_eq gs15.symm)
          have Z15 : n0 ≤ h15.size := Nat.le_trans Z3 E15.1
          have F_id_x1 : Fld Z h15 x1 "com/example/forehold/forehold/ledger/Job" "id" "Ljava/lang/String;" .null := D15 (Or.inr (hw _ (List.mem_of_getElem? (i := 46) rfl))) (ty := (.object "java/lang/String")) (by decide)
          have F_kind_x1 : Fld Z h15 x1 "com/example/forehold/forehold/ledger/Job" "kind" "Lcom/example/forehold/forehold/ledger/Kind;" .null := D15 (Or.inr (hw _ (List.mem_of_getElem? (i := 48) rfl))) (ty := (.object "com/example/forehold/forehold/ledger/Kind")) (by decide)
          have F_earliest_x1 : Fld Z h15 x1 "com/example/forehold/forehold/ledger/Job" "earliest" "J" (.long (0 : Int64)) := D15 (Or.inr (hw _ (List.mem_of_getElem? (i := 50) rfl))) (ty := .long) (by decide)
          have F_latest_x1 : Fld Z h15 x1 "com/example/forehold/forehold/ledger/Job" "latest" "J" (.long (0 : Int64)) := D15 (Or.inr (hw _ (List.mem_of_getElem? (i := 52) rfl))) (ty := .long) (by decide)
          have F_length_x1 : Fld Z h15 x1 "com/example/forehold/forehold/ledger/Job" "length" "J" (.long (0 : Int64)) := D15 (Or.inr (hw _ (List.mem_of_getElem? (i := 54) rfl))) (ty := .long) (by decide)
          have F_nodes_x1 : Fld Z h15 x1 "com/example/forehold/forehold/ledger/Job" "nodes" "I" (.int (0 : Int32)) := D15 (Or.inr (hw _ (List.mem_of_getElem? (i := 56) rfl))) (ty := .int) (by decide)
          have F_softLength_x1 : Fld Z h15 x1 "com/example/forehold/forehold/ledger/Job" "softLength" "Z" (.int (0 : Int32)) := D15 (Or.inr (hw _ (List.mem_of_getElem? (i := 58) rfl))) (ty := .boolean) (by decide)
          have F_softNodes_x1 : Fld Z h15 x1 "com/example/forehold/forehold/ledger/Job" "softNodes" "Z" (.int (0 : Int32)) := D15 (Or.inr (hw _ (List.mem_of_getElem? (i := 60) rfl))) (ty := .boolean) (by decide)
          refine GoesW.step st15 ?_
          show GoesW p.tables e below s (Q0 Z q0 q1 q2 p3 p4 q5 cs x_CO x_BUNDLE x_SERIES x_OUTAGE x_QUEUED h0 n0) room_1.cells room_1.slots (T15.setTop (mkF m 246 #[.val (.long q0), .second, .val (.long q1), .second, .val (.long q2), .second, .val (.int p3), .val (.int p4), .val (.long q5), .second, .val (.int pe), .val (.int pl), .val (.int pg), .val (.int pn), .val (.int s1), .val (.int s2), .val (.int s3), .val (.int s4), .val (.ref id1), .val (.ref id3), .val (.ref kd9), .val (.ref kd10), .val (.long e2), .second, .val (.long l2), .second, .val (.long g2), .second, .val (.int n2), .unset, .unset, .unset, .unset] [(.ref x1)]))
          refine GoesW.step (fun _ k => XS.dup X15.here hx rfl (hb hby at_246) rfl rfl k) ?_
          show GoesW p.tables e below s (Q0 Z q0 q1 q2 p3 p4 q5 cs x_CO x_BUNDLE x_SERIES x_OUTAGE x_QUEUED h0 n0) room_1.cells room_1.slots (T15.setTop (mkF m 247 #[.val (.long q0), .second, .val (.long q1), .second, .val (.long q2), .second, .val (.int p3), .val (.int p4), .val (.long q5), .second, .val (.int pe), .val (.int pl), .val (.int pg), .val (.int pn), .val (.int s1), .val (.int s2), .val (.int s3), .val (.int s4), .val (.ref id1), .val (.ref id3), .val (.ref kd9), .val (.ref kd10), .val (.long e2), .second, .val (.long l2), .second, .val (.long g2), .second, .val (.int n2), .unset, .unset, .unset, .unset] [(.ref x1), (.ref x1)]))
          refine GoesW.step (fun _ k => XS.aload X15.here hx rfl (hb hby at_247) rfl rfl k) ?_
          show GoesW p.tables e below s (Q0 Z q0 q1 q2 p3 p4 q5 cs x_CO x_BUNDLE x_SERIES x_OUTAGE x_QUEUED h0 n0) room_1.cells room_1.slots (T15.setTop (mkF m 249 #[.val (.long q0), .second, .val (.long q1), .second, .val (.long q2), .second, .val (.int p3), .val (.int p4), .val (.long q5), .second, .val (.int pe), .val (.int pl), .val (.int pg), .val (.int pn), .val (.int s1), .val (.int s2), .val (.int s3), .val (.int s4), .val (.ref id1), .val (.ref id3), .val (.ref kd9), .val (.ref kd10), .val (.long e2), .second, .val (.long l2), .second, .val (.long g2), .second, .val (.int n2), .unset, .unset, .unset, .unset] [(.ref id1), (.ref x1), (.ref x1)]))
          refine GoesW.step (fun _ k => XS.aload X15.here hx rfl (hb hby at_249) rfl rfl k) ?_
          show GoesW p.tables e below s (Q0 Z q0 q1 q2 p3 p4 q5 cs x_CO x_BUNDLE x_SERIES x_OUTAGE x_QUEUED h0 n0) room_1.cells room_1.slots (T15.setTop (mkF m 251 #[.val (.long q0), .second, .val (.long q1), .second, .val (.long q2), .second, .val (.int p3), .val (.int p4), .val (.long q5), .second, .val (.int pe), .val (.int pl), .val (.int pg), .val (.int pn), .val (.int s1), .val (.int s2), .val (.int s3), .val (.int s4), .val (.ref id1), .val (.ref id3), .val (.ref kd9), .val (.ref kd10), .val (.long e2), .second, .val (.long l2), .second, .val (.long g2), .second, .val (.int n2), .unset, .unset, .unset, .unset] [(.ref kd9), (.ref id1), (.ref x1), (.ref x1)]))
          refine GoesW.step (fun _ k => XS.lloadN X15.here hx rfl (hb hby at_251) rfl k) ?_
          show GoesW p.tables e below s (Q0 Z q0 q1 q2 p3 p4 q5 cs x_CO x_BUNDLE x_SERIES x_OUTAGE x_QUEUED h0 n0) room_1.cells room_1.slots (T15.setTop (mkF m 252 #[.val (.long q0), .second, .val (.long q1), .second, .val (.long q2), .second, .val (.int p3), .val (.int p4), .val (.long q5), .second, .val (.int pe), .val (.int pl), .val (.int pg), .val (.int pn), .val (.int s1), .val (.int s2), .val (.int s3), .val (.int s4), .val (.ref id1), .val (.ref id3), .val (.ref kd9), .val (.ref kd10), .val (.long e2), .second, .val (.long l2), .second, .val (.long g2), .second, .val (.int n2), .unset, .unset, .unset, .unset] [(.long q0), (.ref kd9), (.ref id1), (.ref x1), (.ref x1)]))
          refine GoesW.step (fun _ k => XS.lloadN X15.here hx rfl (hb hby at_252) rfl k) ?_
          show GoesW p.tables e below s (Q0 Z q0 q1 q2 p3 p4 q5 cs x_CO x_BUNDLE x_SERIES x_OUTAGE x_QUEUED h0 n0) room_1.cells room_1.slots (T15.setTop (mkF m 253 #[.val (.long q0), .second, .val (.long q1), .second, .val (.long q2), .second, .val (.int p3), .val (.int p4), .val (.long q5), .second, .val (.int pe), .val (.int pl), .val (.int pg), .val (.int pn), .val (.int s1), .val (.int s2), .val (.int s3), .val (.int s4), .val (.ref id1), .val (.ref id3), .val (.ref kd9), .val (.ref kd10), .val (.long e2), .second, .val (.long l2), .second, .val (.long g2), .second, .val (.int n2), .unset, .unset, .unset, .unset] [(.long q1), (.long q0), (.ref kd9), (.ref id1), (.ref x1), (.ref x1)]))
          refine GoesW.step (fun _ k => XS.lload X15.here hx rfl (hb hby at_253) rfl k) ?_
          show GoesW p.tables e below s (Q0 Z q0 q1 q2 p3 p4 q5 cs x_CO x_BUNDLE x_SERIES x_OUTAGE x_QUEUED h0 n0) room_1.cells room_1.slots (T15.setTop (mkF m 255 #[.val (.long q0), .second, .val (.long q1), .second, .val (.long q2), .second, .val (.int p3), .val (.int p4), .val (.long q5), .second, .val (.int pe), .val (.int pl), .val (.int pg), .val (.int pn), .val (.int s1), .val (.int s2), .val (.int s3), .val (.int s4), .val (.ref id1), .val (.ref id3), .val (.ref kd9), .val (.ref kd10), .val (.long e2), .second, .val (.long l2), .second, .val (.long g2), .second, .val (.int n2), .unset, .unset, .unset, .unset] [(.long q2), (.long q1), (.long q0), (.ref kd9), (.ref id1), (.ref x1), (.ref x1)]))
          refine GoesW.step (fun _ k => XS.iload X15.here hx rfl (hb hby at_255) rfl k) ?_
          show GoesW p.tables e below s (Q0 Z q0 q1 q2 p3 p4 q5 cs x_CO x_BUNDLE x_SERIES x_OUTAGE x_QUEUED h0 n0) room_1.cells room_1.slots (T15.setTop (mkF m 257 #[.val (.long q0), .second, .val (.long q1), .second, .val (.long q2), .second, .val (.int p3), .val (.int p4), .val (.long q5), .second, .val (.int pe), .val (.int pl), .val (.int pg), .val (.int pn), .val (.int s1), .val (.int s2), .val (.int s3), .val (.int s4), .val (.ref id1), .val (.ref id3), .val (.ref kd9), .val (.ref kd10), .val (.long e2), .second, .val (.long l2), .second, .val (.long g2), .second, .val (.int n2), .unset, .unset, .unset, .unset] [(.int p3), (.long q2), (.long q1), (.long q0), (.ref kd9), (.ref id1), (.ref x1), (.ref x1)]))
          refine GoesW.step (fun _ k => XS.iload X15.here hx rfl (hb hby at_257) rfl k) ?_
          show GoesW p.tables e below s (Q0 Z q0 q1 q2 p3 p4 q5 cs x_CO x_BUNDLE x_SERIES x_OUTAGE x_QUEUED h0 n0) room_1.cells room_1.slots (T15.setTop (mkF m 259 #[.val (.long q0), .second, .val (.long q1), .second, .val (.long q2), .second, .val (.int p3), .val (.int p4), .val (.long q5), .second, .val (.int pe), .val (.int pl), .val (.int pg), .val (.int pn), .val (.int s1), .val (.int s2), .val (.int s3), .val (.int s4), .val (.ref id1), .val (.ref id3), .val (.ref kd9), .val (.ref kd10), .val (.long e2), .second, .val (.long l2), .second, .val (.long g2), .second, .val (.int n2), .unset, .unset, .unset, .unset] [(.int s1), (.int p3), (.long q2), (.long q1), (.long q0), (.ref kd9), (.ref id1), (.ref x1), (.ref x1)]))
          refine GoesW.step (fun _ k => XS.iload X15.here hx rfl (hb hby at_259) rfl k) ?_
          show GoesW p.tables e below s (Q0 Z q0 q1 q2 p3 p4 q5 cs x_CO x_BUNDLE x_SERIES x_OUTAGE x_QUEUED h0 n0) room_1.cells room_1.slots (T15.setTop (mkF m 261 #[.val (.long q0), .second, .val (.long q1), .second, .val (.long q2), .second, .val (.int p3), .val (.int p4), .val (.long q5), .second, .val (.int pe), .val (.int pl), .val (.int pg), .val (.int pn), .val (.int s1), .val (.int s2), .val (.int s3), .val (.int s4), .val (.ref id1), .val (.ref id3), .val (.ref kd9), .val (.ref kd10), .val (.long e2), .second, .val (.long l2), .second, .val (.long g2), .second, .val (.int n2), .unset, .unset, .unset, .unset] [(.int s2), (.int s1), (.int p3), (.long q2), (.long q1), (.long q0), (.ref kd9), (.ref id1), (.ref x1), (.ref x1)]))
          obtain ⟨_, _, ⟨T16, L16, k16, n16⟩, -, X16, ⟨Lc16, hQ16, l16, y16, z16⟩, st16⟩ := X15.specialBack hx (y := (⟨"com/example/forehold/forehold/ledger/Job", "<init>", "(Ljava/lang/String;Lcom/example/forehold/forehold/ledger/Kind;JJJIZZ)V"⟩ : MethodName)) rfl hown (mvT hZ (hw _ (List.mem_of_getElem? (i := 36) rfl))) (mvT hZ (hw _ (List.mem_of_getElem? (i := 37) rfl))) (mvT hZ (hw _ (List.mem_of_getElem? (i := 38) rfl))) (by decide) (backOf (W := 1) (rm7 l Z a0 hw [] x1 id1 kd9 q0 q1 q2 p3 s1 s2  h15 n0 Z15 A15 g_x1 (by rw [← hs1]; exact nar_nb _) (by rw [← hs1]; exact fits_nb _) (by rw [← hs2]; exact nar_nb _) (by rw [← hs2]; exact fits_nb _) F_id_x1 F_kind_x1 F_earliest_x1 F_latest_x1 F_length_x1 F_nodes_x1 F_softLength_x1 F_softNodes_x1) hZ (hw _ (List.mem_of_getElem? (i := 38) rfl)) (hw _ (List.mem_of_getElem? (i := 35) rfl)) (by decide) (by decide)) (g := (mkF m 261 #[.val (.long q0), .second, .val (.long q1), .second, .val (.long q2), .second, .val (.int p3), .val (.int p4), .val (.long q5), .second, .val (.int pe), .val (.int pl), .val (.int pg), .val (.int pn), .val (.int s1), .val (.int s2), .val (.int s3), .val (.int s4), .val (.ref id1), .val (.ref id3), .val (.ref kd9), .val (.ref kd10), .val (.long e2), .second, .val (.long l2), .second, .val (.long g2), .second, .val (.int n2), .unset, .unset, .unset, .unset] [(.int s2), (.int s1), (.int p3), (.long q2), (.long q1), (.long q0), (.ref kd9), (.ref id1), (.ref x1), (.ref x1)])) rfl (by rw [hml]; rfl) (Steps.refl _) (a := x1) (argsL := [(.ref id1), (.ref kd9), (.long q0), (.long q1), (.long q2), (.int p3), (.int s1), (.int s2)]) (rest := [(.ref x1)]) (lenOf own_pd6 rfl) rfl (by show 2 * 0 + _ ≤ _; exact Nat.le_of_eq rfl) (hb hby at_261) (fun _ _ => ⟨rfl, e15, (by decide : 5 + 0 ≤ _), (by decide : 18 + 0 ≤ _)⟩)
          dsimp only [Pt.U, Pt.locs, Pt.cells, Pt.slots] at X16 l16 y16 z16 st16 hQ16
          subst l16 y16 z16
          obtain ⟨rfl, N16q, K16q, Fa16, Fb16, Fc16, Fd16⟩ := hQ16
          have N16 := Fr.app NJ14 N16q
          have Z16 : n0 ≤ T16.heap.size := Nat.le_trans Z15 K16q.1
          refine GoesW.step (fun _ k => st16.trans k) ?_
          show GoesW p.tables e below s (Q0 Z q0 q1 q2 p3 p4 q5 cs x_CO x_BUNDLE x_SERIES x_OUTAGE x_QUEUED h0 n0) room_1.cells room_1.slots (T16.setTop (mkF m 264 #[.val (.long q0), .second, .val (.long q1), .second, .val (.long q2), .second, .val (.int p3), .val (.int p4), .val (.long q5), .second, .val (.int pe), .val (.int pl), .val (.int pg), .val (.int pn), .val (.int s1), .val (.int s2), .val (.int s3), .val (.int s4), .val (.ref id1), .val (.ref id3), .val (.ref kd9), .val (.ref kd10), .val (.long e2), .second, .val (.long l2), .second, .val (.long g2), .second, .val (.int n2), .unset, .unset, .unset, .unset] [(.ref x1)]))
          have Exa_x1_17 := (A15.keep K16q)
          refine GoesW.step (fun _ k => XS.astore X16.here hx rfl (hb hby at_264) rfl rfl (l' := #[.val (.long q0), .second, .val (.long q1), .second, .val (.long q2), .second, .val (.int p3), .val (.int p4), .val (.long q5), .second, .val (.int pe), .val (.int pl), .val (.int pg), .val (.int pn), .val (.int s1), .val (.int s2), .val (.int s3), .val (.int s4), .val (.ref id1), .val (.ref id3), .val (.ref kd9), .val (.ref kd10), .val (.long e2), .second, .val (.long l2), .second, .val (.long g2), .second, .val (.int n2), .val (.ref x1), .unset, .unset, .unset]) rfl k) ?_
          show GoesW p.tables e below s (Q0 Z q0 q1 q2 p3 p4 q5 cs x_CO x_BUNDLE x_SERIES x_OUTAGE x_QUEUED h0 n0) room_1.cells room_1.slots (T16.setTop (mkF m 266 #[.val (.long q0), .second, .val (.long q1), .second, .val (.long q2), .second, .val (.int p3), .val (.int p4), .val (.long q5), .second, .val (.int pe), .val (.int pl), .val (.int pg), .val (.int pn), .val (.int s1), .val (.int s2), .val (.int s3), .val (.int s4), .val (.ref id1), .val (.ref id3), .val (.ref kd9), .val (.ref kd10), .val (.long e2), .second, .val (.long l2), .second, .val (.long g2), .second, .val (.int n2), .val (.ref x1), .unset, .unset, .unset] []))
          obtain ⟨T18, h18, X18, e18, E18, A18, D18, -, st18⟩ := newO X16 hx hZ hown (hw _ (List.mem_of_getElem? (i := 33) rfl)) (hw _ (List.mem_of_getElem? (i := 34) rfl)) (hw _ (List.mem_of_getElem? (i := 35) rfl)) rfl (g := (mkF m 266 #[.val (.long q0), .second, .val (.long q1), .second, .val (.long q2), .second, .val (.int p3), .val (.int p4), .val (.long q5), .second, .val (.int pe), .val (.int pl), .val (.int pg), .val (.int pn), .val (.int s1), .val (.int s2), .val (.int s3), .val (.int s4), .val (.ref id1), .val (.ref id3), .val (.ref kd9), .val (.ref kd10), .val (.long e2), .second, .val (.long l2), .second, .val (.long g2), .second, .val (.int n2), .val (.ref x1), .unset, .unset, .unset] [])) rfl (hb hby at_266) (by decide) (by decide)
          obtain ⟨x2, gs18⟩ : ∃ z, z = T16.heap.size := ⟨_, rfl⟩
          rw [← gs18] at A18 D18 st18
          have g_x2 : n0 ≤ x2 := Nat.le_trans Z16 (Nat.le_of_eq gs18.symm)
          have ne_x1_x2 : x1 ≠ x2 := Nat.ne_of_lt (Nat.lt_of_lt_of_le Exa_x1_17.lt (Nat.le_of_eq gs18.symm))
          have Z18 : n0 ≤ h18.size := Nat.le_trans Z16 E18.1
          have F_id_x2 : Fld Z h18 x2 "com/example/forehold/forehold/ledger/Job" "id" "Ljava/lang/String;" .null := D18 (Or.inr (hw _ (List.mem_of_getElem? (i := 46) rfl))) (ty := (.object "java/lang/String")) (by decide)
          have F_kind_x2 : Fld Z h18 x2 "com/example/forehold/forehold/ledger/Job" "kind" "Lcom/example/forehold/forehold/ledger/Kind;" .null := D18 (Or.inr (hw _ (List.mem_of_getElem? (i := 48) rfl))) (ty := (.object "com/example/forehold/forehold/ledger/Kind")) (by decide)
          have F_earliest_x2 : Fld Z h18 x2 "com/example/forehold/forehold/ledger/Job" "earliest" "J" (.long (0 : Int64)) := D18 (Or.inr (hw _ (List.mem_of_getElem? (i := 50) rfl))) (ty := .long) (by decide)
          have F_latest_x2 : Fld Z h18 x2 "com/example/forehold/forehold/ledger/Job" "latest" "J" (.long (0 : Int64)) := D18 (Or.inr (hw _ (List.mem_of_getElem? (i := 52) rfl))) (ty := .long) (by decide)
          have F_length_x2 : Fld Z h18 x2 "com/example/forehold/forehold/ledger/Job" "length" "J" (.long (0 : Int64)) := D18 (Or.inr (hw _ (List.mem_of_getElem? (i := 54) rfl))) (ty := .long) (by decide)
          have F_nodes_x2 : Fld Z h18 x2 "com/example/forehold/forehold/ledger/Job" "nodes" "I" (.int (0 : Int32)) := D18 (Or.inr (hw _ (List.mem_of_getElem? (i := 56) rfl))) (ty := .int) (by decide)
          have F_softLength_x2 : Fld Z h18 x2 "com/example/forehold/forehold/ledger/Job" "softLength" "Z" (.int (0 : Int32)) := D18 (Or.inr (hw _ (List.mem_of_getElem? (i := 58) rfl))) (ty := .boolean) (by decide)
          have F_softNodes_x2 : Fld Z h18 x2 "com/example/forehold/forehold/ledger/Job" "softNodes" "Z" (.int (0 : Int32)) := D18 (Or.inr (hw _ (List.mem_of_getElem? (i := 60) rfl))) (ty := .boolean) (by decide)
          refine GoesW.step st18 ?_
          show GoesW p.tables e below s (Q0 Z q0 q1 q2 p3 p4 q5 cs x_CO x_BUNDLE x_SERIES x_OUTAGE x_QUEUED h0 n0) room_1.cells room_1.slots (T18.setTop (mkF m 269 #[.val (.long q0), .second, .val (.long q1), .second, .val (.long q2), .second, .val (.int p3), .val (.int p4), .val (.long q5), .second, .val (.int pe), .val (.int pl), .val (.int pg), .val (.int pn), .val (.int s1), .val (.int s2), .val (.int s3), .val (.int s4), .val (.ref id1), .val (.ref id3), .val (.ref kd9), .val (.ref kd10), .val (.long e2), .second, .val (.long l2), .second, .val (.long g2), .second, .val (.int n2), .val (.ref x1), .unset, .unset, .unset] [(.ref x2)]))
          refine GoesW.step (fun _ k => XS.dup X18.here hx rfl (hb hby at_269) rfl rfl k) ?_
          show GoesW p.tables e below s (Q0 Z q0 q1 q2 p3 p4 q5 cs x_CO x_BUNDLE x_SERIES x_OUTAGE x_QUEUED h0 n0) room_1.cells room_1.slots (T18.setTop (mkF m 270 #[.val (.long q0), .second, .val (.long q1), .second, .val (.long q2), .second, .val (.int p3), .val (.int p4), .val (.long q5), .second, .val (.int pe), .val (.int pl), .val (.int pg), .val (.int pn), .val (.int s1), .val (.int s2), .val (.int s3), .val (.int s4), .val (.ref id1), .val (.ref id3), .val (.ref kd9), .val (.ref kd10), .val (.long e2), .second, .val (.long l2), .second, .val (.long g2), .second, .val (.int n2), .val (.ref x1), .unset, .unset, .unset] [(.ref x2), (.ref x2)]))
          refine GoesW.step (fun _ k => XS.aload X18.here hx rfl (hb hby at_270) rfl rfl k) ?_
          show GoesW p.tables e below s (Q0 Z q0 q1 q2 p3 p4 q5 cs x_CO x_BUNDLE x_SERIES x_OUTAGE x_QUEUED h0 n0) room_1.cells room_1.slots (T18.setTop (mkF m 272 #[.val (.long q0), .second, .val (.long q1), .second, .val (.long q2), .second, .val (.int p3), .val (.int p4), .val (.long q5), .second, .val (.int pe), .val (.int pl), .val (.int pg), .val (.int pn), .val (.int s1), .val (.int s2), .val (.int s3), .val (.int s4), .val (.ref id1), .val (.ref id3), .val (.ref kd9), .val (.ref kd10), .val (.long e2), .second, .val (.long l2), .second, .val (.long g2), .second, .val (.int n2), .val (.ref x1), .unset, .unset, .unset] [(.ref id3), (.ref x2), (.ref x2)]))
          refine GoesW.step (fun _ k => XS.aload X18.here hx rfl (hb hby at_272) rfl rfl k) ?_
          show GoesW p.tables e below s (Q0 Z q0 q1 q2 p3 p4 q5 cs x_CO x_BUNDLE x_SERIES x_OUTAGE x_QUEUED h0 n0) room_1.cells room_1.slots (T18.setTop (mkF m 274 #[.val (.long q0), .second, .val (.long q1), .second, .val (.long q2), .second, .val (.int p3), .val (.int p4), .val (.long q5), .second, .val (.int pe), .val (.int pl), .val (.int pg), .val (.int pn), .val (.int s1), .val (.int s2), .val (.int s3), .val (.int s4), .val (.ref id1), .val (.ref id3), .val (.ref kd9), .val (.ref kd10), .val (.long e2), .second, .val (.long l2), .second, .val (.long g2), .second, .val (.int n2), .val (.ref x1), .unset, .unset, .unset] [(.ref kd10), (.ref id3), (.ref x2), (.ref x2)]))
          refine GoesW.step (fun _ k => XS.lload X18.here hx rfl (hb hby at_274) rfl k) ?_
          show GoesW p.tables e below s (Q0 Z q0 q1 q2 p3 p4 q5 cs x_CO x_BUNDLE x_SERIES x_OUTAGE x_QUEUED h0 n0) room_1.cells room_1.slots (T18.setTop (mkF m 276 #[.val (.long q0), .second, .val (.long q1), .second, .val (.long q2), .second, .val (.int p3), .val (.int p4), .val (.long q5), .second, .val (.int pe), .val (.int pl), .val (.int pg), .val (.int pn), .val (.int s1), .val (.int s2), .val (.int s3), .val (.int s4), .val (.ref id1), .val (.ref id3), .val (.ref kd9), .val (.ref kd10), .val (.long e2), .second, .val (.long l2), .second, .val (.long g2), .second, .val (.int n2), .val (.ref x1), .unset, .unset, .unset] [(.long e2), (.ref kd10), (.ref id3), (.ref x2), (.ref x2)]))
          refine GoesW.step (fun _ k => XS.lload X18.here hx rfl (hb hby at_276) rfl k) ?_
          show GoesW p.tables e below s (Q0 Z q0 q1 q2 p3 p4 q5 cs x_CO x_BUNDLE x_SERIES x_OUTAGE x_QUEUED h0 n0) room_1.cells room_1.slots (T18.setTop (mkF m 278 #[.val (.long q0), .second, .val (.long q1), .second, .val (.long q2), .second, .val (.int p3), .val (.int p4), .val (.long q5), .second, .val (.int pe), .val (.int pl), .val (.int pg), .val (.int pn), .val (.int s1), .val (.int s2), .val (.int s3), .val (.int s4), .val (.ref id1), .val (.ref id3), .val (.ref kd9), .val (.ref kd10), .val (.long e2), .second, .val (.long l2), .second, .val (.long g2), .second, .val (.int n2), .val (.ref x1), .unset, .unset, .unset] [(.long l2), (.long e2), (.ref kd10), (.ref id3), (.ref x2), (.ref x2)]))
          refine GoesW.step (fun _ k => XS.lload X18.here hx rfl (hb hby at_278) rfl k) ?_
          show GoesW p.tables e below s (Q0 Z q0 q1 q2 p3 p4 q5 cs x_CO x_BUNDLE x_SERIES x_OUTAGE x_QUEUED h0 n0) room_1.cells room_1.slots (T18.setTop (mkF m 280 #[.val (.long q0), .second, .val (.long q1), .second, .val (.long q2), .second, .val (.int p3), .val (.int p4), .val (.long q5), .second, .val (.int pe), .val (.int pl), .val (.int pg), .val (.int pn), .val (.int s1), .val (.int s2), .val (.int s3), .val (.int s4), .val (.ref id1), .val (.ref id3), .val (.ref kd9), .val (.ref kd10), .val (.long e2), .second, .val (.long l2), .second, .val (.long g2), .second, .val (.int n2), .val (.ref x1), .unset, .unset, .unset] [(.long g2), (.long l2), (.long e2), (.ref kd10), (.ref id3), (.ref x2), (.ref x2)]))
          refine GoesW.step (fun _ k => XS.iload X18.here hx rfl (hb hby at_280) rfl k) ?_
          show GoesW p.tables e below s (Q0 Z q0 q1 q2 p3 p4 q5 cs x_CO x_BUNDLE x_SERIES x_OUTAGE x_QUEUED h0 n0) room_1.cells room_1.slots (T18.setTop (mkF m 282 #[.val (.long q0), .second, .val (.long q1), .second, .val (.long q2), .second, .val (.int p3), .val (.int p4), .val (.long q5), .second, .val (.int pe), .val (.int pl), .val (.int pg), .val (.int pn), .val (.int s1), .val (.int s2), .val (.int s3), .val (.int s4), .val (.ref id1), .val (.ref id3), .val (.ref kd9), .val (.ref kd10), .val (.long e2), .second, .val (.long l2), .second, .val (.long g2), .second, .val (.int n2), .val (.ref x1), .unset, .unset, .unset] [(.int n2), (.long g2), (.long l2), (.long e2), (.ref kd10), (.ref id3), (.ref x2), (.ref x2)]))
          refine GoesW.step (fun _ k => XS.iload X18.here hx rfl (hb hby at_282) rfl k) ?_
          show GoesW p.tables e below s (Q0 Z q0 q1 q2 p3 p4 q5 cs x_CO x_BUNDLE x_SERIES x_OUTAGE x_QUEUED h0 n0) room_1.cells room_1.slots (T18.setTop (mkF m 284 #[.val (.long q0), .second, .val (.long q1), .second, .val (.long q2), .second, .val (.int p3), .val (.int p4), .val (.long q5), .second, .val (.int pe), .val (.int pl), .val (.int pg), .val (.int pn), .val (.int s1), .val (.int s2), .val (.int s3), .val (.int s4), .val (.ref id1), .val (.ref id3), .val (.ref kd9), .val (.ref kd10), .val (.long e2), .second, .val (.long l2), .second, .val (.long g2), .second, .val (.int n2), .val (.ref x1), .unset, .unset, .unset] [(.int s3), (.int n2), (.long g2), (.long l2), (.long e2), (.ref kd10), (.ref id3), (.ref x2), (.ref x2)]))
          refine GoesW.step (fun _ k => XS.iload X18.here hx rfl (hb hby at_284) rfl k) ?_
          show GoesW p.tables e below s (Q0 Z q0 q1 q2 p3 p4 q5 cs x_CO x_BUNDLE x_SERIES x_OUTAGE x_QUEUED h0 n0) room_1.cells room_1.slots (T18.setTop (mkF m 286 #[.val (.long q0), .second, .val (.long q1), .second, .val (.long q2), .second, .val (.int p3), .val (.int p4), .val (.long q5), .second, .val (.int pe), .val (.int pl), .val (.int pg), .val (.int pn), .val (.int s1), .val (.int s2), .val (.int s3), .val (.int s4), .val (.ref id1), .val (.ref id3), .val (.ref kd9), .val (.ref kd10), .val (.long e2), .second, .val (.long l2), .second, .val (.long g2), .second, .val (.int n2), .val (.ref x1), .unset, .unset, .unset] [(.int s4), (.int s3), (.int n2), (.long g2), (.long l2), (.long e2), (.ref kd10), (.ref id3), (.ref x2), (.ref x2)]))
          obtain ⟨_, _, ⟨T19, L19, k19, n19⟩, -, X19, ⟨Lc19, hQ19, l19, y19, z19⟩, st19⟩ := X18.specialBack hx (y := (⟨"com/example/forehold/forehold/ledger/Job", "<init>", "(Ljava/lang/String;Lcom/example/forehold/forehold/ledger/Kind;JJJIZZ)V"⟩ : MethodName)) rfl hown (mvT hZ (hw _ (List.mem_of_getElem? (i := 36) rfl))) (mvT hZ (hw _ (List.mem_of_getElem? (i := 37) rfl))) (mvT hZ (hw _ (List.mem_of_getElem? (i := 38) rfl))) (by decide) (backOf (W := 1) (rm7 l Z a0 hw [] x2 id3 kd10 e2 l2 g2 n2 s3 s4  h18 n0 Z18 A18 g_x2 (by rw [← hs3]; exact nar_nb _) (by rw [← hs3]; exact fits_nb _) (by rw [← hs4]; exact nar_nb _) (by rw [← hs4]; exact fits_nb _) F_id_x2 F_kind_x2 F_earliest_x2 F_latest_x2 F_length_x2 F_nodes_x2 F_softLength_x2 F_softNodes_x2) hZ (hw _ (List.mem_of_getElem? (i := 38) rfl)) (hw _ (List.mem_of_getElem? (i := 35) rfl)) (by decide) (by decide)) (g := (mkF m 286 #[.val (.long q0), .second, .val (.long q1), .second, .val (.long q2), .second, .val (.int p3), .val (.int p4), .val (.long q5), .second, .val (.int pe), .val (.int pl), .val (.int pg), .val (.int pn), .val (.int s1), .val (.int s2), .val (.int s3), .val (.int s4), .val (.ref id1), .val (.ref id3), .val (.ref kd9), .val (.ref kd10), .val (.long e2), .second, .val (.long l2), .second, .val (.long g2), .second, .val (.int n2), .val (.ref x1), .unset, .unset, .unset] [(.int s4), (.int s3), (.int n2), (.long g2), (.long l2), (.long e2), (.ref kd10), (.ref id3), (.ref x2), (.ref x2)])) rfl (by rw [hml]; rfl) (Steps.refl _) (a := x2) (argsL := [(.ref id3), (.ref kd10), (.long e2), (.long l2), (.long g2), (.int n2), (.int s3), (.int s4)]) (rest := [(.ref x2)]) (lenOf own_pd6 rfl) rfl (by show 2 * 0 + _ ≤ _; exact Nat.le_of_eq rfl) (hb hby at_286) (fun _ _ => ⟨rfl, e18, (by decide : 6 + 0 ≤ _), (by decide : 26 + 0 ≤ _)⟩)
          dsimp only [Pt.U, Pt.locs, Pt.cells, Pt.slots] at X19 l19 y19 z19 st19 hQ19
          subst l19 y19 z19
          obtain ⟨rfl, N19q, K19q, Fa19, Fb19, Fc19, Fd19⟩ := hQ19
          have N19 := Fr.app N16 N19q
          have Z19 : n0 ≤ T19.heap.size := Nat.le_trans Z18 K19q.1
          refine GoesW.step (fun _ k => st19.trans k) ?_
          show GoesW p.tables e below s (Q0 Z q0 q1 q2 p3 p4 q5 cs x_CO x_BUNDLE x_SERIES x_OUTAGE x_QUEUED h0 n0) room_1.cells room_1.slots (T19.setTop (mkF m 289 #[.val (.long q0), .second, .val (.long q1), .second, .val (.long q2), .second, .val (.int p3), .val (.int p4), .val (.long q5), .second, .val (.int pe), .val (.int pl), .val (.int pg), .val (.int pn), .val (.int s1), .val (.int s2), .val (.int s3), .val (.int s4), .val (.ref id1), .val (.ref id3), .val (.ref kd9), .val (.ref kd10), .val (.long e2), .second, .val (.long l2), .second, .val (.long g2), .second, .val (.int n2), .val (.ref x1), .unset, .unset, .unset] [(.ref x2)]))
          refine GoesW.step (fun _ k => XS.astore X19.here hx rfl (hb hby at_289) rfl rfl (l' := #[.val (.long q0), .second, .val (.long q1), .second, .val (.long q2), .second, .val (.int p3), .val (.int p4), .val (.long q5), .second, .val (.int pe), .val (.int pl), .val (.int pg), .val (.int pn), .val (.int s1), .val (.int s2), .val (.int s3), .val (.int s4), .val (.ref id1), .val (.ref id3), .val (.ref kd9), .val (.ref kd10), .val (.long e2), .second, .val (.long l2), .second, .val (.long g2), .second, .val (.int n2), .val (.ref x1), .val (.ref x2), .unset, .unset]) rfl k) ?_
          show GoesW p.tables e below s (Q0 Z q0 q1 q2 p3 p4 q5 cs x_CO x_BUNDLE x_SERIES x_OUTAGE x_QUEUED h0 n0) room_1.cells room_1.slots (T19.setTop (mkF m 291 #[.val (.long q0), .second, .val (.long q1), .second, .val (.long q2), .second, .val (.int p3), .val (.int p4), .val (.long q5), .second, .val (.int pe), .val (.int pl), .val (.int pg), .val (.int pn), .val (.int s1), .val (.int s2), .val (.int s3), .val (.int s4), .val (.ref id1), .val (.ref id3), .val (.ref kd9), .val (.ref kd10), .val (.long e2), .second, .val (.long l2), .second, .val (.long g2), .second, .val (.int n2), .val (.ref x1), .val (.ref x2), .unset, .unset] []))
          refine GoesW.step (fun _ k => XS.iload X19.here hx rfl (hb hby at_291) rfl k) ?_
          show GoesW p.tables e below s (Q0 Z q0 q1 q2 p3 p4 q5 cs x_CO x_BUNDLE x_SERIES x_OUTAGE x_QUEUED h0 n0) room_1.cells room_1.slots (T19.setTop (mkF m 293 #[.val (.long q0), .second, .val (.long q1), .second, .val (.long q2), .second, .val (.int p3), .val (.int p4), .val (.long q5), .second, .val (.int pe), .val (.int pl), .val (.int pg), .val (.int pn), .val (.int s1), .val (.int s2), .val (.int s3), .val (.int s4), .val (.ref id1), .val (.ref id3), .val (.ref kd9), .val (.ref kd10), .val (.long e2), .second, .val (.long l2), .second, .val (.long g2), .second, .val (.int n2), .val (.ref x1), .val (.ref x2), .unset, .unset] [(.int pe)]))
          have Fld_x1_earliest_20 := ((Fa16.ext E18).keep K19q (ninS ne_x1_x2 nin0))
          have Fld_x1_latest_21 := ((Fb16.ext E18).keep K19q (ninS ne_x1_x2 nin0))
          have Fld_x1_length_22 := ((Fc16.ext E18).keep K19q (ninS ne_x1_x2 nin0))
          have Fld_x1_nodes_23 := ((Fd16.ext E18).keep K19q (ninS ne_x1_x2 nin0))
          have Exa_x1_24 := ((Exa_x1_17.ext E18).keep K19q)
          have Exa_x2_25 := (A18.keep K19q)
          have J343 : ∀ (TJ26 : State) (LJ26 : List Loc) (ch : Int32), Stand p l e room_1 s m #[(.long q0), (.long q1), (.long q2), (.int p3), (.int p4), (.long q5)] below meth c TJ26 LJ26 6 26 → TJ26.heap = T19.heap → Fr n0 LJ26 → ((ch = 1 ∧ own_P pe pl pg pn q5) ∨ (ch = 0 ∧ ¬ own_P pe pl pg pn q5)) → GoesW p.tables e below s (Q0 Z q0 q1 q2 p3 p4 q5 cs x_CO x_BUNDLE x_SERIES x_OUTAGE x_QUEUED h0 n0) room_1.cells room_1.slots (TJ26.setTop (mkF m 343 #[.val (.long q0), .second, .val (.long q1), .second, .val (.long q2), .second, .val (.int p3), .val (.int p4), .val (.long q5), .second, .val (.int pe), .val (.int pl), .val (.int pg), .val (.int pn), .val (.int s1), .val (.int s2), .val (.int s3), .val (.int s4), .val (.ref id1), .val (.ref id3), .val (.ref kd9), .val (.ref kd10), .val (.long e2), .second, .val (.long l2), .second, .val (.long g2), .second, .val (.int n2), .val (.ref x1), .val (.ref x2), .unset, .unset] [(.int ch)])) := by
            intro TJ26 LJ26 ch XJ26 eJ26 NJ26 hch
            show GoesW p.tables e below s (Q0 Z q0 q1 q2 p3 p4 q5 cs x_CO x_BUNDLE x_SERIES x_OUTAGE x_QUEUED h0 n0) room_1.cells room_1.slots (TJ26.setTop (mkF m 343 #[.val (.long q0), .second, .val (.long q1), .second, .val (.long q2), .second, .val (.int p3), .val (.int p4), .val (.long q5), .second, .val (.int pe), .val (.int pl), .val (.int pg), .val (.int pn), .val (.int s1), .val (.int s2), .val (.int s3), .val (.int s4), .val (.ref id1), .val (.ref id3), .val (.ref kd9), .val (.ref kd10), .val (.long e2), .second, .val (.long l2), .second, .val (.long g2), .second, .val (.int n2), .val (.ref x1), .val (.ref x2), .unset, .unset] [(.int ch)]))
            refine GoesW.step (fun _ k => XS.istore XJ26.here hx rfl (hb hby at_343) rfl (l' := #[.val (.long q0), .second, .val (.long q1), .second, .val (.long q2), .second, .val (.int p3), .val (.int p4), .val (.long q5), .second, .val (.int pe), .val (.int pl), .val (.int pg), .val (.int pn), .val (.int s1), .val (.int s2), .val (.int s3), .val (.int s4), .val (.ref id1), .val (.ref id3), .val (.ref kd9), .val (.ref kd10), .val (.long e2), .second, .val (.long l2), .second, .val (.long g2), .second, .val (.int n2), .val (.ref x1), .val (.ref x2), .val (.int ch), .unset]) rfl k) ?_
            show GoesW p.tables e below s (Q0 Z q0 q1 q2 p3 p4 q5 cs x_CO x_BUNDLE x_SERIES x_OUTAGE x_QUEUED h0 n0) room_1.cells room_1.slots (TJ26.setTop (mkF m 345 #[.val (.long q0), .second, .val (.long q1), .second, .val (.long q2), .second, .val (.int p3), .val (.int p4), .val (.long q5), .second, .val (.int pe), .val (.int pl), .val (.int pg), .val (.int pn), .val (.int s1), .val (.int s2), .val (.int s3), .val (.int s4), .val (.ref id1), .val (.ref id3), .val (.ref kd9), .val (.ref kd10), .val (.long e2), .second, .val (.long l2), .second, .val (.long g2), .second, .val (.int n2), .val (.ref x1), .val (.ref x2), .val (.int ch), .unset] []))
            refine GoesW.step (fun _ k => XS.iload XJ26.here hx rfl (hb hby at_345) rfl k) ?_
            show GoesW p.tables e below s (Q0 Z q0 q1 q2 p3 p4 q5 cs x_CO x_BUNDLE x_SERIES x_OUTAGE x_QUEUED h0 n0) room_1.cells room_1.slots (TJ26.setTop (mkF m 347 #[.val (.long q0), .second, .val (.long q1), .second, .val (.long q2), .second, .val (.int p3), .val (.int p4), .val (.long q5), .second, .val (.int pe), .val (.int pl), .val (.int pg), .val (.int pn), .val (.int s1), .val (.int s2), .val (.int s3), .val (.int s4), .val (.ref id1), .val (.ref id3), .val (.ref kd9), .val (.ref kd10), .val (.long e2), .second, .val (.long l2), .second, .val (.long g2), .second, .val (.int n2), .val (.ref x1), .val (.ref x2), .val (.int ch), .unset] [(.int ch)]))
            refine GoesW.step (fun _ k => diam0 XJ26.here hx rfl (pc0 := 347) rfl (hb hby at_347) rfl (hb hby at_350) (hb hby at_351) (hb hby at_354) k) ?_
            show GoesW p.tables e below s (Q0 Z q0 q1 q2 p3 p4 q5 cs x_CO x_BUNDLE x_SERIES x_OUTAGE x_QUEUED h0 n0) room_1.cells room_1.slots (TJ26.setTop (mkF m 355 #[.val (.long q0), .second, .val (.long q1), .second, .val (.long q2), .second, .val (.int p3), .val (.int p4), .val (.long q5), .second, .val (.int pe), .val (.int pl), .val (.int pg), .val (.int pn), .val (.int s1), .val (.int s2), .val (.int s3), .val (.int s4), .val (.ref id1), .val (.ref id3), .val (.ref kd9), .val (.ref kd10), .val (.long e2), .second, .val (.long l2), .second, .val (.long g2), .second, .val (.int n2), .val (.ref x1), .val (.ref x2), .val (.int ch), .unset] [(.int (nb (ifCond.holds .ne ch)))]))
            generalize hsm : (nb (ifCond.holds .ne ch)) = sm
            show GoesW p.tables e below s (Q0 Z q0 q1 q2 p3 p4 q5 cs x_CO x_BUNDLE x_SERIES x_OUTAGE x_QUEUED h0 n0) room_1.cells room_1.slots (TJ26.setTop (mkF m 355 #[.val (.long q0), .second, .val (.long q1), .second, .val (.long q2), .second, .val (.int p3), .val (.int p4), .val (.long q5), .second, .val (.int pe), .val (.int pl), .val (.int pg), .val (.int pn), .val (.int s1), .val (.int s2), .val (.int s3), .val (.int s4), .val (.ref id1), .val (.ref id3), .val (.ref kd9), .val (.ref kd10), .val (.long e2), .second, .val (.long l2), .second, .val (.long g2), .second, .val (.int n2), .val (.ref x1), .val (.ref x2), .val (.int ch), .unset] [(.int sm)]))
            have hsm2 := own_sm he2 hl2 hg2 hn2 hch
            rw [hsm] at hsm2
            refine GoesW.step (fun _ k => XS.istore XJ26.here hx rfl (hb hby at_355) rfl (l' := #[.val (.long q0), .second, .val (.long q1), .second, .val (.long q2), .second, .val (.int p3), .val (.int p4), .val (.long q5), .second, .val (.int pe), .val (.int pl), .val (.int pg), .val (.int pn), .val (.int s1), .val (.int s2), .val (.int s3), .val (.int s4), .val (.ref id1), .val (.ref id3), .val (.ref kd9), .val (.ref kd10), .val (.long e2), .second, .val (.long l2), .second, .val (.long g2), .second, .val (.int n2), .val (.ref x1), .val (.ref x2), .val (.int ch), .val (.int sm)]) rfl k) ?_
            show GoesW p.tables e below s (Q0 Z q0 q1 q2 p3 p4 q5 cs x_CO x_BUNDLE x_SERIES x_OUTAGE x_QUEUED h0 n0) room_1.cells room_1.slots (TJ26.setTop (mkF m 357 #[.val (.long q0), .second, .val (.long q1), .second, .val (.long q2), .second, .val (.int p3), .val (.int p4), .val (.long q5), .second, .val (.int pe), .val (.int pl), .val (.int pg), .val (.int pn), .val (.int s1), .val (.int s2), .val (.int s3), .val (.int s4), .val (.ref id1), .val (.ref id3), .val (.ref kd9), .val (.ref kd10), .val (.long e2), .second, .val (.long l2), .second, .val (.long g2), .second, .val (.int n2), .val (.ref x1), .val (.ref x2), .val (.int ch), .val (.int sm)] []))
            refine GoesW.step (fun _ k => XS.aload XJ26.here hx rfl (hb hby at_357) rfl rfl k) ?_
            show GoesW p.tables e below s (Q0 Z q0 q1 q2 p3 p4 q5 cs x_CO x_BUNDLE x_SERIES x_OUTAGE x_QUEUED h0 n0) room_1.cells room_1.slots (TJ26.setTop (mkF m 359 #[.val (.long q0), .second, .val (.long q1), .second, .val (.long q2), .second, .val (.int p3), .val (.int p4), .val (.long q5), .second, .val (.int pe), .val (.int pl), .val (.int pg), .val (.int pn), .val (.int s1), .val (.int s2), .val (.int s3), .val (.int s4), .val (.ref id1), .val (.ref id3), .val (.ref kd9), .val (.ref kd10), .val (.long e2), .second, .val (.long l2), .second, .val (.long g2), .second, .val (.int n2), .val (.ref x1), .val (.ref x2), .val (.int ch), .val (.int sm)] [(.ref x1)]))
            refine GoesW.step (fun _ k => XS.aload XJ26.here hx rfl (hb hby at_359) rfl rfl k) ?_
            show GoesW p.tables e below s (Q0 Z q0 q1 q2 p3 p4 q5 cs x_CO x_BUNDLE x_SERIES x_OUTAGE x_QUEUED h0 n0) room_1.cells room_1.slots (TJ26.setTop (mkF m 361 #[.val (.long q0), .second, .val (.long q1), .second, .val (.long q2), .second, .val (.int p3), .val (.int p4), .val (.long q5), .second, .val (.int pe), .val (.int pl), .val (.int pg), .val (.int pn), .val (.int s1), .val (.int s2), .val (.int s3), .val (.int s4), .val (.ref id1), .val (.ref id3), .val (.ref kd9), .val (.ref kd10), .val (.long e2), .second, .val (.long l2), .second, .val (.long g2), .second, .val (.int n2), .val (.ref x1), .val (.ref x2), .val (.int ch), .val (.int sm)] [(.ref x2), (.ref x1)]))
            obtain ⟨cq27, kq27, q27a, q27b, q27c⟩ := isOf hZ eJ26 Exa_x1_24
            obtain ⟨_, _, ⟨T27, L27, k27, n27⟩, -, X27, ⟨Lc27, hQ27, l27, y27, z27⟩, st27⟩ := XJ26.virtualBack hx (y := (⟨"com/example/forehold/forehold/ledger/Job", "alike", "(Lcom/example/forehold/forehold/ledger/Job;)Z"⟩ : MethodName)) (z := (⟨"com/example/forehold/forehold/ledger/Job", "alike", "(Lcom/example/forehold/forehold/ledger/Job;)Z"⟩ : MethodName)) hown (mvT hZ (hw _ (List.mem_of_getElem? (i := 61) rfl))) (mvT hZ (hw _ (List.mem_of_getElem? (i := 62) rfl))) (notFace_of_selects (args := #[]) (mvT hZ (hw _ (List.mem_of_getElem? (i := 64) rfl)))) (mvT hZ (hw _ (List.mem_of_getElem? (i := 64) rfl))) (mvT hZ (hw _ (List.mem_of_getElem? (i := 63) rfl))) (by decide) (backOf (W := 0) (rm9 l Z a0 hw [] x1 x2 q0 q1 q2 p3 e2 l2 g2 n2 T19.heap n0 Z19 Fld_x1_earliest_20 Fld_x1_latest_21 Fld_x1_length_22 Fld_x1_nodes_23 Fa19 Fb19 Fc19 Fd19) hZ (hw _ (List.mem_of_getElem? (i := 65) rfl)) (hw _ (List.mem_of_getElem? (i := 35) rfl)) (by decide) (by decide)) q27a q27c (g := (mkF m 361 #[.val (.long q0), .second, .val (.long q1), .second, .val (.long q2), .second, .val (.int p3), .val (.int p4), .val (.long q5), .second, .val (.int pe), .val (.int pl), .val (.int pg), .val (.int pn), .val (.int s1), .val (.int s2), .val (.int s3), .val (.int s4), .val (.ref id1), .val (.ref id3), .val (.ref kd9), .val (.ref kd10), .val (.long e2), .second, .val (.long l2), .second, .val (.long g2), .second, .val (.int n2), .val (.ref x1), .val (.ref x2), .val (.int ch), .val (.int sm)] [(.ref x2), (.ref x1)])) rfl (by rw [hml]; rfl) (Steps.refl _) (argsL := [(.ref x2)]) (rest := []) (lenOf own_pd7 rfl) rfl (by show 2 * 0 + _ ≤ _; exact Nat.le_of_eq rfl) (hb hby at_361) (fun _ _ => ⟨rfl, eJ26, (by decide : 6 + 0 ≤ _), (by decide : 26 + 0 ≤ _)⟩)
            dsimp only [Pt.U, Pt.locs, Pt.cells, Pt.slots] at X27 l27 y27 z27 st27 hQ27
            subst l27 y27 z27
            obtain ⟨rfl, N27q, eq27⟩ := hQ27
            have N27 := Fr.app NJ26 N27q
            refine GoesW.step (fun _ k => st27.trans k) ?_
            show GoesW p.tables e below s (Q0 Z q0 q1 q2 p3 p4 q5 cs x_CO x_BUNDLE x_SERIES x_OUTAGE x_QUEUED h0 n0) room_1.cells room_1.slots (T27.setTop (mkF m 364 #[.val (.long q0), .second, .val (.long q1), .second, .val (.long q2), .second, .val (.int p3), .val (.int p4), .val (.long q5), .second, .val (.int pe), .val (.int pl), .val (.int pg), .val (.int pn), .val (.int s1), .val (.int s2), .val (.int s3), .val (.int s4), .val (.ref id1), .val (.ref id3), .val (.ref kd9), .val (.ref kd10), .val (.long e2), .second, .val (.long l2), .second, .val (.long g2), .second, .val (.int n2), .val (.ref x1), .val (.ref x2), .val (.int ch), .val (.int sm)] [(.int (own_al q0 q1 q2 p3 e2 l2 g2 n2))]))
            refine GoesW.step (fun _ k => XS.iload X27.here hx rfl (hb hby at_364) rfl k) ?_
            show GoesW p.tables e below s (Q0 Z q0 q1 q2 p3 p4 q5 cs x_CO x_BUNDLE x_SERIES x_OUTAGE x_QUEUED h0 n0) room_1.cells room_1.slots (T27.setTop (mkF m 366 #[.val (.long q0), .second, .val (.long q1), .second, .val (.long q2), .second, .val (.int p3), .val (.int p4), .val (.long q5), .second, .val (.int pe), .val (.int pl), .val (.int pg), .val (.int pn), .val (.int s1), .val (.int s2), .val (.int s3), .val (.int s4), .val (.ref id1), .val (.ref id3), .val (.ref kd9), .val (.ref kd10), .val (.long e2), .second, .val (.long l2), .second, .val (.long g2), .second, .val (.int n2), .val (.ref x1), .val (.ref x2), .val (.int ch), .val (.int sm)] [(.int sm), (.int (own_al q0 q1 q2 p3 e2 l2 g2 n2))]))
            refine GoesW.step (fun _ k => XS.icmpNo X27.here hx rfl (hb hby at_366) rfl (teq hsm2.1).2 k) ?_
            show GoesW p.tables e below s (Q0 Z q0 q1 q2 p3 p4 q5 cs x_CO x_BUNDLE x_SERIES x_OUTAGE x_QUEUED h0 n0) room_1.cells room_1.slots (T27.setTop (mkF m 369 #[.val (.long q0), .second, .val (.long q1), .second, .val (.long q2), .second, .val (.int p3), .val (.int p4), .val (.long q5), .second, .val (.int pe), .val (.int pl), .val (.int pg), .val (.int pn), .val (.int s1), .val (.int s2), .val (.int s3), .val (.int s4), .val (.ref id1), .val (.ref id3), .val (.ref kd9), .val (.ref kd10), .val (.long e2), .second, .val (.long l2), .second, .val (.long g2), .second, .val (.int n2), .val (.ref x1), .val (.ref x2), .val (.int ch), .val (.int sm)] []))
            refine GoesW.step (fun _ k => XS.aload X27.here hx rfl (hb hby at_369) rfl rfl k) ?_
            show GoesW p.tables e below s (Q0 Z q0 q1 q2 p3 p4 q5 cs x_CO x_BUNDLE x_SERIES x_OUTAGE x_QUEUED h0 n0) room_1.cells room_1.slots (T27.setTop (mkF m 371 #[.val (.long q0), .second, .val (.long q1), .second, .val (.long q2), .second, .val (.int p3), .val (.int p4), .val (.long q5), .second, .val (.int pe), .val (.int pl), .val (.int pg), .val (.int pn), .val (.int s1), .val (.int s2), .val (.int s3), .val (.int s4), .val (.ref id1), .val (.ref id3), .val (.ref kd9), .val (.ref kd10), .val (.long e2), .second, .val (.long l2), .second, .val (.long g2), .second, .val (.int n2), .val (.ref x1), .val (.ref x2), .val (.int ch), .val (.int sm)] [(.ref x2)]))
            refine GoesW.step (fun _ k => XS.aload X27.here hx rfl (hb hby at_371) rfl rfl k) ?_
            show GoesW p.tables e below s (Q0 Z q0 q1 q2 p3 p4 q5 cs x_CO x_BUNDLE x_SERIES x_OUTAGE x_QUEUED h0 n0) room_1.cells room_1.slots (T27.setTop (mkF m 373 #[.val (.long q0), .second, .val (.long q1), .second, .val (.long q2), .second, .val (.int p3), .val (.int p4), .val (.long q5), .second, .val (.int pe), .val (.int pl), .val (.int pg), .val (.int pn), .val (.int s1), .val (.int s2), .val (.int s3), .val (.int s4), .val (.ref id1), .val (.ref id3), .val (.ref kd9), .val (.ref kd10), .val (.long e2), .second, .val (.long l2), .second, .val (.long g2), .second, .val (.int n2), .val (.ref x1), .val (.ref x2), .val (.int ch), .val (.int sm)] [(.ref x1), (.ref x2)]))
            obtain ⟨cq28, kq28, q28a, q28b, q28c⟩ := isOf hZ eq27 Exa_x2_25
            obtain ⟨_, _, ⟨T28, L28, k28, n28⟩, -, X28, ⟨Lc28, hQ28, l28, y28, z28⟩, st28⟩ := X27.virtualBack hx (y := (⟨"com/example/forehold/forehold/ledger/Job", "alike", "(Lcom/example/forehold/forehold/ledger/Job;)Z"⟩ : MethodName)) (z := (⟨"com/example/forehold/forehold/ledger/Job", "alike", "(Lcom/example/forehold/forehold/ledger/Job;)Z"⟩ : MethodName)) hown (mvT hZ (hw _ (List.mem_of_getElem? (i := 61) rfl))) (mvT hZ (hw _ (List.mem_of_getElem? (i := 62) rfl))) (notFace_of_selects (args := #[]) (mvT hZ (hw _ (List.mem_of_getElem? (i := 64) rfl)))) (mvT hZ (hw _ (List.mem_of_getElem? (i := 64) rfl))) (mvT hZ (hw _ (List.mem_of_getElem? (i := 63) rfl))) (by decide) (backOf (W := 0) (rm9 l Z a0 hw [] x2 x1 e2 l2 g2 n2 q0 q1 q2 p3 T19.heap n0 Z19 Fa19 Fb19 Fc19 Fd19 Fld_x1_earliest_20 Fld_x1_latest_21 Fld_x1_length_22 Fld_x1_nodes_23) hZ (hw _ (List.mem_of_getElem? (i := 65) rfl)) (hw _ (List.mem_of_getElem? (i := 35) rfl)) (by decide) (by decide)) q28a q28c (g := (mkF m 373 #[.val (.long q0), .second, .val (.long q1), .second, .val (.long q2), .second, .val (.int p3), .val (.int p4), .val (.long q5), .second, .val (.int pe), .val (.int pl), .val (.int pg), .val (.int pn), .val (.int s1), .val (.int s2), .val (.int s3), .val (.int s4), .val (.ref id1), .val (.ref id3), .val (.ref kd9), .val (.ref kd10), .val (.long e2), .second, .val (.long l2), .second, .val (.long g2), .second, .val (.int n2), .val (.ref x1), .val (.ref x2), .val (.int ch), .val (.int sm)] [(.ref x1), (.ref x2)])) rfl (by rw [hml]; rfl) (Steps.refl _) (argsL := [(.ref x1)]) (rest := []) (lenOf own_pd7 rfl) rfl (by show 2 * 0 + _ ≤ _; exact Nat.le_of_eq rfl) (hb hby at_373) (fun _ _ => ⟨rfl, eq27, (by decide : 6 + 0 ≤ _), (by decide : 26 + 0 ≤ _)⟩)
            dsimp only [Pt.U, Pt.locs, Pt.cells, Pt.slots] at X28 l28 y28 z28 st28 hQ28
            subst l28 y28 z28
            obtain ⟨rfl, N28q, eq28⟩ := hQ28
            have N28 := Fr.app N27 N28q
            refine GoesW.step (fun _ k => st28.trans k) ?_
            show GoesW p.tables e below s (Q0 Z q0 q1 q2 p3 p4 q5 cs x_CO x_BUNDLE x_SERIES x_OUTAGE x_QUEUED h0 n0) room_1.cells room_1.slots (T28.setTop (mkF m 376 #[.val (.long q0), .second, .val (.long q1), .second, .val (.long q2), .second, .val (.int p3), .val (.int p4), .val (.long q5), .second, .val (.int pe), .val (.int pl), .val (.int pg), .val (.int pn), .val (.int s1), .val (.int s2), .val (.int s3), .val (.int s4), .val (.ref id1), .val (.ref id3), .val (.ref kd9), .val (.ref kd10), .val (.long e2), .second, .val (.long l2), .second, .val (.long g2), .second, .val (.int n2), .val (.ref x1), .val (.ref x2), .val (.int ch), .val (.int sm)] [(.int (own_al e2 l2 g2 n2 q0 q1 q2 p3))]))
            refine GoesW.step (fun _ k => XS.iload X28.here hx rfl (hb hby at_376) rfl k) ?_
            show GoesW p.tables e below s (Q0 Z q0 q1 q2 p3 p4 q5 cs x_CO x_BUNDLE x_SERIES x_OUTAGE x_QUEUED h0 n0) room_1.cells room_1.slots (T28.setTop (mkF m 378 #[.val (.long q0), .second, .val (.long q1), .second, .val (.long q2), .second, .val (.int p3), .val (.int p4), .val (.long q5), .second, .val (.int pe), .val (.int pl), .val (.int pg), .val (.int pn), .val (.int s1), .val (.int s2), .val (.int s3), .val (.int s4), .val (.ref id1), .val (.ref id3), .val (.ref kd9), .val (.ref kd10), .val (.long e2), .second, .val (.long l2), .second, .val (.long g2), .second, .val (.int n2), .val (.ref x1), .val (.ref x2), .val (.int ch), .val (.int sm)] [(.int sm), (.int (own_al e2 l2 g2 n2 q0 q1 q2 p3))]))
            refine GoesW.step (fun _ k => XS.icmpNo X28.here hx rfl (hb hby at_378) rfl (teq hsm2.2).2 k) ?_
            show GoesW p.tables e below s (Q0 Z q0 q1 q2 p3 p4 q5 cs x_CO x_BUNDLE x_SERIES x_OUTAGE x_QUEUED h0 n0) room_1.cells room_1.slots (T28.setTop (mkF m 381 #[.val (.long q0), .second, .val (.long q1), .second, .val (.long q2), .second, .val (.int p3), .val (.int p4), .val (.long q5), .second, .val (.int pe), .val (.int pl), .val (.int pg), .val (.int pn), .val (.int s1), .val (.int s2), .val (.int s3), .val (.int s4), .val (.ref id1), .val (.ref id3), .val (.ref kd9), .val (.ref kd10), .val (.long e2), .second, .val (.long l2), .second, .val (.long g2), .second, .val (.int n2), .val (.ref x1), .val (.ref x2), .val (.int ch), .val (.int sm)] []))
            refine GoesW.step (fun _ k => XS.aload X28.here hx rfl (hb hby at_381) rfl rfl k) ?_
            show GoesW p.tables e below s (Q0 Z q0 q1 q2 p3 p4 q5 cs x_CO x_BUNDLE x_SERIES x_OUTAGE x_QUEUED h0 n0) room_1.cells room_1.slots (T28.setTop (mkF m 383 #[.val (.long q0), .second, .val (.long q1), .second, .val (.long q2), .second, .val (.int p3), .val (.int p4), .val (.long q5), .second, .val (.int pe), .val (.int pl), .val (.int pg), .val (.int pn), .val (.int s1), .val (.int s2), .val (.int s3), .val (.int s4), .val (.ref id1), .val (.ref id3), .val (.ref kd9), .val (.ref kd10), .val (.long e2), .second, .val (.long l2), .second, .val (.long g2), .second, .val (.int n2), .val (.ref x1), .val (.ref x2), .val (.int ch), .val (.int sm)] [(.ref x1)]))
            refine GoesW.step (fun _ k => XS.aload X28.here hx rfl (hb hby at_383) rfl rfl k) ?_
            show GoesW p.tables e below s (Q0 Z q0 q1 q2 p3 p4 q5 cs x_CO x_BUNDLE x_SERIES x_OUTAGE x_QUEUED h0 n0) room_1.cells room_1.slots (T28.setTop (mkF m 385 #[.val (.long q0), .second, .val (.long q1), .second, .val (.long q2), .second, .val (.int p3), .val (.int p4), .val (.long q5), .second, .val (.int pe), .val (.int pl), .val (.int pg), .val (.int pn), .val (.int s1), .val (.int s2), .val (.int s3), .val (.int s4), .val (.ref id1), .val (.ref id3), .val (.ref kd9), .val (.ref kd10), .val (.long e2), .second, .val (.long l2), .second, .val (.long g2), .second, .val (.int n2), .val (.ref x1), .val (.ref x2), .val (.int ch), .val (.int sm)] [(.ref x1), (.ref x1)]))
            obtain ⟨cq29, kq29, q29a, q29b, q29c⟩ := isOf hZ eq28 Exa_x1_24
            obtain ⟨_, _, ⟨T29, L29, k29, n29⟩, -, X29, ⟨Lc29, hQ29, l29, y29, z29⟩, st29⟩ := X28.virtualBack hx (y := (⟨"com/example/forehold/forehold/ledger/Job", "alike", "(Lcom/example/forehold/forehold/ledger/Job;)Z"⟩ : MethodName)) (z := (⟨"com/example/forehold/forehold/ledger/Job", "alike", "(Lcom/example/forehold/forehold/ledger/Job;)Z"⟩ : MethodName)) hown (mvT hZ (hw _ (List.mem_of_getElem? (i := 61) rfl))) (mvT hZ (hw _ (List.mem_of_getElem? (i := 62) rfl))) (notFace_of_selects (args := #[]) (mvT hZ (hw _ (List.mem_of_getElem? (i := 64) rfl)))) (mvT hZ (hw _ (List.mem_of_getElem? (i := 64) rfl))) (mvT hZ (hw _ (List.mem_of_getElem? (i := 63) rfl))) (by decide) (backOf (W := 0) (rm9 l Z a0 hw [] x1 x1 q0 q1 q2 p3 q0 q1 q2 p3 T19.heap n0 Z19 Fld_x1_earliest_20 Fld_x1_latest_21 Fld_x1_length_22 Fld_x1_nodes_23 Fld_x1_earliest_20 Fld_x1_latest_21 Fld_x1_length_22 Fld_x1_nodes_23) hZ (hw _ (List.mem_of_getElem? (i := 65) rfl)) (hw _ (List.mem_of_getElem? (i := 35) rfl)) (by decide) (by decide)) q29a q29c (g := (mkF m 385 #[.val (.long q0), .second, .val (.long q1), .second, .val (.long q2), .second, .val (.int p3), .val (.int p4), .val (.long q5), .second, .val (.int pe), .val (.int pl), .val (.int pg), .val (.int pn), .val (.int s1), .val (.int s2), .val (.int s3), .val (.int s4), .val (.ref id1), .val (.ref id3), .val (.ref kd9), .val (.ref kd10), .val (.long e2), .second, .val (.long l2), .second, .val (.long g2), .second, .val (.int n2), .val (.ref x1), .val (.ref x2), .val (.int ch), .val (.int sm)] [(.ref x1), (.ref x1)])) rfl (by rw [hml]; rfl) (Steps.refl _) (argsL := [(.ref x1)]) (rest := []) (lenOf own_pd7 rfl) rfl (by show 2 * 0 + _ ≤ _; exact Nat.le_of_eq rfl) (hb hby at_385) (fun _ _ => ⟨rfl, eq28, (by decide : 6 + 0 ≤ _), (by decide : 26 + 0 ≤ _)⟩)
            dsimp only [Pt.U, Pt.locs, Pt.cells, Pt.slots] at X29 l29 y29 z29 st29 hQ29
            subst l29 y29 z29
            obtain ⟨rfl, N29q, eq29⟩ := hQ29
            have N29 := Fr.app N28 N29q
            refine GoesW.step (fun _ k => st29.trans k) ?_
            show GoesW p.tables e below s (Q0 Z q0 q1 q2 p3 p4 q5 cs x_CO x_BUNDLE x_SERIES x_OUTAGE x_QUEUED h0 n0) room_1.cells room_1.slots (T29.setTop (mkF m 388 #[.val (.long q0), .second, .val (.long q1), .second, .val (.long q2), .second, .val (.int p3), .val (.int p4), .val (.long q5), .second, .val (.int pe), .val (.int pl), .val (.int pg), .val (.int pn), .val (.int s1), .val (.int s2), .val (.int s3), .val (.int s4), .val (.ref id1), .val (.ref id3), .val (.ref kd9), .val (.ref kd10), .val (.long e2), .second, .val (.long l2), .second, .val (.long g2), .second, .val (.int n2), .val (.ref x1), .val (.ref x2), .val (.int ch), .val (.int sm)] [(.int (own_al q0 q1 q2 p3 q0 q1 q2 p3))]))
            rw [show (own_al q0 q1 q2 p3 q0 q1 q2 p3) = (1 : Int32) from own_al1 rfl rfl rfl rfl]
            show GoesW p.tables e below s (Q0 Z q0 q1 q2 p3 p4 q5 cs x_CO x_BUNDLE x_SERIES x_OUTAGE x_QUEUED h0 n0) room_1.cells room_1.slots (T29.setTop (mkF m 388 #[.val (.long q0), .second, .val (.long q1), .second, .val (.long q2), .second, .val (.int p3), .val (.int p4), .val (.long q5), .second, .val (.int pe), .val (.int pl), .val (.int pg), .val (.int pn), .val (.int s1), .val (.int s2), .val (.int s3), .val (.int s4), .val (.ref id1), .val (.ref id3), .val (.ref kd9), .val (.ref kd10), .val (.long e2), .second, .val (.long l2), .second, .val (.long g2), .second, .val (.int n2), .val (.ref x1), .val (.ref x2), .val (.int ch), .val (.int sm)] [(.int (1 : Int32))]))
            refine GoesW.step (fun _ k => XS.ifNo X29.here hx rfl (hb hby at_388) rfl ((if0 _ _).trans (feq (show ¬ (1 : Int32) = (0 : Int32) by decide)).1) k) ?_
            show GoesW p.tables e below s (Q0 Z q0 q1 q2 p3 p4 q5 cs x_CO x_BUNDLE x_SERIES x_OUTAGE x_QUEUED h0 n0) room_1.cells room_1.slots (T29.setTop (mkF m 391 #[.val (.long q0), .second, .val (.long q1), .second, .val (.long q2), .second, .val (.int p3), .val (.int p4), .val (.long q5), .second, .val (.int pe), .val (.int pl), .val (.int pg), .val (.int pn), .val (.int s1), .val (.int s2), .val (.int s3), .val (.int s4), .val (.ref id1), .val (.ref id3), .val (.ref kd9), .val (.ref kd10), .val (.long e2), .second, .val (.long l2), .second, .val (.long g2), .second, .val (.int n2), .val (.ref x1), .val (.ref x2), .val (.int ch), .val (.int sm)] []))
            refine GoesW.step (fun _ k => XS.iconst X29.here hx rfl (hb hby at_391) k) ?_
            show GoesW p.tables e below s (Q0 Z q0 q1 q2 p3 p4 q5 cs x_CO x_BUNDLE x_SERIES x_OUTAGE x_QUEUED h0 n0) room_1.cells room_1.slots (T29.setTop (mkF m 392 #[.val (.long q0), .second, .val (.long q1), .second, .val (.long q2), .second, .val (.int p3), .val (.int p4), .val (.long q5), .second, .val (.int pe), .val (.int pl), .val (.int pg), .val (.int pn), .val (.int s1), .val (.int s2), .val (.int s3), .val (.int s4), .val (.ref id1), .val (.ref id3), .val (.ref kd9), .val (.ref kd10), .val (.long e2), .second, .val (.long l2), .second, .val (.long g2), .second, .val (.int n2), .val (.ref x1), .val (.ref x2), .val (.int ch), .val (.int sm)] [(.int (1 : Int32))]))
            refine GoesW.step (fun _ k => XS.goto X29.here hx rfl (pc0 := 392) (pc' := 396) rfl (hb hby at_392) (by decide) (by decide) k) ?_
            show GoesW p.tables e below s (Q0 Z q0 q1 q2 p3 p4 q5 cs x_CO x_BUNDLE x_SERIES x_OUTAGE x_QUEUED h0 n0) room_1.cells room_1.slots (T29.setTop (mkF m 396 #[.val (.long q0), .second, .val (.long q1), .second, .val (.long q2), .second, .val (.int p3), .val (.int p4), .val (.long q5), .second, .val (.int pe), .val (.int pl), .val (.int pg), .val (.int pn), .val (.int s1), .val (.int s2), .val (.int s3), .val (.int s4), .val (.ref id1), .val (.ref id3), .val (.ref kd9), .val (.ref kd10), .val (.long e2), .second, .val (.long l2), .second, .val (.long g2), .second, .val (.int n2), .val (.ref x1), .val (.ref x2), .val (.int ch), .val (.int sm)] [(.int (1 : Int32))]))
            exact GoesW.retZ X29 hx hlk (t := .boolean) Bd.returns (by simp) rfl (hb hby at_396) (by show Q0 Z q0 q1 q2 p3 p4 q5 cs x_CO x_BUNDLE x_SERIES x_OUTAGE x_QUEUED h0 n0 _ T29.heap _; rw [eq29]; exact ⟨rfl, N29⟩) (by decide) (by decide)
          have J338 : ∀ (TJ30 : State) (LJ30 : List Loc), Stand p l e room_1 s m #[(.long q0), (.long q1), (.long q2), (.int p3), (.int p4), (.long q5)] below meth c TJ30 LJ30 6 26 → TJ30.heap = T19.heap → Fr n0 LJ30 → (own_P pe pl pg pn q5) → GoesW p.tables e below s (Q0 Z q0 q1 q2 p3 p4 q5 cs x_CO x_BUNDLE x_SERIES x_OUTAGE x_QUEUED h0 n0) room_1.cells room_1.slots (TJ30.setTop (mkF m 338 #[.val (.long q0), .second, .val (.long q1), .second, .val (.long q2), .second, .val (.int p3), .val (.int p4), .val (.long q5), .second, .val (.int pe), .val (.int pl), .val (.int pg), .val (.int pn), .val (.int s1), .val (.int s2), .val (.int s3), .val (.int s4), .val (.ref id1), .val (.ref id3), .val (.ref kd9), .val (.ref kd10), .val (.long e2), .second, .val (.long l2), .second, .val (.long g2), .second, .val (.int n2), .val (.ref x1), .val (.ref x2), .unset, .unset] [])) := by
            intro TJ30 LJ30  XJ30 eJ30 NJ30 hP1
            show GoesW p.tables e below s (Q0 Z q0 q1 q2 p3 p4 q5 cs x_CO x_BUNDLE x_SERIES x_OUTAGE x_QUEUED h0 n0) room_1.cells room_1.slots (TJ30.setTop (mkF m 338 #[.val (.long q0), .second, .val (.long q1), .second, .val (.long q2), .second, .val (.int p3), .val (.int p4), .val (.long q5), .second, .val (.int pe), .val (.int pl), .val (.int pg), .val (.int pn), .val (.int s1), .val (.int s2), .val (.int s3), .val (.int s4), .val (.ref id1), .val (.ref id3), .val (.ref kd9), .val (.ref kd10), .val (.long e2), .second, .val (.long l2), .second, .val (.long g2), .second, .val (.int n2), .val (.ref x1), .val (.ref x2), .unset, .unset] []))
            refine GoesW.step (fun _ k => XS.iconst XJ30.here hx rfl (hb hby at_338) k) ?_
            show GoesW p.tables e below s (Q0 Z q0 q1 q2 p3 p4 q5 cs x_CO x_BUNDLE x_SERIES x_OUTAGE x_QUEUED h0 n0) room_1.cells room_1.slots (TJ30.setTop (mkF m 339 #[.val (.long q0), .second, .val (.long q1), .second, .val (.long q2), .second, .val (.int p3), .val (.int p4), .val (.long q5), .second, .val (.int pe), .val (.int pl), .val (.int pg), .val (.int pn), .val (.int s1), .val (.int s2), .val (.int s3), .val (.int s4), .val (.ref id1), .val (.ref id3), .val (.ref kd9), .val (.ref kd10), .val (.long e2), .second, .val (.long l2), .second, .val (.long g2), .second, .val (.int n2), .val (.ref x1), .val (.ref x2), .unset, .unset] [(.int (1 : Int32))]))
            refine GoesW.step (fun _ k => XS.goto XJ30.here hx rfl (pc0 := 339) (pc' := 343) rfl (hb hby at_339) (by decide) (by decide) k) ?_
            show GoesW p.tables e below s (Q0 Z q0 q1 q2 p3 p4 q5 cs x_CO x_BUNDLE x_SERIES x_OUTAGE x_QUEUED h0 n0) room_1.cells room_1.slots (TJ30.setTop (mkF m 343 #[.val (.long q0), .second, .val (.long q1), .second, .val (.long q2), .second, .val (.int p3), .val (.int p4), .val (.long q5), .second, .val (.int pe), .val (.int pl), .val (.int pg), .val (.int pn), .val (.int s1), .val (.int s2), .val (.int s3), .val (.int s4), .val (.ref id1), .val (.ref id3), .val (.ref kd9), .val (.ref kd10), .val (.long e2), .second, .val (.long l2), .second, .val (.long g2), .second, .val (.int n2), .val (.ref x1), .val (.ref x2), .unset, .unset] [(.int (1 : Int32))]))
            exact J343 _ _ _ XJ30 eJ30 NJ30 (Or.inl ⟨rfl, hP1⟩)
          have J342 : ∀ (TJ31 : State) (LJ31 : List Loc), Stand p l e room_1 s m #[(.long q0), (.long q1), (.long q2), (.int p3), (.int p4), (.long q5)] below meth c TJ31 LJ31 6 26 → TJ31.heap = T19.heap → Fr n0 LJ31 → (¬ own_P pe pl pg pn q5) → GoesW p.tables e below s (Q0 Z q0 q1 q2 p3 p4 q5 cs x_CO x_BUNDLE x_SERIES x_OUTAGE x_QUEUED h0 n0) room_1.cells room_1.slots (TJ31.setTop (mkF m 342 #[.val (.long q0), .second, .val (.long q1), .second, .val (.long q2), .second, .val (.int p3), .val (.int p4), .val (.long q5), .second, .val (.int pe), .val (.int pl), .val (.int pg), .val (.int pn), .val (.int s1), .val (.int s2), .val (.int s3), .val (.int s4), .val (.ref id1), .val (.ref id3), .val (.ref kd9), .val (.ref kd10), .val (.long e2), .second, .val (.long l2), .second, .val (.long g2), .second, .val (.int n2), .val (.ref x1), .val (.ref x2), .unset, .unset] [])) := by
            intro TJ31 LJ31  XJ31 eJ31 NJ31 hP0
            show GoesW p.tables e below s (Q0 Z q0 q1 q2 p3 p4 q5 cs x_CO x_BUNDLE x_SERIES x_OUTAGE x_QUEUED h0 n0) room_1.cells room_1.slots (TJ31.setTop (mkF m 342 #[.val (.long q0), .second, .val (.long q1), .second, .val (.long q2), .second, .val (.int p3), .val (.int p4), .val (.long q5), .second, .val (.int pe), .val (.int pl), .val (.int pg), .val (.int pn), .val (.int s1), .val (.int s2), .val (.int s3), .val (.int s4), .val (.ref id1), .val (.ref id3), .val (.ref kd9), .val (.ref kd10), .val (.long e2), .second, .val (.long l2), .second, .val (.long g2), .second, .val (.int n2), .val (.ref x1), .val (.ref x2), .unset, .unset] []))
            refine GoesW.step (fun _ k => XS.iconst XJ31.here hx rfl (hb hby at_342) k) ?_
            show GoesW p.tables e below s (Q0 Z q0 q1 q2 p3 p4 q5 cs x_CO x_BUNDLE x_SERIES x_OUTAGE x_QUEUED h0 n0) room_1.cells room_1.slots (TJ31.setTop (mkF m 343 #[.val (.long q0), .second, .val (.long q1), .second, .val (.long q2), .second, .val (.int p3), .val (.int p4), .val (.long q5), .second, .val (.int pe), .val (.int pl), .val (.int pg), .val (.int pn), .val (.int s1), .val (.int s2), .val (.int s3), .val (.int s4), .val (.ref id1), .val (.ref id3), .val (.ref kd9), .val (.ref kd10), .val (.long e2), .second, .val (.long l2), .second, .val (.long g2), .second, .val (.int n2), .val (.ref x1), .val (.ref x2), .unset, .unset] [(.int (0 : Int32))]))
            exact J343 _ _ _ XJ31 eJ31 NJ31 (Or.inr ⟨rfl, hP0⟩)
          have J327 : ∀ (TJ32 : State) (LJ32 : List Loc), Stand p l e room_1 s m #[(.long q0), (.long q1), (.long q2), (.int p3), (.int p4), (.long q5)] below meth c TJ32 LJ32 6 26 → TJ32.heap = T19.heap → Fr n0 LJ32 → (¬ (¬ pe = 0 ∧ ¬ q5 = 0)) → (¬ (¬ pl = 0 ∧ ¬ q5 = 0)) → (¬ (¬ pg = 0 ∧ ¬ q5 = 0)) → GoesW p.tables e below s (Q0 Z q0 q1 q2 p3 p4 q5 cs x_CO x_BUNDLE x_SERIES x_OUTAGE x_QUEUED h0 n0) room_1.cells room_1.slots (TJ32.setTop (mkF m 327 #[.val (.long q0), .second, .val (.long q1), .second, .val (.long q2), .second, .val (.int p3), .val (.int p4), .val (.long q5), .second, .val (.int pe), .val (.int pl), .val (.int pg), .val (.int pn), .val (.int s1), .val (.int s2), .val (.int s3), .val (.int s4), .val (.ref id1), .val (.ref id3), .val (.ref kd9), .val (.ref kd10), .val (.long e2), .second, .val (.long l2), .second, .val (.long g2), .second, .val (.int n2), .val (.ref x1), .val (.ref x2), .unset, .unset] [])) := by
            intro TJ32 LJ32  XJ32 eJ32 NJ32 hn1 hn2 hn3
            show GoesW p.tables e below s (Q0 Z q0 q1 q2 p3 p4 q5 cs x_CO x_BUNDLE x_SERIES x_OUTAGE x_QUEUED h0 n0) room_1.cells room_1.slots (TJ32.setTop (mkF m 327 #[.val (.long q0), .second, .val (.long q1), .second, .val (.long q2), .second, .val (.int p3), .val (.int p4), .val (.long q5), .second, .val (.int pe), .val (.int pl), .val (.int pg), .val (.int pn), .val (.int s1), .val (.int s2), .val (.int s3), .val (.int s4), .val (.ref id1), .val (.ref id3), .val (.ref kd9), .val (.ref kd10), .val (.long e2), .second, .val (.long l2), .second, .val (.long g2), .second, .val (.int n2), .val (.ref x1), .val (.ref x2), .unset, .unset] []))
            refine GoesW.step (fun _ k => XS.iload XJ32.here hx rfl (hb hby at_327) rfl k) ?_
            show GoesW p.tables e below s (Q0 Z q0 q1 q2 p3 p4 q5 cs x_CO x_BUNDLE x_SERIES x_OUTAGE x_QUEUED h0 n0) room_1.cells room_1.slots (TJ32.setTop (mkF m 329 #[.val (.long q0), .second, .val (.long q1), .second, .val (.long q2), .second, .val (.int p3), .val (.int p4), .val (.long q5), .second, .val (.int pe), .val (.int pl), .val (.int pg), .val (.int pn), .val (.int s1), .val (.int s2), .val (.int s3), .val (.int s4), .val (.ref id1), .val (.ref id3), .val (.ref kd9), .val (.ref kd10), .val (.long e2), .second, .val (.long l2), .second, .val (.long g2), .second, .val (.int n2), .val (.ref x1), .val (.ref x2), .unset, .unset] [(.int pn)]))
            by_cases h329 : pn = (0 : Int32)
            · skip
              refine GoesW.step (fun _ k => XS.ifYes XJ32.here hx rfl (pc0 := 329) (pc' := 342) rfl (hb hby at_329) rfl ((if0 _ _).trans (teq h329).1) (by decide) (by decide) k) ?_
              show GoesW p.tables e below s (Q0 Z q0 q1 q2 p3 p4 q5 cs x_CO x_BUNDLE x_SERIES x_OUTAGE x_QUEUED h0 n0) room_1.cells room_1.slots (TJ32.setTop (mkF m 342 #[.val (.long q0), .second, .val (.long q1), .second, .val (.long q2), .second, .val (.int p3), .val (.int p4), .val (.long q5), .second, .val (.int pe), .val (.int pl), .val (.int pg), .val (.int pn), .val (.int s1), .val (.int s2), .val (.int s3), .val (.int s4), .val (.ref id1), .val (.ref id3), .val (.ref kd9), .val (.ref kd10), .val (.long e2), .second, .val (.long l2), .second, .val (.long g2), .second, .val (.int n2), .val (.ref x1), .val (.ref x2), .unset, .unset] []))
              exact J342 _ _  XJ32 eJ32 NJ32 (fun hp => Or.elim hp hn1 (fun q => Or.elim q hn2 (fun q => Or.elim q hn3 (fun q => q.1 h329))))
            · skip
              refine GoesW.step (fun _ k => XS.ifNo XJ32.here hx rfl (hb hby at_329) rfl ((if0 _ _).trans (feq h329).1) k) ?_
              show GoesW p.tables e below s (Q0 Z q0 q1 q2 p3 p4 q5 cs x_CO x_BUNDLE x_SERIES x_OUTAGE x_QUEUED h0 n0) room_1.cells room_1.slots (TJ32.setTop (mkF m 332 #[.val (.long q0), .second, .val (.long q1), .second, .val (.long q2), .second, .val (.int p3), .val (.int p4), .val (.long q5), .second, .val (.int pe), .val (.int pl), .val (.int pg), .val (.int pn), .val (.int s1), .val (.int s2), .val (.int s3), .val (.int s4), .val (.ref id1), .val (.ref id3), .val (.ref kd9), .val (.ref kd10), .val (.long e2), .second, .val (.long l2), .second, .val (.long g2), .second, .val (.int n2), .val (.ref x1), .val (.ref x2), .unset, .unset] []))
              refine GoesW.step (fun _ k => XS.lload XJ32.here hx rfl (hb hby at_332) rfl k) ?_
              show GoesW p.tables e below s (Q0 Z q0 q1 q2 p3 p4 q5 cs x_CO x_BUNDLE x_SERIES x_OUTAGE x_QUEUED h0 n0) room_1.cells room_1.slots (TJ32.setTop (mkF m 334 #[.val (.long q0), .second, .val (.long q1), .second, .val (.long q2), .second, .val (.int p3), .val (.int p4), .val (.long q5), .second, .val (.int pe), .val (.int pl), .val (.int pg), .val (.int pn), .val (.int s1), .val (.int s2), .val (.int s3), .val (.int s4), .val (.ref id1), .val (.ref id3), .val (.ref kd9), .val (.ref kd10), .val (.long e2), .second, .val (.long l2), .second, .val (.long g2), .second, .val (.int n2), .val (.ref x1), .val (.ref x2), .unset, .unset] [(.long q5)]))
              refine GoesW.step (fun _ k => XS.l2i XJ32.here hx rfl (hb hby at_334) rfl k) ?_
              show GoesW p.tables e below s (Q0 Z q0 q1 q2 p3 p4 q5 cs x_CO x_BUNDLE x_SERIES x_OUTAGE x_QUEUED h0 n0) room_1.cells room_1.slots (TJ32.setTop (mkF m 335 #[.val (.long q0), .second, .val (.long q1), .second, .val (.long q2), .second, .val (.int p3), .val (.int p4), .val (.long q5), .second, .val (.int pe), .val (.int pl), .val (.int pg), .val (.int pn), .val (.int s1), .val (.int s2), .val (.int s3), .val (.int s4), .val (.ref id1), .val (.ref id3), .val (.ref kd9), .val (.ref kd10), .val (.long e2), .second, .val (.long l2), .second, .val (.long g2), .second, .val (.int n2), .val (.ref x1), .val (.ref x2), .unset, .unset] [(.int (q5.toInt32))]))
              by_cases h335 : (q5.toInt32) = (0 : Int32)
              · skip
                refine GoesW.step (fun _ k => XS.ifYes XJ32.here hx rfl (pc0 := 335) (pc' := 342) rfl (hb hby at_335) rfl ((if0 _ _).trans (teq h335).1) (by decide) (by decide) k) ?_
                show GoesW p.tables e below s (Q0 Z q0 q1 q2 p3 p4 q5 cs x_CO x_BUNDLE x_SERIES x_OUTAGE x_QUEUED h0 n0) room_1.cells room_1.slots (TJ32.setTop (mkF m 342 #[.val (.long q0), .second, .val (.long q1), .second, .val (.long q2), .second, .val (.int p3), .val (.int p4), .val (.long q5), .second, .val (.int pe), .val (.int pl), .val (.int pg), .val (.int pn), .val (.int s1), .val (.int s2), .val (.int s3), .val (.int s4), .val (.ref id1), .val (.ref id3), .val (.ref kd9), .val (.ref kd10), .val (.long e2), .second, .val (.long l2), .second, .val (.long g2), .second, .val (.int n2), .val (.ref x1), .val (.ref x2), .unset, .unset] []))
                exact J342 _ _  XJ32 eJ32 NJ32 (fun hp => Or.elim hp hn1 (fun q => Or.elim q hn2 (fun q => Or.elim q hn3 (fun q => q.2 h335))))
              · skip
                refine GoesW.step (fun _ k => XS.ifNo XJ32.here hx rfl (hb hby at_335) rfl ((if0 _ _).trans (feq h335).1) k) ?_
                show GoesW p.tables e below s (Q0 Z q0 q1 q2 p3 p4 q5 cs x_CO x_BUNDLE x_SERIES x_OUTAGE x_QUEUED h0 n0) room_1.cells room_1.slots (TJ32.setTop (mkF m 338 #[.val (.long q0), .second, .val (.long q1), .second, .val (.long q2), .second, .val (.int p3), .val (.int p4), .val (.long q5), .second, .val (.int pe), .val (.int pl), .val (.int pg), .val (.int pn), .val (.int s1), .val (.int s2), .val (.int s3), .val (.int s4), .val (.ref id1), .val (.ref id3), .val (.ref kd9), .val (.ref kd10), .val (.long e2), .second, .val (.long l2), .second, .val (.long g2), .second, .val (.int n2), .val (.ref x1), .val (.ref x2), .unset, .unset] []))
                exact J338 _ _  XJ32 eJ32 NJ32 (Or.inr (Or.inr (Or.inr ⟨h329, h335⟩)))
          have J315 : ∀ (TJ33 : State) (LJ33 : List Loc), Stand p l e room_1 s m #[(.long q0), (.long q1), (.long q2), (.int p3), (.int p4), (.long q5)] below meth c TJ33 LJ33 6 26 → TJ33.heap = T19.heap → Fr n0 LJ33 → (¬ (¬ pe = 0 ∧ ¬ q5 = 0)) → (¬ (¬ pl = 0 ∧ ¬ q5 = 0)) → GoesW p.tables e below s (Q0 Z q0 q1 q2 p3 p4 q5 cs x_CO x_BUNDLE x_SERIES x_OUTAGE x_QUEUED h0 n0) room_1.cells room_1.slots (TJ33.setTop (mkF m 315 #[.val (.long q0), .second, .val (.long q1), .second, .val (.long q2), .second, .val (.int p3), .val (.int p4), .val (.long q5), .second, .val (.int pe), .val (.int pl), .val (.int pg), .val (.int pn), .val (.int s1), .val (.int s2), .val (.int s3), .val (.int s4), .val (.ref id1), .val (.ref id3), .val (.ref kd9), .val (.ref kd10), .val (.long e2), .second, .val (.long l2), .second, .val (.long g2), .second, .val (.int n2), .val (.ref x1), .val (.ref x2), .unset, .unset] [])) := by
            intro TJ33 LJ33  XJ33 eJ33 NJ33 hn1 hn2
            show GoesW p.tables e below s (Q0 Z q0 q1 q2 p3 p4 q5 cs x_CO x_BUNDLE x_SERIES x_OUTAGE x_QUEUED h0 n0) room_1.cells room_1.slots (TJ33.setTop (mkF m 315 #[.val (.long q0), .second, .val (.long q1), .second, .val (.long q2), .second, .val (.int p3), .val (.int p4), .val (.long q5), .second, .val (.int pe), .val (.int pl), .val (.int pg), .val (.int pn), .val (.int s1), .val (.int s2), .val (.int s3), .val (.int s4), .val (.ref id1), .val (.ref id3), .val (.ref kd9), .val (.ref kd10), .val (.long e2), .second, .val (.long l2), .second, .val (.long g2), .second, .val (.int n2), .val (.ref x1), .val (.ref x2), .unset, .unset] []))
            refine GoesW.step (fun _ k => XS.iload XJ33.here hx rfl (hb hby at_315) rfl k) ?_
            show GoesW p.tables e below s (Q0 Z q0 q1 q2 p3 p4 q5 cs x_CO x_BUNDLE x_SERIES x_OUTAGE x_QUEUED h0 n0) room_1.cells room_1.slots (TJ33.setTop (mkF m 317 #[.val (.long q0), .second, .val (.long q1), .second, .val (.long q2), .second, .val (.int p3), .val (.int p4), .val (.long q5), .second, .val (.int pe), .val (.int pl), .val (.int pg), .val (.int pn), .val (.int s1), .val (.int s2), .val (.int s3), .val (.int s4), .val (.ref id1), .val (.ref id3), .val (.ref kd9), .val (.ref kd10), .val (.long e2), .second, .val (.long l2), .second, .val (.long g2), .second, .val (.int n2), .val (.ref x1), .val (.ref x2), .unset, .unset] [(.int pg)]))
            by_cases hzpg : pg = (0 : Int32)
            · skip
              refine GoesW.step (fun _ k => XS.ifYes XJ33.here hx rfl (pc0 := 317) (pc' := 327) rfl (hb hby at_317) rfl ((if0 _ _).trans (teq hzpg).1) (by decide) (by decide) k) ?_
              show GoesW p.tables e below s (Q0 Z q0 q1 q2 p3 p4 q5 cs x_CO x_BUNDLE x_SERIES x_OUTAGE x_QUEUED h0 n0) room_1.cells room_1.slots (TJ33.setTop (mkF m 327 #[.val (.long q0), .second, .val (.long q1), .second, .val (.long q2), .second, .val (.int p3), .val (.int p4), .val (.long q5), .second, .val (.int pe), .val (.int pl), .val (.int pg), .val (.int pn), .val (.int s1), .val (.int s2), .val (.int s3), .val (.int s4), .val (.ref id1), .val (.ref id3), .val (.ref kd9), .val (.ref kd10), .val (.long e2), .second, .val (.long l2), .second, .val (.long g2), .second, .val (.int n2), .val (.ref x1), .val (.ref x2), .unset, .unset] []))
              exact J327 _ _  XJ33 eJ33 NJ33 hn1 hn2 (fun q => q.1 hzpg)
            · skip
              refine GoesW.step (fun _ k => XS.ifNo XJ33.here hx rfl (hb hby at_317) rfl ((if0 _ _).trans (feq hzpg).1) k) ?_
              show GoesW p.tables e below s (Q0 Z q0 q1 q2 p3 p4 q5 cs x_CO x_BUNDLE x_SERIES x_OUTAGE x_QUEUED h0 n0) room_1.cells room_1.slots (TJ33.setTop (mkF m 320 #[.val (.long q0), .second, .val (.long q1), .second, .val (.long q2), .second, .val (.int p3), .val (.int p4), .val (.long q5), .second, .val (.int pe), .val (.int pl), .val (.int pg), .val (.int pn), .val (.int s1), .val (.int s2), .val (.int s3), .val (.int s4), .val (.ref id1), .val (.ref id3), .val (.ref kd9), .val (.ref kd10), .val (.long e2), .second, .val (.long l2), .second, .val (.long g2), .second, .val (.int n2), .val (.ref x1), .val (.ref x2), .unset, .unset] []))
              refine GoesW.step (fun _ k => XS.lload XJ33.here hx rfl (hb hby at_320) rfl k) ?_
              show GoesW p.tables e below s (Q0 Z q0 q1 q2 p3 p4 q5 cs x_CO x_BUNDLE x_SERIES x_OUTAGE x_QUEUED h0 n0) room_1.cells room_1.slots (TJ33.setTop (mkF m 322 #[.val (.long q0), .second, .val (.long q1), .second, .val (.long q2), .second, .val (.int p3), .val (.int p4), .val (.long q5), .second, .val (.int pe), .val (.int pl), .val (.int pg), .val (.int pn), .val (.int s1), .val (.int s2), .val (.int s3), .val (.int s4), .val (.ref id1), .val (.ref id3), .val (.ref kd9), .val (.ref kd10), .val (.long e2), .second, .val (.long l2), .second, .val (.long g2), .second, .val (.int n2), .val (.ref x1), .val (.ref x2), .unset, .unset] [(.long q5)]))
              refine GoesW.step (fun _ k => XS.lconst XJ33.here hx rfl (hb hby at_322) k) ?_
              show GoesW p.tables e below s (Q0 Z q0 q1 q2 p3 p4 q5 cs x_CO x_BUNDLE x_SERIES x_OUTAGE x_QUEUED h0 n0) room_1.cells room_1.slots (TJ33.setTop (mkF m 323 #[.val (.long q0), .second, .val (.long q1), .second, .val (.long q2), .second, .val (.int p3), .val (.int p4), .val (.long q5), .second, .val (.int pe), .val (.int pl), .val (.int pg), .val (.int pn), .val (.int s1), .val (.int s2), .val (.int s3), .val (.int s4), .val (.ref id1), .val (.ref id3), .val (.ref kd9), .val (.ref kd10), .val (.long e2), .second, .val (.long l2), .second, .val (.long g2), .second, .val (.int n2), .val (.ref x1), .val (.ref x2), .unset, .unset] [(.long (0 : Int64)), (.long q5)]))
              refine GoesW.step (fun _ k => XS.lcmp XJ33.here hx rfl (hb hby at_323) rfl k) ?_
              show GoesW p.tables e below s (Q0 Z q0 q1 q2 p3 p4 q5 cs x_CO x_BUNDLE x_SERIES x_OUTAGE x_QUEUED h0 n0) room_1.cells room_1.slots (TJ33.setTop (mkF m 324 #[.val (.long q0), .second, .val (.long q1), .second, .val (.long q2), .second, .val (.int p3), .val (.int p4), .val (.long q5), .second, .val (.int pe), .val (.int pl), .val (.int pg), .val (.int pn), .val (.int s1), .val (.int s2), .val (.int s3), .val (.int s4), .val (.ref id1), .val (.ref id3), .val (.ref kd9), .val (.ref kd10), .val (.long e2), .second, .val (.long l2), .second, .val (.long g2), .second, .val (.int n2), .val (.ref x1), .val (.ref x2), .unset, .unset] [(.int (lcmpW q5 (0 : Int64)))]))
              by_cases hdpg : (lcmpW q5 (0 : Int64)) = (0 : Int32)
              · skip
                refine GoesW.step (fun _ k => XS.ifNo XJ33.here hx rfl (hb hby at_324) rfl ((if0 _ _).trans (teq hdpg).2) k) ?_
                show GoesW p.tables e below s (Q0 Z q0 q1 q2 p3 p4 q5 cs x_CO x_BUNDLE x_SERIES x_OUTAGE x_QUEUED h0 n0) room_1.cells room_1.slots (TJ33.setTop (mkF m 327 #[.val (.long q0), .second, .val (.long q1), .second, .val (.long q2), .second, .val (.int p3), .val (.int p4), .val (.long q5), .second, .val (.int pe), .val (.int pl), .val (.int pg), .val (.int pn), .val (.int s1), .val (.int s2), .val (.int s3), .val (.int s4), .val (.ref id1), .val (.ref id3), .val (.ref kd9), .val (.ref kd10), .val (.long e2), .second, .val (.long l2), .second, .val (.long g2), .second, .val (.int n2), .val (.ref x1), .val (.ref x2), .unset, .unset] []))
                exact J327 _ _  XJ33 eJ33 NJ33 hn1 hn2 (fun q => q.2 ((lw_eq _ _).mp hdpg))
              · skip
                refine GoesW.step (fun _ k => XS.ifYes XJ33.here hx rfl (pc0 := 324) (pc' := 338) rfl (hb hby at_324) rfl ((if0 _ _).trans (feq hdpg).2) (by decide) (by decide) k) ?_
                show GoesW p.tables e below s (Q0 Z q0 q1 q2 p3 p4 q5 cs x_CO x_BUNDLE x_SERIES x_OUTAGE x_QUEUED h0 n0) room_1.cells room_1.slots (TJ33.setTop (mkF m 338 #[.val (.long q0), .second, .val (.long q1), .second, .val (.long q2), .second, .val (.int p3), .val (.int p4), .val (.long q5), .second, .val (.int pe), .val (.int pl), .val (.int pg), .val (.int pn), .val (.int s1), .val (.int s2), .val (.int s3), .val (.int s4), .val (.ref id1), .val (.ref id3), .val (.ref kd9), .val (.ref kd10), .val (.long e2), .second, .val (.long l2), .second, .val (.long g2), .second, .val (.int n2), .val (.ref x1), .val (.ref x2), .unset, .unset] []))
                exact J338 _ _  XJ33 eJ33 NJ33 (Or.inr <| Or.inr <| Or.inl ⟨hzpg, fun q => hdpg ((lw_eq _ _).mpr q)⟩)
          have J303 : ∀ (TJ34 : State) (LJ34 : List Loc), Stand p l e room_1 s m #[(.long q0), (.long q1), (.long q2), (.int p3), (.int p4), (.long q5)] below meth c TJ34 LJ34 6 26 → TJ34.heap = T19.heap → Fr n0 LJ34 → (¬ (¬ pe = 0 ∧ ¬ q5 = 0)) → GoesW p.tables e below s (Q0 Z q0 q1 q2 p3 p4 q5 cs x_CO x_BUNDLE x_SERIES x_OUTAGE x_QUEUED h0 n0) room_1.cells room_1.slots (TJ34.setTop (mkF m 303 #[.val (.long q0), .second, .val (.long q1), .second, .val (.long q2), .second, .val (.int p3), .val (.int p4), .val (.long q5), .second, .val (.int pe), .val (.int pl), .val (.int pg), .val (.int pn), .val (.int s1), .val (.int s2), .val (.int s3), .val (.int s4), .val (.ref id1), .val (.ref id3), .val (.ref kd9), .val (.ref kd10), .val (.long e2), .second, .val (.long l2), .second, .val (.long g2), .second, .val (.int n2), .val (.ref x1), .val (.ref x2), .unset, .unset] [])) := by
            intro TJ34 LJ34  XJ34 eJ34 NJ34 hn1
            show GoesW p.tables e below s (Q0 Z q0 q1 q2 p3 p4 q5 cs x_CO x_BUNDLE x_SERIES x_OUTAGE x_QUEUED h0 n0) room_1.cells room_1.slots (TJ34.setTop (mkF m 303 #[.val (.long q0), .second, .val (.long q1), .second, .val (.long q2), .second, .val (.int p3), .val (.int p4), .val (.long q5), .second, .val (.int pe), .val (.int pl), .val (.int pg), .val (.int pn), .val (.int s1), .val (.int s2), .val (.int s3), .val (.int s4), .val (.ref id1), .val (.ref id3), .val (.ref kd9), .val (.ref kd10), .val (.long e2), .second, .val (.long l2), .second, .val (.long g2), .second, .val (.int n2), .val (.ref x1), .val (.ref x2), .unset, .unset] []))
            refine GoesW.step (fun _ k => XS.iload XJ34.here hx rfl (hb hby at_303) rfl k) ?_
            show GoesW p.tables e below s (Q0 Z q0 q1 q2 p3 p4 q5 cs x_CO x_BUNDLE x_SERIES x_OUTAGE x_QUEUED h0 n0) room_1.cells room_1.slots (TJ34.setTop (mkF m 305 #[.val (.long q0), .second, .val (.long q1), .second, .val (.long q2), .second, .val (.int p3), .val (.int p4), .val (.long q5), .second, .val (.int pe), .val (.int pl), .val (.int pg), .val (.int pn), .val (.int s1), .val (.int s2), .val (.int s3), .val (.int s4), .val (.ref id1), .val (.ref id3), .val (.ref kd9), .val (.ref kd10), .val (.long e2), .second, .val (.long l2), .second, .val (.long g2), .second, .val (.int n2), .val (.ref x1), .val (.ref x2), .unset, .unset] [(.int pl)]))
            by_cases hzpl : pl = (0 : Int32)
            · skip
              refine GoesW.step (fun _ k => XS.ifYes XJ34.here hx rfl (pc0 := 305) (pc' := 315) rfl (hb hby at_305) rfl ((if0 _ _).trans (teq hzpl).1) (by decide) (by decide) k) ?_
              show GoesW p.tables e below s (Q0 Z q0 q1 q2 p3 p4 q5 cs x_CO x_BUNDLE x_SERIES x_OUTAGE x_QUEUED h0 n0) room_1.cells room_1.slots (TJ34.setTop (mkF m 315 #[.val (.long q0), .second, .val (.long q1), .second, .val (.long q2), .second, .val (.int p3), .val (.int p4), .val (.long q5), .second, .val (.int pe), .val (.int pl), .val (.int pg), .val (.int pn), .val (.int s1), .val (.int s2), .val (.int s3), .val (.int s4), .val (.ref id1), .val (.ref id3), .val (.ref kd9), .val (.ref kd10), .val (.long e2), .second, .val (.long l2), .second, .val (.long g2), .second, .val (.int n2), .val (.ref x1), .val (.ref x2), .unset, .unset] []))
              exact J315 _ _  XJ34 eJ34 NJ34 hn1 (fun q => q.1 hzpl)
            · skip
              refine GoesW.step (fun _ k => XS.ifNo XJ34.here hx rfl (hb hby at_305) rfl ((if0 _ _).trans (feq hzpl).1) k) ?_
              show GoesW p.tables e below s (Q0 Z q0 q1 q2 p3 p4 q5 cs x_CO x_BUNDLE x_SERIES x_OUTAGE x_QUEUED h0 n0) room_1.cells room_1.slots (TJ34.setTop (mkF m 308 #[.val (.long q0), .second, .val (.long q1), .second, .val (.long q2), .second, .val (.int p3), .val (.int p4), .val (.long q5), .second, .val (.int pe), .val (.int pl), .val (.int pg), .val (.int pn), .val (.int s1), .val (.int s2), .val (.int s3), .val (.int s4), .val (.ref id1), .val (.ref id3), .val (.ref kd9), .val (.ref kd10), .val (.long e2), .second, .val (.long l2), .second, .val (.long g2), .second, .val (.int n2), .val (.ref x1), .val (.ref x2), .unset, .unset] []))
              refine GoesW.step (fun _ k => XS.lload XJ34.here hx rfl (hb hby at_308) rfl k) ?_
              show GoesW p.tables e below s (Q0 Z q0 q1 q2 p3 p4 q5 cs x_CO x_BUNDLE x_SERIES x_OUTAGE x_QUEUED h0 n0) room_1.cells room_1.slots (TJ34.setTop (mkF m 310 #[.val (.long q0), .second, .val (.long q1), .second, .val (.long q2), .second, .val (.int p3), .val (.int p4), .val (.long q5), .second, .val (.int pe), .val (.int pl), .val (.int pg), .val (.int pn), .val (.int s1), .val (.int s2), .val (.int s3), .val (.int s4), .val (.ref id1), .val (.ref id3), .val (.ref kd9), .val (.ref kd10), .val (.long e2), .second, .val (.long l2), .second, .val (.long g2), .second, .val (.int n2), .val (.ref x1), .val (.ref x2), .unset, .unset] [(.long q5)]))
              refine GoesW.step (fun _ k => XS.lconst XJ34.here hx rfl (hb hby at_310) k) ?_
              show GoesW p.tables e below s (Q0 Z q0 q1 q2 p3 p4 q5 cs x_CO x_BUNDLE x_SERIES x_OUTAGE x_QUEUED h0 n0) room_1.cells room_1.slots (TJ34.setTop (mkF m 311 #[.val (.long q0), .second, .val (.long q1), .second, .val (.long q2), .second, .val (.int p3), .val (.int p4), .val (.long q5), .second, .val (.int pe), .val (.int pl), .val (.int pg), .val (.int pn), .val (.int s1), .val (.int s2), .val (.int s3), .val (.int s4), .val (.ref id1), .val (.ref id3), .val (.ref kd9), .val (.ref kd10), .val (.long e2), .second, .val (.long l2), .second, .val (.long g2), .second, .val (.int n2), .val (.ref x1), .val (.ref x2), .unset, .unset] [(.long (0 : Int64)), (.long q5)]))
              refine GoesW.step (fun _ k => XS.lcmp XJ34.here hx rfl (hb hby at_311) rfl k) ?_
              show GoesW p.tables e below s (Q0 Z q0 q1 q2 p3 p4 q5 cs x_CO x_BUNDLE x_SERIES x_OUTAGE x_QUEUED h0 n0) room_1.cells room_1.slots (TJ34.setTop (mkF m 312 #[.val (.long q0), .second, .val (.long q1), .second, .val (.long q2), .second, .val (.int p3), .val (.int p4), .val (.long q5), .second, .val (.int pe), .val (.int pl), .val (.int pg), .val (.int pn), .val (.int s1), .val (.int s2), .val (.int s3), .val (.int s4), .val (.ref id1), .val (.ref id3), .val (.ref kd9), .val (.ref kd10), .val (.long e2), .second, .val (.long l2), .second, .val (.long g2), .second, .val (.int n2), .val (.ref x1), .val (.ref x2), .unset, .unset] [(.int (lcmpW q5 (0 : Int64)))]))
              by_cases hdpl : (lcmpW q5 (0 : Int64)) = (0 : Int32)
              · skip
                refine GoesW.step (fun _ k => XS.ifNo XJ34.here hx rfl (hb hby at_312) rfl ((if0 _ _).trans (teq hdpl).2) k) ?_
                show GoesW p.tables e below s (Q0 Z q0 q1 q2 p3 p4 q5 cs x_CO x_BUNDLE x_SERIES x_OUTAGE x_QUEUED h0 n0) room_1.cells room_1.slots (TJ34.setTop (mkF m 315 #[.val (.long q0), .second, .val (.long q1), .second, .val (.long q2), .second, .val (.int p3), .val (.int p4), .val (.long q5), .second, .val (.int pe), .val (.int pl), .val (.int pg), .val (.int pn), .val (.int s1), .val (.int s2), .val (.int s3), .val (.int s4), .val (.ref id1), .val (.ref id3), .val (.ref kd9), .val (.ref kd10), .val (.long e2), .second, .val (.long l2), .second, .val (.long g2), .second, .val (.int n2), .val (.ref x1), .val (.ref x2), .unset, .unset] []))
                exact J315 _ _  XJ34 eJ34 NJ34 hn1 (fun q => q.2 ((lw_eq _ _).mp hdpl))
              · skip
                refine GoesW.step (fun _ k => XS.ifYes XJ34.here hx rfl (pc0 := 312) (pc' := 338) rfl (hb hby at_312) rfl ((if0 _ _).trans (feq hdpl).2) (by decide) (by decide) k) ?_
                show GoesW p.tables e below s (Q0 Z q0 q1 q2 p3 p4 q5 cs x_CO x_BUNDLE x_SERIES x_OUTAGE x_QUEUED h0 n0) room_1.cells room_1.slots (TJ34.setTop (mkF m 338 #[.val (.long q0), .second, .val (.long q1), .second, .val (.long q2), .second, .val (.int p3), .val (.int p4), .val (.long q5), .second, .val (.int pe), .val (.int pl), .val (.int pg), .val (.int pn), .val (.int s1), .val (.int s2), .val (.int s3), .val (.int s4), .val (.ref id1), .val (.ref id3), .val (.ref kd9), .val (.ref kd10), .val (.long e2), .second, .val (.long l2), .second, .val (.long g2), .second, .val (.int n2), .val (.ref x1), .val (.ref x2), .unset, .unset] []))
                exact J338 _ _  XJ34 eJ34 NJ34 (Or.inr <| Or.inl ⟨hzpl, fun q => hdpl ((lw_eq _ _).mpr q)⟩)
          by_cases hzpe : pe = (0 : Int32)
          · skip
            refine GoesW.step (fun _ k => XS.ifYes X19.here hx rfl (pc0 := 293) (pc' := 303) rfl (hb hby at_293) rfl ((if0 _ _).trans (teq hzpe).1) (by decide) (by decide) k) ?_
            show GoesW p.tables e below s (Q0 Z q0 q1 q2 p3 p4 q5 cs x_CO x_BUNDLE x_SERIES x_OUTAGE x_QUEUED h0 n0) room_1.cells room_1.slots (T19.setTop (mkF m 303 #[.val (.long q0), .second, .val (.long q1), .second, .val (.long q2), .second, .val (.int p3), .val (.int p4), .val (.long q5), .second, .val (.int pe), .val (.int pl), .val (.int pg), .val (.int pn), .val (.int s1), .val (.int s2), .val (.int s3), .val (.int s4), .val (.ref id1), .val (.ref id3), .val (.ref kd9), .val (.ref kd10), .val (.long e2), .second, .val (.long l2), .second, .val (.long g2), .second, .val (.int n2), .val (.ref x1), .val (.ref x2), .unset, .unset] []))
            exact J303 _ _  X19 rfl N19  (fun q => q.1 hzpe)
          · skip
            refine GoesW.step (fun _ k => XS.ifNo X19.here hx rfl (hb hby at_293) rfl ((if0 _ _).trans (feq hzpe).1) k) ?_
            show GoesW p.tables e below s (Q0 Z q0 q1 q2 p3 p4 q5 cs x_CO x_BUNDLE x_SERIES x_OUTAGE x_QUEUED h0 n0) room_1.cells room_1.slots (T19.setTop (mkF m 296 #[.val (.long q0), .second, .val (.long q1), .second, .val (.long q2), .second, .val (.int p3), .val (.int p4), .val (.long q5), .second, .val (.int pe), .val (.int pl), .val (.int pg), .val (.int pn), .val (.int s1), .val (.int s2), .val (.int s3), .val (.int s4), .val (.ref id1), .val (.ref id3), .val (.ref kd9), .val (.ref kd10), .val (.long e2), .second, .val (.long l2), .second, .val (.long g2), .second, .val (.int n2), .val (.ref x1), .val (.ref x2), .unset, .unset] []))
            refine GoesW.step (fun _ k => XS.lload X19.here hx rfl (hb hby at_296) rfl k) ?_
            show GoesW p.tables e below s (Q0 Z q0 q1 q2 p3 p4 q5 cs x_CO x_BUNDLE x_SERIES x_OUTAGE x_QUEUED h0 n0) room_1.cells room_1.slots (T19.setTop (mkF m 298 #[.val (.long q0), .second, .val (.long q1), .second, .val (.long q2), .second, .val (.int p3), .val (.int p4), .val (.long q5), .second, .val (.int pe), .val (.int pl), .val (.int pg), .val (.int pn), .val (.int s1), .val (.int s2), .val (.int s3), .val (.int s4), .val (.ref id1), .val (.ref id3), .val (.ref kd9), .val (.ref kd10), .val (.long e2), .second, .val (.long l2), .second, .val (.long g2), .second, .val (.int n2), .val (.ref x1), .val (.ref x2), .unset, .unset] [(.long q5)]))
            refine GoesW.step (fun _ k => XS.lconst X19.here hx rfl (hb hby at_298) k) ?_
            show GoesW p.tables e below s (Q0 Z q0 q1 q2 p3 p4 q5 cs x_CO x_BUNDLE x_SERIES x_OUTAGE x_QUEUED h0 n0) room_1.cells room_1.slots (T19.setTop (mkF m 299 #[.val (.long q0), .second, .val (.long q1), .second, .val (.long q2), .second, .val (.int p3), .val (.int p4), .val (.long q5), .second, .val (.int pe), .val (.int pl), .val (.int pg), .val (.int pn), .val (.int s1), .val (.int s2), .val (.int s3), .val (.int s4), .val (.ref id1), .val (.ref id3), .val (.ref kd9), .val (.ref kd10), .val (.long e2), .second, .val (.long l2), .second, .val (.long g2), .second, .val (.int n2), .val (.ref x1), .val (.ref x2), .unset, .unset] [(.long (0 : Int64)), (.long q5)]))
            refine GoesW.step (fun _ k => XS.lcmp X19.here hx rfl (hb hby at_299) rfl k) ?_
            show GoesW p.tables e below s (Q0 Z q0 q1 q2 p3 p4 q5 cs x_CO x_BUNDLE x_SERIES x_OUTAGE x_QUEUED h0 n0) room_1.cells room_1.slots (T19.setTop (mkF m 300 #[.val (.long q0), .second, .val (.long q1), .second, .val (.long q2), .second, .val (.int p3), .val (.int p4), .val (.long q5), .second, .val (.int pe), .val (.int pl), .val (.int pg), .val (.int pn), .val (.int s1), .val (.int s2), .val (.int s3), .val (.int s4), .val (.ref id1), .val (.ref id3), .val (.ref kd9), .val (.ref kd10), .val (.long e2), .second, .val (.long l2), .second, .val (.long g2), .second, .val (.int n2), .val (.ref x1), .val (.ref x2), .unset, .unset] [(.int (lcmpW q5 (0 : Int64)))]))
            by_cases hdpe : (lcmpW q5 (0 : Int64)) = (0 : Int32)
            · skip
              refine GoesW.step (fun _ k => XS.ifNo X19.here hx rfl (hb hby at_300) rfl ((if0 _ _).trans (teq hdpe).2) k) ?_
              show GoesW p.tables e below s (Q0 Z q0 q1 q2 p3 p4 q5 cs x_CO x_BUNDLE x_SERIES x_OUTAGE x_QUEUED h0 n0) room_1.cells room_1.slots (T19.setTop (mkF m 303 #[.val (.long q0), .second, .val (.long q1), .second, .val (.long q2), .second, .val (.int p3), .val (.int p4), .val (.long q5), .second, .val (.int pe), .val (.int pl), .val (.int pg), .val (.int pn), .val (.int s1), .val (.int s2), .val (.int s3), .val (.int s4), .val (.ref id1), .val (.ref id3), .val (.ref kd9), .val (.ref kd10), .val (.long e2), .second, .val (.long l2), .second, .val (.long g2), .second, .val (.int n2), .val (.ref x1), .val (.ref x2), .unset, .unset] []))
              exact J303 _ _  X19 rfl N19  (fun q => q.2 ((lw_eq _ _).mp hdpe))
            · skip
              refine GoesW.step (fun _ k => XS.ifYes X19.here hx rfl (pc0 := 300) (pc' := 338) rfl (hb hby at_300) rfl ((if0 _ _).trans (feq hdpe).2) (by decide) (by decide) k) ?_
              show GoesW p.tables e below s (Q0 Z q0 q1 q2 p3 p4 q5 cs x_CO x_BUNDLE x_SERIES x_OUTAGE x_QUEUED h0 n0) room_1.cells room_1.slots (T19.setTop (mkF m 338 #[.val (.long q0), .second, .val (.long q1), .second, .val (.long q2), .second, .val (.int p3), .val (.int p4), .val (.long q5), .second, .val (.int pe), .val (.int pl), .val (.int pg), .val (.int pn), .val (.int s1), .val (.int s2), .val (.int s3), .val (.int s4), .val (.ref id1), .val (.ref id3), .val (.ref kd9), .val (.ref kd10), .val (.long e2), .second, .val (.long l2), .second, .val (.long g2), .second, .val (.int n2), .val (.ref x1), .val (.ref x2), .unset, .unset] []))
              exact J338 _ _  X19 rfl N19 (Or.inl ⟨hzpe, fun q => hdpe ((lw_eq _ _).mpr q)⟩)
        by_cases hsp3 : pn = (0 : Int32)
        · skip
          refine GoesW.step (fun _ k => XS.ifYes XJ13.here hx rfl (pc0 := 227) (pc' := 239) rfl (hb hby at_227) rfl ((if0 _ _).trans (teq hsp3).1) (by decide) (by decide) k) ?_
          show GoesW p.tables e below s (Q0 Z q0 q1 q2 p3 p4 q5 cs x_CO x_BUNDLE x_SERIES x_OUTAGE x_QUEUED h0 n0) room_1.cells room_1.slots (TJ13.setTop (mkF m 239 #[.val (.long q0), .second, .val (.long q1), .second, .val (.long q2), .second, .val (.int p3), .val (.int p4), .val (.long q5), .second, .val (.int pe), .val (.int pl), .val (.int pg), .val (.int pn), .val (.int s1), .val (.int s2), .val (.int s3), .val (.int s4), .val (.ref id1), .val (.ref id3), .val (.ref kd9), .val (.ref kd10), .val (.long e2), .second, .val (.long l2), .second, .val (.long g2), .second, .unset, .unset, .unset, .unset, .unset] []))
          refine GoesW.step (fun _ k => XS.iload XJ13.here hx rfl (hb hby at_239) rfl k) ?_
          show GoesW p.tables e below s (Q0 Z q0 q1 q2 p3 p4 q5 cs x_CO x_BUNDLE x_SERIES x_OUTAGE x_QUEUED h0 n0) room_1.cells room_1.slots (TJ13.setTop (mkF m 241 #[.val (.long q0), .second, .val (.long q1), .second, .val (.long q2), .second, .val (.int p3), .val (.int p4), .val (.long q5), .second, .val (.int pe), .val (.int pl), .val (.int pg), .val (.int pn), .val (.int s1), .val (.int s2), .val (.int s3), .val (.int s4), .val (.ref id1), .val (.ref id3), .val (.ref kd9), .val (.ref kd10), .val (.long e2), .second, .val (.long l2), .second, .val (.long g2), .second, .unset, .unset, .unset, .unset, .unset] [(.int p3)]))
          exact J241 _ _ _ XJ13 eJ13 NJ13 (if_pos hsp3).symm
        · skip
          refine GoesW.step (fun _ k => XS.ifNo XJ13.here hx rfl (hb hby at_227) rfl ((if0 _ _).trans (feq hsp3).1) k) ?_
          show GoesW p.tables e below s (Q0 Z q0 q1 q2 p3 p4 q5 cs x_CO x_BUNDLE x_SERIES x_OUTAGE x_QUEUED h0 n0) room_1.cells room_1.slots (TJ13.setTop (mkF m 230 #[.val (.long q0), .second, .val (.long q1), .second, .val (.long q2), .second, .val (.int p3), .val (.int p4), .val (.long q5), .second, .val (.int pe), .val (.int pl), .val (.int pg), .val (.int pn), .val (.int s1), .val (.int s2), .val (.int s3), .val (.int s4), .val (.ref id1), .val (.ref id3), .val (.ref kd9), .val (.ref kd10), .val (.long e2), .second, .val (.long l2), .second, .val (.long g2), .second, .unset, .unset, .unset, .unset, .unset] []))
          refine GoesW.step (fun _ k => XS.iload XJ13.here hx rfl (hb hby at_230) rfl k) ?_
          show GoesW p.tables e below s (Q0 Z q0 q1 q2 p3 p4 q5 cs x_CO x_BUNDLE x_SERIES x_OUTAGE x_QUEUED h0 n0) room_1.cells room_1.slots (TJ13.setTop (mkF m 232 #[.val (.long q0), .second, .val (.long q1), .second, .val (.long q2), .second, .val (.int p3), .val (.int p4), .val (.long q5), .second, .val (.int pe), .val (.int pl), .val (.int pg), .val (.int pn), .val (.int s1), .val (.int s2), .val (.int s3), .val (.int s4), .val (.ref id1), .val (.ref id3), .val (.ref kd9), .val (.ref kd10), .val (.long e2), .second, .val (.long l2), .second, .val (.long g2), .second, .unset, .unset, .unset, .unset, .unset] [(.int p3)]))
          refine GoesW.step (fun _ k => XS.lload XJ13.here hx rfl (hb hby at_232) rfl k) ?_
          show GoesW p.tables e below s (Q0 Z q0 q1 q2 p3 p4 q5 cs x_CO x_BUNDLE x_SERIES x_OUTAGE x_QUEUED h0 n0) room_1.cells room_1.slots (TJ13.setTop (mkF m 234 #[.val (.long q0), .second, .val (.long q1), .second, .val (.long q2), .second, .val (.int p3), .val (.int p4), .val (.long q5), .second, .val (.int pe), .val (.int pl), .val (.int pg), .val (.int pn), .val (.int s1), .val (.int s2), .val (.int s3), .val (.int s4), .val (.ref id1), .val (.ref id3), .val (.ref kd9), .val (.ref kd10), .val (.long e2), .second, .val (.long l2), .second, .val (.long g2), .second, .unset, .unset, .unset, .unset, .unset] [(.long q5), (.int p3)]))
          refine GoesW.step (fun _ k => XS.l2i XJ13.here hx rfl (hb hby at_234) rfl k) ?_
          show GoesW p.tables e below s (Q0 Z q0 q1 q2 p3 p4 q5 cs x_CO x_BUNDLE x_SERIES x_OUTAGE x_QUEUED h0 n0) room_1.cells room_1.slots (TJ13.setTop (mkF m 235 #[.val (.long q0), .second, .val (.long q1), .second, .val (.long q2), .second, .val (.int p3), .val (.int p4), .val (.long q5), .second, .val (.int pe), .val (.int pl), .val (.int pg), .val (.int pn), .val (.int s1), .val (.int s2), .val (.int s3), .val (.int s4), .val (.ref id1), .val (.ref id3), .val (.ref kd9), .val (.ref kd10), .val (.long e2), .second, .val (.long l2), .second, .val (.long g2), .second, .unset, .unset, .unset, .unset, .unset] [(.int (q5.toInt32)), (.int p3)]))
          refine GoesW.step (fun _ k => XS.ixor XJ13.here hx rfl (hb hby at_235) rfl k) ?_
          show GoesW p.tables e below s (Q0 Z q0 q1 q2 p3 p4 q5 cs x_CO x_BUNDLE x_SERIES x_OUTAGE x_QUEUED h0 n0) room_1.cells room_1.slots (TJ13.setTop (mkF m 236 #[.val (.long q0), .second, .val (.long q1), .second, .val (.long q2), .second, .val (.int p3), .val (.int p4), .val (.long q5), .second, .val (.int pe), .val (.int pl), .val (.int pg), .val (.int pn), .val (.int s1), .val (.int s2), .val (.int s3), .val (.int s4), .val (.ref id1), .val (.ref id3), .val (.ref kd9), .val (.ref kd10), .val (.long e2), .second, .val (.long l2), .second, .val (.long g2), .second, .unset, .unset, .unset, .unset, .unset] [(.int (p3 ^^^ (q5.toInt32)))]))
          refine GoesW.step (fun _ k => XS.goto XJ13.here hx rfl (pc0 := 236) (pc' := 241) rfl (hb hby at_236) (by decide) (by decide) k) ?_
          show GoesW p.tables e below s (Q0 Z q0 q1 q2 p3 p4 q5 cs x_CO x_BUNDLE x_SERIES x_OUTAGE x_QUEUED h0 n0) room_1.cells room_1.slots (TJ13.setTop (mkF m 241 #[.val (.long q0), .second, .val (.long q1), .second, .val (.long q2), .second, .val (.int p3), .val (.int p4), .val (.long q5), .second, .val (.int pe), .val (.int pl), .val (.int pg), .val (.int pn), .val (.int s1), .val (.int s2), .val (.int s3), .val (.int s4), .val (.ref id1), .val (.ref id3), .val (.ref kd9), .val (.ref kd10), .val (.long e2), .second, .val (.long l2), .second, .val (.long g2), .second, .unset, .unset, .unset, .unset, .unset] [(.int (p3 ^^^ (q5.toInt32)))]))
          exact J241 _ _ _ XJ13 eJ13 NJ13 (if_neg hsp3).symm
      by_cases hsp2 : pg = (0 : Int32)
      · skip
        refine GoesW.step (fun _ k => XS.ifYes XJ12.here hx rfl (pc0 := 210) (pc' := 221) rfl (hb hby at_210) rfl ((if0 _ _).trans (teq hsp2).1) (by decide) (by decide) k) ?_
        show GoesW p.tables e below s (Q0 Z q0 q1 q2 p3 p4 q5 cs x_CO x_BUNDLE x_SERIES x_OUTAGE x_QUEUED h0 n0) room_1.cells room_1.slots (TJ12.setTop (mkF m 221 #[.val (.long q0), .second, .val (.long q1), .second, .val (.long q2), .second, .val (.int p3), .val (.int p4), .val (.long q5), .second, .val (.int pe), .val (.int pl), .val (.int pg), .val (.int pn), .val (.int s1), .val (.int s2), .val (.int s3), .val (.int s4), .val (.ref id1), .val (.ref id3), .val (.ref kd9), .val (.ref kd10), .val (.long e2), .second, .val (.long l2), .second, .unset, .unset, .unset, .unset, .unset, .unset, .unset] []))
        refine GoesW.step (fun _ k => XS.lload XJ12.here hx rfl (hb hby at_221) rfl k) ?_
        show GoesW p.tables e below s (Q0 Z q0 q1 q2 p3 p4 q5 cs x_CO x_BUNDLE x_SERIES x_OUTAGE x_QUEUED h0 n0) room_1.cells room_1.slots (TJ12.setTop (mkF m 223 #[.val (.long q0), .second, .val (.long q1), .second, .val (.long q2), .second, .val (.int p3), .val (.int p4), .val (.long q5), .second, .val (.int pe), .val (.int pl), .val (.int pg), .val (.int pn), .val (.int s1), .val (.int s2), .val (.int s3), .val (.int s4), .val (.ref id1), .val (.ref id3), .val (.ref kd9), .val (.ref kd10), .val (.long e2), .second, .val (.long l2), .second, .unset, .unset, .unset, .unset, .unset, .unset, .unset] [(.long q2)]))
        exact J223 _ _ _ XJ12 eJ12 NJ12 (if_pos hsp2).symm
      · skip
        refine GoesW.step (fun _ k => XS.ifNo XJ12.here hx rfl (hb hby at_210) rfl ((if0 _ _).trans (feq hsp2).1) k) ?_
        show GoesW p.tables e below s (Q0 Z q0 q1 q2 p3 p4 q5 cs x_CO x_BUNDLE x_SERIES x_OUTAGE x_QUEUED h0 n0) room_1.cells room_1.slots (TJ12.setTop (mkF m 213 #[.val (.long q0), .second, .val (.long q1), .second, .val (.long q2), .second, .val (.int p3), .val (.int p4), .val (.long q5), .second, .val (.int pe), .val (.int pl), .val (.int pg), .val (.int pn), .val (.int s1), .val (.int s2), .val (.int s3), .val (.int s4), .val (.ref id1), .val (.ref id3), .val (.ref kd9), .val (.ref kd10), .val (.long e2), .second, .val (.long l2), .second, .unset, .unset, .unset, .unset, .unset, .unset, .unset] []))
        refine GoesW.step (fun _ k => XS.lload XJ12.here hx rfl (hb hby at_213) rfl k) ?_
        show GoesW p.tables e below s (Q0 Z q0 q1 q2 p3 p4 q5 cs x_CO x_BUNDLE x_SERIES x_OUTAGE x_QUEUED h0 n0) room_1.cells room_1.slots (TJ12.setTop (mkF m 215 #[.val (.long q0), .second, .val (.long q1), .second, .val (.long q2), .second, .val (.int p3), .val (.int p4), .val (.long q5), .second, .val (.int pe), .val (.int pl), .val (.int pg), .val (.int pn), .val (.int s1), .val (.int s2), .val (.int s3), .val (.int s4), .val (.ref id1), .val (.ref id3), .val (.ref kd9), .val (.ref kd10), .val (.long e2), .second, .val (.long l2), .second, .unset, .unset, .unset, .unset, .unset, .unset, .unset] [(.long q2)]))
        refine GoesW.step (fun _ k => XS.lload XJ12.here hx rfl (hb hby at_215) rfl k) ?_
        show GoesW p.tables e below s (Q0 Z q0 q1 q2 p3 p4 q5 cs x_CO x_BUNDLE x_SERIES x_OUTAGE x_QUEUED h0 n0) room_1.cells room_1.slots (TJ12.setTop (mkF m 217 #[.val (.long q0), .second, .val (.long q1), .second, .val (.long q2), .second, .val (.int p3), .val (.int p4), .val (.long q5), .second, .val (.int pe), .val (.int pl), .val (.int pg), .val (.int pn), .val (.int s1), .val (.int s2), .val (.int s3), .val (.int s4), .val (.ref id1), .val (.ref id3), .val (.ref kd9), .val (.ref kd10), .val (.long e2), .second, .val (.long l2), .second, .unset, .unset, .unset, .unset, .unset, .unset, .unset] [(.long q5), (.long q2)]))
        refine GoesW.step (fun _ k => XS.lxor XJ12.here hx rfl (hb hby at_217) rfl k) ?_
        show GoesW p.tables e below s (Q0 Z q0 q1 q2 p3 p4 q5 cs x_CO x_BUNDLE x_SERIES x_OUTAGE x_QUEUED h0 n0) room_1.cells room_1.slots (TJ12.setTop (mkF m 218 #[.val (.long q0), .second, .val (.long q1), .second, .val (.long q2), .second, .val (.int p3), .val (.int p4), .val (.long q5), .second, .val (.int pe), .val (.int pl), .val (.int pg), .val (.int pn), .val (.int s1), .val (.int s2), .val (.int s3), .val (.int s4), .val (.ref id1), .val (.ref id3), .val (.ref kd9), .val (.ref kd10), .val (.long e2), .second, .val (.long l2), .second, .unset, .unset, .unset, .unset, .unset, .unset, .unset] [(.long (q2 ^^^ q5))]))
        refine GoesW.step (fun _ k => XS.goto XJ12.here hx rfl (pc0 := 218) (pc' := 223) rfl (hb hby at_218) (by decide) (by decide) k) ?_
        show GoesW p.tables e below s (Q0 Z q0 q1 q2 p3 p4 q5 cs x_CO x_BUNDLE x_SERIES x_OUTAGE x_QUEUED h0 n0) room_1.cells room_1.slots (TJ12.setTop (mkF m 223 #[.val (.long q0), .second, .val (.long q1), .second, .val (.long q2), .second, .val (.int p3), .val (.int p4), .val (.long q5), .second, .val (.int pe), .val (.int pl), .val (.int pg), .val (.int pn), .val (.int s1), .val (.int s2), .val (.int s3), .val (.int s4), .val (.ref id1), .val (.ref id3), .val (.ref kd9), .val (.ref kd10), .val (.long e2), .second, .val (.long l2), .second, .unset, .unset, .unset, .unset, .unset, .unset, .unset] [(.long (q2 ^^^ q5))]))
        exact J223 _ _ _ XJ12 eJ12 NJ12 (if_neg hsp2).symm
    by_cases hsp1 : pl = (0 : Int32)
    · skip
      refine GoesW.step (fun _ k => XS.ifYes XJ11.here hx rfl (pc0 := 195) (pc' := 205) rfl (hb hby at_195) rfl ((if0 _ _).trans (teq hsp1).1) (by decide) (by decide) k) ?_
      show GoesW p.tables e below s (Q0 Z q0 q1 q2 p3 p4 q5 cs x_CO x_BUNDLE x_SERIES x_OUTAGE x_QUEUED h0 n0) room_1.cells room_1.slots (TJ11.setTop (mkF m 205 #[.val (.long q0), .second, .val (.long q1), .second, .val (.long q2), .second, .val (.int p3), .val (.int p4), .val (.long q5), .second, .val (.int pe), .val (.int pl), .val (.int pg), .val (.int pn), .val (.int s1), .val (.int s2), .val (.int s3), .val (.int s4), .val (.ref id1), .val (.ref id3), .val (.ref kd9), .val (.ref kd10), .val (.long e2), .second, .unset, .unset, .unset, .unset, .unset, .unset, .unset, .unset, .unset] []))
      refine GoesW.step (fun _ k => XS.lloadN XJ11.here hx rfl (hb hby at_205) rfl k) ?_
      show GoesW p.tables e below s (Q0 Z q0 q1 q2 p3 p4 q5 cs x_CO x_BUNDLE x_SERIES x_OUTAGE x_QUEUED h0 n0) room_1.cells room_1.slots (TJ11.setTop (mkF m 206 #[.val (.long q0), .second, .val (.long q1), .second, .val (.long q2), .second, .val (.int p3), .val (.int p4), .val (.long q5), .second, .val (.int pe), .val (.int pl), .val (.int pg), .val (.int pn), .val (.int s1), .val (.int s2), .val (.int s3), .val (.int s4), .val (.ref id1), .val (.ref id3), .val (.ref kd9), .val (.ref kd10), .val (.long e2), .second, .unset, .unset, .unset, .unset, .unset, .unset, .unset, .unset, .unset] [(.long q1)]))
      exact J206 _ _ _ XJ11 eJ11 NJ11 (if_pos hsp1).symm
    · skip
      refine GoesW.step (fun _ k => XS.ifNo XJ11.here hx rfl (hb hby at_195) rfl ((if0 _ _).trans (feq hsp1).1) k) ?_
      show GoesW p.tables e below s (Q0 Z q0 q1 q2 p3 p4 q5 cs x_CO x_BUNDLE x_SERIES x_OUTAGE x_QUEUED h0 n0) room_1.cells room_1.slots (TJ11.setTop (mkF m 198 #[.val (.long q0), .second, .val (.long q1), .second, .val (.long q2), .second, .val (.int p3), .val (.int p4), .val (.long q5), .second, .val (.int pe), .val (.int pl), .val (.int pg), .val (.int pn), .val (.int s1), .val (.int s2), .val (.int s3), .val (.int s4), .val (.ref id1), .val (.ref id3), .val (.ref kd9), .val (.ref kd10), .val (.long e2), .second, .unset, .unset, .unset, .unset, .unset, .unset, .unset, .unset, .unset] []))
      refine GoesW.step (fun _ k => XS.lloadN XJ11.here hx rfl (hb hby at_198) rfl k) ?_
      show GoesW p.tables e below s (Q0 Z q0 q1 q2 p3 p4 q5 cs x_CO x_BUNDLE x_SERIES x_OUTAGE x_QUEUED h0 n0) room_1.cells room_1.slots (TJ11.setTop (mkF m 199 #[.val (.long q0), .second, .val (.long q1), .second, .val (.long q2), .second, .val (.int p3), .val (.int p4), .val (.long q5), .second, .val (.int pe), .val (.int pl), .val (.int pg), .val (.int pn), .val (.int s1), .val (.int s2), .val (.int s3), .val (.int s4), .val (.ref id1), .val (.ref id3), .val (.ref kd9), .val (.ref kd10), .val (.long e2), .second, .unset, .unset, .unset, .unset, .unset, .unset, .unset, .unset, .unset] [(.long q1)]))
      refine GoesW.step (fun _ k => XS.lload XJ11.here hx rfl (hb hby at_199) rfl k) ?_
      show GoesW p.tables e below s (Q0 Z q0 q1 q2 p3 p4 q5 cs x_CO x_BUNDLE x_SERIES x_OUTAGE x_QUEUED h0 n0) room_1.cells room_1.slots (TJ11.setTop (mkF m 201 #[.val (.long q0), .second, .val (.long q1), .second, .val (.long q2), .second, .val (.int p3), .val (.int p4), .val (.long q5), .second, .val (.int pe), .val (.int pl), .val (.int pg), .val (.int pn), .val (.int s1), .val (.int s2), .val (.int s3), .val (.int s4), .val (.ref id1), .val (.ref id3), .val (.ref kd9), .val (.ref kd10), .val (.long e2), .second, .unset, .unset, .unset, .unset, .unset, .unset, .unset, .unset, .unset] [(.long q5), (.long q1)]))
      refine GoesW.step (fun _ k => XS.lxor XJ11.here hx rfl (hb hby at_201) rfl k) ?_
      show GoesW p.tables e below s (Q0 Z q0 q1 q2 p3 p4 q5 cs x_CO x_BUNDLE x_SERIES x_OUTAGE x_QUEUED h0 n0) room_1.cells room_1.slots (TJ11.setTop (mkF m 202 #[.val (.long q0), .second, .val (.long q1), .second, .val (.long q2), .second, .val (.int p3), .val (.int p4), .val (.long q5), .second, .val (.int pe), .val (.int pl), .val (.int pg), .val (.int pn), .val (.int s1), .val (.int s2), .val (.int s3), .val (.int s4), .val (.ref id1), .val (.ref id3), .val (.ref kd9), .val (.ref kd10), .val (.long e2), .second, .unset, .unset, .unset, .unset, .unset, .unset, .unset, .unset, .unset] [(.long (q1 ^^^ q5))]))
      refine GoesW.step (fun _ k => XS.goto XJ11.here hx rfl (pc0 := 202) (pc' := 206) rfl (hb hby at_202) (by decide) (by decide) k) ?_
      show GoesW p.tables e below s (Q0 Z q0 q1 q2 p3 p4 q5 cs x_CO x_BUNDLE x_SERIES x_OUTAGE x_QUEUED h0 n0) room_1.cells room_1.slots (TJ11.setTop (mkF m 206 #[.val (.long q0), .second, .val (.long q1), .second, .val (.long q2), .second, .val (.int p3), .val (.int p4), .val (.long q5), .second, .val (.int pe), .val (.int pl), .val (.int pg), .val (.int pn), .val (.int s1), .val (.int s2), .val (.int s3), .val (.int s4), .val (.ref id1), .val (.ref id3), .val (.ref kd9), .val (.ref kd10), .val (.long e2), .second, .unset, .unset, .unset, .unset, .unset, .unset, .unset, .unset, .unset] [(.long (q1 ^^^ q5))]))
      exact J206 _ _ _ XJ11 eJ11 NJ11 (if_neg hsp1).symm
  by_cases hsp0 : pe = (0 : Int32)
  · skip
    refine GoesW.step (fun _ k => XS.ifYes X10.here hx rfl (pc0 := 180) (pc' := 190) rfl (hb hby at_180) rfl ((if0 _ _).trans (teq hsp0).1) (by decide) (by decide) k) ?_
    show GoesW p.tables e below s (Q0 Z q0 q1 q2 p3 p4 q5 cs x_CO x_BUNDLE x_SERIES x_OUTAGE x_QUEUED h0 n0) room_1.cells room_1.slots (T10.setTop (mkF m 190 #[.val (.long q0), .second, .val (.long q1), .second, .val (.long q2), .second, .val (.int p3), .val (.int p4), .val (.long q5), .second, .val (.int pe), .val (.int pl), .val (.int pg), .val (.int pn), .val (.int s1), .val (.int s2), .val (.int s3), .val (.int s4), .val (.ref id1), .val (.ref id3), .val (.ref kd9), .val (.ref kd10), .unset, .unset, .unset, .unset, .unset, .unset, .unset, .unset, .unset, .unset, .unset] []))
    refine GoesW.step (fun _ k => XS.lloadN X10.here hx rfl (hb hby at_190) rfl k) ?_
    show GoesW p.tables e below s (Q0 Z q0 q1 q2 p3 p4 q5 cs x_CO x_BUNDLE x_SERIES x_OUTAGE x_QUEUED h0 n0) room_1.cells room_1.slots (T10.setTop (mkF m 191 #[.val (.long q0), .second, .val (.long q1), .second, .val (.long q2), .second, .val (.int p3), .val (.int p4), .val (.long q5), .second, .val (.int pe), .val (.int pl), .val (.int pg), .val (.int pn), .val (.int s1), .val (.int s2), .val (.int s3), .val (.int s4), .val (.ref id1), .val (.ref id3), .val (.ref kd9), .val (.ref kd10), .unset, .unset, .unset, .unset, .unset, .unset, .unset, .unset, .unset, .unset, .unset] [(.long q0)]))
    exact J191 _ _ _ X10 eq10 N10 (if_pos hsp0).symm
  · skip
    refine GoesW.step (fun _ k => XS.ifNo X10.here hx rfl (hb hby at_180) rfl ((if0 _ _).trans (feq hsp0).1) k) ?_
    show GoesW p.tables e below s (Q0 Z q0 q1 q2 p3 p4 q5 cs x_CO x_BUNDLE x_SERIES x_OUTAGE x_QUEUED h0 n0) room_1.cells room_1.slots (T10.setTop (mkF m 183 #[.val (.long q0), .second, .val (.long q1), .second, .val (.long q2), .second, .val (.int p3), .val (.int p4), .val (.long q5), .second, .val (.int pe), .val (.int pl), .val (.int pg), .val (.int pn), .val (.int s1), .val (.int s2), .val (.int s3), .val (.int s4), .val (.ref id1), .val (.ref id3), .val (.ref kd9), .val (.ref kd10), .unset, .unset, .unset, .unset, .unset, .unset, .unset, .unset, .unset, .unset, .unset] []))
    refine GoesW.step (fun _ k => XS.lloadN X10.here hx rfl (hb hby at_183) rfl k) ?_
    show GoesW p.tables e below s (Q0 Z q0 q1 q2 p3 p4 q5 cs x_CO x_BUNDLE x_SERIES x_OUTAGE x_QUEUED h0 n0) room_1.cells room_1.slots (T10.setTop (mkF m 184 #[.val (.long q0), .second, .val (.long q1), .second, .val (.long q2), .second, .val (.int p3), .val (.int p4), .val (.long q5), .second, .val (.int pe), .val (.int pl), .val (.int pg), .val (.int pn), .val (.int s1), .val (.int s2), .val (.int s3), .val (.int s4), .val (.ref id1), .val (.ref id3), .val (.ref kd9), .val (.ref kd10), .unset, .unset, .unset, .unset, .unset, .unset, .unset, .unset, .unset, .unset, .unset] [(.long q0)]))
    refine GoesW.step (fun _ k => XS.lload X10.here hx rfl (hb hby at_184) rfl k) ?_
    show GoesW p.tables e below s (Q0 Z q0 q1 q2 p3 p4 q5 cs x_CO x_BUNDLE x_SERIES x_OUTAGE x_QUEUED h0 n0) room_1.cells room_1.slots (T10.setTop (mkF m 186 #[.val (.long q0), .second, .val (.long q1), .second, .val (.long q2), .second, .val (.int p3), .val (.int p4), .val (.long q5), .second, .val (.int pe), .val (.int pl), .val (.int pg), .val (.int pn), .val (.int s1), .val (.int s2), .val (.int s3), .val (.int s4), .val (.ref id1), .val (.ref id3), .val (.ref kd9), .val (.ref kd10), .unset, .unset, .unset, .unset, .unset, .unset, .unset, .unset, .unset, .unset, .unset] [(.long q5), (.long q0)]))
    refine GoesW.step (fun _ k => XS.lxor X10.here hx rfl (hb hby at_186) rfl k) ?_
    show GoesW p.tables e below s (Q0 Z q0 q1 q2 p3 p4 q5 cs x_CO x_BUNDLE x_SERIES x_OUTAGE x_QUEUED h0 n0) room_1.cells room_1.slots (T10.setTop (mkF m 187 #[.val (.long q0), .second, .val (.long q1), .second, .val (.long q2), .second, .val (.int p3), .val (.int p4), .val (.long q5), .second, .val (.int pe), .val (.int pl), .val (.int pg), .val (.int pn), .val (.int s1), .val (.int s2), .val (.int s3), .val (.int s4), .val (.ref id1), .val (.ref id3), .val (.ref kd9), .val (.ref kd10), .unset, .unset, .unset, .unset, .unset, .unset, .unset, .unset, .unset, .unset, .unset] [(.long (q0 ^^^ q5))]))
    refine GoesW.step (fun _ k => XS.goto X10.here hx rfl (pc0 := 187) (pc' := 191) rfl (hb hby at_187) (by decide) (by decide) k) ?_
    show GoesW p.tables e below s (Q0 Z q0 q1 q2 p3 p4 q5 cs x_CO x_BUNDLE x_SERIES x_OUTAGE x_QUEUED h0 n0) room_1.cells room_1.slots (T10.setTop (mkF m 191 #[.val (.long q0), .second, .val (.long q1), .second, .val (.long q2), .second, .val (.int p3), .val (.int p4), .val (.long q5), .second, .val (.int pe), .val (.int pl), .val (.int pg), .val (.int pn), .val (.int s1), .val (.int s2), .val (.int s3), .val (.int s4), .val (.ref id1), .val (.ref id3), .val (.ref kd9), .val (.ref kd10), .unset, .unset, .unset, .unset, .unset, .unset, .unset, .unset, .unset, .unset, .unset] [(.long (q0 ^^^ q5))]))
    exact J191 _ _ _ X10 eq10 N10 (if_neg hsp0).symm
set_option maxRecDepth 65536 in
set_option maxHeartbeats 40000000 in
theorem comes_1 {Post : Tables → Env → Array Value → State → Outcome → State → Prop} (hpost : ∀ tb e args s v u, (limb_1_1.after args s (.returned v) u = true ∧ limb_1_2.after args s (.returned v) u = true ∧ True) → FrameEnd s (.returned v) u (Jvm.fieldLocs frame_1_writes args s ++ Jvm.arrayLocs frame_1_arrays args s ++ Jvm.staticLocs frame_1_statics s) 24 128 → Post tb e args s (.returned v) u) :
    ArmFor flags0 classFile x code maxLocals ret World_1 tables_1 room_1 Calls_1 rest_1 Pre_1 Post := by
  intro l hfl _ _ p e ha hc hk s m args below hf hA hF happ hP
  obtain ⟨hcalls, hrest, hpre⟩ := hP
  obtain ⟨-, -, -, hnamed, -, -, -, hat⟩ := (Spec.applies_iff hf).mp happ
  obtain ⟨hg, hn⟩ := and_e (Cond.before_iff.mp (show (Jvm.Cond.and given_1 narrow_1).before args s = true from hpre))
  obtain ⟨gc, gr0⟩ := and_e hg
  obtain ⟨w0, w1, w2, w3, w4, w5, rfl⟩ : ∃ w0 w1 w2 w3 w4 w5 : Value, args = #[w0, w1, w2, w3, w4, w5] := by
    have hs : args.size = 6 := by simpa [Cond.value, given_1] using gc
    obtain ⟨L⟩ := args
    match L, hs with
    | [w0, w1, w2, w3, w4, w5], _ => exact ⟨w0, w1, w2, w3, w4, w5, rfl⟩
  have hw := fun d (hd : d ∈ tables_1) => atoms_spec (ws := Jvm.Cond.code x code maxLocals ret :: tables_1) hat d (List.mem_cons_of_mem _ hd)
  have hfit : Fit s := fun {y c} hc i hi => by
    obtain ⟨ha, rfl⟩ := Array.getElem?_eq_some_iff.mp hc
    have q := List.all_eq_true.mp ((Array.all_eq_true_iff_forall_mem.mp hF) _ (Array.getElem_mem ha)) i (List.mem_range.mpr hi)
    simpa [Array.getElem?_eq_getElem hi] using q
  obtain ⟨ga0, gr1⟩ := and_e gr0
  obtain ⟨i0, ei0⟩ := isL_v ga0
  obtain rfl : w0 = (.long i0) := Option.some.inj ei0
  obtain ⟨ga1, gr2⟩ := and_e gr1
  obtain ⟨i1, ei1⟩ := isL_v ga1
  obtain rfl : w1 = (.long i1) := Option.some.inj ei1
  obtain ⟨ga2, gr3⟩ := and_e gr2
  obtain ⟨i2, ei2⟩ := isL_v ga2
  obtain rfl : w2 = (.long i2) := Option.some.inj ei2
  obtain ⟨ga3, gr4⟩ := and_e gr3
  obtain ⟨i3, ei3⟩ := is_v ga3
  obtain rfl : w3 = (.int i3) := Option.some.inj ei3
  obtain ⟨ga4, gr5⟩ := and_e gr4
  obtain ⟨i4, ei4⟩ := is_v ga4
  obtain rfl : w4 = (.int i4) := Option.some.inj ei4
  obtain ⟨i5, ei5⟩ := isL_v gr5
  obtain rfl : w5 = (.long i5) := Option.some.inj ei5
  obtain ⟨nn0, nm0⟩ := and_e hn
  obtain ⟨x_CO, ev_CO⟩ := exa_v nn0
  have E_CO := Exa.start ev_CO nn0
  have S_CO := Sta.start ev_CO (Or.inr ⟨hw _ (List.mem_of_getElem? (i := 31) rfl), hw _ (List.mem_of_getElem? (i := 32) rfl)⟩)
  obtain ⟨nn1, nm1⟩ := and_e nm0
  obtain ⟨x_OUTAGE, ev_OUTAGE⟩ := exa_v nn1
  have E_OUTAGE := Exa.start ev_OUTAGE nn1
  have S_OUTAGE := Sta.start ev_OUTAGE (Or.inr ⟨hw _ (List.mem_of_getElem? (i := 31) rfl), hw _ (List.mem_of_getElem? (i := 67) rfl)⟩)
  obtain ⟨nn2, nm2⟩ := and_e nm1
  obtain ⟨x_SERIES, ev_SERIES⟩ := exa_v nn2
  have E_SERIES := Exa.start ev_SERIES nn2
  have S_SERIES := Sta.start ev_SERIES (Or.inr ⟨hw _ (List.mem_of_getElem? (i := 31) rfl), hw _ (List.mem_of_getElem? (i := 69) rfl)⟩)
  obtain ⟨nn3, nm3⟩ := and_e nm2
  obtain ⟨x_QUEUED, ev_QUEUED⟩ := exa_v nn3
  have E_QUEUED := Exa.start ev_QUEUED nn3
  have S_QUEUED := Sta.start ev_QUEUED (Or.inr ⟨hw _ (List.mem_of_getElem? (i := 31) rfl), hw _ (List.mem_of_getElem? (i := 71) rfl)⟩)
  obtain ⟨x_BUNDLE, ev_BUNDLE⟩ := exa_v nm3
  have E_BUNDLE := Exa.start ev_BUNDLE nm3
  have S_BUNDLE := Sta.start ev_BUNDLE (Or.inr ⟨hw _ (List.mem_of_getElem? (i := 31) rfl), hw _ (List.mem_of_getElem? (i := 73) rfl)⟩)
  obtain ⟨hsets, hown0⟩ := atoms_of _ (rest_1_c_eq ▸ (show rest_1_c.before _ s = true from hrest))
  have n5 := not_v (Cond.before_iff.mp (hsets _ (List.mem_of_getElem? (i := 2) rfl)))
  obtain ⟨cs, ecs⟩ := is_v (Cond.before_iff.mp (hsets _ (List.mem_of_getElem? (i := 1) rfl)))
  have S_CS : Sta s s.heap "java/lang/String" "COMPACT_STRINGS" "Z" (.int cs) := Sta.start ecs (Or.inl (hsets _ (List.mem_of_getElem? (i := 0) rfl)))
  have hcs : ¬ (cs = (0 : Int32)) := gotF (Cond.eq_ints ecs (Term.int_eval (0))) n5
  obtain ⟨n, o, h1, h2, h3, _, L, rfl, ⟨rfl, N⟩, hq⟩ := rm0 l s _ hw tables_1 i0 i1 i2 i3 i4 i5 cs x_CO x_BUNDLE x_SERIES x_OUTAGE x_QUEUED s.heap s.heap.size (Nat.le_refl _) S_CS hcs S_CO S_BUNDLE S_SERIES S_OUTAGE S_QUEUED p e ha hc hk s m _ below hf ((Spec.applies_iff_loose hf).mp happ).1 ⟨rfl, State.Warmed39.refl s, rfl⟩ trivial
  refine ⟨n, _, h1, h2, h3, hpost _ _ _ _ _ _ ⟨Cond.after_iff.mpr rfl, Cond.after_iff.mpr (eq_i res_at (Term.int_eval (1)) rfl), trivial⟩ ⟨hq.1, hq.2.1, (hq.2.2.sift fun y hy => Or.inr (N y hy)).mono (by decide) (by decide)⟩⟩
theorem main_1_1 : Claimed_1_1 := comes_1 fun _ _ _ _ _ _ h hF => ⟨h.1, hF⟩
theorem main_1_2 : Claimed_1_2 := comes_1 fun _ _ _ _ _ _ h hF => ⟨h.2.1, hF⟩
end Jvm.Pilot.@@N@@
namespace Jvm.Pilot.@@N@@
open Jvm Jvm.ClassFile Sem Op Lib Jvm.Free Jvm.Stand Jvm.Pilot.@@N@@.Jvm.D
/-! MADE BY PROGRAM (witnessworld.py) out of the Statement's table words and the real class files: 20 classes; the members and pool entries that the words name. The judged class is class 1, her method 2. -/
namespace start1
open Jvm.ClassFile
def u (s : String) : CpInfo := .utf8 (stringToUtf16 s)
/-- a pool by its gaps: so many unusable entries, then the entry; so many at the end -/
def gap : Nat → List CpInfo → List CpInfo
  | 0, r => r
  | n + 1, r => .unusable :: gap n r
def poolList (es : List (Nat × CpInfo)) (last : Nat) : List CpInfo := es.foldr (fun e r => gap e.1 (e.2 :: r)) (gap last [])
def pool (es : List (Nat × CpInfo)) (last : Nat) : Array CpInfo := ⟨poolList es last⟩
def fileOf (pool : Array CpInfo) (this : Nat) (attrs : Array Attribute := #[]) (ms : Array MethodInfo := #[]) (fl : Nat := 33) (sup : Nat := 0) (ifs : Array Nat := #[]) (fds : Array FieldInfo := #[]) : ClassFile where
  minorVersion := 0
  majorVersion := 65
  constantPool := pool
  accessFlags := fl
  thisClass := this
  superClass := sup
  interfaces := ifs
  fields := fds
  methods := ms
  attributes := attrs
def plain (name : String) (sup : Option ClassId) : Class where
  name := name
  kind := .ordinary
  loader := none
  accessFlags := 33
  super := sup
  interfaces := #[]
  cf := none
  fields := #[]
  methods := #[]
  instanceTypes := #[]
  staticTypes := #[]
  resolved := #[]
  callSites := []
  init := .initialized
  statics := none
  mirror := none

def pool0 : Array CpInfo := pool [(5, u "<init>"), (0, u "()V"), (1, .class_ 10), (1, u "java/lang/Object")] 113

def k0c0 : Code := { maxStack := 0, maxLocals := 1, code := object_method_1_code, exceptionTable := #[], attributes := #[] }
def k0m0 : Method := { name := "<init>", desc := "()V", sig := { parameters := [], returnType := none }, accessFlags := 1, code := some k0c0 }
/-- java/lang/Object -/
def k0 : Class := { plain "java/lang/Object" none with
  accessFlags := 33
  interfaces := #[]
  cf := some (fileOf pool0 8 #[] #[{ accessFlags := 1, nameIndex := 5, descriptorIndex := 6, attributes := #[] }] 33 0 #[] #[])
  fields := #[]
  methods := #[k0m0]
  instanceTypes := #[]
  staticTypes := #[]
  resolved := Array.replicate 124 none
  statics := none }

def pool1 : Array CpInfo := pool [(2, .class_ 4), (1, u "java/lang/Object"), (0, u "<init>"), (0, u "()V"), (0, .fieldref 8 9), (0, .class_ 10), (0, .nameAndType 11 12), (0, u "com/example/forehold/forehold/ledger/Kind"), (0, u "CO"), (0, u "Lcom/example/forehold/forehold/ledger/Kind;"), (0, .fieldref 8 14), (0, .nameAndType 15 12), (0, u "BUNDLE"), (0, .fieldref 8 17), (0, .nameAndType 18 12), (0, u "SERIES"), (0, .fieldref 8 20), (0, .nameAndType 21 12), (0, u "OUTAGE"), (0, .fieldref 8 23), (0, .nameAndType 24 12), (0, u "QUEUED"), (0, .methodref 26 27), (0, .class_ 28), (0, .nameAndType 29 30), (0, u "java/lang/String"), (0, u "valueOf"), (0, u "(C)Ljava/lang/String;"), (0, .methodref 32 33), (0, .class_ 34), (0, .nameAndType 35 36), (0, u "com/example/forehold/forehold/ledger/JobAlikePinLaw"), (0, u "kindOf"), (0, u "(I)Lcom/example/forehold/forehold/ledger/Kind;"), (0, .class_ 38), (0, u "com/example/forehold/forehold/ledger/Job"), (0, .methodref 37 40), (0, .nameAndType 5 41), (0, u "(Ljava/lang/String;Lcom/example/forehold/forehold/ledger/Kind;JJJIZZ)V"), (0, .methodref 37 43), (0, .nameAndType 44 45), (0, u "alike"), (0, u "(Lcom/example/forehold/forehold/ledger/Job;)Z"), (3, u "law"), (0, u "(JJJIIJ)Z")] 2

def k1m0 : Method := { name := "<init>", desc := "()V", sig := { parameters := [], returnType := none }, accessFlags := 1, code := none }
def k1c1 : Code := { maxStack := 2, maxLocals := 1, code := method_2_code, exceptionTable := #[], attributes := #[] }
def k1m1 : Method := { name := "kindOf", desc := "(I)Lcom/example/forehold/forehold/ledger/Kind;", sig := { parameters := [.int], returnType := some (.object "com/example/forehold/forehold/ledger/Kind") }, accessFlags := 10, code := some k1c1 }
def k1c2 : Code := { maxStack := 13, maxLocals := 33, code := code, exceptionTable := #[], attributes := #[] }
def k1m2 : Method := { name := "law", desc := "(JJJIIJ)Z", sig := { parameters := [.long, .long, .long, .int, .int, .long], returnType := some .boolean }, accessFlags := 9, code := some k1c2 }
/-- com/example/forehold/forehold/ledger/JobAlikePinLaw -/
def k1 : Class := { plain "com/example/forehold/forehold/ledger/JobAlikePinLaw" (some 0) with
  accessFlags := 49
  interfaces := #[]
  cf := some (fileOf pool1 32 #[] #[{ accessFlags := 1, nameIndex := 5, descriptorIndex := 6, attributes := #[] }, { accessFlags := 10, nameIndex := 35, descriptorIndex := 36, attributes := #[] }, { accessFlags := 9, nameIndex := 49, descriptorIndex := 50, attributes := #[] }] 49 2 #[] #[])
  fields := #[]
  methods := #[k1m0, k1m1, k1m2]
  instanceTypes := #[]
  staticTypes := #[]
  resolved := Array.replicate 53 none
  statics := none }

def pool2 : Array CpInfo := pool [(1, .class_ 2), (0, u "java/io/Serializable"), (0, .class_ 4), (0, u "java/lang/Object")] 2

/-- java/io/Serializable -/
def k2 : Class := { plain "java/io/Serializable" (some 0) with
  accessFlags := 1537
  interfaces := #[]
  cf := some (fileOf pool2 1 #[] #[] 1537 3 #[] #[])
  fields := #[]
  methods := #[]
  instanceTypes := #[]
  staticTypes := #[]
  resolved := Array.replicate 7 none
  statics := none }

def pool3 : Array CpInfo := pool [(1, .class_ 2), (0, u "java/lang/Comparable"), (0, .class_ 4), (0, u "java/lang/Object")] 7

/-- java/lang/Comparable -/
def k3 : Class := { plain "java/lang/Comparable" (some 0) with
  accessFlags := 1537
  interfaces := #[]
  cf := some (fileOf pool3 1 #[] #[] 1537 3 #[] #[])
  fields := #[]
  methods := #[]
  instanceTypes := #[]
  staticTypes := #[]
  resolved := Array.replicate 12 none
  statics := none }

def pool4 : Array CpInfo := pool [(2, .class_ 4), (1, u "java/lang/CharSequence"), (42, .class_ 48), (0, u "java/lang/CharSequence$1CodePointIterator"), (10, .class_ 60), (0, u "java/lang/CharSequence$1CharIterator"), (5, .class_ 67), (0, u "java/lang/Object")] 63

/-- java/lang/CharSequence -/
def k4 : Class := { plain "java/lang/CharSequence" (some 0) with
  accessFlags := 1537
  interfaces := #[]
  cf := some (fileOf pool4 2 #[.nestMembers #[47, 59]] #[] 1537 66 #[] #[])
  fields := #[]
  methods := #[]
  instanceTypes := #[]
  staticTypes := #[]
  resolved := Array.replicate 131 none
  statics := none }

def pool5 : Array CpInfo := pool [(1, .class_ 2), (0, u "java/lang/constant/Constable"), (0, .class_ 4), (0, u "java/lang/Object")] 6

/-- java/lang/constant/Constable -/
def k5 : Class := { plain "java/lang/constant/Constable" (some 0) with
  accessFlags := 1537
  interfaces := #[]
  cf := some (fileOf pool5 1 #[] #[] 1537 3 #[] #[])
  fields := #[]
  methods := #[]
  instanceTypes := #[]
  staticTypes := #[]
  resolved := Array.replicate 11 none
  statics := none }

def pool6 : Array CpInfo := pool [(1, .class_ 2), (0, u "java/lang/constant/ConstantDesc"), (0, .class_ 4), (0, u "java/lang/Object")] 32

/-- java/lang/constant/ConstantDesc -/
def k6 : Class := { plain "java/lang/constant/ConstantDesc" (some 0) with
  accessFlags := 1537
  interfaces := #[]
  cf := some (fileOf pool6 1 #[] #[] 1537 3 #[] #[])
  fields := #[]
  methods := #[]
  instanceTypes := #[]
  staticTypes := #[]
  resolved := Array.replicate 37 none
  statics := none }

def pool7 : Array CpInfo := pool [(1, .methodref 2 3), (0, .class_ 4), (0, .nameAndType 5 6), (0, u "java/lang/Object"), (0, u "<init>"), (0, u "()V"), (2, .fieldref 10 11), (0, .class_ 12), (0, .nameAndType 13 14), (0, u "java/lang/String"), (0, u "value"), (0, u "[B"), (0, .fieldref 10 16), (0, .nameAndType 17 18), (0, u "coder"), (0, u "B"), (2, u "hash"), (0, u "I"), (2, u "hashIsZero"), (0, u "Z"), (11, .fieldref 10 39), (0, .nameAndType 40 26), (0, u "COMPACT_STRINGS"), (12, u "toBytes"), (53, .class_ 109), (1, u "java/lang/StringLatin1"), (99, .methodref 10 210), (0, .nameAndType 5 211), (0, u "([BB)V"), (157, u "(C)Z"), (205, .class_ 576), (0, u "java/lang/CharSequence"), (22, u "CASE_INSENSITIVE_ORDER"), (0, u "Ljava/util/Comparator;"), (181, u "valueOf"), (0, u "(C)Ljava/lang/String;"), (231, .methodref 107 1016), (0, .nameAndType 1017 369), (0, u "canEncode"), (0, .methodref 107 1019), (0, .nameAndType 53 1020), (0, u "(C)[B"), (80, u "serialPersistentFields"), (0, u "[Ljava/io/ObjectStreamField;"), (0, .class_ 1104), (0, u "java/lang/String$CaseInsensitiveComparator"), (1, .class_ 1107), (0, u "java/io/Serializable"), (0, .class_ 1109), (0, u "java/lang/Comparable"), (0, .class_ 1111), (0, u "java/lang/constant/Constable"), (0, .class_ 1113), (0, u "java/lang/constant/ConstantDesc"), (2, u "serialVersionUID"), (0, u "J"), (3, u "REPL"), (0, u "C"), (2, u "LATIN1"), (1, u "UTF16")] 323

def k7m0 : Method := { name := "<init>", desc := "()V", sig := { parameters := [], returnType := none }, accessFlags := 1, code := none }
def k7c1 : Code := { maxStack := 4, maxLocals := 1, code := jdk_42_method_139_code, exceptionTable := #[], attributes := #[] }
def k7m1 : Method := { name := "valueOf", desc := "(C)Ljava/lang/String;", sig := { parameters := [.char], returnType := some (.object "java/lang/String") }, accessFlags := 9, code := some k7c1 }
def k7c2 : Code := { maxStack := 2, maxLocals := 3, code := jdk_42_method_151_code, exceptionTable := #[], attributes := #[] }
def k7m2 : Method := { name := "<init>", desc := "([BB)V", sig := { parameters := [(.array .byte), .byte], returnType := none }, accessFlags := 0, code := some k7c2 }
/-- java/lang/String -/
def k7 : Class := { plain "java/lang/String" (some 0) with
  accessFlags := 49
  interfaces := #[2, 3, 4, 5, 6]
  cf := some (fileOf pool7 10 #[.nestMembers #[1103]] #[{ accessFlags := 1, nameIndex := 5, descriptorIndex := 6, attributes := #[] }, { accessFlags := 9, nameIndex := 782, descriptorIndex := 783, attributes := #[] }, { accessFlags := 0, nameIndex := 5, descriptorIndex := 211, attributes := #[] }] 49 2 #[1106, 1108, 575, 1110, 1112] #[{ accessFlags := 18, nameIndex := 13, descriptorIndex := 14, attributes := #[] }, { accessFlags := 18, nameIndex := 17, descriptorIndex := 18, attributes := #[] }, { accessFlags := 2, nameIndex := 21, descriptorIndex := 22, attributes := #[] }, { accessFlags := 2, nameIndex := 25, descriptorIndex := 26, attributes := #[] }, { accessFlags := 26, nameIndex := 1116, descriptorIndex := 1117, attributes := #[] }, { accessFlags := 24, nameIndex := 40, descriptorIndex := 26, attributes := #[] }, { accessFlags := 26, nameIndex := 1101, descriptorIndex := 1102, attributes := #[] }, { accessFlags := 26, nameIndex := 1121, descriptorIndex := 1122, attributes := #[] }, { accessFlags := 25, nameIndex := 599, descriptorIndex := 600, attributes := #[] }, { accessFlags := 24, nameIndex := 1125, descriptorIndex := 18, attributes := #[] }, { accessFlags := 24, nameIndex := 1127, descriptorIndex := 18, attributes := #[] }])
  fields := #[{ name := "value", type := (.array .byte), accessFlags := 18, slot := 0, constantValue := 0 }, { name := "coder", type := .byte, accessFlags := 18, slot := 1, constantValue := 0 }, { name := "hash", type := .int, accessFlags := 2, slot := 2, constantValue := 0 }, { name := "hashIsZero", type := .boolean, accessFlags := 2, slot := 3, constantValue := 0 }, { name := "serialVersionUID", type := .long, accessFlags := 26, slot := 0, constantValue := 0 }, { name := "COMPACT_STRINGS", type := .boolean, accessFlags := 24, slot := 1, constantValue := 0 }, { name := "serialPersistentFields", type := (.array (.object "java/io/ObjectStreamField")), accessFlags := 26, slot := 2, constantValue := 0 }, { name := "REPL", type := .char, accessFlags := 26, slot := 3, constantValue := 0 }, { name := "CASE_INSENSITIVE_ORDER", type := (.object "java/util/Comparator"), accessFlags := 25, slot := 4, constantValue := 0 }, { name := "LATIN1", type := .byte, accessFlags := 24, slot := 5, constantValue := 0 }, { name := "UTF16", type := .byte, accessFlags := 24, slot := 6, constantValue := 0 }]
  methods := #[k7m0, k7m1, k7m2]
  instanceTypes := #[(.array .byte), .byte, .int, .boolean]
  staticTypes := #[.long, .boolean, (.array (.object "java/io/ObjectStreamField")), .char, (.object "java/util/Comparator"), .byte, .byte]
  resolved := Array.replicate 1451 none
  statics := some 0 }

def pool8 : Array CpInfo := pool [(4, .class_ 6), (1, u "java/lang/Object"), (0, u "<init>"), (0, u "()V"), (5, .class_ 16), (1, u "java/lang/StringLatin1"), (73, u "canEncode"), (14, u "(C)Z"), (15, u "$assertionsDisabled"), (0, u "Z"), (98, .class_ 223), (1, u "java/lang/StringLatin1$LinesSpliterator"), (156, u "toBytes"), (1, u "(C)[B"), (7, .class_ 391), (0, u "java/lang/StringLatin1$CharsSpliterator")] 3

def k8m0 : Method := { name := "<init>", desc := "()V", sig := { parameters := [], returnType := none }, accessFlags := 0, code := none }
def k8c1 : Code := { maxStack := 2, maxLocals := 1, code := jdk_43_method_3_code, exceptionTable := #[], attributes := #[] }
def k8m1 : Method := { name := "canEncode", desc := "(C)Z", sig := { parameters := [.char], returnType := some .boolean }, accessFlags := 9, code := some k8c1 }
def k8c2 : Code := { maxStack := 4, maxLocals := 1, code := jdk_43_method_46_code, exceptionTable := #[], attributes := #[] }
def k8m2 : Method := { name := "toBytes", desc := "(C)[B", sig := { parameters := [.char], returnType := some (.array .byte) }, accessFlags := 9, code := some k8c2 }
/-- java/lang/StringLatin1 -/
def k8 : Class := { plain "java/lang/StringLatin1" (some 0) with
  accessFlags := 48
  interfaces := #[]
  cf := some (fileOf pool8 14 #[.nestMembers #[390, 221]] #[{ accessFlags := 0, nameIndex := 7, descriptorIndex := 8, attributes := #[] }, { accessFlags := 9, nameIndex := 90, descriptorIndex := 105, attributes := #[] }, { accessFlags := 9, nameIndex := 380, descriptorIndex := 382, attributes := #[] }] 48 4 #[] #[{ accessFlags := 4120, nameIndex := 121, descriptorIndex := 122, attributes := #[] }])
  fields := #[{ name := "$assertionsDisabled", type := .boolean, accessFlags := 4120, slot := 0, constantValue := 0 }]
  methods := #[k8m0, k8m1, k8m2]
  instanceTypes := #[]
  staticTypes := #[.boolean]
  resolved := Array.replicate 395 none
  statics := none }

def pool9 : Array CpInfo := pool [(2, .class_ 4), (1, u "java/lang/Enum"), (0, u "name"), (0, u "Ljava/lang/String;"), (2, u "ordinal"), (0, u "I"), (1, .class_ 14), (1, u "java/lang/Object"), (4, u "hash"), (86, .class_ 108), (1, u "java/lang/Enum$EnumDesc"), (2, .class_ 112), (0, u "java/lang/constant/Constable"), (0, .class_ 114), (0, u "java/lang/Comparable"), (0, .class_ 116), (0, u "java/io/Serializable")] 87

/-- java/lang/Enum -/
def k9 : Class := { plain "java/lang/Enum" (some 0) with
  accessFlags := 1057
  interfaces := #[5, 3, 2]
  cf := some (fileOf pool9 2 #[.nestMembers #[106]] #[] 1057 12 #[111, 113, 115] #[{ accessFlags := 18, nameIndex := 5, descriptorIndex := 6, attributes := #[] }, { accessFlags := 18, nameIndex := 9, descriptorIndex := 10, attributes := #[] }, { accessFlags := 2, nameIndex := 19, descriptorIndex := 10, attributes := #[] }])
  fields := #[{ name := "name", type := (.object "java/lang/String"), accessFlags := 18, slot := 0, constantValue := 0 }, { name := "ordinal", type := .int, accessFlags := 18, slot := 1, constantValue := 0 }, { name := "hash", type := .int, accessFlags := 2, slot := 2, constantValue := 0 }]
  methods := #[]
  instanceTypes := #[(.object "java/lang/String"), .int, .int]
  staticTypes := #[]
  resolved := Array.replicate 204 none
  statics := none }

def pool10 : Array CpInfo := pool [(1, .class_ 2), (0, u "com/example/forehold/forehold/ledger/Kind"), (2, u "CO"), (0, u "Lcom/example/forehold/forehold/ledger/Kind;"), (2, u "BUNDLE"), (2, u "SERIES"), (2, u "OUTAGE"), (2, u "QUEUED"), (2, u "$VALUES"), (0, u "[Lcom/example/forehold/forehold/ledger/Kind;"), (6, .class_ 31), (1, u "java/lang/Enum"), (8, u "token"), (0, u "Ljava/lang/String;"), (2, u "requestable"), (0, u "Z")] 83

/-- com/example/forehold/forehold/ledger/Kind -/
def k10 : Class := { plain "com/example/forehold/forehold/ledger/Kind" (some 9) with
  accessFlags := 16433
  interfaces := #[]
  cf := some (fileOf pool10 1 #[] #[] 16433 29 #[] #[{ accessFlags := 16409, nameIndex := 5, descriptorIndex := 6, attributes := #[] }, { accessFlags := 16409, nameIndex := 9, descriptorIndex := 6, attributes := #[] }, { accessFlags := 16409, nameIndex := 12, descriptorIndex := 6, attributes := #[] }, { accessFlags := 16409, nameIndex := 15, descriptorIndex := 6, attributes := #[] }, { accessFlags := 16409, nameIndex := 18, descriptorIndex := 6, attributes := #[] }, { accessFlags := 18, nameIndex := 40, descriptorIndex := 41, attributes := #[] }, { accessFlags := 18, nameIndex := 44, descriptorIndex := 45, attributes := #[] }, { accessFlags := 4122, nameIndex := 21, descriptorIndex := 22, attributes := #[] }])
  fields := #[{ name := "CO", type := (.object "com/example/forehold/forehold/ledger/Kind"), accessFlags := 16409, slot := 0, constantValue := 0 }, { name := "BUNDLE", type := (.object "com/example/forehold/forehold/ledger/Kind"), accessFlags := 16409, slot := 1, constantValue := 0 }, { name := "SERIES", type := (.object "com/example/forehold/forehold/ledger/Kind"), accessFlags := 16409, slot := 2, constantValue := 0 }, { name := "OUTAGE", type := (.object "com/example/forehold/forehold/ledger/Kind"), accessFlags := 16409, slot := 3, constantValue := 0 }, { name := "QUEUED", type := (.object "com/example/forehold/forehold/ledger/Kind"), accessFlags := 16409, slot := 4, constantValue := 0 }, { name := "token", type := (.object "java/lang/String"), accessFlags := 18, slot := 3, constantValue := 0 }, { name := "requestable", type := .boolean, accessFlags := 18, slot := 4, constantValue := 0 }, { name := "$VALUES", type := (.array (.object "com/example/forehold/forehold/ledger/Kind")), accessFlags := 4122, slot := 5, constantValue := 0 }]
  methods := #[]
  instanceTypes := #[(.object "java/lang/String"), .int, .int, (.object "java/lang/String"), .boolean]
  staticTypes := #[(.object "com/example/forehold/forehold/ledger/Kind"), (.object "com/example/forehold/forehold/ledger/Kind"), (.object "com/example/forehold/forehold/ledger/Kind"), (.object "com/example/forehold/forehold/ledger/Kind"), (.object "com/example/forehold/forehold/ledger/Kind"), (.array (.object "com/example/forehold/forehold/ledger/Kind"))]
  resolved := Array.replicate 129 none
  statics := some 1 }

def pool11 : Array CpInfo := pool [(1, .methodref 2 3), (0, .class_ 4), (0, .nameAndType 5 6), (0, u "java/lang/Object"), (0, u "<init>"), (0, u "()V"), (0, .class_ 8), (0, u "java/lang/Record")] 13

def k11c0 : Code := { maxStack := 1, maxLocals := 1, code := jdk_30_method_1_code, exceptionTable := #[], attributes := #[] }
def k11m0 : Method := { name := "<init>", desc := "()V", sig := { parameters := [], returnType := none }, accessFlags := 4, code := some k11c0 }
/-- java/lang/Record -/
def k11 : Class := { plain "java/lang/Record" (some 0) with
  accessFlags := 1057
  interfaces := #[]
  cf := some (fileOf pool11 7 #[] #[{ accessFlags := 4, nameIndex := 5, descriptorIndex := 6, attributes := #[] }] 1057 2 #[] #[])
  fields := #[]
  methods := #[k11m0]
  instanceTypes := #[]
  staticTypes := #[]
  resolved := Array.replicate 22 none
  statics := none }

def pool12 : Array CpInfo := pool [(1, .methodref 2 3), (0, .class_ 4), (0, .nameAndType 5 6), (0, u "java/lang/Record"), (0, u "<init>"), (0, u "()V"), (0, .fieldref 8 9), (0, .class_ 10), (0, .nameAndType 11 12), (0, u "com/example/forehold/forehold/ledger/Job"), (0, u "id"), (0, u "Ljava/lang/String;"), (0, .fieldref 8 14), (0, .nameAndType 15 16), (0, u "kind"), (0, u "Lcom/example/forehold/forehold/ledger/Kind;"), (0, .fieldref 8 18), (0, .nameAndType 19 20), (0, u "earliest"), (0, u "J"), (0, .fieldref 8 22), (0, .nameAndType 23 20), (0, u "latest"), (0, .fieldref 8 25), (0, .nameAndType 26 20), (0, u "length"), (0, .fieldref 8 28), (0, .nameAndType 29 30), (0, u "nodes"), (0, u "I"), (0, .fieldref 8 32), (0, .nameAndType 33 34), (0, u "softLength"), (0, u "Z"), (0, .fieldref 8 36), (0, .nameAndType 37 34), (0, u "softNodes"), (2, u "(Ljava/lang/String;Lcom/example/forehold/forehold/ledger/Kind;JJJIZZ)V"), (46, u "alike"), (0, u "(Lcom/example/forehold/forehold/ledger/Job;)Z")] 38

def k12c0 : Code := { maxStack := 3, maxLocals := 12, code := prog_87_method_2_code, exceptionTable := #[], attributes := #[] }
def k12m0 : Method := { name := "<init>", desc := "(Ljava/lang/String;Lcom/example/forehold/forehold/ledger/Kind;JJJIZZ)V", sig := { parameters := [(.object "java/lang/String"), (.object "com/example/forehold/forehold/ledger/Kind"), .long, .long, .long, .int, .boolean, .boolean], returnType := none }, accessFlags := 1, code := some k12c0 }
def k12c1 : Code := { maxStack := 4, maxLocals := 2, code := prog_87_method_3_code, exceptionTable := #[], attributes := #[] }
def k12m1 : Method := { name := "alike", desc := "(Lcom/example/forehold/forehold/ledger/Job;)Z", sig := { parameters := [(.object "com/example/forehold/forehold/ledger/Job")], returnType := some .boolean }, accessFlags := 1, code := some k12c1 }
/-- com/example/forehold/forehold/ledger/Job -/
def k12 : Class := { plain "com/example/forehold/forehold/ledger/Job" (some 11) with
  accessFlags := 49
  interfaces := #[]
  cf := some (fileOf pool12 8 #[] #[{ accessFlags := 1, nameIndex := 5, descriptorIndex := 40, attributes := #[] }, { accessFlags := 1, nameIndex := 87, descriptorIndex := 88, attributes := #[] }] 49 2 #[] #[{ accessFlags := 18, nameIndex := 11, descriptorIndex := 12, attributes := #[] }, { accessFlags := 18, nameIndex := 15, descriptorIndex := 16, attributes := #[] }, { accessFlags := 18, nameIndex := 19, descriptorIndex := 20, attributes := #[] }, { accessFlags := 18, nameIndex := 23, descriptorIndex := 20, attributes := #[] }, { accessFlags := 18, nameIndex := 26, descriptorIndex := 20, attributes := #[] }, { accessFlags := 18, nameIndex := 29, descriptorIndex := 30, attributes := #[] }, { accessFlags := 18, nameIndex := 33, descriptorIndex := 34, attributes := #[] }, { accessFlags := 18, nameIndex := 37, descriptorIndex := 34, attributes := #[] }])
  fields := #[{ name := "id", type := (.object "java/lang/String"), accessFlags := 18, slot := 0, constantValue := 0 }, { name := "kind", type := (.object "com/example/forehold/forehold/ledger/Kind"), accessFlags := 18, slot := 1, constantValue := 0 }, { name := "earliest", type := .long, accessFlags := 18, slot := 2, constantValue := 0 }, { name := "latest", type := .long, accessFlags := 18, slot := 3, constantValue := 0 }, { name := "length", type := .long, accessFlags := 18, slot := 4, constantValue := 0 }, { name := "nodes", type := .int, accessFlags := 18, slot := 5, constantValue := 0 }, { name := "softLength", type := .boolean, accessFlags := 18, slot := 6, constantValue := 0 }, { name := "softNodes", type := .boolean, accessFlags := 18, slot := 7, constantValue := 0 }]
  methods := #[k12m0, k12m1]
  instanceTypes := #[(.object "java/lang/String"), (.object "com/example/forehold/forehold/ledger/Kind"), .long, .long, .long, .int, .boolean, .boolean]
  staticTypes := #[]
  resolved := Array.replicate 127 none
  statics := none }

def pool13 : Array CpInfo := pool [(2, .class_ 4), (1, u "java/lang/Object"), (0, u "<init>"), (0, u "()V"), (17, .class_ 26), (1, u "jdk/internal/util/Preconditions"), (28, .class_ 56), (0, u "jdk/internal/util/Preconditions$4"), (57, .class_ 115), (0, u "jdk/internal/util/Preconditions$1"), (7, u "SIOOBE_FORMATTER"), (0, u "Ljava/util/function/BiFunction;"), (0, .class_ 126), (0, u "jdk/internal/util/Preconditions$2"), (3, u "AIOOBE_FORMATTER"), (0, .class_ 132), (0, u "jdk/internal/util/Preconditions$3"), (3, u "IOOBE_FORMATTER")] 57

def k13m0 : Method := { name := "<init>", desc := "()V", sig := { parameters := [], returnType := none }, accessFlags := 1, code := none }
/-- jdk/internal/util/Preconditions -/
def k13 : Class := { plain "jdk/internal/util/Preconditions" (some 0) with
  accessFlags := 33
  interfaces := #[]
  cf := some (fileOf pool13 24 #[.nestMembers #[55, 131, 125, 114]] #[{ accessFlags := 1, nameIndex := 5, descriptorIndex := 6, attributes := #[] }] 33 2 #[] #[{ accessFlags := 25, nameIndex := 123, descriptorIndex := 124, attributes := #[] }, { accessFlags := 25, nameIndex := 130, descriptorIndex := 124, attributes := #[] }, { accessFlags := 25, nameIndex := 136, descriptorIndex := 124, attributes := #[] }])
  fields := #[{ name := "SIOOBE_FORMATTER", type := (.object "java/util/function/BiFunction"), accessFlags := 25, slot := 0, constantValue := 0 }, { name := "AIOOBE_FORMATTER", type := (.object "java/util/function/BiFunction"), accessFlags := 25, slot := 1, constantValue := 0 }, { name := "IOOBE_FORMATTER", type := (.object "java/util/function/BiFunction"), accessFlags := 25, slot := 2, constantValue := 0 }]
  methods := #[k13m0]
  instanceTypes := #[]
  staticTypes := #[(.object "java/util/function/BiFunction"), (.object "java/util/function/BiFunction"), (.object "java/util/function/BiFunction")]
  resolved := Array.replicate 194 none
  statics := some 2 }

def pool14 : Array CpInfo := pool [(9, u "<init>"), (6, .class_ 18), (1, u "java/lang/Object"), (0, u "()V"), (1, .class_ 23), (1, u "jdk/internal/util/ArraysSupport"), (0, u "LOG2_ARRAY_LONG_INDEX_SCALE"), (0, u "I"), (2, u "U"), (0, u "Ljdk/internal/misc/Unsafe;"), (8, u "BIG_ENDIAN"), (0, u "Z"), (8, u "LOG2_BYTE_BIT_SIZE"), (4, u "LOG2_ARRAY_INT_INDEX_SCALE"), (54, u "JLA"), (0, u "Ljdk/internal/access/JavaLangAccess;"), (11, u "LOG2_ARRAY_BOOLEAN_INDEX_SCALE"), (9, u "LOG2_ARRAY_BYTE_INDEX_SCALE"), (5, u "LOG2_ARRAY_CHAR_INDEX_SCALE"), (5, u "LOG2_ARRAY_SHORT_INDEX_SCALE"), (18, u "LOG2_ARRAY_FLOAT_INDEX_SCALE"), (24, u "LOG2_ARRAY_DOUBLE_INDEX_SCALE"), (89, u "T_BOOLEAN"), (2, u "T_CHAR"), (1, u "T_FLOAT"), (1, u "T_DOUBLE"), (1, u "T_BYTE"), (1, u "T_SHORT"), (1, u "T_INT"), (1, u "T_LONG"), (1, u "SOFT_MAX_ARRAY_LENGTH")] 83

def k14m0 : Method := { name := "<init>", desc := "()V", sig := { parameters := [], returnType := none }, accessFlags := 2, code := none }
/-- jdk/internal/util/ArraysSupport -/
def k14 : Class := { plain "jdk/internal/util/ArraysSupport" (some 0) with
  accessFlags := 33
  interfaces := #[]
  cf := some (fileOf pool14 21 #[] #[{ accessFlags := 2, nameIndex := 9, descriptorIndex := 19, attributes := #[] }] 33 16 #[] #[{ accessFlags := 24, nameIndex := 28, descriptorIndex := 29, attributes := #[] }, { accessFlags := 26, nameIndex := 38, descriptorIndex := 39, attributes := #[] }, { accessFlags := 25, nameIndex := 121, descriptorIndex := 25, attributes := #[] }, { accessFlags := 25, nameIndex := 131, descriptorIndex := 25, attributes := #[] }, { accessFlags := 25, nameIndex := 137, descriptorIndex := 25, attributes := #[] }, { accessFlags := 25, nameIndex := 143, descriptorIndex := 25, attributes := #[] }, { accessFlags := 25, nameIndex := 53, descriptorIndex := 25, attributes := #[] }, { accessFlags := 25, nameIndex := 24, descriptorIndex := 25, attributes := #[] }, { accessFlags := 25, nameIndex := 162, descriptorIndex := 25, attributes := #[] }, { accessFlags := 25, nameIndex := 187, descriptorIndex := 25, attributes := #[] }, { accessFlags := 26, nameIndex := 48, descriptorIndex := 25, attributes := #[] }, { accessFlags := 25, nameIndex := 277, descriptorIndex := 25, attributes := #[] }, { accessFlags := 25, nameIndex := 280, descriptorIndex := 25, attributes := #[] }, { accessFlags := 25, nameIndex := 282, descriptorIndex := 25, attributes := #[] }, { accessFlags := 25, nameIndex := 284, descriptorIndex := 25, attributes := #[] }, { accessFlags := 25, nameIndex := 286, descriptorIndex := 25, attributes := #[] }, { accessFlags := 25, nameIndex := 288, descriptorIndex := 25, attributes := #[] }, { accessFlags := 25, nameIndex := 290, descriptorIndex := 25, attributes := #[] }, { accessFlags := 25, nameIndex := 292, descriptorIndex := 25, attributes := #[] }, { accessFlags := 26, nameIndex := 108, descriptorIndex := 109, attributes := #[] }, { accessFlags := 25, nameIndex := 294, descriptorIndex := 25, attributes := #[] }])
  fields := #[{ name := "U", type := (.object "jdk/internal/misc/Unsafe"), accessFlags := 24, slot := 0, constantValue := 0 }, { name := "BIG_ENDIAN", type := .boolean, accessFlags := 26, slot := 1, constantValue := 0 }, { name := "LOG2_ARRAY_BOOLEAN_INDEX_SCALE", type := .int, accessFlags := 25, slot := 2, constantValue := 0 }, { name := "LOG2_ARRAY_BYTE_INDEX_SCALE", type := .int, accessFlags := 25, slot := 3, constantValue := 0 }, { name := "LOG2_ARRAY_CHAR_INDEX_SCALE", type := .int, accessFlags := 25, slot := 4, constantValue := 0 }, { name := "LOG2_ARRAY_SHORT_INDEX_SCALE", type := .int, accessFlags := 25, slot := 5, constantValue := 0 }, { name := "LOG2_ARRAY_INT_INDEX_SCALE", type := .int, accessFlags := 25, slot := 6, constantValue := 0 }, { name := "LOG2_ARRAY_LONG_INDEX_SCALE", type := .int, accessFlags := 25, slot := 7, constantValue := 0 }, { name := "LOG2_ARRAY_FLOAT_INDEX_SCALE", type := .int, accessFlags := 25, slot := 8, constantValue := 0 }, { name := "LOG2_ARRAY_DOUBLE_INDEX_SCALE", type := .int, accessFlags := 25, slot := 9, constantValue := 0 }, { name := "LOG2_BYTE_BIT_SIZE", type := .int, accessFlags := 26, slot := 10, constantValue := 0 }, { name := "T_BOOLEAN", type := .int, accessFlags := 25, slot := 11, constantValue := 0 }, { name := "T_CHAR", type := .int, accessFlags := 25, slot := 12, constantValue := 0 }, { name := "T_FLOAT", type := .int, accessFlags := 25, slot := 13, constantValue := 0 }, { name := "T_DOUBLE", type := .int, accessFlags := 25, slot := 14, constantValue := 0 }, { name := "T_BYTE", type := .int, accessFlags := 25, slot := 15, constantValue := 0 }, { name := "T_SHORT", type := .int, accessFlags := 25, slot := 16, constantValue := 0 }, { name := "T_INT", type := .int, accessFlags := 25, slot := 17, constantValue := 0 }, { name := "T_LONG", type := .int, accessFlags := 25, slot := 18, constantValue := 0 }, { name := "JLA", type := (.object "jdk/internal/access/JavaLangAccess"), accessFlags := 26, slot := 19, constantValue := 0 }, { name := "SOFT_MAX_ARRAY_LENGTH", type := .int, accessFlags := 25, slot := 20, constantValue := 0 }]
  methods := #[k14m0]
  instanceTypes := #[]
  staticTypes := #[(.object "jdk/internal/misc/Unsafe"), .boolean, .int, .int, .int, .int, .int, .int, .int, .int, .int, .int, .int, .int, .int, .int, .int, .int, .int, (.object "jdk/internal/access/JavaLangAccess"), .int]
  resolved := Array.replicate 378 none
  statics := none }

def pool15 : Array CpInfo := pool [(1, u "java/lang/Cloneable"), (0, .class_ 1), (0, u "java/lang/Object"), (0, .class_ 3)] 3

/-- java/lang/Cloneable -/
def k15 : Class := { plain "java/lang/Cloneable" (some 0) with
  accessFlags := 1537
  interfaces := #[]
  cf := some (fileOf pool15 2 #[] #[] 1537 4 #[] #[])
  fields := #[]
  methods := #[]
  instanceTypes := #[]
  staticTypes := #[]
  resolved := Array.replicate 8 none
  statics := none }

/-- the primitive byte -/
def k16 : Class := { plain "byte" none with kind := .primitive 'B', accessFlags := 0x411 }
/-- [B -/
def k17 : Class := { plain "[B" (some 0) with kind := .array 16 .byte, interfaces := #[15, 2], accessFlags := 1041 }

/-- the primitive int -/
def k18 : Class := { plain "int" none with kind := .primitive 'I', accessFlags := 0x411 }
/-- [I -/
def k19 : Class := { plain "[I" (some 0) with kind := .array 18 .int, interfaces := #[15, 2], accessFlags := 1041 }

def heap : Heap := #[{ cls := 7, slots := #[.long 0, .int 1, .null, .int 0, .null, .int 0, .int 0], vm := .statics 7 },
  { cls := 10, slots := #[.ref 3, .ref 4, .ref 5, .ref 6, .ref 7, .null], vm := .statics 10 },
  { cls := 13, slots := #[.null, .null, .null], vm := .statics 13 },
  { cls := 10, slots := #[.null, .int 0, .int 0, .null, .int 0], vm := .none },
  { cls := 10, slots := #[.null, .int 1, .int 0, .null, .int 0], vm := .none },
  { cls := 10, slots := #[.null, .int 2, .int 0, .null, .int 0], vm := .none },
  { cls := 10, slots := #[.null, .int 3, .int 0, .null, .int 0], vm := .none },
  { cls := 10, slots := #[.null, .int 4, .int 0, .null, .int 0], vm := .none }]
def classes : Array Class := #[k0, k1, k2, k3, k4, k5, k6, k7, k8, k9, k10, k11, k12, k13, k14, k15, k16, k17, k18, k19]
def interned : List (Array UInt16 × Addr) := []
def slotsUsed : Nat := 41
def theMethod : MethodId := ⟨1, 2⟩
def args0 : Array Value := #[.long 5, .long 7, .long 2, .int 1, .int 3, .long 4]
def aboutOver (below : List Frame) : State where
  vm := { classes := classes, interned := interned.toArray }
  heap := heap
  slotsUsed := slotsUsed
  threads := #[{ frames := .invoking theMethod args0 :: below }]
def below0 : List Frame := [.native { method := ⟨0, 0⟩, args := #[] }]
def about1 : State := aboutOver below0
def p0 : Program := .bare "" "" ""
def e0 : Env := launch0.env 0 0 0
theorem w_frames : about1.frames = Frame.invoking theMethod args0 :: below0 := rfl
set_option maxRecDepth 65536 in
theorem w_args : argsFit about1.vm theMethod args0 = true := by decide +kernel
set_option maxRecDepth 65536 in
theorem w_heap : heapFits about1 = true := by decide +kernel
set_option maxRecDepth 65536 in
theorem w_runnable : about1.curStatus? = some .runnable := by decide +kernel
set_option maxRecDepth 65536 in
theorem w_alone : about1.alone = true := by decide +kernel
set_option maxRecDepth 65536 in
theorem w_named : about1.methodNamed? x = some theMethod := by decide +kernel
set_option maxRecDepth 65536 in
theorem w_hears : about1.hears theMethod below0 = true := by decide +kernel
set_option maxRecDepth 65536 in
theorem w_ripe : about1.ripe theMethod args0 below0 = true := by decide +kernel
theorem w_running : about1.status = .running := rfl
set_option maxRecDepth 65536 in
theorem w_room : about1.hasRoom e0.platform room_1 = true :=
  launch0.hasRoom_least _ room_1 (by decide +kernel) (by decide +kernel) (by decide +kernel) (by decide +kernel) (by decide +kernel) (by decide +kernel)
theorem allAtoms_all (ts : List Jvm.Cond) (a : Array Jvm.Value) (st : Jvm.State) : (allAtoms ts).before a st = ts.all (fun c => c.before a st) := by
  induction ts with
  | nil => rfl
  | cons c t ih =>
    show (Jvm.Cond.and c (allAtoms t)).before a st = _
    rw [Jvm.Cond.before_and, ih, List.all_cons]
def words1 : List Jvm.Cond := Jvm.Cond.code x code maxLocals ret :: tables_1
/-- a 'code' word, met by the world's own term for the bytes: nothing is compared byte by byte -/
theorem code_word {y : MethodName} {bytes : ByteArray} {mx : Nat} {rt : Option FieldType} {a : Array Value} {s : State} {m : MethodId} {meth : Method} {c : Code} (h1 : s.methodNamed? y = some m) (h2 : s.vm.method? m = some meth) (h3 : meth.code = some c) (h4 : c.code = bytes)
    (h5 : (c.maxLocals == mx && c.exceptionTable.isEmpty && decide (c.maxStack ≤ mostOperands) && decide (meth.sig.returnType = rt) && !meth.locks && decide (parseMethodDescriptor y.desc = some meth.sig)) = true) : (Jvm.Cond.code y bytes mx rt).before a s = true := by
  simp only [Bool.and_eq_true, beq_iff_eq, Bool.not_eq_true', decide_eq_true_eq] at h5
  obtain ⟨⟨⟨⟨⟨g1, g2⟩, g3⟩, g4⟩, g5⟩, g6⟩ := h5
  simp [Cond.before, Cond.holds, Cond.value, h1, h2, h3, h4, g1, g2, g3, g4, g5, g6]
def isCode : Jvm.Cond → Bool
  | .code _ _ _ _ => true
  | _ => false
theorem all_split {L : List Jvm.Cond} {P : Jvm.Cond → Bool} (h1 : L.all (fun c => isCode c || P c) = true) (h2 : ∀ c ∈ L.filter isCode, P c = true) : L.all P = true := by
  refine List.all_eq_true.mpr fun c hc => ?_
  have h := List.all_eq_true.mp h1 c hc
  rcases Bool.eq_false_or_eq_true (isCode c) with hi | hi
  · exact h2 c (List.mem_filter.mpr ⟨hc, hi⟩)
  · simpa [hi] using h
set_option maxRecDepth 65536 in
theorem w_c0 : (Jvm.Cond.code x code maxLocals ret).before args0 about1 = true := code_word (m := ⟨1, 2⟩) (meth := k1m2) (c := k1c2) (by decide +kernel) rfl rfl rfl (by decide +kernel)
set_option maxRecDepth 65536 in
theorem w_c1 : (Jvm.Cond.code ({ cls := "java/lang/String", name := "valueOf", desc := "(C)Ljava/lang/String;" } : Jvm.MethodName) jdk_42_method_139_code (1 : Nat) (Option.some (Jvm.ClassFile.FieldType.object "java/lang/String"))).before args0 about1 = true := code_word (m := ⟨7, 1⟩) (meth := k7m1) (c := k7c1) (by decide +kernel) rfl rfl rfl (by decide +kernel)
set_option maxRecDepth 65536 in
theorem w_c2 : (Jvm.Cond.code ({ cls := "java/lang/StringLatin1", name := "canEncode", desc := "(C)Z" } : Jvm.MethodName) jdk_43_method_3_code (1 : Nat) (Option.some Jvm.ClassFile.FieldType.boolean)).before args0 about1 = true := code_word (m := ⟨8, 1⟩) (meth := k8m1) (c := k8c1) (by decide +kernel) rfl rfl rfl (by decide +kernel)
set_option maxRecDepth 65536 in
theorem w_c3 : (Jvm.Cond.code ({ cls := "java/lang/StringLatin1", name := "toBytes", desc := "(C)[B" } : Jvm.MethodName) jdk_43_method_46_code (1 : Nat) (Option.some (Jvm.ClassFile.FieldType.array Jvm.ClassFile.FieldType.byte))).before args0 about1 = true := code_word (m := ⟨8, 2⟩) (meth := k8m2) (c := k8c2) (by decide +kernel) rfl rfl rfl (by decide +kernel)
set_option maxRecDepth 65536 in
theorem w_c4 : (Jvm.Cond.code ({ cls := "java/lang/String", name := "<init>", desc := "([BB)V" } : Jvm.MethodName) jdk_42_method_151_code (3 : Nat) (Option.none : Option Jvm.ClassFile.FieldType)).before args0 about1 = true := code_word (m := ⟨7, 2⟩) (meth := k7m2) (c := k7c2) (by decide +kernel) rfl rfl rfl (by decide +kernel)
set_option maxRecDepth 65536 in
theorem w_c5 : (Jvm.Cond.code ({ cls := "java/lang/Object", name := "<init>", desc := "()V" } : Jvm.MethodName) object_method_1_code (1 : Nat) (Option.none : Option Jvm.ClassFile.FieldType)).before args0 about1 = true := code_word (m := ⟨0, 0⟩) (meth := k0m0) (c := k0c0) (by decide +kernel) rfl rfl rfl (by decide +kernel)
set_option maxRecDepth 65536 in
theorem w_c6 : (Jvm.Cond.code ({ cls := "com/example/forehold/forehold/ledger/JobAlikePinLaw", name := "kindOf", desc := "(I)Lcom/example/forehold/forehold/ledger/Kind;" } : Jvm.MethodName) method_2_code (1 : Nat) (Option.some (Jvm.ClassFile.FieldType.object "com/example/forehold/forehold/ledger/Kind"))).before args0 about1 = true := code_word (m := ⟨1, 1⟩) (meth := k1m1) (c := k1c1) (by decide +kernel) rfl rfl rfl (by decide +kernel)
set_option maxRecDepth 65536 in
theorem w_c7 : (Jvm.Cond.code ({ cls := "com/example/forehold/forehold/ledger/Job", name := "<init>", desc := "(Ljava/lang/String;Lcom/example/forehold/forehold/ledger/Kind;JJJIZZ)V" } : Jvm.MethodName) prog_87_method_2_code (12 : Nat) (Option.none : Option Jvm.ClassFile.FieldType)).before args0 about1 = true := code_word (m := ⟨12, 0⟩) (meth := k12m0) (c := k12c0) (by decide +kernel) rfl rfl rfl (by decide +kernel)
set_option maxRecDepth 65536 in
theorem w_c8 : (Jvm.Cond.code ({ cls := "java/lang/Record", name := "<init>", desc := "()V" } : Jvm.MethodName) jdk_30_method_1_code (1 : Nat) (Option.none : Option Jvm.ClassFile.FieldType)).before args0 about1 = true := code_word (m := ⟨11, 0⟩) (meth := k11m0) (c := k11c0) (by decide +kernel) rfl rfl rfl (by decide +kernel)
set_option maxRecDepth 65536 in
theorem w_c9 : (Jvm.Cond.code ({ cls := "com/example/forehold/forehold/ledger/Job", name := "alike", desc := "(Lcom/example/forehold/forehold/ledger/Job;)Z" } : Jvm.MethodName) prog_87_method_3_code (2 : Nat) (Option.some Jvm.ClassFile.FieldType.boolean)).before args0 about1 = true := code_word (m := ⟨12, 1⟩) (meth := k12m1) (c := k12c1) (by decide +kernel) rfl rfl rfl (by decide +kernel)
def codes1 : List Jvm.Cond := [Jvm.Cond.code x code maxLocals ret, Jvm.Cond.code ({ cls := "java/lang/String", name := "valueOf", desc := "(C)Ljava/lang/String;" } : Jvm.MethodName) jdk_42_method_139_code (1 : Nat) (Option.some (Jvm.ClassFile.FieldType.object "java/lang/String")), Jvm.Cond.code ({ cls := "java/lang/StringLatin1", name := "canEncode", desc := "(C)Z" } : Jvm.MethodName) jdk_43_method_3_code (1 : Nat) (Option.some Jvm.ClassFile.FieldType.boolean), Jvm.Cond.code ({ cls := "java/lang/StringLatin1", name := "toBytes", desc := "(C)[B" } : Jvm.MethodName) jdk_43_method_46_code (1 : Nat) (Option.some (Jvm.ClassFile.FieldType.array Jvm.ClassFile.FieldType.byte)), Jvm.Cond.code ({ cls := "java/lang/String", name := "<init>", desc := "([BB)V" } : Jvm.MethodName) jdk_42_method_151_code (3 : Nat) (Option.none : Option Jvm.ClassFile.FieldType), Jvm.Cond.code ({ cls := "java/lang/Object", name := "<init>", desc := "()V" } : Jvm.MethodName) object_method_1_code (1 : Nat) (Option.none : Option Jvm.ClassFile.FieldType), Jvm.Cond.code ({ cls := "com/example/forehold/forehold/ledger/JobAlikePinLaw", name := "kindOf", desc := "(I)Lcom/example/forehold/forehold/ledger/Kind;" } : Jvm.MethodName) method_2_code (1 : Nat) (Option.some (Jvm.ClassFile.FieldType.object "com/example/forehold/forehold/ledger/Kind")), Jvm.Cond.code ({ cls := "com/example/forehold/forehold/ledger/Job", name := "<init>", desc := "(Ljava/lang/String;Lcom/example/forehold/forehold/ledger/Kind;JJJIZZ)V" } : Jvm.MethodName) prog_87_method_2_code (12 : Nat) (Option.none : Option Jvm.ClassFile.FieldType), Jvm.Cond.code ({ cls := "java/lang/Record", name := "<init>", desc := "()V" } : Jvm.MethodName) jdk_30_method_1_code (1 : Nat) (Option.none : Option Jvm.ClassFile.FieldType), Jvm.Cond.code ({ cls := "com/example/forehold/forehold/ledger/Job", name := "alike", desc := "(Lcom/example/forehold/forehold/ledger/Job;)Z" } : Jvm.MethodName) prog_87_method_3_code (2 : Nat) (Option.some Jvm.ClassFile.FieldType.boolean)]
set_option maxRecDepth 65536 in
theorem codes_eq : words1.filter isCode = codes1 := rfl
theorem w_codes : ∀ c ∈ words1.filter isCode, c.before args0 about1 = true := by
  rw [codes_eq]
  intro c hc
  simp only [codes1, List.mem_cons, List.not_mem_nil, or_false] at hc
  rcases hc with rfl | rfl | rfl | rfl | rfl | rfl | rfl | rfl | rfl | rfl
  · exact w_c0
  · exact w_c1
  · exact w_c2
  · exact w_c3
  · exact w_c4
  · exact w_c5
  · exact w_c6
  · exact w_c7
  · exact w_c8
  · exact w_c9
set_option maxRecDepth 65536 in
theorem w_t1 : (words1.take 24).all (fun c => isCode c || c.before args0 about1) = true := by decide +kernel
set_option maxRecDepth 65536 in
theorem w_t2 : ((words1.drop 24).take 24).all (fun c => isCode c || c.before args0 about1) = true := by decide +kernel
set_option maxRecDepth 65536 in
theorem w_t3 : (((words1.drop 24).drop 24).take 24).all (fun c => isCode c || c.before args0 about1) = true := by decide +kernel
set_option maxRecDepth 65536 in
theorem w_t4 : (((words1.drop 24).drop 24).drop 24).all (fun c => isCode c || c.before args0 about1) = true := by decide +kernel
theorem w_tables : (allAtoms (Jvm.Cond.code x code maxLocals ret :: tables_1)).before args0 about1 = true := by
  rw [allAtoms_all]
  show words1.all (fun c => c.before args0 about1) = true
  refine all_split ?_ w_codes
  rw [← List.take_append_drop 24 words1, List.all_append, w_t1, ← List.take_append_drop 24 (words1.drop 24), List.all_append, w_t2, ← List.take_append_drop 24 ((words1.drop 24).drop 24), List.all_append, w_t3, w_t4]
  rfl
set_option maxRecDepth 65536 in
theorem w_rest : rest_1_c.before args0 about1 = true := by decide +kernel
set_option maxRecDepth 65536 in
theorem w_case : (Jvm.Cond.and given_1 narrow_1).before args0 about1 = true := by decide +kernel
theorem w_applies : (headSpec (Jvm.Cond.code x code maxLocals ret :: tables_1) room_1).applies x e0.platform about1 = true :=
  (Spec.applies_iff w_frames).mpr ⟨w_running, w_runnable, w_alone, w_named, w_hears, w_ripe, w_room, w_tables⟩
theorem atStart : AtStart classFile x code maxLocals ret World_1 tables_1 room_1 Calls_1 rest_1 Pre_1 launch0 p0 e0 about1 theMethod args0 below0 :=
  ⟨lists_1, trivial, launch0.admits_env _ _ _, launch0.least_env, fairChoices_fair.cas, fairChoices_fair.clock, w_frames, w_args, w_heap, w_applies, trivial, w_rest, w_case⟩
end start1
theorem witness_1 : WitnessClaimed_1 := ⟨start1.p0, start1.e0, start1.about1, start1.theMethod, start1.args0, start1.below0, start1.atStart⟩
end Jvm.Pilot.@@N@@
