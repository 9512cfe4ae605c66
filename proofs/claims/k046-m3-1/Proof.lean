import JvmDerived
import JvmDerived.Pilot.@@N@@Statement
import JvmDerived.Pilot.@@N@@Code
set_option linter.unusedVariables false
set_option linter.unusedSimpArgs false
namespace Jvm.RoadKit
open Sem ClassFile Op Lib Jvm.Stand Jvm.Free Jvm.LawKit
/-- from S the run goes on and returns; what it leaves is said by Q -/
def GoesW (tb : Tables) (e : Env) (below : List Frame) (s : State) (Q : Option Value → Heap → List Loc → Prop) (kc ks : Nat) (S : State) : Prop :=
  ∃ t o, Steps tb e below S t ∧ t.status = .running ∧ Ended t below o ∧ ∃ v L, o = .returned v ∧ Q v t.heap L ∧ FrameEnd s o t L kc ks
theorem GoesW.step {tb : Tables} {e : Env} {below : List Frame} {s : State} {Q : Option Value → Heap → List Loc → Prop} {kc ks : Nat} {S S' : State} (f : ∀ t, Steps tb e below S' t → Steps tb e below S t) (h : GoesW tb e below s Q kc ks S') : GoesW tb e below s Q kc ks S := by
  obtain ⟨t, o, h1, h2⟩ := h
  exact ⟨t, o, f t h1, h2⟩
/-- 0 where the branch is taken, 1 where it isn't: what 'if<c> +7; iconst_1; goto +4; iconst_0' leaves -/
def nb (b : Bool) : Int32 := if b then 0 else 1
theorem nb_01 (b : Bool) : nb b = 0 ∨ nb b = 1 := by cases b <;> simp [nb]
theorem nar_nb (b : Bool) : narrow .boolean (.int (nb b)) = .int (nb b) := by cases b <;> rfl
theorem fits_nb (b : Bool) : fits .boolean (.int (nb b)) = true := by cases b <;> rfl
theorem diam0 {tb : Tables} [Ours tb] {e : Env} {below : List Frame} {T target : State} {m : MethodId} {c : Code} {g : JFrame} (h : At T m c below) (hx : tb.exec = Jvm.exec) (hg : g.method = m) {cd : ClassFile.Cond} {x : Int32} {rest : List Value} {pc0 : Nat} (hpc : g.pc = pc0)
    (hd : decode c.code pc0 = .ok (.ifCond cd 7, 3)) (hs : g.stack = .int x :: rest) (hd1 : decode c.code (pc0 + 3) = .ok (.iconst 1, 1)) (hd2 : decode c.code (pc0 + 4) = .ok (.goto 4, 3)) (hd3 : decode c.code (pc0 + 7) = .ok (.iconst 0, 1))
    (hr : Steps tb e below (T.setTop { g with pc := pc0 + 8, stack := .int (nb (ifCond.holds cd x)) :: rest }) target) : Steps tb e below (T.setTop g) target := by
  subst hpc
  cases hb : ifCond.holds cd x with
  | true =>
    rw [hb] at hr
    refine XS.ifYes h hx hg (pc0 := g.pc) (pc' := g.pc + 7) rfl hd hs hb (by omega) (by omega) ?_
    exact XS.iconst (g := { g with pc := g.pc + 7, stack := rest }) h hx hg hd3 hr
  | false =>
    rw [hb] at hr
    refine XS.ifNo h hx hg hd hs hb ?_
    refine XS.iconst (g := { g with pc := g.pc + 3, stack := rest }) h hx hg hd1 ?_
    exact XS.goto (g := { g with pc := g.pc + 4, stack := .int 1 :: rest }) h hx hg (pc0 := g.pc + 4) (pc' := g.pc + 8) rfl hd2 (by omega) (by omega) hr
theorem diam2 {tb : Tables} [Ours tb] {e : Env} {below : List Frame} {T target : State} {m : MethodId} {c : Code} {g : JFrame} (h : At T m c below) (hx : tb.exec = Jvm.exec) (hg : g.method = m) {cd : ClassFile.Cond} {x y : Int32} {rest : List Value} {pc0 : Nat} (hpc : g.pc = pc0)
    (hd : decode c.code pc0 = .ok (.if_icmp cd 7, 3)) (hs : g.stack = .int y :: .int x :: rest) (hd1 : decode c.code (pc0 + 3) = .ok (.iconst 1, 1)) (hd2 : decode c.code (pc0 + 4) = .ok (.goto 4, 3)) (hd3 : decode c.code (pc0 + 7) = .ok (.iconst 0, 1))
    (hr : Steps tb e below (T.setTop { g with pc := pc0 + 8, stack := .int (nb (if_icmp.holds cd x y)) :: rest }) target) : Steps tb e below (T.setTop g) target := by
  subst hpc
  cases hb : if_icmp.holds cd x y with
  | true =>
    rw [hb] at hr
    refine XS.icmpYes h hx hg (pc0 := g.pc) (pc' := g.pc + 7) rfl hd hs hb (by omega) (by omega) ?_
    exact XS.iconst (g := { g with pc := g.pc + 7, stack := rest }) h hx hg hd3 hr
  | false =>
    rw [hb] at hr
    refine XS.icmpNo h hx hg hd hs hb ?_
    refine XS.iconst (g := { g with pc := g.pc + 3, stack := rest }) h hx hg hd1 ?_
    exact XS.goto (g := { g with pc := g.pc + 4, stack := .int 1 :: rest }) h hx hg (pc0 := g.pc + 4) (pc' := g.pc + 8) rfl hd2 (by omega) (by omega) hr
section New
variable {p : Program} {l : Launch} {e : Env} {R : Room} {s : State} {m : MethodId} {args : Array Value} {below : List Frame} {meth : Method} {c : Code} {T : State} {locs : List Loc} {cells slots : Nat} {Q : Option Value → Heap → List Loc → Prop} {kc ks : Nat}
theorem upS (X : Stand p l e R s m args below meth c T locs cells slots) {k n : Nat} (hc : cells ≤ k) (hn : slots ≤ n) : Stand p l e R s m args below meth c T locs k n := { X with same := X.same.mono hc hn }
theorem GoesW.out (X : Stand p l e R s m args below meth c T locs cells slots) {v : Option Value} {S : State} (hlk : meth.locks = false) (hv : meth.sig.returnType = none → v = none)
    (hst : ∀ fs, (∀ (f : JFrame) (acts : List Action), f.method = m → f.locked = none → f.entered = [] → (doReturn e (T.setTop f) acts v).1 = T.setFrames fs) → Steps p.tables e below S (T.setFrames fs)) (hq : Q v T.heap locs) (hc : cells ≤ kc) (hs : slots ≤ ks) : GoesW p.tables e below s Q kc ks S := by
  obtain ⟨fs, hr, hrun, hended, hW, hsame⟩ := X.leave (v := v) hv hlk
  exact ⟨_, _, hst fs hr, hrun, hended, _, _, rfl, hq, ⟨_, rfl⟩, hW, hsame.mono hc hs⟩
theorem GoesW.retI (X : Stand p l e R s m args below meth c T locs cells slots) (hx : p.tables.exec = Jvm.exec) (hlk : meth.locks = false) {pc : Nat} {Ls : Array Slot} {z : Int32} {rest : List Value} (hret : meth.sig.returnType = some .int) (hd : decode c.code pc = .ok (.ireturn, 1)) (hq : Q (some (.int z)) T.heap locs) (hc : cells ≤ kc) (hs : slots ≤ ks) :
    GoesW p.tables e below s Q kc ks (T.setTop (mkF m pc Ls (.int z :: rest))) :=
  GoesW.out X hlk (fun h => by rw [hret] at h; cases h) (fun fs hr => retOut X hx hret rfl (Or.inl ⟨rfl, Or.inl rfl, _, rfl⟩) hd hr) hq hc hs
theorem GoesW.retZ (X : Stand p l e R s m args below meth c T locs cells slots) (hx : p.tables.exec = Jvm.exec) (hlk : meth.locks = false) {pc : Nat} {Ls : Array Slot} {z : Int32} {t : FieldType} {rest : List Value} (hret : meth.sig.returnType = some t) (ht : t = .int ∨ t = .boolean ∨ t = .byte ∨ t = .char ∨ t = .short) (hn : narrow t (.int z) = .int z) (hd : decode c.code pc = .ok (.ireturn, 1)) (hq : Q (some (.int z)) T.heap locs) (hc : cells ≤ kc) (hs : slots ≤ ks) :
    GoesW p.tables e below s Q kc ks (T.setTop (mkF m pc Ls (.int z :: rest))) :=
  GoesW.out X hlk (fun h => by rw [hret] at h; cases h) (fun fs hr => retOut X hx hret hn (Or.inl ⟨rfl, ht, _, rfl⟩) hd hr) hq hc hs
theorem GoesW.retJ (X : Stand p l e R s m args below meth c T locs cells slots) (hx : p.tables.exec = Jvm.exec) (hlk : meth.locks = false) {pc : Nat} {Ls : Array Slot} {z : Int64} {rest : List Value} (hret : meth.sig.returnType = some .long) (hd : decode c.code pc = .ok (.lreturn, 1)) (hq : Q (some (.long z)) T.heap locs) (hc : cells ≤ kc) (hs : slots ≤ ks) :
    GoesW p.tables e below s Q kc ks (T.setTop (mkF m pc Ls (.long z :: rest))) :=
  GoesW.out X hlk (fun h => by rw [hret] at h; cases h) (fun fs hr => retOut X hx hret rfl (Or.inr (Or.inl ⟨rfl, rfl, _, rfl⟩)) hd hr) hq hc hs
theorem GoesW.retA (X : Stand p l e R s m args below meth c T locs cells slots) (hx : p.tables.exec = Jvm.exec) (hlk : meth.locks = false) {pc : Nat} {Ls : Array Slot} {w : Value} {t : FieldType} {rest : List Value} (hret : meth.sig.returnType = some t) (ht : t.isReference = true) (hw : w.isRef = true) (hd : decode c.code pc = .ok (.areturn, 1)) (hq : Q (some w) T.heap locs) (hc : cells ≤ kc) (hs : slots ≤ ks) :
    GoesW p.tables e below s Q kc ks (T.setTop (mkF m pc Ls (w :: rest))) :=
  GoesW.out X hlk (fun h => by rw [hret] at h; cases h) (fun fs hr => retOut X hx hret (by cases t <;> first | (cases ht; done) | rfl) (Or.inr (Or.inr (Or.inr (Or.inr ⟨rfl, ht, hw⟩)))) hd hr) hq hc hs
theorem GoesW.retV (X : Stand p l e R s m args below meth c T locs cells slots) (hx : p.tables.exec = Jvm.exec) (hlk : meth.locks = false) {pc : Nat} {Ls : Array Slot} (hret : meth.sig.returnType = none) (hd : decode c.code pc = .ok (.return_, 1)) (hq : Q none T.heap locs) (hc : cells ≤ kc) (hs : slots ≤ ks) :
    GoesW p.tables e below s Q kc ks (T.setTop (mkF m pc Ls [])) :=
  GoesW.out X hlk (fun _ => rfl) (fun fs hr => X.returnOut hx hret hd hr) hq hc hs
end New
end Jvm.RoadKit
namespace Jvm.Pilot.@@N@@
open Jvm Jvm.ClassFile Sem Op Lib Jvm.Free Jvm.Stand Jvm.LawKit Jvm.RoadKit Bundle Jvm.Pilot.@@N@@.Jvm.D
theorem own_mod (x m : Int32) (hm : 0 < m.toInt) : 0 ≤ ((x &&& 2147483647) % m).toInt ∧ ((x &&& 2147483647) % m).toInt < m.toInt := by
  have h := c_mask x 2147483647 31 (by decide) (by decide)
  have h0 : 0 ≤ (x &&& 2147483647).toInt := by rw [h]; omega
  have q := (c_iremV (x &&& 2147483647) m).1 h0 hm
  exact ⟨q.1, q.2.1⟩
theorem own_i3 (z : Int32) (h : 0 ≤ z.toInt ∧ z.toInt < 3) : z = 0 ∨ z = 1 ∨ z = 2 := by
  have : z.toInt = 0 ∨ z.toInt = 1 ∨ z.toInt = 2 := by omega
  rcases this with q | q | q
  · exact Or.inl (Int32.toInt_inj.mp q)
  · exact Or.inr (Or.inl (Int32.toInt_inj.mp q))
  · exact Or.inr (Or.inr (Int32.toInt_inj.mp q))
def own_fl (k : Int32) : Int32 := if k = 2 then -1 else if k = 5 then 2 else if k = 7 then 2 else if k = 9 then 2 else 0
def own_acc (g f : Int32) : Int32 := if g < 0 then 1 else if g = f then 1 else 0
theorem own_a2 (f : Int32) : own_acc 2 f = nb (if_icmp.holds .ne f 2) := by
  rw [own_acc, if_neg (by decide)]
  by_cases q : f = 2
  · rw [if_pos q.symm, (teq q).2]; rfl
  · rw [if_neg (fun z => q z.symm), (feq q).2]; rfl
theorem own_a0 (f : Int32) : own_acc 0 f = nb (ifCond.holds .ne f) := by
  rw [own_acc, if_neg (by decide), if0]
  by_cases q : f = 0
  · rw [if_pos q.symm, (teq q).2]; rfl
  · rw [if_neg (fun z => q z.symm), (feq q).2]; rfl
theorem own_pn0 : plainName "com/example/varuna/varuna/broker/wire/PacketTypeAcceptsFlagsPinLaw" = true := by first | (simp [plainName, overriddenIn]; done) | decide +kernel
theorem d1_0 : decode method_2_code 0 = .ok (.iload_n 0, 1) := by decide +kernel
theorem d1_1 : decode method_2_code 1 = .ok (.ifCond .ne 7, 3) := by decide +kernel
theorem d1_4 : decode method_2_code 4 = .ok (.getstatic 7, 3) := by decide +kernel
theorem d1_7 : decode method_2_code 7 = .ok (.areturn, 1) := by decide +kernel
theorem d1_8 : decode method_2_code 8 = .ok (.iload_n 0, 1) := by decide +kernel
theorem d1_9 : decode method_2_code 9 = .ok (.iconst 1, 1) := by decide +kernel
theorem d1_10 : decode method_2_code 10 = .ok (.if_icmp .ne 7, 3) := by decide +kernel
theorem d1_13 : decode method_2_code 13 = .ok (.getstatic 13, 3) := by decide +kernel
theorem d1_16 : decode method_2_code 16 = .ok (.areturn, 1) := by decide +kernel
theorem d1_17 : decode method_2_code 17 = .ok (.iload_n 0, 1) := by decide +kernel
theorem d1_18 : decode method_2_code 18 = .ok (.iconst 2, 1) := by decide +kernel
theorem d1_19 : decode method_2_code 19 = .ok (.if_icmp .ne 7, 3) := by decide +kernel
theorem d1_22 : decode method_2_code 22 = .ok (.getstatic 16, 3) := by decide +kernel
theorem d1_25 : decode method_2_code 25 = .ok (.areturn, 1) := by decide +kernel
theorem d1_26 : decode method_2_code 26 = .ok (.iload_n 0, 1) := by decide +kernel
theorem d1_27 : decode method_2_code 27 = .ok (.iconst 3, 1) := by decide +kernel
theorem d1_28 : decode method_2_code 28 = .ok (.if_icmp .ne 7, 3) := by decide +kernel
theorem d1_31 : decode method_2_code 31 = .ok (.getstatic 19, 3) := by decide +kernel
theorem d1_34 : decode method_2_code 34 = .ok (.areturn, 1) := by decide +kernel
theorem d1_35 : decode method_2_code 35 = .ok (.iload_n 0, 1) := by decide +kernel
theorem d1_36 : decode method_2_code 36 = .ok (.iconst 4, 1) := by decide +kernel
theorem d1_37 : decode method_2_code 37 = .ok (.if_icmp .ne 7, 3) := by decide +kernel
theorem d1_40 : decode method_2_code 40 = .ok (.getstatic 22, 3) := by decide +kernel
theorem d1_43 : decode method_2_code 43 = .ok (.areturn, 1) := by decide +kernel
theorem d1_44 : decode method_2_code 44 = .ok (.iload_n 0, 1) := by decide +kernel
theorem d1_45 : decode method_2_code 45 = .ok (.iconst 5, 1) := by decide +kernel
theorem d1_46 : decode method_2_code 46 = .ok (.if_icmp .ne 7, 3) := by decide +kernel
theorem d1_49 : decode method_2_code 49 = .ok (.getstatic 25, 3) := by decide +kernel
theorem d1_52 : decode method_2_code 52 = .ok (.areturn, 1) := by decide +kernel
theorem d1_53 : decode method_2_code 53 = .ok (.iload_n 0, 1) := by decide +kernel
theorem d1_54 : decode method_2_code 54 = .ok (.bipush 6, 2) := by decide +kernel
theorem d1_56 : decode method_2_code 56 = .ok (.if_icmp .ne 7, 3) := by decide +kernel
theorem d1_59 : decode method_2_code 59 = .ok (.getstatic 28, 3) := by decide +kernel
theorem d1_62 : decode method_2_code 62 = .ok (.areturn, 1) := by decide +kernel
theorem d1_63 : decode method_2_code 63 = .ok (.iload_n 0, 1) := by decide +kernel
theorem d1_64 : decode method_2_code 64 = .ok (.bipush 7, 2) := by decide +kernel
theorem d1_66 : decode method_2_code 66 = .ok (.if_icmp .ne 7, 3) := by decide +kernel
theorem d1_69 : decode method_2_code 69 = .ok (.getstatic 31, 3) := by decide +kernel
theorem d1_72 : decode method_2_code 72 = .ok (.areturn, 1) := by decide +kernel
theorem d1_73 : decode method_2_code 73 = .ok (.iload_n 0, 1) := by decide +kernel
theorem d1_74 : decode method_2_code 74 = .ok (.bipush 8, 2) := by decide +kernel
theorem d1_76 : decode method_2_code 76 = .ok (.if_icmp .ne 7, 3) := by decide +kernel
theorem d1_79 : decode method_2_code 79 = .ok (.getstatic 34, 3) := by decide +kernel
theorem d1_82 : decode method_2_code 82 = .ok (.areturn, 1) := by decide +kernel
theorem d1_83 : decode method_2_code 83 = .ok (.iload_n 0, 1) := by decide +kernel
theorem d1_84 : decode method_2_code 84 = .ok (.bipush 9, 2) := by decide +kernel
theorem d1_86 : decode method_2_code 86 = .ok (.if_icmp .ne 7, 3) := by decide +kernel
theorem d1_89 : decode method_2_code 89 = .ok (.getstatic 37, 3) := by decide +kernel
theorem d1_92 : decode method_2_code 92 = .ok (.areturn, 1) := by decide +kernel
theorem d1_93 : decode method_2_code 93 = .ok (.iload_n 0, 1) := by decide +kernel
theorem d1_94 : decode method_2_code 94 = .ok (.bipush 10, 2) := by decide +kernel
theorem d1_96 : decode method_2_code 96 = .ok (.if_icmp .ne 7, 3) := by decide +kernel
theorem d1_99 : decode method_2_code 99 = .ok (.getstatic 40, 3) := by decide +kernel
theorem d1_102 : decode method_2_code 102 = .ok (.areturn, 1) := by decide +kernel
theorem d1_103 : decode method_2_code 103 = .ok (.iload_n 0, 1) := by decide +kernel
theorem d1_104 : decode method_2_code 104 = .ok (.bipush 11, 2) := by decide +kernel
theorem d1_106 : decode method_2_code 106 = .ok (.if_icmp .ne 7, 3) := by decide +kernel
theorem d1_109 : decode method_2_code 109 = .ok (.getstatic 43, 3) := by decide +kernel
theorem d1_112 : decode method_2_code 112 = .ok (.areturn, 1) := by decide +kernel
theorem d1_113 : decode method_2_code 113 = .ok (.iload_n 0, 1) := by decide +kernel
theorem d1_114 : decode method_2_code 114 = .ok (.bipush 12, 2) := by decide +kernel
theorem d1_116 : decode method_2_code 116 = .ok (.if_icmp .ne 7, 3) := by decide +kernel
theorem d1_119 : decode method_2_code 119 = .ok (.getstatic 46, 3) := by decide +kernel
theorem d1_122 : decode method_2_code 122 = .ok (.areturn, 1) := by decide +kernel
theorem d1_123 : decode method_2_code 123 = .ok (.iload_n 0, 1) := by decide +kernel
theorem d1_124 : decode method_2_code 124 = .ok (.bipush 13, 2) := by decide +kernel
theorem d1_126 : decode method_2_code 126 = .ok (.if_icmp .ne 7, 3) := by decide +kernel
theorem d1_129 : decode method_2_code 129 = .ok (.getstatic 49, 3) := by decide +kernel
theorem d1_132 : decode method_2_code 132 = .ok (.areturn, 1) := by decide +kernel
theorem d1_133 : decode method_2_code 133 = .ok (.getstatic 52, 3) := by decide +kernel
theorem d1_136 : decode method_2_code 136 = .ok (.areturn, 1) := by decide +kernel
theorem ef_rm1 (m : MethodId) (x0 : Int32) : entryFrame m #[(.int x0)] 1 = mkF m 0 #[.val (.int x0)] [] := by first | (simp [entryFrame, mkF, argsToLocals, Value.category]; done) | rfl
def Q1 (Z : State) (p0 : Int32) (x_CONNECT : Addr) (x_CONNACK : Addr) (x_PUBLISH : Addr) (x_PUBACK : Addr) (x_PUBREC : Addr) (x_PUBREL : Addr) (x_PUBCOMP : Addr) (x_SUBSCRIBE : Addr) (x_SUBACK : Addr) (x_UNSUBSCRIBE : Addr) (x_UNSUBACK : Addr) (x_PINGREQ : Addr) (x_PINGRESP : Addr) (x_DISCONNECT : Addr) (x_AUTH : Addr) (h0 : Heap) (n0 : Nat) (v : Option Value) (h : Heap) (L : List Loc) : Prop := (∃ a : Addr, v = some (.ref a) ∧ Exa Z h0 a "com/example/varuna/varuna/broker/wire/PacketType" ∧ Fld Z h0 a "com/example/varuna/varuna/broker/wire/PacketType" "flags" "I" (.int (own_fl p0))) ∧ Fr n0 L ∧ h = h0
set_option maxRecDepth 65536 in
set_option maxHeartbeats 40000000 in
theorem rm1 (l : Launch) (Z : State) (a0 : Array Value) (hw : ∀ d ∈ tables_1, d.before a0 Z = true) (ws : List Jvm.Cond) (p0 : Int32) (x_CONNECT : Addr) (x_CONNACK : Addr) (x_PUBLISH : Addr) (x_PUBACK : Addr) (x_PUBREC : Addr) (x_PUBREL : Addr) (x_PUBCOMP : Addr) (x_SUBSCRIBE : Addr) (x_SUBACK : Addr) (x_UNSUBSCRIBE : Addr) (x_UNSUBACK : Addr) (x_PINGREQ : Addr) (x_PINGRESP : Addr) (x_DISCONNECT : Addr) (x_AUTH : Addr) (h0 : Heap) (n0 : Nat) (Z0 : n0 ≤ h0.size) (S_CONNECT : Sta Z h0 "com/example/varuna/varuna/broker/wire/PacketType" "CONNECT" "Lcom/example/varuna/varuna/broker/wire/PacketType;" (.ref x_CONNECT)) (E_CONNECT : Exa Z h0 x_CONNECT "com/example/varuna/varuna/broker/wire/PacketType") (F_CONNECT : Fld Z h0 x_CONNECT "com/example/varuna/varuna/broker/wire/PacketType" "flags" "I" (.int (0 : Int32))) (S_CONNACK : Sta Z h0 "com/example/varuna/varuna/broker/wire/PacketType" "CONNACK" "Lcom/example/varuna/varuna/broker/wire/PacketType;" (.ref x_CONNACK)) (E_CONNACK : Exa Z h0 x_CONNACK "com/example/varuna/varuna/broker/wire/PacketType") (F_CONNACK : Fld Z h0 x_CONNACK "com/example/varuna/varuna/broker/wire/PacketType" "flags" "I" (.int (0 : Int32))) (S_PUBLISH : Sta Z h0 "com/example/varuna/varuna/broker/wire/PacketType" "PUBLISH" "Lcom/example/varuna/varuna/broker/wire/PacketType;" (.ref x_PUBLISH)) (E_PUBLISH : Exa Z h0 x_PUBLISH "com/example/varuna/varuna/broker/wire/PacketType") (F_PUBLISH : Fld Z h0 x_PUBLISH "com/example/varuna/varuna/broker/wire/PacketType" "flags" "I" (.int (-1 : Int32))) (S_PUBACK : Sta Z h0 "com/example/varuna/varuna/broker/wire/PacketType" "PUBACK" "Lcom/example/varuna/varuna/broker/wire/PacketType;" (.ref x_PUBACK)) (E_PUBACK : Exa Z h0 x_PUBACK "com/example/varuna/varuna/broker/wire/PacketType") (F_PUBACK : Fld Z h0 x_PUBACK "com/example/varuna/varuna/broker/wire/PacketType" "flags" "I" (.int (0 : Int32))) (S_PUBREC : Sta Z h0 "com/example/varuna/varuna/broker/wire/PacketType" "PUBREC" "Lcom/example/varuna/varuna/broker/wire/PacketType;" (.ref x_PUBREC)) (E_PUBREC : Exa Z h0 x_PUBREC "com/example/varuna/varuna/broker/wire/PacketType") (F_PUBREC : Fld Z h0 x_PUBREC "com/example/varuna/varuna/broker/wire/PacketType" "flags" "I" (.int (0 : Int32))) (S_PUBREL : Sta Z h0 "com/example/varuna/varuna/broker/wire/PacketType" "PUBREL" "Lcom/example/varuna/varuna/broker/wire/PacketType;" (.ref x_PUBREL)) (E_PUBREL : Exa Z h0 x_PUBREL "com/example/varuna/varuna/broker/wire/PacketType") (F_PUBREL : Fld Z h0 x_PUBREL "com/example/varuna/varuna/broker/wire/PacketType" "flags" "I" (.int (2 : Int32))) (S_PUBCOMP : Sta Z h0 "com/example/varuna/varuna/broker/wire/PacketType" "PUBCOMP" "Lcom/example/varuna/varuna/broker/wire/PacketType;" (.ref x_PUBCOMP)) (E_PUBCOMP : Exa Z h0 x_PUBCOMP "com/example/varuna/varuna/broker/wire/PacketType") (F_PUBCOMP : Fld Z h0 x_PUBCOMP "com/example/varuna/varuna/broker/wire/PacketType" "flags" "I" (.int (0 : Int32))) (S_SUBSCRIBE : Sta Z h0 "com/example/varuna/varuna/broker/wire/PacketType" "SUBSCRIBE" "Lcom/example/varuna/varuna/broker/wire/PacketType;" (.ref x_SUBSCRIBE)) (E_SUBSCRIBE : Exa Z h0 x_SUBSCRIBE "com/example/varuna/varuna/broker/wire/PacketType") (F_SUBSCRIBE : Fld Z h0 x_SUBSCRIBE "com/example/varuna/varuna/broker/wire/PacketType" "flags" "I" (.int (2 : Int32))) (S_SUBACK : Sta Z h0 "com/example/varuna/varuna/broker/wire/PacketType" "SUBACK" "Lcom/example/varuna/varuna/broker/wire/PacketType;" (.ref x_SUBACK)) (E_SUBACK : Exa Z h0 x_SUBACK "com/example/varuna/varuna/broker/wire/PacketType") (F_SUBACK : Fld Z h0 x_SUBACK "com/example/varuna/varuna/broker/wire/PacketType" "flags" "I" (.int (0 : Int32))) (S_UNSUBSCRIBE : Sta Z h0 "com/example/varuna/varuna/broker/wire/PacketType" "UNSUBSCRIBE" "Lcom/example/varuna/varuna/broker/wire/PacketType;" (.ref x_UNSUBSCRIBE)) (E_UNSUBSCRIBE : Exa Z h0 x_UNSUBSCRIBE "com/example/varuna/varuna/broker/wire/PacketType") (F_UNSUBSCRIBE : Fld Z h0 x_UNSUBSCRIBE "com/example/varuna/varuna/broker/wire/PacketType" "flags" "I" (.int (2 : Int32))) (S_UNSUBACK : Sta Z h0 "com/example/varuna/varuna/broker/wire/PacketType" "UNSUBACK" "Lcom/example/varuna/varuna/broker/wire/PacketType;" (.ref x_UNSUBACK)) (E_UNSUBACK : Exa Z h0 x_UNSUBACK "com/example/varuna/varuna/broker/wire/PacketType") (F_UNSUBACK : Fld Z h0 x_UNSUBACK "com/example/varuna/varuna/broker/wire/PacketType" "flags" "I" (.int (0 : Int32))) (S_PINGREQ : Sta Z h0 "com/example/varuna/varuna/broker/wire/PacketType" "PINGREQ" "Lcom/example/varuna/varuna/broker/wire/PacketType;" (.ref x_PINGREQ)) (E_PINGREQ : Exa Z h0 x_PINGREQ "com/example/varuna/varuna/broker/wire/PacketType") (F_PINGREQ : Fld Z h0 x_PINGREQ "com/example/varuna/varuna/broker/wire/PacketType" "flags" "I" (.int (0 : Int32))) (S_PINGRESP : Sta Z h0 "com/example/varuna/varuna/broker/wire/PacketType" "PINGRESP" "Lcom/example/varuna/varuna/broker/wire/PacketType;" (.ref x_PINGRESP)) (E_PINGRESP : Exa Z h0 x_PINGRESP "com/example/varuna/varuna/broker/wire/PacketType") (F_PINGRESP : Fld Z h0 x_PINGRESP "com/example/varuna/varuna/broker/wire/PacketType" "flags" "I" (.int (0 : Int32))) (S_DISCONNECT : Sta Z h0 "com/example/varuna/varuna/broker/wire/PacketType" "DISCONNECT" "Lcom/example/varuna/varuna/broker/wire/PacketType;" (.ref x_DISCONNECT)) (E_DISCONNECT : Exa Z h0 x_DISCONNECT "com/example/varuna/varuna/broker/wire/PacketType") (F_DISCONNECT : Fld Z h0 x_DISCONNECT "com/example/varuna/varuna/broker/wire/PacketType" "flags" "I" (.int (0 : Int32))) (S_AUTH : Sta Z h0 "com/example/varuna/varuna/broker/wire/PacketType" "AUTH" "Lcom/example/varuna/varuna/broker/wire/PacketType;" (.ref x_AUTH)) (E_AUTH : Exa Z h0 x_AUTH "com/example/varuna/varuna/broker/wire/PacketType") (F_AUTH : Fld Z h0 x_AUTH "com/example/varuna/varuna/broker/wire/PacketType" "flags" "I" (.int (0 : Int32))) :
    MetFree l (⟨"com/example/varuna/varuna/broker/wire/PacketTypeAcceptsFlagsPinLaw", "pick", "(I)Lcom/example/varuna/varuna/broker/wire/PacketType;"⟩ : MethodName) (head1 (Jvm.Cond.code (⟨"com/example/varuna/varuna/broker/wire/PacketTypeAcceptsFlagsPinLaw", "pick", "(I)Lcom/example/varuna/varuna/broker/wire/PacketType;"⟩ : MethodName) method_2_code 1 (some (.object "com/example/varuna/varuna/broker/wire/PacketType")) :: ws) ({ frames := 0, cells := 0, slots := 0, locals := 0 } : Room)) (fun a U => a = #[(.int p0)] ∧ Z.Warmed39 U.vm ∧ U.heap = h0) (fun _ _ _ _ _ => True) (fun _ U o U' => ∃ v L, o = .returned v ∧ Q1 Z p0 x_CONNECT x_CONNACK x_PUBLISH x_PUBACK x_PUBREC x_PUBREL x_PUBCOMP x_SUBSCRIBE x_SUBACK x_UNSUBSCRIBE x_UNSUBACK x_PINGREQ x_PINGRESP x_DISCONNECT x_AUTH h0 n0 v U'.heap L ∧ FrameEnd U o U' L ({ frames := 0, cells := 0, slots := 0, locals := 0 } : Room).cells ({ frames := 0, cells := 0, slots := 0, locals := 0 } : Room).slots) := by
  refine MetFree.of_bodySF (plainFor_of_name own_pn0) hisR ?_
  intro p e s m args below meth c s₁ Bd hml0 hP hK
  obtain ⟨rfl, hZ, hh⟩ := hP
  have hx := Bd.exec
  have hby := Bd.bytes
  have hml : c.maxLocals = 1 := hml0
  have hown : s.vm.findClass "com/example/varuna/varuna/broker/wire/PacketTypeAcceptsFlagsPinLaw" = some m.cls := findClass_of_methodNamed Bd.named
  have hnm := (name_of_methodNamed Bd.named Bd.method).1
  have hlk : meth.locks = false := BodyLoose.notSynchronized Bd
  have X0 : Stand p l e ({ frames := 0, cells := 0, slots := 0, locals := 0 } : Room) s m #[(.int p0)] below meth c s₁ [] 0 0 := Stand.of_body Bd
  have e0 : s₁.heap = h0 := by rw [← hh, Bd.state]; rfl
  have N0 := Fr.nil n0
  show GoesW p.tables e below s (Q1 Z p0 x_CONNECT x_CONNACK x_PUBLISH x_PUBACK x_PUBREC x_PUBREL x_PUBCOMP x_SUBSCRIBE x_SUBACK x_UNSUBSCRIBE x_UNSUBACK x_PINGREQ x_PINGRESP x_DISCONNECT x_AUTH h0 n0) 0 0 (s₁.setTop (entryFrame m #[(.int p0)] 1))
  rw [ef_rm1 m p0]
  show GoesW p.tables e below s (Q1 Z p0 x_CONNECT x_CONNACK x_PUBLISH x_PUBACK x_PUBREC x_PUBREL x_PUBCOMP x_SUBSCRIBE x_SUBACK x_UNSUBSCRIBE x_UNSUBACK x_PINGREQ x_PINGRESP x_DISCONNECT x_AUTH h0 n0) 0 0 (s₁.setTop (mkF m 0 #[.val (.int p0)] []))
  refine GoesW.step (fun _ k => XS.iloadN X0.here hx rfl (hb hby d1_0) rfl k) ?_
  show GoesW p.tables e below s (Q1 Z p0 x_CONNECT x_CONNACK x_PUBLISH x_PUBACK x_PUBREC x_PUBREL x_PUBCOMP x_SUBSCRIBE x_SUBACK x_UNSUBSCRIBE x_UNSUBACK x_PINGREQ x_PINGRESP x_DISCONNECT x_AUTH h0 n0) 0 0 (s₁.setTop (mkF m 1 #[.val (.int p0)] [(.int p0)]))
  by_cases hk0 : p0 = (0 : Int32)
  · skip
    refine GoesW.step (fun _ k => XS.ifNo X0.here hx rfl (hb hby d1_1) rfl ((if0 _ _).trans (teq hk0).2) k) ?_
    show GoesW p.tables e below s (Q1 Z p0 x_CONNECT x_CONNACK x_PUBLISH x_PUBACK x_PUBREC x_PUBREL x_PUBCOMP x_SUBSCRIBE x_SUBACK x_UNSUBSCRIBE x_UNSUBACK x_PINGREQ x_PINGRESP x_DISCONNECT x_AUTH h0 n0) 0 0 (s₁.setTop (mkF m 4 #[.val (.int p0)] []))
    obtain ⟨T1, X1, e1, st1⟩ := getS2 X0 hx hZ hown (host := "") (Or.inl (hw _ (List.mem_of_getElem? (i := 5) rfl))) Via.refl e0 S_CONNECT (g := (mkF m 4 #[.val (.int p0)] [])) rfl (hb hby d1_4)
    refine GoesW.step st1 ?_
    show GoesW p.tables e below s (Q1 Z p0 x_CONNECT x_CONNACK x_PUBLISH x_PUBACK x_PUBREC x_PUBREL x_PUBCOMP x_SUBSCRIBE x_SUBACK x_UNSUBSCRIBE x_UNSUBACK x_PINGREQ x_PINGRESP x_DISCONNECT x_AUTH h0 n0) 0 0 (T1.setTop (mkF m 7 #[.val (.int p0)] [(.ref x_CONNECT)]))
    exact GoesW.retA X1 hx hlk Bd.returns rfl rfl (hb hby d1_7) (by show Q1 Z p0 x_CONNECT x_CONNACK x_PUBLISH x_PUBACK x_PUBREC x_PUBREL x_PUBCOMP x_SUBSCRIBE x_SUBACK x_UNSUBSCRIBE x_UNSUBACK x_PINGREQ x_PINGRESP x_DISCONNECT x_AUTH h0 n0 _ T1.heap _; rw [e1]; exact ⟨⟨_, rfl, E_CONNECT, (by rw [show own_fl p0 = (0 : Int32) from (by subst hk0; decide)]; exact F_CONNECT)⟩, N0, rfl⟩) (by decide) (by decide)
  · skip
    refine GoesW.step (fun _ k => XS.ifYes X0.here hx rfl (pc0 := 1) (pc' := 8) rfl (hb hby d1_1) rfl ((if0 _ _).trans (feq hk0).2) (by decide) (by decide) k) ?_
    show GoesW p.tables e below s (Q1 Z p0 x_CONNECT x_CONNACK x_PUBLISH x_PUBACK x_PUBREC x_PUBREL x_PUBCOMP x_SUBSCRIBE x_SUBACK x_UNSUBSCRIBE x_UNSUBACK x_PINGREQ x_PINGRESP x_DISCONNECT x_AUTH h0 n0) 0 0 (s₁.setTop (mkF m 8 #[.val (.int p0)] []))
    refine GoesW.step (fun _ k => XS.iloadN X0.here hx rfl (hb hby d1_8) rfl k) ?_
    show GoesW p.tables e below s (Q1 Z p0 x_CONNECT x_CONNACK x_PUBLISH x_PUBACK x_PUBREC x_PUBREL x_PUBCOMP x_SUBSCRIBE x_SUBACK x_UNSUBSCRIBE x_UNSUBACK x_PINGREQ x_PINGRESP x_DISCONNECT x_AUTH h0 n0) 0 0 (s₁.setTop (mkF m 9 #[.val (.int p0)] [(.int p0)]))
    refine GoesW.step (fun _ k => XS.iconst X0.here hx rfl (hb hby d1_9) k) ?_
    show GoesW p.tables e below s (Q1 Z p0 x_CONNECT x_CONNACK x_PUBLISH x_PUBACK x_PUBREC x_PUBREL x_PUBCOMP x_SUBSCRIBE x_SUBACK x_UNSUBSCRIBE x_UNSUBACK x_PINGREQ x_PINGRESP x_DISCONNECT x_AUTH h0 n0) 0 0 (s₁.setTop (mkF m 10 #[.val (.int p0)] [(.int (1 : Int32)), (.int p0)]))
    by_cases hk1 : p0 = (1 : Int32)
    · skip
      refine GoesW.step (fun _ k => XS.icmpNo X0.here hx rfl (hb hby d1_10) rfl (teq hk1).2 k) ?_
      show GoesW p.tables e below s (Q1 Z p0 x_CONNECT x_CONNACK x_PUBLISH x_PUBACK x_PUBREC x_PUBREL x_PUBCOMP x_SUBSCRIBE x_SUBACK x_UNSUBSCRIBE x_UNSUBACK x_PINGREQ x_PINGRESP x_DISCONNECT x_AUTH h0 n0) 0 0 (s₁.setTop (mkF m 13 #[.val (.int p0)] []))
      obtain ⟨T2, X2, e2, st2⟩ := getS2 X0 hx hZ hown (host := "") (Or.inl (hw _ (List.mem_of_getElem? (i := 21) rfl))) Via.refl e0 S_CONNACK (g := (mkF m 13 #[.val (.int p0)] [])) rfl (hb hby d1_13)
      refine GoesW.step st2 ?_
      show GoesW p.tables e below s (Q1 Z p0 x_CONNECT x_CONNACK x_PUBLISH x_PUBACK x_PUBREC x_PUBREL x_PUBCOMP x_SUBSCRIBE x_SUBACK x_UNSUBSCRIBE x_UNSUBACK x_PINGREQ x_PINGRESP x_DISCONNECT x_AUTH h0 n0) 0 0 (T2.setTop (mkF m 16 #[.val (.int p0)] [(.ref x_CONNACK)]))
      exact GoesW.retA X2 hx hlk Bd.returns rfl rfl (hb hby d1_16) (by show Q1 Z p0 x_CONNECT x_CONNACK x_PUBLISH x_PUBACK x_PUBREC x_PUBREL x_PUBCOMP x_SUBSCRIBE x_SUBACK x_UNSUBSCRIBE x_UNSUBACK x_PINGREQ x_PINGRESP x_DISCONNECT x_AUTH h0 n0 _ T2.heap _; rw [e2]; exact ⟨⟨_, rfl, E_CONNACK, (by rw [show own_fl p0 = (0 : Int32) from (by subst hk1; decide)]; exact F_CONNACK)⟩, N0, rfl⟩) (by decide) (by decide)
    · skip
      refine GoesW.step (fun _ k => XS.icmpYes X0.here hx rfl (pc0 := 10) (pc' := 17) rfl (hb hby d1_10) rfl (feq hk1).2 (by decide) (by decide) k) ?_
      show GoesW p.tables e below s (Q1 Z p0 x_CONNECT x_CONNACK x_PUBLISH x_PUBACK x_PUBREC x_PUBREL x_PUBCOMP x_SUBSCRIBE x_SUBACK x_UNSUBSCRIBE x_UNSUBACK x_PINGREQ x_PINGRESP x_DISCONNECT x_AUTH h0 n0) 0 0 (s₁.setTop (mkF m 17 #[.val (.int p0)] []))
      refine GoesW.step (fun _ k => XS.iloadN X0.here hx rfl (hb hby d1_17) rfl k) ?_
      show GoesW p.tables e below s (Q1 Z p0 x_CONNECT x_CONNACK x_PUBLISH x_PUBACK x_PUBREC x_PUBREL x_PUBCOMP x_SUBSCRIBE x_SUBACK x_UNSUBSCRIBE x_UNSUBACK x_PINGREQ x_PINGRESP x_DISCONNECT x_AUTH h0 n0) 0 0 (s₁.setTop (mkF m 18 #[.val (.int p0)] [(.int p0)]))
      refine GoesW.step (fun _ k => XS.iconst X0.here hx rfl (hb hby d1_18) k) ?_
      show GoesW p.tables e below s (Q1 Z p0 x_CONNECT x_CONNACK x_PUBLISH x_PUBACK x_PUBREC x_PUBREL x_PUBCOMP x_SUBSCRIBE x_SUBACK x_UNSUBSCRIBE x_UNSUBACK x_PINGREQ x_PINGRESP x_DISCONNECT x_AUTH h0 n0) 0 0 (s₁.setTop (mkF m 19 #[.val (.int p0)] [(.int (2 : Int32)), (.int p0)]))
      by_cases hk2 : p0 = (2 : Int32)
      · skip
        refine GoesW.step (fun _ k => XS.icmpNo X0.here hx rfl (hb hby d1_19) rfl (teq hk2).2 k) ?_
        show GoesW p.tables e below s (Q1 Z p0 x_CONNECT x_CONNACK x_PUBLISH x_PUBACK x_PUBREC x_PUBREL x_PUBCOMP x_SUBSCRIBE x_SUBACK x_UNSUBSCRIBE x_UNSUBACK x_PINGREQ x_PINGRESP x_DISCONNECT x_AUTH h0 n0) 0 0 (s₁.setTop (mkF m 22 #[.val (.int p0)] []))
        obtain ⟨T3, X3, e3, st3⟩ := getS2 X0 hx hZ hown (host := "") (Or.inl (hw _ (List.mem_of_getElem? (i := 35) rfl))) Via.refl e0 S_PUBLISH (g := (mkF m 22 #[.val (.int p0)] [])) rfl (hb hby d1_22)
        refine GoesW.step st3 ?_
        show GoesW p.tables e below s (Q1 Z p0 x_CONNECT x_CONNACK x_PUBLISH x_PUBACK x_PUBREC x_PUBREL x_PUBCOMP x_SUBSCRIBE x_SUBACK x_UNSUBSCRIBE x_UNSUBACK x_PINGREQ x_PINGRESP x_DISCONNECT x_AUTH h0 n0) 0 0 (T3.setTop (mkF m 25 #[.val (.int p0)] [(.ref x_PUBLISH)]))
        exact GoesW.retA X3 hx hlk Bd.returns rfl rfl (hb hby d1_25) (by show Q1 Z p0 x_CONNECT x_CONNACK x_PUBLISH x_PUBACK x_PUBREC x_PUBREL x_PUBCOMP x_SUBSCRIBE x_SUBACK x_UNSUBSCRIBE x_UNSUBACK x_PINGREQ x_PINGRESP x_DISCONNECT x_AUTH h0 n0 _ T3.heap _; rw [e3]; exact ⟨⟨_, rfl, E_PUBLISH, (by rw [show own_fl p0 = (-1 : Int32) from (by subst hk2; decide)]; exact F_PUBLISH)⟩, N0, rfl⟩) (by decide) (by decide)
      · skip
        refine GoesW.step (fun _ k => XS.icmpYes X0.here hx rfl (pc0 := 19) (pc' := 26) rfl (hb hby d1_19) rfl (feq hk2).2 (by decide) (by decide) k) ?_
        show GoesW p.tables e below s (Q1 Z p0 x_CONNECT x_CONNACK x_PUBLISH x_PUBACK x_PUBREC x_PUBREL x_PUBCOMP x_SUBSCRIBE x_SUBACK x_UNSUBSCRIBE x_UNSUBACK x_PINGREQ x_PINGRESP x_DISCONNECT x_AUTH h0 n0) 0 0 (s₁.setTop (mkF m 26 #[.val (.int p0)] []))
        refine GoesW.step (fun _ k => XS.iloadN X0.here hx rfl (hb hby d1_26) rfl k) ?_
        show GoesW p.tables e below s (Q1 Z p0 x_CONNECT x_CONNACK x_PUBLISH x_PUBACK x_PUBREC x_PUBREL x_PUBCOMP x_SUBSCRIBE x_SUBACK x_UNSUBSCRIBE x_UNSUBACK x_PINGREQ x_PINGRESP x_DISCONNECT x_AUTH h0 n0) 0 0 (s₁.setTop (mkF m 27 #[.val (.int p0)] [(.int p0)]))
        refine GoesW.step (fun _ k => XS.iconst X0.here hx rfl (hb hby d1_27) k) ?_
        show GoesW p.tables e below s (Q1 Z p0 x_CONNECT x_CONNACK x_PUBLISH x_PUBACK x_PUBREC x_PUBREL x_PUBCOMP x_SUBSCRIBE x_SUBACK x_UNSUBSCRIBE x_UNSUBACK x_PINGREQ x_PINGRESP x_DISCONNECT x_AUTH h0 n0) 0 0 (s₁.setTop (mkF m 28 #[.val (.int p0)] [(.int (3 : Int32)), (.int p0)]))
        by_cases hk3 : p0 = (3 : Int32)
        · skip
          refine GoesW.step (fun _ k => XS.icmpNo X0.here hx rfl (hb hby d1_28) rfl (teq hk3).2 k) ?_
          show GoesW p.tables e below s (Q1 Z p0 x_CONNECT x_CONNACK x_PUBLISH x_PUBACK x_PUBREC x_PUBREL x_PUBCOMP x_SUBSCRIBE x_SUBACK x_UNSUBSCRIBE x_UNSUBACK x_PINGREQ x_PINGRESP x_DISCONNECT x_AUTH h0 n0) 0 0 (s₁.setTop (mkF m 31 #[.val (.int p0)] []))
          obtain ⟨T4, X4, e4, st4⟩ := getS2 X0 hx hZ hown (host := "") (Or.inl (hw _ (List.mem_of_getElem? (i := 17) rfl))) Via.refl e0 S_PUBACK (g := (mkF m 31 #[.val (.int p0)] [])) rfl (hb hby d1_31)
          refine GoesW.step st4 ?_
          show GoesW p.tables e below s (Q1 Z p0 x_CONNECT x_CONNACK x_PUBLISH x_PUBACK x_PUBREC x_PUBREL x_PUBCOMP x_SUBSCRIBE x_SUBACK x_UNSUBSCRIBE x_UNSUBACK x_PINGREQ x_PINGRESP x_DISCONNECT x_AUTH h0 n0) 0 0 (T4.setTop (mkF m 34 #[.val (.int p0)] [(.ref x_PUBACK)]))
          exact GoesW.retA X4 hx hlk Bd.returns rfl rfl (hb hby d1_34) (by show Q1 Z p0 x_CONNECT x_CONNACK x_PUBLISH x_PUBACK x_PUBREC x_PUBREL x_PUBCOMP x_SUBSCRIBE x_SUBACK x_UNSUBSCRIBE x_UNSUBACK x_PINGREQ x_PINGRESP x_DISCONNECT x_AUTH h0 n0 _ T4.heap _; rw [e4]; exact ⟨⟨_, rfl, E_PUBACK, (by rw [show own_fl p0 = (0 : Int32) from (by subst hk3; decide)]; exact F_PUBACK)⟩, N0, rfl⟩) (by decide) (by decide)
        · skip
          refine GoesW.step (fun _ k => XS.icmpYes X0.here hx rfl (pc0 := 28) (pc' := 35) rfl (hb hby d1_28) rfl (feq hk3).2 (by decide) (by decide) k) ?_
          show GoesW p.tables e below s (Q1 Z p0 x_CONNECT x_CONNACK x_PUBLISH x_PUBACK x_PUBREC x_PUBREL x_PUBCOMP x_SUBSCRIBE x_SUBACK x_UNSUBSCRIBE x_UNSUBACK x_PINGREQ x_PINGRESP x_DISCONNECT x_AUTH h0 n0) 0 0 (s₁.setTop (mkF m 35 #[.val (.int p0)] []))
          refine GoesW.step (fun _ k => XS.iloadN X0.here hx rfl (hb hby d1_35) rfl k) ?_
          show GoesW p.tables e below s (Q1 Z p0 x_CONNECT x_CONNACK x_PUBLISH x_PUBACK x_PUBREC x_PUBREL x_PUBCOMP x_SUBSCRIBE x_SUBACK x_UNSUBSCRIBE x_UNSUBACK x_PINGREQ x_PINGRESP x_DISCONNECT x_AUTH h0 n0) 0 0 (s₁.setTop (mkF m 36 #[.val (.int p0)] [(.int p0)]))
          refine GoesW.step (fun _ k => XS.iconst X0.here hx rfl (hb hby d1_36) k) ?_
          show GoesW p.tables e below s (Q1 Z p0 x_CONNECT x_CONNACK x_PUBLISH x_PUBACK x_PUBREC x_PUBREL x_PUBCOMP x_SUBSCRIBE x_SUBACK x_UNSUBSCRIBE x_UNSUBACK x_PINGREQ x_PINGRESP x_DISCONNECT x_AUTH h0 n0) 0 0 (s₁.setTop (mkF m 37 #[.val (.int p0)] [(.int (4 : Int32)), (.int p0)]))
          by_cases hk4 : p0 = (4 : Int32)
          · skip
            refine GoesW.step (fun _ k => XS.icmpNo X0.here hx rfl (hb hby d1_37) rfl (teq hk4).2 k) ?_
            show GoesW p.tables e below s (Q1 Z p0 x_CONNECT x_CONNACK x_PUBLISH x_PUBACK x_PUBREC x_PUBREL x_PUBCOMP x_SUBSCRIBE x_SUBACK x_UNSUBSCRIBE x_UNSUBACK x_PINGREQ x_PINGRESP x_DISCONNECT x_AUTH h0 n0) 0 0 (s₁.setTop (mkF m 40 #[.val (.int p0)] []))
            obtain ⟨T5, X5, e5, st5⟩ := getS2 X0 hx hZ hown (host := "") (Or.inl (hw _ (List.mem_of_getElem? (i := 23) rfl))) Via.refl e0 S_PUBREC (g := (mkF m 40 #[.val (.int p0)] [])) rfl (hb hby d1_40)
            refine GoesW.step st5 ?_
            show GoesW p.tables e below s (Q1 Z p0 x_CONNECT x_CONNACK x_PUBLISH x_PUBACK x_PUBREC x_PUBREL x_PUBCOMP x_SUBSCRIBE x_SUBACK x_UNSUBSCRIBE x_UNSUBACK x_PINGREQ x_PINGRESP x_DISCONNECT x_AUTH h0 n0) 0 0 (T5.setTop (mkF m 43 #[.val (.int p0)] [(.ref x_PUBREC)]))
            exact GoesW.retA X5 hx hlk Bd.returns rfl rfl (hb hby d1_43) (by show Q1 Z p0 x_CONNECT x_CONNACK x_PUBLISH x_PUBACK x_PUBREC x_PUBREL x_PUBCOMP x_SUBSCRIBE x_SUBACK x_UNSUBSCRIBE x_UNSUBACK x_PINGREQ x_PINGRESP x_DISCONNECT x_AUTH h0 n0 _ T5.heap _; rw [e5]; exact ⟨⟨_, rfl, E_PUBREC, (by rw [show own_fl p0 = (0 : Int32) from (by subst hk4; decide)]; exact F_PUBREC)⟩, N0, rfl⟩) (by decide) (by decide)
          · skip
            refine GoesW.step (fun _ k => XS.icmpYes X0.here hx rfl (pc0 := 37) (pc' := 44) rfl (hb hby d1_37) rfl (feq hk4).2 (by decide) (by decide) k) ?_
            show GoesW p.tables e below s (Q1 Z p0 x_CONNECT x_CONNACK x_PUBLISH x_PUBACK x_PUBREC x_PUBREL x_PUBCOMP x_SUBSCRIBE x_SUBACK x_UNSUBSCRIBE x_UNSUBACK x_PINGREQ x_PINGRESP x_DISCONNECT x_AUTH h0 n0) 0 0 (s₁.setTop (mkF m 44 #[.val (.int p0)] []))
            refine GoesW.step (fun _ k => XS.iloadN X0.here hx rfl (hb hby d1_44) rfl k) ?_
            show GoesW p.tables e below s (Q1 Z p0 x_CONNECT x_CONNACK x_PUBLISH x_PUBACK x_PUBREC x_PUBREL x_PUBCOMP x_SUBSCRIBE x_SUBACK x_UNSUBSCRIBE x_UNSUBACK x_PINGREQ x_PINGRESP x_DISCONNECT x_AUTH h0 n0) 0 0 (s₁.setTop (mkF m 45 #[.val (.int p0)] [(.int p0)]))
            refine GoesW.step (fun _ k => XS.iconst X0.here hx rfl (hb hby d1_45) k) ?_
            show GoesW p.tables e below s (Q1 Z p0 x_CONNECT x_CONNACK x_PUBLISH x_PUBACK x_PUBREC x_PUBREL x_PUBCOMP x_SUBSCRIBE x_SUBACK x_UNSUBSCRIBE x_UNSUBACK x_PINGREQ x_PINGRESP x_DISCONNECT x_AUTH h0 n0) 0 0 (s₁.setTop (mkF m 46 #[.val (.int p0)] [(.int (5 : Int32)), (.int p0)]))
            by_cases hk5 : p0 = (5 : Int32)
            · skip
              refine GoesW.step (fun _ k => XS.icmpNo X0.here hx rfl (hb hby d1_46) rfl (teq hk5).2 k) ?_
              show GoesW p.tables e below s (Q1 Z p0 x_CONNECT x_CONNACK x_PUBLISH x_PUBACK x_PUBREC x_PUBREL x_PUBCOMP x_SUBSCRIBE x_SUBACK x_UNSUBSCRIBE x_UNSUBACK x_PINGREQ x_PINGRESP x_DISCONNECT x_AUTH h0 n0) 0 0 (s₁.setTop (mkF m 49 #[.val (.int p0)] []))
              obtain ⟨T6, X6, e6, st6⟩ := getS2 X0 hx hZ hown (host := "") (Or.inl (hw _ (List.mem_of_getElem? (i := 39) rfl))) Via.refl e0 S_PUBREL (g := (mkF m 49 #[.val (.int p0)] [])) rfl (hb hby d1_49)
              refine GoesW.step st6 ?_
              show GoesW p.tables e below s (Q1 Z p0 x_CONNECT x_CONNACK x_PUBLISH x_PUBACK x_PUBREC x_PUBREL x_PUBCOMP x_SUBSCRIBE x_SUBACK x_UNSUBSCRIBE x_UNSUBACK x_PINGREQ x_PINGRESP x_DISCONNECT x_AUTH h0 n0) 0 0 (T6.setTop (mkF m 52 #[.val (.int p0)] [(.ref x_PUBREL)]))
              exact GoesW.retA X6 hx hlk Bd.returns rfl rfl (hb hby d1_52) (by show Q1 Z p0 x_CONNECT x_CONNACK x_PUBLISH x_PUBACK x_PUBREC x_PUBREL x_PUBCOMP x_SUBSCRIBE x_SUBACK x_UNSUBSCRIBE x_UNSUBACK x_PINGREQ x_PINGRESP x_DISCONNECT x_AUTH h0 n0 _ T6.heap _; rw [e6]; exact ⟨⟨_, rfl, E_PUBREL, (by rw [show own_fl p0 = (2 : Int32) from (by subst hk5; decide)]; exact F_PUBREL)⟩, N0, rfl⟩) (by decide) (by decide)
            · skip
              refine GoesW.step (fun _ k => XS.icmpYes X0.here hx rfl (pc0 := 46) (pc' := 53) rfl (hb hby d1_46) rfl (feq hk5).2 (by decide) (by decide) k) ?_
              show GoesW p.tables e below s (Q1 Z p0 x_CONNECT x_CONNACK x_PUBLISH x_PUBACK x_PUBREC x_PUBREL x_PUBCOMP x_SUBSCRIBE x_SUBACK x_UNSUBSCRIBE x_UNSUBACK x_PINGREQ x_PINGRESP x_DISCONNECT x_AUTH h0 n0) 0 0 (s₁.setTop (mkF m 53 #[.val (.int p0)] []))
              refine GoesW.step (fun _ k => XS.iloadN X0.here hx rfl (hb hby d1_53) rfl k) ?_
              show GoesW p.tables e below s (Q1 Z p0 x_CONNECT x_CONNACK x_PUBLISH x_PUBACK x_PUBREC x_PUBREL x_PUBCOMP x_SUBSCRIBE x_SUBACK x_UNSUBSCRIBE x_UNSUBACK x_PINGREQ x_PINGRESP x_DISCONNECT x_AUTH h0 n0) 0 0 (s₁.setTop (mkF m 54 #[.val (.int p0)] [(.int p0)]))
              refine GoesW.step (fun _ k => XS.bipush X0.here hx rfl (hb hby d1_54) k) ?_
              show GoesW p.tables e below s (Q1 Z p0 x_CONNECT x_CONNACK x_PUBLISH x_PUBACK x_PUBREC x_PUBREL x_PUBCOMP x_SUBSCRIBE x_SUBACK x_UNSUBSCRIBE x_UNSUBACK x_PINGREQ x_PINGRESP x_DISCONNECT x_AUTH h0 n0) 0 0 (s₁.setTop (mkF m 56 #[.val (.int p0)] [(.int (6 : Int32)), (.int p0)]))
              by_cases hk6 : p0 = (6 : Int32)
              · skip
                refine GoesW.step (fun _ k => XS.icmpNo X0.here hx rfl (hb hby d1_56) rfl (teq hk6).2 k) ?_
                show GoesW p.tables e below s (Q1 Z p0 x_CONNECT x_CONNACK x_PUBLISH x_PUBACK x_PUBREC x_PUBREL x_PUBCOMP x_SUBSCRIBE x_SUBACK x_UNSUBSCRIBE x_UNSUBACK x_PINGREQ x_PINGRESP x_DISCONNECT x_AUTH h0 n0) 0 0 (s₁.setTop (mkF m 59 #[.val (.int p0)] []))
                obtain ⟨T7, X7, e7, st7⟩ := getS2 X0 hx hZ hown (host := "") (Or.inl (hw _ (List.mem_of_getElem? (i := 25) rfl))) Via.refl e0 S_PUBCOMP (g := (mkF m 59 #[.val (.int p0)] [])) rfl (hb hby d1_59)
                refine GoesW.step st7 ?_
                show GoesW p.tables e below s (Q1 Z p0 x_CONNECT x_CONNACK x_PUBLISH x_PUBACK x_PUBREC x_PUBREL x_PUBCOMP x_SUBSCRIBE x_SUBACK x_UNSUBSCRIBE x_UNSUBACK x_PINGREQ x_PINGRESP x_DISCONNECT x_AUTH h0 n0) 0 0 (T7.setTop (mkF m 62 #[.val (.int p0)] [(.ref x_PUBCOMP)]))
                exact GoesW.retA X7 hx hlk Bd.returns rfl rfl (hb hby d1_62) (by show Q1 Z p0 x_CONNECT x_CONNACK x_PUBLISH x_PUBACK x_PUBREC x_PUBREL x_PUBCOMP x_SUBSCRIBE x_SUBACK x_UNSUBSCRIBE x_UNSUBACK x_PINGREQ x_PINGRESP x_DISCONNECT x_AUTH h0 n0 _ T7.heap _; rw [e7]; exact ⟨⟨_, rfl, E_PUBCOMP, (by rw [show own_fl p0 = (0 : Int32) from (by subst hk6; decide)]; exact F_PUBCOMP)⟩, N0, rfl⟩) (by decide) (by decide)
              · skip
                refine GoesW.step (fun _ k => XS.icmpYes X0.here hx rfl (pc0 := 56) (pc' := 63) rfl (hb hby d1_56) rfl (feq hk6).2 (by decide) (by decide) k) ?_
                show GoesW p.tables e below s (Q1 Z p0 x_CONNECT x_CONNACK x_PUBLISH x_PUBACK x_PUBREC x_PUBREL x_PUBCOMP x_SUBSCRIBE x_SUBACK x_UNSUBSCRIBE x_UNSUBACK x_PINGREQ x_PINGRESP x_DISCONNECT x_AUTH h0 n0) 0 0 (s₁.setTop (mkF m 63 #[.val (.int p0)] []))
                refine GoesW.step (fun _ k => XS.iloadN X0.here hx rfl (hb hby d1_63) rfl k) ?_
                show GoesW p.tables e below s (Q1 Z p0 x_CONNECT x_CONNACK x_PUBLISH x_PUBACK x_PUBREC x_PUBREL x_PUBCOMP x_SUBSCRIBE x_SUBACK x_UNSUBSCRIBE x_UNSUBACK x_PINGREQ x_PINGRESP x_DISCONNECT x_AUTH h0 n0) 0 0 (s₁.setTop (mkF m 64 #[.val (.int p0)] [(.int p0)]))
                refine GoesW.step (fun _ k => XS.bipush X0.here hx rfl (hb hby d1_64) k) ?_
                show GoesW p.tables e below s (Q1 Z p0 x_CONNECT x_CONNACK x_PUBLISH x_PUBACK x_PUBREC x_PUBREL x_PUBCOMP x_SUBSCRIBE x_SUBACK x_UNSUBSCRIBE x_UNSUBACK x_PINGREQ x_PINGRESP x_DISCONNECT x_AUTH h0 n0) 0 0 (s₁.setTop (mkF m 66 #[.val (.int p0)] [(.int (7 : Int32)), (.int p0)]))
                by_cases hk7 : p0 = (7 : Int32)
                · skip
                  refine GoesW.step (fun _ k => XS.icmpNo X0.here hx rfl (hb hby d1_66) rfl (teq hk7).2 k) ?_
                  show GoesW p.tables e below s (Q1 Z p0 x_CONNECT x_CONNACK x_PUBLISH x_PUBACK x_PUBREC x_PUBREL x_PUBCOMP x_SUBSCRIBE x_SUBACK x_UNSUBSCRIBE x_UNSUBACK x_PINGREQ x_PINGRESP x_DISCONNECT x_AUTH h0 n0) 0 0 (s₁.setTop (mkF m 69 #[.val (.int p0)] []))
                  obtain ⟨T8, X8, e8, st8⟩ := getS2 X0 hx hZ hown (host := "") (Or.inl (hw _ (List.mem_of_getElem? (i := 33) rfl))) Via.refl e0 S_SUBSCRIBE (g := (mkF m 69 #[.val (.int p0)] [])) rfl (hb hby d1_69)
                  refine GoesW.step st8 ?_
                  show GoesW p.tables e below s (Q1 Z p0 x_CONNECT x_CONNACK x_PUBLISH x_PUBACK x_PUBREC x_PUBREL x_PUBCOMP x_SUBSCRIBE x_SUBACK x_UNSUBSCRIBE x_UNSUBACK x_PINGREQ x_PINGRESP x_DISCONNECT x_AUTH h0 n0) 0 0 (T8.setTop (mkF m 72 #[.val (.int p0)] [(.ref x_SUBSCRIBE)]))
                  exact GoesW.retA X8 hx hlk Bd.returns rfl rfl (hb hby d1_72) (by show Q1 Z p0 x_CONNECT x_CONNACK x_PUBLISH x_PUBACK x_PUBREC x_PUBREL x_PUBCOMP x_SUBSCRIBE x_SUBACK x_UNSUBSCRIBE x_UNSUBACK x_PINGREQ x_PINGRESP x_DISCONNECT x_AUTH h0 n0 _ T8.heap _; rw [e8]; exact ⟨⟨_, rfl, E_SUBSCRIBE, (by rw [show own_fl p0 = (2 : Int32) from (by subst hk7; decide)]; exact F_SUBSCRIBE)⟩, N0, rfl⟩) (by decide) (by decide)
                · skip
                  refine GoesW.step (fun _ k => XS.icmpYes X0.here hx rfl (pc0 := 66) (pc' := 73) rfl (hb hby d1_66) rfl (feq hk7).2 (by decide) (by decide) k) ?_
                  show GoesW p.tables e below s (Q1 Z p0 x_CONNECT x_CONNACK x_PUBLISH x_PUBACK x_PUBREC x_PUBREL x_PUBCOMP x_SUBSCRIBE x_SUBACK x_UNSUBSCRIBE x_UNSUBACK x_PINGREQ x_PINGRESP x_DISCONNECT x_AUTH h0 n0) 0 0 (s₁.setTop (mkF m 73 #[.val (.int p0)] []))
                  refine GoesW.step (fun _ k => XS.iloadN X0.here hx rfl (hb hby d1_73) rfl k) ?_
                  show GoesW p.tables e below s (Q1 Z p0 x_CONNECT x_CONNACK x_PUBLISH x_PUBACK x_PUBREC x_PUBREL x_PUBCOMP x_SUBSCRIBE x_SUBACK x_UNSUBSCRIBE x_UNSUBACK x_PINGREQ x_PINGRESP x_DISCONNECT x_AUTH h0 n0) 0 0 (s₁.setTop (mkF m 74 #[.val (.int p0)] [(.int p0)]))
                  refine GoesW.step (fun _ k => XS.bipush X0.here hx rfl (hb hby d1_74) k) ?_
                  show GoesW p.tables e below s (Q1 Z p0 x_CONNECT x_CONNACK x_PUBLISH x_PUBACK x_PUBREC x_PUBREL x_PUBCOMP x_SUBSCRIBE x_SUBACK x_UNSUBSCRIBE x_UNSUBACK x_PINGREQ x_PINGRESP x_DISCONNECT x_AUTH h0 n0) 0 0 (s₁.setTop (mkF m 76 #[.val (.int p0)] [(.int (8 : Int32)), (.int p0)]))
                  by_cases hk8 : p0 = (8 : Int32)
                  · skip
                    refine GoesW.step (fun _ k => XS.icmpNo X0.here hx rfl (hb hby d1_76) rfl (teq hk8).2 k) ?_
                    show GoesW p.tables e below s (Q1 Z p0 x_CONNECT x_CONNACK x_PUBLISH x_PUBACK x_PUBREC x_PUBREL x_PUBCOMP x_SUBSCRIBE x_SUBACK x_UNSUBSCRIBE x_UNSUBACK x_PINGREQ x_PINGRESP x_DISCONNECT x_AUTH h0 n0) 0 0 (s₁.setTop (mkF m 79 #[.val (.int p0)] []))
                    obtain ⟨T9, X9, e9, st9⟩ := getS2 X0 hx hZ hown (host := "") (Or.inl (hw _ (List.mem_of_getElem? (i := 27) rfl))) Via.refl e0 S_SUBACK (g := (mkF m 79 #[.val (.int p0)] [])) rfl (hb hby d1_79)
                    refine GoesW.step st9 ?_
                    show GoesW p.tables e below s (Q1 Z p0 x_CONNECT x_CONNACK x_PUBLISH x_PUBACK x_PUBREC x_PUBREL x_PUBCOMP x_SUBSCRIBE x_SUBACK x_UNSUBSCRIBE x_UNSUBACK x_PINGREQ x_PINGRESP x_DISCONNECT x_AUTH h0 n0) 0 0 (T9.setTop (mkF m 82 #[.val (.int p0)] [(.ref x_SUBACK)]))
                    exact GoesW.retA X9 hx hlk Bd.returns rfl rfl (hb hby d1_82) (by show Q1 Z p0 x_CONNECT x_CONNACK x_PUBLISH x_PUBACK x_PUBREC x_PUBREL x_PUBCOMP x_SUBSCRIBE x_SUBACK x_UNSUBSCRIBE x_UNSUBACK x_PINGREQ x_PINGRESP x_DISCONNECT x_AUTH h0 n0 _ T9.heap _; rw [e9]; exact ⟨⟨_, rfl, E_SUBACK, (by rw [show own_fl p0 = (0 : Int32) from (by subst hk8; decide)]; exact F_SUBACK)⟩, N0, rfl⟩) (by decide) (by decide)
                  · skip
                    refine GoesW.step (fun _ k => XS.icmpYes X0.here hx rfl (pc0 := 76) (pc' := 83) rfl (hb hby d1_76) rfl (feq hk8).2 (by decide) (by decide) k) ?_
                    show GoesW p.tables e below s (Q1 Z p0 x_CONNECT x_CONNACK x_PUBLISH x_PUBACK x_PUBREC x_PUBREL x_PUBCOMP x_SUBSCRIBE x_SUBACK x_UNSUBSCRIBE x_UNSUBACK x_PINGREQ x_PINGRESP x_DISCONNECT x_AUTH h0 n0) 0 0 (s₁.setTop (mkF m 83 #[.val (.int p0)] []))
                    refine GoesW.step (fun _ k => XS.iloadN X0.here hx rfl (hb hby d1_83) rfl k) ?_
                    show GoesW p.tables e below s (Q1 Z p0 x_CONNECT x_CONNACK x_PUBLISH x_PUBACK x_PUBREC x_PUBREL x_PUBCOMP x_SUBSCRIBE x_SUBACK x_UNSUBSCRIBE x_UNSUBACK x_PINGREQ x_PINGRESP x_DISCONNECT x_AUTH h0 n0) 0 0 (s₁.setTop (mkF m 84 #[.val (.int p0)] [(.int p0)]))
                    refine GoesW.step (fun _ k => XS.bipush X0.here hx rfl (hb hby d1_84) k) ?_
                    show GoesW p.tables e below s (Q1 Z p0 x_CONNECT x_CONNACK x_PUBLISH x_PUBACK x_PUBREC x_PUBREL x_PUBCOMP x_SUBSCRIBE x_SUBACK x_UNSUBSCRIBE x_UNSUBACK x_PINGREQ x_PINGRESP x_DISCONNECT x_AUTH h0 n0) 0 0 (s₁.setTop (mkF m 86 #[.val (.int p0)] [(.int (9 : Int32)), (.int p0)]))
                    by_cases hk9 : p0 = (9 : Int32)
                    · skip
                      refine GoesW.step (fun _ k => XS.icmpNo X0.here hx rfl (hb hby d1_86) rfl (teq hk9).2 k) ?_
                      show GoesW p.tables e below s (Q1 Z p0 x_CONNECT x_CONNACK x_PUBLISH x_PUBACK x_PUBREC x_PUBREL x_PUBCOMP x_SUBSCRIBE x_SUBACK x_UNSUBSCRIBE x_UNSUBACK x_PINGREQ x_PINGRESP x_DISCONNECT x_AUTH h0 n0) 0 0 (s₁.setTop (mkF m 89 #[.val (.int p0)] []))
                      obtain ⟨T10, X10, e10, st10⟩ := getS2 X0 hx hZ hown (host := "") (Or.inl (hw _ (List.mem_of_getElem? (i := 31) rfl))) Via.refl e0 S_UNSUBSCRIBE (g := (mkF m 89 #[.val (.int p0)] [])) rfl (hb hby d1_89)
                      refine GoesW.step st10 ?_
                      show GoesW p.tables e below s (Q1 Z p0 x_CONNECT x_CONNACK x_PUBLISH x_PUBACK x_PUBREC x_PUBREL x_PUBCOMP x_SUBSCRIBE x_SUBACK x_UNSUBSCRIBE x_UNSUBACK x_PINGREQ x_PINGRESP x_DISCONNECT x_AUTH h0 n0) 0 0 (T10.setTop (mkF m 92 #[.val (.int p0)] [(.ref x_UNSUBSCRIBE)]))
                      exact GoesW.retA X10 hx hlk Bd.returns rfl rfl (hb hby d1_92) (by show Q1 Z p0 x_CONNECT x_CONNACK x_PUBLISH x_PUBACK x_PUBREC x_PUBREL x_PUBCOMP x_SUBSCRIBE x_SUBACK x_UNSUBSCRIBE x_UNSUBACK x_PINGREQ x_PINGRESP x_DISCONNECT x_AUTH h0 n0 _ T10.heap _; rw [e10]; exact ⟨⟨_, rfl, E_UNSUBSCRIBE, (by rw [show own_fl p0 = (2 : Int32) from (by subst hk9; decide)]; exact F_UNSUBSCRIBE)⟩, N0, rfl⟩) (by decide) (by decide)
                    · skip
                      refine GoesW.step (fun _ k => XS.icmpYes X0.here hx rfl (pc0 := 86) (pc' := 93) rfl (hb hby d1_86) rfl (feq hk9).2 (by decide) (by decide) k) ?_
                      show GoesW p.tables e below s (Q1 Z p0 x_CONNECT x_CONNACK x_PUBLISH x_PUBACK x_PUBREC x_PUBREL x_PUBCOMP x_SUBSCRIBE x_SUBACK x_UNSUBSCRIBE x_UNSUBACK x_PINGREQ x_PINGRESP x_DISCONNECT x_AUTH h0 n0) 0 0 (s₁.setTop (mkF m 93 #[.val (.int p0)] []))
                      refine GoesW.step (fun _ k => XS.iloadN X0.here hx rfl (hb hby d1_93) rfl k) ?_
                      show GoesW p.tables e below s (Q1 Z p0 x_CONNECT x_CONNACK x_PUBLISH x_PUBACK x_PUBREC x_PUBREL x_PUBCOMP x_SUBSCRIBE x_SUBACK x_UNSUBSCRIBE x_UNSUBACK x_PINGREQ x_PINGRESP x_DISCONNECT x_AUTH h0 n0) 0 0 (s₁.setTop (mkF m 94 #[.val (.int p0)] [(.int p0)]))
                      refine GoesW.step (fun _ k => XS.bipush X0.here hx rfl (hb hby d1_94) k) ?_
                      show GoesW p.tables e below s (Q1 Z p0 x_CONNECT x_CONNACK x_PUBLISH x_PUBACK x_PUBREC x_PUBREL x_PUBCOMP x_SUBSCRIBE x_SUBACK x_UNSUBSCRIBE x_UNSUBACK x_PINGREQ x_PINGRESP x_DISCONNECT x_AUTH h0 n0) 0 0 (s₁.setTop (mkF m 96 #[.val (.int p0)] [(.int (10 : Int32)), (.int p0)]))
                      by_cases hk10 : p0 = (10 : Int32)
                      · skip
                        refine GoesW.step (fun _ k => XS.icmpNo X0.here hx rfl (hb hby d1_96) rfl (teq hk10).2 k) ?_
                        show GoesW p.tables e below s (Q1 Z p0 x_CONNECT x_CONNACK x_PUBLISH x_PUBACK x_PUBREC x_PUBREL x_PUBCOMP x_SUBSCRIBE x_SUBACK x_UNSUBSCRIBE x_UNSUBACK x_PINGREQ x_PINGRESP x_DISCONNECT x_AUTH h0 n0) 0 0 (s₁.setTop (mkF m 99 #[.val (.int p0)] []))
                        obtain ⟨T11, X11, e11, st11⟩ := getS2 X0 hx hZ hown (host := "") (Or.inl (hw _ (List.mem_of_getElem? (i := 37) rfl))) Via.refl e0 S_UNSUBACK (g := (mkF m 99 #[.val (.int p0)] [])) rfl (hb hby d1_99)
                        refine GoesW.step st11 ?_
                        show GoesW p.tables e below s (Q1 Z p0 x_CONNECT x_CONNACK x_PUBLISH x_PUBACK x_PUBREC x_PUBREL x_PUBCOMP x_SUBSCRIBE x_SUBACK x_UNSUBSCRIBE x_UNSUBACK x_PINGREQ x_PINGRESP x_DISCONNECT x_AUTH h0 n0) 0 0 (T11.setTop (mkF m 102 #[.val (.int p0)] [(.ref x_UNSUBACK)]))
                        exact GoesW.retA X11 hx hlk Bd.returns rfl rfl (hb hby d1_102) (by show Q1 Z p0 x_CONNECT x_CONNACK x_PUBLISH x_PUBACK x_PUBREC x_PUBREL x_PUBCOMP x_SUBSCRIBE x_SUBACK x_UNSUBSCRIBE x_UNSUBACK x_PINGREQ x_PINGRESP x_DISCONNECT x_AUTH h0 n0 _ T11.heap _; rw [e11]; exact ⟨⟨_, rfl, E_UNSUBACK, (by rw [show own_fl p0 = (0 : Int32) from (by subst hk10; decide)]; exact F_UNSUBACK)⟩, N0, rfl⟩) (by decide) (by decide)
                      · skip
                        refine GoesW.step (fun _ k => XS.icmpYes X0.here hx rfl (pc0 := 96) (pc' := 103) rfl (hb hby d1_96) rfl (feq hk10).2 (by decide) (by decide) k) ?_
                        show GoesW p.tables e below s (Q1 Z p0 x_CONNECT x_CONNACK x_PUBLISH x_PUBACK x_PUBREC x_PUBREL x_PUBCOMP x_SUBSCRIBE x_SUBACK x_UNSUBSCRIBE x_UNSUBACK x_PINGREQ x_PINGRESP x_DISCONNECT x_AUTH h0 n0) 0 0 (s₁.setTop (mkF m 103 #[.val (.int p0)] []))
                        refine GoesW.step (fun _ k => XS.iloadN X0.here hx rfl (hb hby d1_103) rfl k) ?_
                        show GoesW p.tables e below s (Q1 Z p0 x_CONNECT x_CONNACK x_PUBLISH x_PUBACK x_PUBREC x_PUBREL x_PUBCOMP x_SUBSCRIBE x_SUBACK x_UNSUBSCRIBE x_UNSUBACK x_PINGREQ x_PINGRESP x_DISCONNECT x_AUTH h0 n0) 0 0 (s₁.setTop (mkF m 104 #[.val (.int p0)] [(.int p0)]))
                        refine GoesW.step (fun _ k => XS.bipush X0.here hx rfl (hb hby d1_104) k) ?_
                        show GoesW p.tables e below s (Q1 Z p0 x_CONNECT x_CONNACK x_PUBLISH x_PUBACK x_PUBREC x_PUBREL x_PUBCOMP x_SUBSCRIBE x_SUBACK x_UNSUBSCRIBE x_UNSUBACK x_PINGREQ x_PINGRESP x_DISCONNECT x_AUTH h0 n0) 0 0 (s₁.setTop (mkF m 106 #[.val (.int p0)] [(.int (11 : Int32)), (.int p0)]))
                        by_cases hk11 : p0 = (11 : Int32)
                        · skip
                          refine GoesW.step (fun _ k => XS.icmpNo X0.here hx rfl (hb hby d1_106) rfl (teq hk11).2 k) ?_
                          show GoesW p.tables e below s (Q1 Z p0 x_CONNECT x_CONNACK x_PUBLISH x_PUBACK x_PUBREC x_PUBREL x_PUBCOMP x_SUBSCRIBE x_SUBACK x_UNSUBSCRIBE x_UNSUBACK x_PINGREQ x_PINGRESP x_DISCONNECT x_AUTH h0 n0) 0 0 (s₁.setTop (mkF m 109 #[.val (.int p0)] []))
                          obtain ⟨T12, X12, e12, st12⟩ := getS2 X0 hx hZ hown (host := "") (Or.inl (hw _ (List.mem_of_getElem? (i := 19) rfl))) Via.refl e0 S_PINGREQ (g := (mkF m 109 #[.val (.int p0)] [])) rfl (hb hby d1_109)
                          refine GoesW.step st12 ?_
                          show GoesW p.tables e below s (Q1 Z p0 x_CONNECT x_CONNACK x_PUBLISH x_PUBACK x_PUBREC x_PUBREL x_PUBCOMP x_SUBSCRIBE x_SUBACK x_UNSUBSCRIBE x_UNSUBACK x_PINGREQ x_PINGRESP x_DISCONNECT x_AUTH h0 n0) 0 0 (T12.setTop (mkF m 112 #[.val (.int p0)] [(.ref x_PINGREQ)]))
                          exact GoesW.retA X12 hx hlk Bd.returns rfl rfl (hb hby d1_112) (by show Q1 Z p0 x_CONNECT x_CONNACK x_PUBLISH x_PUBACK x_PUBREC x_PUBREL x_PUBCOMP x_SUBSCRIBE x_SUBACK x_UNSUBSCRIBE x_UNSUBACK x_PINGREQ x_PINGRESP x_DISCONNECT x_AUTH h0 n0 _ T12.heap _; rw [e12]; exact ⟨⟨_, rfl, E_PINGREQ, (by rw [show own_fl p0 = (0 : Int32) from (by subst hk11; decide)]; exact F_PINGREQ)⟩, N0, rfl⟩) (by decide) (by decide)
                        · skip
                          refine GoesW.step (fun _ k => XS.icmpYes X0.here hx rfl (pc0 := 106) (pc' := 113) rfl (hb hby d1_106) rfl (feq hk11).2 (by decide) (by decide) k) ?_
                          show GoesW p.tables e below s (Q1 Z p0 x_CONNECT x_CONNACK x_PUBLISH x_PUBACK x_PUBREC x_PUBREL x_PUBCOMP x_SUBSCRIBE x_SUBACK x_UNSUBSCRIBE x_UNSUBACK x_PINGREQ x_PINGRESP x_DISCONNECT x_AUTH h0 n0) 0 0 (s₁.setTop (mkF m 113 #[.val (.int p0)] []))
                          refine GoesW.step (fun _ k => XS.iloadN X0.here hx rfl (hb hby d1_113) rfl k) ?_
                          show GoesW p.tables e below s (Q1 Z p0 x_CONNECT x_CONNACK x_PUBLISH x_PUBACK x_PUBREC x_PUBREL x_PUBCOMP x_SUBSCRIBE x_SUBACK x_UNSUBSCRIBE x_UNSUBACK x_PINGREQ x_PINGRESP x_DISCONNECT x_AUTH h0 n0) 0 0 (s₁.setTop (mkF m 114 #[.val (.int p0)] [(.int p0)]))
                          refine GoesW.step (fun _ k => XS.bipush X0.here hx rfl (hb hby d1_114) k) ?_
                          show GoesW p.tables e below s (Q1 Z p0 x_CONNECT x_CONNACK x_PUBLISH x_PUBACK x_PUBREC x_PUBREL x_PUBCOMP x_SUBSCRIBE x_SUBACK x_UNSUBSCRIBE x_UNSUBACK x_PINGREQ x_PINGRESP x_DISCONNECT x_AUTH h0 n0) 0 0 (s₁.setTop (mkF m 116 #[.val (.int p0)] [(.int (12 : Int32)), (.int p0)]))
                          by_cases hk12 : p0 = (12 : Int32)
                          · skip
                            refine GoesW.step (fun _ k => XS.icmpNo X0.here hx rfl (hb hby d1_116) rfl (teq hk12).2 k) ?_
                            show GoesW p.tables e below s (Q1 Z p0 x_CONNECT x_CONNACK x_PUBLISH x_PUBACK x_PUBREC x_PUBREL x_PUBCOMP x_SUBSCRIBE x_SUBACK x_UNSUBSCRIBE x_UNSUBACK x_PINGREQ x_PINGRESP x_DISCONNECT x_AUTH h0 n0) 0 0 (s₁.setTop (mkF m 119 #[.val (.int p0)] []))
                            obtain ⟨T13, X13, e13, st13⟩ := getS2 X0 hx hZ hown (host := "") (Or.inl (hw _ (List.mem_of_getElem? (i := 29) rfl))) Via.refl e0 S_PINGRESP (g := (mkF m 119 #[.val (.int p0)] [])) rfl (hb hby d1_119)
                            refine GoesW.step st13 ?_
                            show GoesW p.tables e below s (Q1 Z p0 x_CONNECT x_CONNACK x_PUBLISH x_PUBACK x_PUBREC x_PUBREL x_PUBCOMP x_SUBSCRIBE x_SUBACK x_UNSUBSCRIBE x_UNSUBACK x_PINGREQ x_PINGRESP x_DISCONNECT x_AUTH h0 n0) 0 0 (T13.setTop (mkF m 122 #[.val (.int p0)] [(.ref x_PINGRESP)]))
                            exact GoesW.retA X13 hx hlk Bd.returns rfl rfl (hb hby d1_122) (by show Q1 Z p0 x_CONNECT x_CONNACK x_PUBLISH x_PUBACK x_PUBREC x_PUBREL x_PUBCOMP x_SUBSCRIBE x_SUBACK x_UNSUBSCRIBE x_UNSUBACK x_PINGREQ x_PINGRESP x_DISCONNECT x_AUTH h0 n0 _ T13.heap _; rw [e13]; exact ⟨⟨_, rfl, E_PINGRESP, (by rw [show own_fl p0 = (0 : Int32) from (by subst hk12; decide)]; exact F_PINGRESP)⟩, N0, rfl⟩) (by decide) (by decide)
                          · skip
                            refine GoesW.step (fun _ k => XS.icmpYes X0.here hx rfl (pc0 := 116) (pc' := 123) rfl (hb hby d1_116) rfl (feq hk12).2 (by decide) (by decide) k) ?_
                            show GoesW p.tables e below s (Q1 Z p0 x_CONNECT x_CONNACK x_PUBLISH x_PUBACK x_PUBREC x_PUBREL x_PUBCOMP x_SUBSCRIBE x_SUBACK x_UNSUBSCRIBE x_UNSUBACK x_PINGREQ x_PINGRESP x_DISCONNECT x_AUTH h0 n0) 0 0 (s₁.setTop (mkF m 123 #[.val (.int p0)] []))
                            refine GoesW.step (fun _ k => XS.iloadN X0.here hx rfl (hb hby d1_123) rfl k) ?_
                            show GoesW p.tables e below s (Q1 Z p0 x_CONNECT x_CONNACK x_PUBLISH x_PUBACK x_PUBREC x_PUBREL x_PUBCOMP x_SUBSCRIBE x_SUBACK x_UNSUBSCRIBE x_UNSUBACK x_PINGREQ x_PINGRESP x_DISCONNECT x_AUTH h0 n0) 0 0 (s₁.setTop (mkF m 124 #[.val (.int p0)] [(.int p0)]))
                            refine GoesW.step (fun _ k => XS.bipush X0.here hx rfl (hb hby d1_124) k) ?_
                            show GoesW p.tables e below s (Q1 Z p0 x_CONNECT x_CONNACK x_PUBLISH x_PUBACK x_PUBREC x_PUBREL x_PUBCOMP x_SUBSCRIBE x_SUBACK x_UNSUBSCRIBE x_UNSUBACK x_PINGREQ x_PINGRESP x_DISCONNECT x_AUTH h0 n0) 0 0 (s₁.setTop (mkF m 126 #[.val (.int p0)] [(.int (13 : Int32)), (.int p0)]))
                            by_cases hk13 : p0 = (13 : Int32)
                            · skip
                              refine GoesW.step (fun _ k => XS.icmpNo X0.here hx rfl (hb hby d1_126) rfl (teq hk13).2 k) ?_
                              show GoesW p.tables e below s (Q1 Z p0 x_CONNECT x_CONNACK x_PUBLISH x_PUBACK x_PUBREC x_PUBREL x_PUBCOMP x_SUBSCRIBE x_SUBACK x_UNSUBSCRIBE x_UNSUBACK x_PINGREQ x_PINGRESP x_DISCONNECT x_AUTH h0 n0) 0 0 (s₁.setTop (mkF m 129 #[.val (.int p0)] []))
                              obtain ⟨T14, X14, e14, st14⟩ := getS2 X0 hx hZ hown (host := "") (Or.inl (hw _ (List.mem_of_getElem? (i := 41) rfl))) Via.refl e0 S_DISCONNECT (g := (mkF m 129 #[.val (.int p0)] [])) rfl (hb hby d1_129)
                              refine GoesW.step st14 ?_
                              show GoesW p.tables e below s (Q1 Z p0 x_CONNECT x_CONNACK x_PUBLISH x_PUBACK x_PUBREC x_PUBREL x_PUBCOMP x_SUBSCRIBE x_SUBACK x_UNSUBSCRIBE x_UNSUBACK x_PINGREQ x_PINGRESP x_DISCONNECT x_AUTH h0 n0) 0 0 (T14.setTop (mkF m 132 #[.val (.int p0)] [(.ref x_DISCONNECT)]))
                              exact GoesW.retA X14 hx hlk Bd.returns rfl rfl (hb hby d1_132) (by show Q1 Z p0 x_CONNECT x_CONNACK x_PUBLISH x_PUBACK x_PUBREC x_PUBREL x_PUBCOMP x_SUBSCRIBE x_SUBACK x_UNSUBSCRIBE x_UNSUBACK x_PINGREQ x_PINGRESP x_DISCONNECT x_AUTH h0 n0 _ T14.heap _; rw [e14]; exact ⟨⟨_, rfl, E_DISCONNECT, (by rw [show own_fl p0 = (0 : Int32) from (by subst hk13; decide)]; exact F_DISCONNECT)⟩, N0, rfl⟩) (by decide) (by decide)
                            · skip
                              refine GoesW.step (fun _ k => XS.icmpYes X0.here hx rfl (pc0 := 126) (pc' := 133) rfl (hb hby d1_126) rfl (feq hk13).2 (by decide) (by decide) k) ?_
                              show GoesW p.tables e below s (Q1 Z p0 x_CONNECT x_CONNACK x_PUBLISH x_PUBACK x_PUBREC x_PUBREL x_PUBCOMP x_SUBSCRIBE x_SUBACK x_UNSUBSCRIBE x_UNSUBACK x_PINGREQ x_PINGRESP x_DISCONNECT x_AUTH h0 n0) 0 0 (s₁.setTop (mkF m 133 #[.val (.int p0)] []))
                              obtain ⟨T15, X15, e15, st15⟩ := getS2 X0 hx hZ hown (host := "") (Or.inl (hw _ (List.mem_of_getElem? (i := 15) rfl))) Via.refl e0 S_AUTH (g := (mkF m 133 #[.val (.int p0)] [])) rfl (hb hby d1_133)
                              refine GoesW.step st15 ?_
                              show GoesW p.tables e below s (Q1 Z p0 x_CONNECT x_CONNACK x_PUBLISH x_PUBACK x_PUBREC x_PUBREL x_PUBCOMP x_SUBSCRIBE x_SUBACK x_UNSUBSCRIBE x_UNSUBACK x_PINGREQ x_PINGRESP x_DISCONNECT x_AUTH h0 n0) 0 0 (T15.setTop (mkF m 136 #[.val (.int p0)] [(.ref x_AUTH)]))
                              exact GoesW.retA X15 hx hlk Bd.returns rfl rfl (hb hby d1_136) (by show Q1 Z p0 x_CONNECT x_CONNACK x_PUBLISH x_PUBACK x_PUBREC x_PUBREL x_PUBCOMP x_SUBSCRIBE x_SUBACK x_UNSUBSCRIBE x_UNSUBACK x_PINGREQ x_PINGRESP x_DISCONNECT x_AUTH h0 n0 _ T15.heap _; rw [e15]; exact ⟨⟨_, rfl, E_AUTH, (by rw [show own_fl p0 = (0 : Int32) from (by rw [own_fl, if_neg hk2, if_neg hk5, if_neg hk7, if_neg hk9])]; exact F_AUTH)⟩, N0, rfl⟩) (by decide) (by decide)
theorem own_pn1 : plainName "com/example/varuna/varuna/broker/wire/PacketType" = true := by first | (simp [plainName, overriddenIn]; done) | decide +kernel
theorem d2_0 : decode prog_8_method_6_code 0 = .ok (.aload_n 0, 1) := by decide +kernel
theorem d2_1 : decode prog_8_method_6_code 1 = .ok (.getfield 72, 3) := by decide +kernel
theorem d2_4 : decode prog_8_method_6_code 4 = .ok (.ifCond .lt 11, 3) := by decide +kernel
theorem d2_7 : decode prog_8_method_6_code 7 = .ok (.aload_n 0, 1) := by decide +kernel
theorem d2_8 : decode prog_8_method_6_code 8 = .ok (.getfield 72, 3) := by decide +kernel
theorem d2_11 : decode prog_8_method_6_code 11 = .ok (.iload_n 1, 1) := by decide +kernel
theorem d2_12 : decode prog_8_method_6_code 12 = .ok (.if_icmp .ne 7, 3) := by decide +kernel
theorem d2_15 : decode prog_8_method_6_code 15 = .ok (.iconst 1, 1) := by decide +kernel
theorem d2_16 : decode prog_8_method_6_code 16 = .ok (.goto 4, 3) := by decide +kernel
theorem d2_19 : decode prog_8_method_6_code 19 = .ok (.iconst 0, 1) := by decide +kernel
theorem d2_20 : decode prog_8_method_6_code 20 = .ok (.ireturn, 1) := by decide +kernel
theorem ef_rm2 (m : MethodId) (x0 : Addr) (x1 : Int32) : entryFrame m #[(.ref x0), (.int x1)] 2 = mkF m 0 #[.val (.ref x0), .val (.int x1)] [] := by first | (simp [entryFrame, mkF, argsToLocals, Value.category]; done) | rfl
def Q2 (Z : State) (r0 : Addr) (p1 : Int32) (g : Int32) (h0 : Heap) (n0 : Nat) (v : Option Value) (h : Heap) (L : List Loc) : Prop := v = some (.int (own_acc g p1)) ∧ Fr n0 L ∧ h = h0
set_option maxRecDepth 65536 in
set_option maxHeartbeats 40000000 in
theorem rm2 (l : Launch) (Z : State) (a0 : Array Value) (hw : ∀ d ∈ tables_1, d.before a0 Z = true) (ws : List Jvm.Cond) (r0 : Addr) (p1 : Int32) (g : Int32) (h0 : Heap) (n0 : Nat) (Z0 : n0 ≤ h0.size) (F_flags : Fld Z h0 r0 "com/example/varuna/varuna/broker/wire/PacketType" "flags" "I" (.int g)) :
    MetFree l (⟨"com/example/varuna/varuna/broker/wire/PacketType", "acceptsFlags", "(I)Z"⟩ : MethodName) (head1 (Jvm.Cond.code (⟨"com/example/varuna/varuna/broker/wire/PacketType", "acceptsFlags", "(I)Z"⟩ : MethodName) prog_8_method_6_code 2 (some .boolean) :: ws) ({ frames := 0, cells := 0, slots := 0, locals := 0 } : Room)) (fun a U => a = #[(.ref r0), (.int p1)] ∧ Z.Warmed39 U.vm ∧ U.heap = h0) (fun _ _ _ _ _ => True) (fun _ U o U' => ∃ v L, o = .returned v ∧ Q2 Z r0 p1 g h0 n0 v U'.heap L ∧ FrameEnd U o U' L ({ frames := 0, cells := 0, slots := 0, locals := 0 } : Room).cells ({ frames := 0, cells := 0, slots := 0, locals := 0 } : Room).slots) := by
  refine MetFree.of_bodySF (plainFor_of_name own_pn1) hisR ?_
  intro p e s m args below meth c s₁ Bd hml0 hP hK
  obtain ⟨rfl, hZ, hh⟩ := hP
  have hx := Bd.exec
  have hby := Bd.bytes
  have hml : c.maxLocals = 2 := hml0
  have hown : s.vm.findClass "com/example/varuna/varuna/broker/wire/PacketType" = some m.cls := findClass_of_methodNamed Bd.named
  have hnm := (name_of_methodNamed Bd.named Bd.method).1
  have hlk : meth.locks = false := BodyLoose.notSynchronized Bd
  have X0 : Stand p l e ({ frames := 0, cells := 0, slots := 0, locals := 0 } : Room) s m #[(.ref r0), (.int p1)] below meth c s₁ [] 0 0 := Stand.of_body Bd
  have e0 : s₁.heap = h0 := by rw [← hh, Bd.state]; rfl
  have N0 := Fr.nil n0
  show GoesW p.tables e below s (Q2 Z r0 p1 g h0 n0) 0 0 (s₁.setTop (entryFrame m #[(.ref r0), (.int p1)] 2))
  rw [ef_rm2 m r0 p1]
  show GoesW p.tables e below s (Q2 Z r0 p1 g h0 n0) 0 0 (s₁.setTop (mkF m 0 #[.val (.ref r0), .val (.int p1)] []))
  refine GoesW.step (fun _ k => XS.aloadN X0.here hx rfl (hb hby d2_0) rfl rfl k) ?_
  show GoesW p.tables e below s (Q2 Z r0 p1 g h0 n0) 0 0 (s₁.setTop (mkF m 1 #[.val (.ref r0), .val (.int p1)] [(.ref r0)]))
  obtain ⟨T1, X1, e1, st1⟩ := getF X0 hx hZ hown (host := "") (Or.inl (hw _ (List.mem_of_getElem? (i := 13) rfl))) Via.refl e0 F_flags (g := (mkF m 1 #[.val (.ref r0), .val (.int p1)] [(.ref r0)])) rfl rfl (hb hby d2_1)
  refine GoesW.step st1 ?_
  show GoesW p.tables e below s (Q2 Z r0 p1 g h0 n0) 0 0 (T1.setTop (mkF m 4 #[.val (.ref r0), .val (.int p1)] [(.int g)]))
  by_cases h4 : g < (0 : Int32)
  · skip
    refine GoesW.step (fun _ k => XS.ifYes X1.here hx rfl (pc0 := 4) (pc' := 15) rfl (hb hby d2_4) rfl ((if0 _ _).trans (tlt h4).1) (by decide) (by decide) k) ?_
    show GoesW p.tables e below s (Q2 Z r0 p1 g h0 n0) 0 0 (T1.setTop (mkF m 15 #[.val (.ref r0), .val (.int p1)] []))
    refine GoesW.step (fun _ k => XS.iconst X1.here hx rfl (hb hby d2_15) k) ?_
    show GoesW p.tables e below s (Q2 Z r0 p1 g h0 n0) 0 0 (T1.setTop (mkF m 16 #[.val (.ref r0), .val (.int p1)] [(.int (1 : Int32))]))
    refine GoesW.step (fun _ k => XS.goto X1.here hx rfl (pc0 := 16) (pc' := 20) rfl (hb hby d2_16) (by decide) (by decide) k) ?_
    show GoesW p.tables e below s (Q2 Z r0 p1 g h0 n0) 0 0 (T1.setTop (mkF m 20 #[.val (.ref r0), .val (.int p1)] [(.int (1 : Int32))]))
    exact GoesW.retZ X1 hx hlk (t := .boolean) Bd.returns (by simp) rfl (hb hby d2_20) (by show Q2 Z r0 p1 g h0 n0 _ T1.heap _; rw [e1]; exact ⟨by rw [own_acc, if_pos h4], N0, rfl⟩) (by decide) (by decide)
  · skip
    refine GoesW.step (fun _ k => XS.ifNo X1.here hx rfl (hb hby d2_4) rfl ((if0 _ _).trans (flt h4).1) k) ?_
    show GoesW p.tables e below s (Q2 Z r0 p1 g h0 n0) 0 0 (T1.setTop (mkF m 7 #[.val (.ref r0), .val (.int p1)] []))
    refine GoesW.step (fun _ k => XS.aloadN X1.here hx rfl (hb hby d2_7) rfl rfl k) ?_
    show GoesW p.tables e below s (Q2 Z r0 p1 g h0 n0) 0 0 (T1.setTop (mkF m 8 #[.val (.ref r0), .val (.int p1)] [(.ref r0)]))
    obtain ⟨T2, X2, e2, st2⟩ := getF X1 hx hZ hown (host := "") (Or.inl (hw _ (List.mem_of_getElem? (i := 13) rfl))) Via.refl e1 F_flags (g := (mkF m 8 #[.val (.ref r0), .val (.int p1)] [(.ref r0)])) rfl rfl (hb hby d2_8)
    refine GoesW.step st2 ?_
    show GoesW p.tables e below s (Q2 Z r0 p1 g h0 n0) 0 0 (T2.setTop (mkF m 11 #[.val (.ref r0), .val (.int p1)] [(.int g)]))
    refine GoesW.step (fun _ k => XS.iloadN X2.here hx rfl (hb hby d2_11) rfl k) ?_
    show GoesW p.tables e below s (Q2 Z r0 p1 g h0 n0) 0 0 (T2.setTop (mkF m 12 #[.val (.ref r0), .val (.int p1)] [(.int p1), (.int g)]))
    by_cases h12 : g = p1
    · skip
      refine GoesW.step (fun _ k => XS.icmpNo X2.here hx rfl (hb hby d2_12) rfl (teq h12).2 k) ?_
      show GoesW p.tables e below s (Q2 Z r0 p1 g h0 n0) 0 0 (T2.setTop (mkF m 15 #[.val (.ref r0), .val (.int p1)] []))
      refine GoesW.step (fun _ k => XS.iconst X2.here hx rfl (hb hby d2_15) k) ?_
      show GoesW p.tables e below s (Q2 Z r0 p1 g h0 n0) 0 0 (T2.setTop (mkF m 16 #[.val (.ref r0), .val (.int p1)] [(.int (1 : Int32))]))
      refine GoesW.step (fun _ k => XS.goto X2.here hx rfl (pc0 := 16) (pc' := 20) rfl (hb hby d2_16) (by decide) (by decide) k) ?_
      show GoesW p.tables e below s (Q2 Z r0 p1 g h0 n0) 0 0 (T2.setTop (mkF m 20 #[.val (.ref r0), .val (.int p1)] [(.int (1 : Int32))]))
      exact GoesW.retZ X2 hx hlk (t := .boolean) Bd.returns (by simp) rfl (hb hby d2_20) (by show Q2 Z r0 p1 g h0 n0 _ T2.heap _; rw [e2]; exact ⟨by rw [own_acc, if_neg h4, if_pos h12], N0, rfl⟩) (by decide) (by decide)
    · skip
      refine GoesW.step (fun _ k => XS.icmpYes X2.here hx rfl (pc0 := 12) (pc' := 19) rfl (hb hby d2_12) rfl (feq h12).2 (by decide) (by decide) k) ?_
      show GoesW p.tables e below s (Q2 Z r0 p1 g h0 n0) 0 0 (T2.setTop (mkF m 19 #[.val (.ref r0), .val (.int p1)] []))
      refine GoesW.step (fun _ k => XS.iconst X2.here hx rfl (hb hby d2_19) k) ?_
      show GoesW p.tables e below s (Q2 Z r0 p1 g h0 n0) 0 0 (T2.setTop (mkF m 20 #[.val (.ref r0), .val (.int p1)] [(.int (0 : Int32))]))
      exact GoesW.retZ X2 hx hlk (t := .boolean) Bd.returns (by simp) rfl (hb hby d2_20) (by show Q2 Z r0 p1 g h0 n0 _ T2.heap _; rw [e2]; exact ⟨by rw [own_acc, if_neg h4, if_neg h12], N0, rfl⟩) (by decide) (by decide)
theorem own_pd0 : parseMethodDescriptor "(I)Lcom/example/varuna/varuna/broker/wire/PacketType;" = some ⟨[.int], some (.object "com/example/varuna/varuna/broker/wire/PacketType")⟩ := by decide +kernel
theorem own_pd1 : parseMethodDescriptor "(I)Z" = some ⟨[.int], some .boolean⟩ := by decide +kernel
theorem ef_rm0 (m : MethodId) (x0 : Int32) (x1 : Int32) : entryFrame m #[(.int x0), (.int x1)] maxLocals = mkF m 0 #[.val (.int x0), .val (.int x1), .unset, .unset, .unset, .unset] [] := by first | (simp [entryFrame, mkF, argsToLocals, Value.category, maxLocals]; done) | rfl
def Q0 (Z : State) (p0 : Int32) (p1 : Int32) (x_CONNECT : Addr) (x_CONNACK : Addr) (x_PUBLISH : Addr) (x_PUBACK : Addr) (x_PUBREC : Addr) (x_PUBREL : Addr) (x_PUBCOMP : Addr) (x_SUBSCRIBE : Addr) (x_SUBACK : Addr) (x_UNSUBSCRIBE : Addr) (x_UNSUBACK : Addr) (x_PINGREQ : Addr) (x_PINGRESP : Addr) (x_DISCONNECT : Addr) (x_AUTH : Addr) (h0 : Heap) (n0 : Nat) (v : Option Value) (h : Heap) (L : List Loc) : Prop := v = some (.int (1 : Int32)) ∧ Fr n0 L
set_option maxRecDepth 65536 in
set_option maxHeartbeats 40000000 in
theorem rm0 (l : Launch) (Z : State) (a0 : Array Value) (hw : ∀ d ∈ tables_1, d.before a0 Z = true) (ws : List Jvm.Cond) (p0 : Int32) (p1 : Int32) (x_CONNECT : Addr) (x_CONNACK : Addr) (x_PUBLISH : Addr) (x_PUBACK : Addr) (x_PUBREC : Addr) (x_PUBREL : Addr) (x_PUBCOMP : Addr) (x_SUBSCRIBE : Addr) (x_SUBACK : Addr) (x_UNSUBSCRIBE : Addr) (x_UNSUBACK : Addr) (x_PINGREQ : Addr) (x_PINGRESP : Addr) (x_DISCONNECT : Addr) (x_AUTH : Addr) (h0 : Heap) (n0 : Nat) (Z0 : n0 ≤ h0.size) (S_CONNECT : Sta Z h0 "com/example/varuna/varuna/broker/wire/PacketType" "CONNECT" "Lcom/example/varuna/varuna/broker/wire/PacketType;" (.ref x_CONNECT)) (E_CONNECT : Exa Z h0 x_CONNECT "com/example/varuna/varuna/broker/wire/PacketType") (F_CONNECT : Fld Z h0 x_CONNECT "com/example/varuna/varuna/broker/wire/PacketType" "flags" "I" (.int (0 : Int32))) (S_CONNACK : Sta Z h0 "com/example/varuna/varuna/broker/wire/PacketType" "CONNACK" "Lcom/example/varuna/varuna/broker/wire/PacketType;" (.ref x_CONNACK)) (E_CONNACK : Exa Z h0 x_CONNACK "com/example/varuna/varuna/broker/wire/PacketType") (F_CONNACK : Fld Z h0 x_CONNACK "com/example/varuna/varuna/broker/wire/PacketType" "flags" "I" (.int (0 : Int32))) (S_PUBLISH : Sta Z h0 "com/example/varuna/varuna/broker/wire/PacketType" "PUBLISH" "Lcom/example/varuna/varuna/broker/wire/PacketType;" (.ref x_PUBLISH)) (E_PUBLISH : Exa Z h0 x_PUBLISH "com/example/varuna/varuna/broker/wire/PacketType") (F_PUBLISH : Fld Z h0 x_PUBLISH "com/example/varuna/varuna/broker/wire/PacketType" "flags" "I" (.int (-1 : Int32))) (S_PUBACK : Sta Z h0 "com/example/varuna/varuna/broker/wire/PacketType" "PUBACK" "Lcom/example/varuna/varuna/broker/wire/PacketType;" (.ref x_PUBACK)) (E_PUBACK : Exa Z h0 x_PUBACK "com/example/varuna/varuna/broker/wire/PacketType") (F_PUBACK : Fld Z h0 x_PUBACK "com/example/varuna/varuna/broker/wire/PacketType" "flags" "I" (.int (0 : Int32))) (S_PUBREC : Sta Z h0 "com/example/varuna/varuna/broker/wire/PacketType" "PUBREC" "Lcom/example/varuna/varuna/broker/wire/PacketType;" (.ref x_PUBREC)) (E_PUBREC : Exa Z h0 x_PUBREC "com/example/varuna/varuna/broker/wire/PacketType") (F_PUBREC : Fld Z h0 x_PUBREC "com/example/varuna/varuna/broker/wire/PacketType" "flags" "I" (.int (0 : Int32))) (S_PUBREL : Sta Z h0 "com/example/varuna/varuna/broker/wire/PacketType" "PUBREL" "Lcom/example/varuna/varuna/broker/wire/PacketType;" (.ref x_PUBREL)) (E_PUBREL : Exa Z h0 x_PUBREL "com/example/varuna/varuna/broker/wire/PacketType") (F_PUBREL : Fld Z h0 x_PUBREL "com/example/varuna/varuna/broker/wire/PacketType" "flags" "I" (.int (2 : Int32))) (S_PUBCOMP : Sta Z h0 "com/example/varuna/varuna/broker/wire/PacketType" "PUBCOMP" "Lcom/example/varuna/varuna/broker/wire/PacketType;" (.ref x_PUBCOMP)) (E_PUBCOMP : Exa Z h0 x_PUBCOMP "com/example/varuna/varuna/broker/wire/PacketType") (F_PUBCOMP : Fld Z h0 x_PUBCOMP "com/example/varuna/varuna/broker/wire/PacketType" "flags" "I" (.int (0 : Int32))) (S_SUBSCRIBE : Sta Z h0 "com/example/varuna/varuna/broker/wire/PacketType" "SUBSCRIBE" "Lcom/example/varuna/varuna/broker/wire/PacketType;" (.ref x_SUBSCRIBE)) (E_SUBSCRIBE : Exa Z h0 x_SUBSCRIBE "com/example/varuna/varuna/broker/wire/PacketType") (F_SUBSCRIBE : Fld Z h0 x_SUBSCRIBE "com/example/varuna/varuna/broker/wire/PacketType" "flags" "I" (.int (2 : Int32))) (S_SUBACK : Sta Z h0 "com/example/varuna/varuna/broker/wire/PacketType" "SUBACK" "Lcom/example/varuna/varuna/broker/wire/PacketType;" (.ref x_SUBACK)) (E_SUBACK : Exa Z h0 x_SUBACK "com/example/varuna/varuna/broker/wire/PacketType") (F_SUBACK : Fld Z h0 x_SUBACK "com/example/varuna/varuna/broker/wire/PacketType" "flags" "I" (.int (0 : Int32))) (S_UNSUBSCRIBE : Sta Z h0 "com/example/varuna/varuna/broker/wire/PacketType" "UNSUBSCRIBE" "Lcom/example/varuna/varuna/broker/wire/PacketType;" (.ref x_UNSUBSCRIBE)) (E_UNSUBSCRIBE : Exa Z h0 x_UNSUBSCRIBE "com/example/varuna/varuna/broker/wire/PacketType") (F_UNSUBSCRIBE : Fld Z h0 x_UNSUBSCRIBE "com/example/varuna/varuna/broker/wire/PacketType" "flags" "I" (.int (2 : Int32))) (S_UNSUBACK : Sta Z h0 "com/example/varuna/varuna/broker/wire/PacketType" "UNSUBACK" "Lcom/example/varuna/varuna/broker/wire/PacketType;" (.ref x_UNSUBACK)) (E_UNSUBACK : Exa Z h0 x_UNSUBACK "com/example/varuna/varuna/broker/wire/PacketType") (F_UNSUBACK : Fld Z h0 x_UNSUBACK "com/example/varuna/varuna/broker/wire/PacketType" "flags" "I" (.int (0 : Int32))) (S_PINGREQ : Sta Z h0 "com/example/varuna/varuna/broker/wire/PacketType" "PINGREQ" "Lcom/example/varuna/varuna/broker/wire/PacketType;" (.ref x_PINGREQ)) (E_PINGREQ : Exa Z h0 x_PINGREQ "com/example/varuna/varuna/broker/wire/PacketType") (F_PINGREQ : Fld Z h0 x_PINGREQ "com/example/varuna/varuna/broker/wire/PacketType" "flags" "I" (.int (0 : Int32))) (S_PINGRESP : Sta Z h0 "com/example/varuna/varuna/broker/wire/PacketType" "PINGRESP" "Lcom/example/varuna/varuna/broker/wire/PacketType;" (.ref x_PINGRESP)) (E_PINGRESP : Exa Z h0 x_PINGRESP "com/example/varuna/varuna/broker/wire/PacketType") (F_PINGRESP : Fld Z h0 x_PINGRESP "com/example/varuna/varuna/broker/wire/PacketType" "flags" "I" (.int (0 : Int32))) (S_DISCONNECT : Sta Z h0 "com/example/varuna/varuna/broker/wire/PacketType" "DISCONNECT" "Lcom/example/varuna/varuna/broker/wire/PacketType;" (.ref x_DISCONNECT)) (E_DISCONNECT : Exa Z h0 x_DISCONNECT "com/example/varuna/varuna/broker/wire/PacketType") (F_DISCONNECT : Fld Z h0 x_DISCONNECT "com/example/varuna/varuna/broker/wire/PacketType" "flags" "I" (.int (0 : Int32))) (S_AUTH : Sta Z h0 "com/example/varuna/varuna/broker/wire/PacketType" "AUTH" "Lcom/example/varuna/varuna/broker/wire/PacketType;" (.ref x_AUTH)) (E_AUTH : Exa Z h0 x_AUTH "com/example/varuna/varuna/broker/wire/PacketType") (F_AUTH : Fld Z h0 x_AUTH "com/example/varuna/varuna/broker/wire/PacketType" "flags" "I" (.int (0 : Int32))) :
    MetFree l x (head1 (Jvm.Cond.code x code maxLocals ret :: ws) room_1) (fun a U => a = #[(.int p0), (.int p1)] ∧ Z.Warmed39 U.vm ∧ U.heap = h0) (fun _ _ _ _ _ => True) (fun _ U o U' => ∃ v L, o = .returned v ∧ Q0 Z p0 p1 x_CONNECT x_CONNACK x_PUBLISH x_PUBACK x_PUBREC x_PUBREL x_PUBCOMP x_SUBSCRIBE x_SUBACK x_UNSUBSCRIBE x_UNSUBACK x_PINGREQ x_PINGRESP x_DISCONNECT x_AUTH h0 n0 v U'.heap L ∧ FrameEnd U o U' L room_1.cells room_1.slots) := by
  refine MetFree.of_bodySF (plainFor_of_name own_pn0) hisR ?_
  intro p e s m args below meth c s₁ Bd hml0 hP hK
  obtain ⟨rfl, hZ, hh⟩ := hP
  have hx := Bd.exec
  have hby := Bd.bytes
  have hml : c.maxLocals = 6 := hml0
  have hown : s.vm.findClass "com/example/varuna/varuna/broker/wire/PacketTypeAcceptsFlagsPinLaw" = some m.cls := findClass_of_methodNamed Bd.named
  have hnm := (name_of_methodNamed Bd.named Bd.method).1
  have hlk : meth.locks = false := BodyLoose.notSynchronized Bd
  have X0 : Stand p l e room_1 s m #[(.int p0), (.int p1)] below meth c s₁ [] 0 0 := Stand.of_body Bd
  have e0 : s₁.heap = h0 := by rw [← hh, Bd.state]; rfl
  have N0 := Fr.nil n0
  show GoesW p.tables e below s (Q0 Z p0 p1 x_CONNECT x_CONNACK x_PUBLISH x_PUBACK x_PUBREC x_PUBREL x_PUBCOMP x_SUBSCRIBE x_SUBACK x_UNSUBSCRIBE x_UNSUBACK x_PINGREQ x_PINGRESP x_DISCONNECT x_AUTH h0 n0) room_1.cells room_1.slots (s₁.setTop (entryFrame m #[(.int p0), (.int p1)] maxLocals))
  rw [ef_rm0 m p0 p1]
  show GoesW p.tables e below s (Q0 Z p0 p1 x_CONNECT x_CONNACK x_PUBLISH x_PUBACK x_PUBREC x_PUBREL x_PUBCOMP x_SUBSCRIBE x_SUBACK x_UNSUBSCRIBE x_UNSUBACK x_PINGREQ x_PINGRESP x_DISCONNECT x_AUTH h0 n0) room_1.cells room_1.slots (s₁.setTop (mkF m 0 #[.val (.int p0), .val (.int p1), .unset, .unset, .unset, .unset] []))
  refine GoesW.step (fun _ k => XS.iloadN X0.here hx rfl (hb hby at_0) rfl k) ?_
  show GoesW p.tables e below s (Q0 Z p0 p1 x_CONNECT x_CONNACK x_PUBLISH x_PUBACK x_PUBREC x_PUBREL x_PUBCOMP x_SUBSCRIBE x_SUBACK x_UNSUBSCRIBE x_UNSUBACK x_PINGREQ x_PINGRESP x_DISCONNECT x_AUTH h0 n0) room_1.cells room_1.slots (s₁.setTop (mkF m 1 #[.val (.int p0), .val (.int p1), .unset, .unset, .unset, .unset] [(.int p0)]))
  refine GoesW.step (fun _ k => X0.ldcInt hx hown (mvT hZ (hw _ (List.mem_of_getElem? (i := 0) rfl))) (g := (mkF m 1 #[.val (.int p0), .val (.int p1), .unset, .unset, .unset, .unset] [(.int p0)])) rfl (hb hby at_1) _ k) ?_
  show GoesW p.tables e below s (Q0 Z p0 p1 x_CONNECT x_CONNACK x_PUBLISH x_PUBACK x_PUBREC x_PUBREL x_PUBCOMP x_SUBSCRIBE x_SUBACK x_UNSUBSCRIBE x_UNSUBACK x_PINGREQ x_PINGRESP x_DISCONNECT x_AUTH h0 n0) room_1.cells room_1.slots (s₁.setTop (mkF m 3 #[.val (.int p0), .val (.int p1), .unset, .unset, .unset, .unset] [(.int (2147483647 : Int32)), (.int p0)]))
  refine GoesW.step (fun _ k => XS.iand X0.here hx rfl (hb hby at_3) rfl k) ?_
  show GoesW p.tables e below s (Q0 Z p0 p1 x_CONNECT x_CONNACK x_PUBLISH x_PUBACK x_PUBREC x_PUBREL x_PUBCOMP x_SUBSCRIBE x_SUBACK x_UNSUBSCRIBE x_UNSUBACK x_PINGREQ x_PINGRESP x_DISCONNECT x_AUTH h0 n0) room_1.cells room_1.slots (s₁.setTop (mkF m 4 #[.val (.int p0), .val (.int p1), .unset, .unset, .unset, .unset] [(.int (p0 &&& (2147483647 : Int32)))]))
  refine GoesW.step (fun _ k => XS.bipush X0.here hx rfl (hb hby at_4) k) ?_
  show GoesW p.tables e below s (Q0 Z p0 p1 x_CONNECT x_CONNACK x_PUBLISH x_PUBACK x_PUBREC x_PUBREL x_PUBCOMP x_SUBSCRIBE x_SUBACK x_UNSUBSCRIBE x_UNSUBACK x_PINGREQ x_PINGRESP x_DISCONNECT x_AUTH h0 n0) room_1.cells room_1.slots (s₁.setTop (mkF m 6 #[.val (.int p0), .val (.int p1), .unset, .unset, .unset, .unset] [(.int (15 : Int32)), (.int (p0 &&& (2147483647 : Int32)))]))
  refine GoesW.step (fun _ k => iremM X0 hx rfl (hb hby at_6) rfl (by decide) k) ?_
  show GoesW p.tables e below s (Q0 Z p0 p1 x_CONNECT x_CONNACK x_PUBLISH x_PUBACK x_PUBREC x_PUBREL x_PUBCOMP x_SUBSCRIBE x_SUBACK x_UNSUBSCRIBE x_UNSUBACK x_PINGREQ x_PINGRESP x_DISCONNECT x_AUTH h0 n0) room_1.cells room_1.slots (s₁.setTop (mkF m 7 #[.val (.int p0), .val (.int p1), .unset, .unset, .unset, .unset] [(.int ((p0 &&& (2147483647 : Int32)) % (15 : Int32)))]))
  generalize hkk : ((p0 &&& (2147483647 : Int32)) % (15 : Int32)) = kk
  show GoesW p.tables e below s (Q0 Z p0 p1 x_CONNECT x_CONNACK x_PUBLISH x_PUBACK x_PUBREC x_PUBREL x_PUBCOMP x_SUBSCRIBE x_SUBACK x_UNSUBSCRIBE x_UNSUBACK x_PINGREQ x_PINGRESP x_DISCONNECT x_AUTH h0 n0) room_1.cells room_1.slots (s₁.setTop (mkF m 7 #[.val (.int p0), .val (.int p1), .unset, .unset, .unset, .unset] [(.int kk)]))
  refine GoesW.step (fun _ k => XS.istoreN X0.here hx rfl (hb hby at_7) rfl (l' := #[.val (.int p0), .val (.int p1), .val (.int kk), .unset, .unset, .unset]) rfl k) ?_
  show GoesW p.tables e below s (Q0 Z p0 p1 x_CONNECT x_CONNACK x_PUBLISH x_PUBACK x_PUBREC x_PUBREL x_PUBCOMP x_SUBSCRIBE x_SUBACK x_UNSUBSCRIBE x_UNSUBACK x_PINGREQ x_PINGRESP x_DISCONNECT x_AUTH h0 n0) room_1.cells room_1.slots (s₁.setTop (mkF m 8 #[.val (.int p0), .val (.int p1), .val (.int kk), .unset, .unset, .unset] []))
  refine GoesW.step (fun _ k => XS.iloadN X0.here hx rfl (hb hby at_8) rfl k) ?_
  show GoesW p.tables e below s (Q0 Z p0 p1 x_CONNECT x_CONNACK x_PUBLISH x_PUBACK x_PUBREC x_PUBREL x_PUBCOMP x_SUBSCRIBE x_SUBACK x_UNSUBSCRIBE x_UNSUBACK x_PINGREQ x_PINGRESP x_DISCONNECT x_AUTH h0 n0) room_1.cells room_1.slots (s₁.setTop (mkF m 9 #[.val (.int p0), .val (.int p1), .val (.int kk), .unset, .unset, .unset] [(.int p1)]))
  refine GoesW.step (fun _ k => XS.bipush X0.here hx rfl (hb hby at_9) k) ?_
  show GoesW p.tables e below s (Q0 Z p0 p1 x_CONNECT x_CONNACK x_PUBLISH x_PUBACK x_PUBREC x_PUBREL x_PUBCOMP x_SUBSCRIBE x_SUBACK x_UNSUBSCRIBE x_UNSUBACK x_PINGREQ x_PINGRESP x_DISCONNECT x_AUTH h0 n0) room_1.cells room_1.slots (s₁.setTop (mkF m 11 #[.val (.int p0), .val (.int p1), .val (.int kk), .unset, .unset, .unset] [(.int (15 : Int32)), (.int p1)]))
  refine GoesW.step (fun _ k => XS.iand X0.here hx rfl (hb hby at_11) rfl k) ?_
  show GoesW p.tables e below s (Q0 Z p0 p1 x_CONNECT x_CONNACK x_PUBLISH x_PUBACK x_PUBREC x_PUBREL x_PUBCOMP x_SUBSCRIBE x_SUBACK x_UNSUBSCRIBE x_UNSUBACK x_PINGREQ x_PINGRESP x_DISCONNECT x_AUTH h0 n0) room_1.cells room_1.slots (s₁.setTop (mkF m 12 #[.val (.int p0), .val (.int p1), .val (.int kk), .unset, .unset, .unset] [(.int (p1 &&& (15 : Int32)))]))
  generalize hff : (p1 &&& (15 : Int32)) = ff
  show GoesW p.tables e below s (Q0 Z p0 p1 x_CONNECT x_CONNACK x_PUBLISH x_PUBACK x_PUBREC x_PUBREL x_PUBCOMP x_SUBSCRIBE x_SUBACK x_UNSUBSCRIBE x_UNSUBACK x_PINGREQ x_PINGRESP x_DISCONNECT x_AUTH h0 n0) room_1.cells room_1.slots (s₁.setTop (mkF m 12 #[.val (.int p0), .val (.int p1), .val (.int kk), .unset, .unset, .unset] [(.int ff)]))
  refine GoesW.step (fun _ k => XS.istoreN X0.here hx rfl (hb hby at_12) rfl (l' := #[.val (.int p0), .val (.int p1), .val (.int kk), .val (.int ff), .unset, .unset]) rfl k) ?_
  show GoesW p.tables e below s (Q0 Z p0 p1 x_CONNECT x_CONNACK x_PUBLISH x_PUBACK x_PUBREC x_PUBREL x_PUBCOMP x_SUBSCRIBE x_SUBACK x_UNSUBSCRIBE x_UNSUBACK x_PINGREQ x_PINGRESP x_DISCONNECT x_AUTH h0 n0) room_1.cells room_1.slots (s₁.setTop (mkF m 13 #[.val (.int p0), .val (.int p1), .val (.int kk), .val (.int ff), .unset, .unset] []))
  refine GoesW.step (fun _ k => XS.iloadN X0.here hx rfl (hb hby at_13) rfl k) ?_
  show GoesW p.tables e below s (Q0 Z p0 p1 x_CONNECT x_CONNACK x_PUBLISH x_PUBACK x_PUBREC x_PUBREL x_PUBCOMP x_SUBSCRIBE x_SUBACK x_UNSUBSCRIBE x_UNSUBACK x_PINGREQ x_PINGRESP x_DISCONNECT x_AUTH h0 n0) room_1.cells room_1.slots (s₁.setTop (mkF m 14 #[.val (.int p0), .val (.int p1), .val (.int kk), .val (.int ff), .unset, .unset] [(.int kk)]))
  obtain ⟨_, _, ⟨T1, L1, k1, n1⟩, -, X1, ⟨Lc1, hQ1, l1, y1, z1⟩, st1⟩ := Jvm.LawKit.callS X0 hx (y := (⟨"com/example/varuna/varuna/broker/wire/PacketTypeAcceptsFlagsPinLaw", "pick", "(I)Lcom/example/varuna/varuna/broker/wire/PacketType;"⟩ : MethodName)) hown (mvT hZ (hw _ (List.mem_of_getElem? (i := 1) rfl))) (mvT hZ (hw _ (List.mem_of_getElem? (i := 2) rfl))) (mvT hZ (hw _ (List.mem_of_getElem? (i := 3) rfl))) (mvT hZ (hw _ (List.mem_of_getElem? (i := 4) rfl))) (by decide) (backOf (W := 0) (rm1 l Z a0 hw [] kk x_CONNECT x_CONNACK x_PUBLISH x_PUBACK x_PUBREC x_PUBREL x_PUBCOMP x_SUBSCRIBE x_SUBACK x_UNSUBSCRIBE x_UNSUBACK x_PINGREQ x_PINGRESP x_DISCONNECT x_AUTH h0 n0 Z0 S_CONNECT E_CONNECT F_CONNECT S_CONNACK E_CONNACK F_CONNACK S_PUBLISH E_PUBLISH F_PUBLISH S_PUBACK E_PUBACK F_PUBACK S_PUBREC E_PUBREC F_PUBREC S_PUBREL E_PUBREL F_PUBREL S_PUBCOMP E_PUBCOMP F_PUBCOMP S_SUBSCRIBE E_SUBSCRIBE F_SUBSCRIBE S_SUBACK E_SUBACK F_SUBACK S_UNSUBSCRIBE E_UNSUBSCRIBE F_UNSUBSCRIBE S_UNSUBACK E_UNSUBACK F_UNSUBACK S_PINGREQ E_PINGREQ F_PINGREQ S_PINGRESP E_PINGRESP F_PINGRESP S_DISCONNECT E_DISCONNECT F_DISCONNECT S_AUTH E_AUTH F_AUTH) hZ (hw _ (List.mem_of_getElem? (i := 4) rfl)) (hw _ (List.mem_of_getElem? (i := 3) rfl)) (by decide) (by decide)) (g := (mkF m 14 #[.val (.int p0), .val (.int p1), .val (.int kk), .val (.int ff), .unset, .unset] [(.int kk)])) rfl (by rw [hml]; rfl) (argsL := [(.int kk)]) (rest := []) (lenOf own_pd0 rfl) rfl (by show 2 * 0 + _ ≤ _; exact Nat.le_of_eq rfl) (hb hby at_14) (fun _ _ => ⟨rfl, e0, (by decide : 0 + 0 ≤ _), (by decide : 0 + 0 ≤ _)⟩)
  dsimp only [Pt.U, Pt.locs, Pt.cells, Pt.slots] at X1 l1 y1 z1 st1 hQ1
  subst l1 y1 z1
  obtain ⟨⟨pa1, rfl, Ep1, Fp1⟩, N1q, eq1⟩ := hQ1
  have N1 := Fr.app N0 N1q
  refine GoesW.step st1 ?_
  show GoesW p.tables e below s (Q0 Z p0 p1 x_CONNECT x_CONNACK x_PUBLISH x_PUBACK x_PUBREC x_PUBREL x_PUBCOMP x_SUBSCRIBE x_SUBACK x_UNSUBSCRIBE x_UNSUBACK x_PINGREQ x_PINGRESP x_DISCONNECT x_AUTH h0 n0) room_1.cells room_1.slots (T1.setTop (mkF m 17 #[.val (.int p0), .val (.int p1), .val (.int kk), .val (.int ff), .unset, .unset] [(.ref pa1)]))
  refine GoesW.step (fun _ k => XS.astore X1.here hx rfl (hb hby at_17) rfl rfl (l' := #[.val (.int p0), .val (.int p1), .val (.int kk), .val (.int ff), .val (.ref pa1), .unset]) rfl k) ?_
  show GoesW p.tables e below s (Q0 Z p0 p1 x_CONNECT x_CONNACK x_PUBLISH x_PUBACK x_PUBREC x_PUBREL x_PUBCOMP x_SUBSCRIBE x_SUBACK x_UNSUBSCRIBE x_UNSUBACK x_PINGREQ x_PINGRESP x_DISCONNECT x_AUTH h0 n0) room_1.cells room_1.slots (T1.setTop (mkF m 19 #[.val (.int p0), .val (.int p1), .val (.int kk), .val (.int ff), .val (.ref pa1), .unset] []))
  refine GoesW.step (fun _ k => XS.iloadN X1.here hx rfl (hb hby at_19) rfl k) ?_
  show GoesW p.tables e below s (Q0 Z p0 p1 x_CONNECT x_CONNACK x_PUBLISH x_PUBACK x_PUBREC x_PUBREL x_PUBCOMP x_SUBSCRIBE x_SUBACK x_UNSUBSCRIBE x_UNSUBACK x_PINGREQ x_PINGRESP x_DISCONNECT x_AUTH h0 n0) room_1.cells room_1.slots (T1.setTop (mkF m 20 #[.val (.int p0), .val (.int p1), .val (.int kk), .val (.int ff), .val (.ref pa1), .unset] [(.int kk)]))
  refine GoesW.step (fun _ k => XS.iconst X1.here hx rfl (hb hby at_20) k) ?_
  show GoesW p.tables e below s (Q0 Z p0 p1 x_CONNECT x_CONNACK x_PUBLISH x_PUBACK x_PUBREC x_PUBREL x_PUBCOMP x_SUBSCRIBE x_SUBACK x_UNSUBSCRIBE x_UNSUBACK x_PINGREQ x_PINGRESP x_DISCONNECT x_AUTH h0 n0) room_1.cells room_1.slots (T1.setTop (mkF m 21 #[.val (.int p0), .val (.int p1), .val (.int kk), .val (.int ff), .val (.ref pa1), .unset] [(.int (2 : Int32)), (.int kk)]))
  have J73 : ∀ (TJ2 : State) (LJ2 : List Loc) (ex : Int32), Stand p l e room_1 s m #[(.int p0), (.int p1)] below meth c TJ2 LJ2 0 0 → TJ2.heap = h0 → Fr n0 LJ2 → (own_acc (own_fl kk) ff = ex) → GoesW p.tables e below s (Q0 Z p0 p1 x_CONNECT x_CONNACK x_PUBLISH x_PUBACK x_PUBREC x_PUBREL x_PUBCOMP x_SUBSCRIBE x_SUBACK x_UNSUBSCRIBE x_UNSUBACK x_PINGREQ x_PINGRESP x_DISCONNECT x_AUTH h0 n0) room_1.cells room_1.slots (TJ2.setTop (mkF m 73 #[.val (.int p0), .val (.int p1), .val (.int kk), .val (.int ff), .val (.ref pa1), .val (.int ex)] [])) := by
    intro TJ2 LJ2 ex XJ2 eJ2 NJ2 hJ
    show GoesW p.tables e below s (Q0 Z p0 p1 x_CONNECT x_CONNACK x_PUBLISH x_PUBACK x_PUBREC x_PUBREL x_PUBCOMP x_SUBSCRIBE x_SUBACK x_UNSUBSCRIBE x_UNSUBACK x_PINGREQ x_PINGRESP x_DISCONNECT x_AUTH h0 n0) room_1.cells room_1.slots (TJ2.setTop (mkF m 73 #[.val (.int p0), .val (.int p1), .val (.int kk), .val (.int ff), .val (.ref pa1), .val (.int ex)] []))
    refine GoesW.step (fun _ k => XS.aload XJ2.here hx rfl (hb hby at_73) rfl rfl k) ?_
    show GoesW p.tables e below s (Q0 Z p0 p1 x_CONNECT x_CONNACK x_PUBLISH x_PUBACK x_PUBREC x_PUBREL x_PUBCOMP x_SUBSCRIBE x_SUBACK x_UNSUBSCRIBE x_UNSUBACK x_PINGREQ x_PINGRESP x_DISCONNECT x_AUTH h0 n0) room_1.cells room_1.slots (TJ2.setTop (mkF m 75 #[.val (.int p0), .val (.int p1), .val (.int kk), .val (.int ff), .val (.ref pa1), .val (.int ex)] [(.ref pa1)]))
    refine GoesW.step (fun _ k => XS.iloadN XJ2.here hx rfl (hb hby at_75) rfl k) ?_
    show GoesW p.tables e below s (Q0 Z p0 p1 x_CONNECT x_CONNACK x_PUBLISH x_PUBACK x_PUBREC x_PUBREL x_PUBCOMP x_SUBSCRIBE x_SUBACK x_UNSUBSCRIBE x_UNSUBACK x_PINGREQ x_PINGRESP x_DISCONNECT x_AUTH h0 n0) room_1.cells room_1.slots (TJ2.setTop (mkF m 76 #[.val (.int p0), .val (.int p1), .val (.int kk), .val (.int ff), .val (.ref pa1), .val (.int ex)] [(.int ff), (.ref pa1)]))
    obtain ⟨cq3, kq3, q3a, q3b, q3c⟩ := isOf hZ eJ2 Ep1
    obtain ⟨_, _, ⟨T3, L3, k3, n3⟩, -, X3, ⟨Lc3, hQ3, l3, y3, z3⟩, st3⟩ := XJ2.virtualBack hx (y := (⟨"com/example/varuna/varuna/broker/wire/PacketType", "acceptsFlags", "(I)Z"⟩ : MethodName)) (z := (⟨"com/example/varuna/varuna/broker/wire/PacketType", "acceptsFlags", "(I)Z"⟩ : MethodName)) hown (mvT hZ (hw _ (List.mem_of_getElem? (i := 8) rfl))) (mvT hZ (hw _ (List.mem_of_getElem? (i := 9) rfl))) (notFace_of_selects (args := #[]) (mvT hZ (hw _ (List.mem_of_getElem? (i := 11) rfl)))) (mvT hZ (hw _ (List.mem_of_getElem? (i := 11) rfl))) (mvT hZ (hw _ (List.mem_of_getElem? (i := 10) rfl))) (by decide) (backOf (W := 0) (rm2 l Z a0 hw [] pa1 ff (own_fl kk) h0 n0 Z0 Fp1) hZ (hw _ (List.mem_of_getElem? (i := 12) rfl)) (hw _ (List.mem_of_getElem? (i := 6) rfl)) (by decide) (by decide)) q3a q3c (g := (mkF m 76 #[.val (.int p0), .val (.int p1), .val (.int kk), .val (.int ff), .val (.ref pa1), .val (.int ex)] [(.int ff), (.ref pa1)])) rfl (by rw [hml]; rfl) (Steps.refl _) (argsL := [(.int ff)]) (rest := []) (lenOf own_pd1 rfl) rfl (by show 2 * 0 + _ ≤ _; exact Nat.le_of_eq rfl) (hb hby at_76) (fun _ _ => ⟨rfl, eJ2, (by decide : 0 + 0 ≤ _), (by decide : 0 + 0 ≤ _)⟩)
    dsimp only [Pt.U, Pt.locs, Pt.cells, Pt.slots] at X3 l3 y3 z3 st3 hQ3
    subst l3 y3 z3
    obtain ⟨rfl, N3q, eq3⟩ := hQ3
    have N3 := Fr.app NJ2 N3q
    refine GoesW.step (fun _ k => st3.trans k) ?_
    show GoesW p.tables e below s (Q0 Z p0 p1 x_CONNECT x_CONNACK x_PUBLISH x_PUBACK x_PUBREC x_PUBREL x_PUBCOMP x_SUBSCRIBE x_SUBACK x_UNSUBSCRIBE x_UNSUBACK x_PINGREQ x_PINGRESP x_DISCONNECT x_AUTH h0 n0) room_1.cells room_1.slots (T3.setTop (mkF m 79 #[.val (.int p0), .val (.int p1), .val (.int kk), .val (.int ff), .val (.ref pa1), .val (.int ex)] [(.int (own_acc (own_fl kk) ff))]))
    refine GoesW.step (fun _ k => XS.iload X3.here hx rfl (hb hby at_79) rfl k) ?_
    show GoesW p.tables e below s (Q0 Z p0 p1 x_CONNECT x_CONNACK x_PUBLISH x_PUBACK x_PUBREC x_PUBREL x_PUBCOMP x_SUBSCRIBE x_SUBACK x_UNSUBSCRIBE x_UNSUBACK x_PINGREQ x_PINGRESP x_DISCONNECT x_AUTH h0 n0) room_1.cells room_1.slots (T3.setTop (mkF m 81 #[.val (.int p0), .val (.int p1), .val (.int kk), .val (.int ff), .val (.ref pa1), .val (.int ex)] [(.int ex), (.int (own_acc (own_fl kk) ff))]))
    refine GoesW.step (fun _ k => XS.icmpNo X3.here hx rfl (hb hby at_81) rfl (teq hJ).2 k) ?_
    show GoesW p.tables e below s (Q0 Z p0 p1 x_CONNECT x_CONNACK x_PUBLISH x_PUBACK x_PUBREC x_PUBREL x_PUBCOMP x_SUBSCRIBE x_SUBACK x_UNSUBSCRIBE x_UNSUBACK x_PINGREQ x_PINGRESP x_DISCONNECT x_AUTH h0 n0) room_1.cells room_1.slots (T3.setTop (mkF m 84 #[.val (.int p0), .val (.int p1), .val (.int kk), .val (.int ff), .val (.ref pa1), .val (.int ex)] []))
    refine GoesW.step (fun _ k => XS.iconst X3.here hx rfl (hb hby at_84) k) ?_
    show GoesW p.tables e below s (Q0 Z p0 p1 x_CONNECT x_CONNACK x_PUBLISH x_PUBACK x_PUBREC x_PUBREL x_PUBCOMP x_SUBSCRIBE x_SUBACK x_UNSUBSCRIBE x_UNSUBACK x_PINGREQ x_PINGRESP x_DISCONNECT x_AUTH h0 n0) room_1.cells room_1.slots (T3.setTop (mkF m 85 #[.val (.int p0), .val (.int p1), .val (.int kk), .val (.int ff), .val (.ref pa1), .val (.int ex)] [(.int (1 : Int32))]))
    refine GoesW.step (fun _ k => XS.goto X3.here hx rfl (pc0 := 85) (pc' := 89) rfl (hb hby at_85) (by decide) (by decide) k) ?_
    show GoesW p.tables e below s (Q0 Z p0 p1 x_CONNECT x_CONNACK x_PUBLISH x_PUBACK x_PUBREC x_PUBREL x_PUBCOMP x_SUBSCRIBE x_SUBACK x_UNSUBSCRIBE x_UNSUBACK x_PINGREQ x_PINGRESP x_DISCONNECT x_AUTH h0 n0) room_1.cells room_1.slots (T3.setTop (mkF m 89 #[.val (.int p0), .val (.int p1), .val (.int kk), .val (.int ff), .val (.ref pa1), .val (.int ex)] [(.int (1 : Int32))]))
    exact GoesW.retZ X3 hx hlk (t := .boolean) Bd.returns (by simp) rfl (hb hby at_89) (by show Q0 Z p0 p1 x_CONNECT x_CONNACK x_PUBLISH x_PUBACK x_PUBREC x_PUBREL x_PUBCOMP x_SUBSCRIBE x_SUBACK x_UNSUBSCRIBE x_UNSUBACK x_PINGREQ x_PINGRESP x_DISCONNECT x_AUTH h0 n0 _ T3.heap _; rw [eq3]; exact ⟨rfl, N3⟩) (by decide) (by decide)
  by_cases h2 : kk = (2 : Int32)
  · skip
    refine GoesW.step (fun _ k => XS.icmpNo X1.here hx rfl (hb hby at_21) rfl (teq h2).2 k) ?_
    show GoesW p.tables e below s (Q0 Z p0 p1 x_CONNECT x_CONNACK x_PUBLISH x_PUBACK x_PUBREC x_PUBREL x_PUBCOMP x_SUBSCRIBE x_SUBACK x_UNSUBSCRIBE x_UNSUBACK x_PINGREQ x_PINGRESP x_DISCONNECT x_AUTH h0 n0) room_1.cells room_1.slots (T1.setTop (mkF m 24 #[.val (.int p0), .val (.int p1), .val (.int kk), .val (.int ff), .val (.ref pa1), .unset] []))
    refine GoesW.step (fun _ k => XS.iconst X1.here hx rfl (hb hby at_24) k) ?_
    show GoesW p.tables e below s (Q0 Z p0 p1 x_CONNECT x_CONNACK x_PUBLISH x_PUBACK x_PUBREC x_PUBREL x_PUBCOMP x_SUBSCRIBE x_SUBACK x_UNSUBSCRIBE x_UNSUBACK x_PINGREQ x_PINGRESP x_DISCONNECT x_AUTH h0 n0) room_1.cells room_1.slots (T1.setTop (mkF m 25 #[.val (.int p0), .val (.int p1), .val (.int kk), .val (.int ff), .val (.ref pa1), .unset] [(.int (1 : Int32))]))
    refine GoesW.step (fun _ k => XS.istore X1.here hx rfl (hb hby at_25) rfl (l' := #[.val (.int p0), .val (.int p1), .val (.int kk), .val (.int ff), .val (.ref pa1), .val (.int (1 : Int32))]) rfl k) ?_
    show GoesW p.tables e below s (Q0 Z p0 p1 x_CONNECT x_CONNACK x_PUBLISH x_PUBACK x_PUBREC x_PUBREL x_PUBCOMP x_SUBSCRIBE x_SUBACK x_UNSUBSCRIBE x_UNSUBACK x_PINGREQ x_PINGRESP x_DISCONNECT x_AUTH h0 n0) room_1.cells room_1.slots (T1.setTop (mkF m 27 #[.val (.int p0), .val (.int p1), .val (.int kk), .val (.int ff), .val (.ref pa1), .val (.int (1 : Int32))] []))
    refine GoesW.step (fun _ k => XS.goto X1.here hx rfl (pc0 := 27) (pc' := 73) rfl (hb hby at_27) (by decide) (by decide) k) ?_
    show GoesW p.tables e below s (Q0 Z p0 p1 x_CONNECT x_CONNACK x_PUBLISH x_PUBACK x_PUBREC x_PUBREL x_PUBCOMP x_SUBSCRIBE x_SUBACK x_UNSUBSCRIBE x_UNSUBACK x_PINGREQ x_PINGRESP x_DISCONNECT x_AUTH h0 n0) room_1.cells room_1.slots (T1.setTop (mkF m 73 #[.val (.int p0), .val (.int p1), .val (.int kk), .val (.int ff), .val (.ref pa1), .val (.int (1 : Int32))] []))
    exact J73 _ _ _ X1 eq1 N1 (by subst h2; rw [own_acc, if_pos (by decide)])
  · skip
    refine GoesW.step (fun _ k => XS.icmpYes X1.here hx rfl (pc0 := 21) (pc' := 30) rfl (hb hby at_21) rfl (feq h2).2 (by decide) (by decide) k) ?_
    show GoesW p.tables e below s (Q0 Z p0 p1 x_CONNECT x_CONNACK x_PUBLISH x_PUBACK x_PUBREC x_PUBREL x_PUBCOMP x_SUBSCRIBE x_SUBACK x_UNSUBSCRIBE x_UNSUBACK x_PINGREQ x_PINGRESP x_DISCONNECT x_AUTH h0 n0) room_1.cells room_1.slots (T1.setTop (mkF m 30 #[.val (.int p0), .val (.int p1), .val (.int kk), .val (.int ff), .val (.ref pa1), .unset] []))
    refine GoesW.step (fun _ k => XS.iloadN X1.here hx rfl (hb hby at_30) rfl k) ?_
    show GoesW p.tables e below s (Q0 Z p0 p1 x_CONNECT x_CONNACK x_PUBLISH x_PUBACK x_PUBREC x_PUBREL x_PUBCOMP x_SUBSCRIBE x_SUBACK x_UNSUBSCRIBE x_UNSUBACK x_PINGREQ x_PINGRESP x_DISCONNECT x_AUTH h0 n0) room_1.cells room_1.slots (T1.setTop (mkF m 31 #[.val (.int p0), .val (.int p1), .val (.int kk), .val (.int ff), .val (.ref pa1), .unset] [(.int kk)]))
    refine GoesW.step (fun _ k => XS.iconst X1.here hx rfl (hb hby at_31) k) ?_
    show GoesW p.tables e below s (Q0 Z p0 p1 x_CONNECT x_CONNACK x_PUBLISH x_PUBACK x_PUBREC x_PUBREL x_PUBCOMP x_SUBSCRIBE x_SUBACK x_UNSUBSCRIBE x_UNSUBACK x_PINGREQ x_PINGRESP x_DISCONNECT x_AUTH h0 n0) room_1.cells room_1.slots (T1.setTop (mkF m 32 #[.val (.int p0), .val (.int p1), .val (.int kk), .val (.int ff), .val (.ref pa1), .unset] [(.int (5 : Int32)), (.int kk)]))
    by_cases h5 : kk = (5 : Int32)
    · skip
      refine GoesW.step (fun _ k => XS.icmpYes X1.here hx rfl (pc0 := 32) (pc' := 47) rfl (hb hby at_32) rfl (teq h5).1 (by decide) (by decide) k) ?_
      show GoesW p.tables e below s (Q0 Z p0 p1 x_CONNECT x_CONNACK x_PUBLISH x_PUBACK x_PUBREC x_PUBREL x_PUBCOMP x_SUBSCRIBE x_SUBACK x_UNSUBSCRIBE x_UNSUBACK x_PINGREQ x_PINGRESP x_DISCONNECT x_AUTH h0 n0) room_1.cells room_1.slots (T1.setTop (mkF m 47 #[.val (.int p0), .val (.int p1), .val (.int kk), .val (.int ff), .val (.ref pa1), .unset] []))
      refine GoesW.step (fun _ k => XS.iloadN X1.here hx rfl (hb hby at_47) rfl k) ?_
      show GoesW p.tables e below s (Q0 Z p0 p1 x_CONNECT x_CONNACK x_PUBLISH x_PUBACK x_PUBREC x_PUBREL x_PUBCOMP x_SUBSCRIBE x_SUBACK x_UNSUBSCRIBE x_UNSUBACK x_PINGREQ x_PINGRESP x_DISCONNECT x_AUTH h0 n0) room_1.cells room_1.slots (T1.setTop (mkF m 48 #[.val (.int p0), .val (.int p1), .val (.int kk), .val (.int ff), .val (.ref pa1), .unset] [(.int ff)]))
      refine GoesW.step (fun _ k => XS.iconst X1.here hx rfl (hb hby at_48) k) ?_
      show GoesW p.tables e below s (Q0 Z p0 p1 x_CONNECT x_CONNACK x_PUBLISH x_PUBACK x_PUBREC x_PUBREL x_PUBCOMP x_SUBSCRIBE x_SUBACK x_UNSUBSCRIBE x_UNSUBACK x_PINGREQ x_PINGRESP x_DISCONNECT x_AUTH h0 n0) room_1.cells room_1.slots (T1.setTop (mkF m 49 #[.val (.int p0), .val (.int p1), .val (.int kk), .val (.int ff), .val (.ref pa1), .unset] [(.int (2 : Int32)), (.int ff)]))
      refine GoesW.step (fun _ k => diam2 X1.here hx rfl (pc0 := 49) rfl (hb hby at_49) rfl (hb hby at_52) (hb hby at_53) (hb hby at_56) k) ?_
      show GoesW p.tables e below s (Q0 Z p0 p1 x_CONNECT x_CONNACK x_PUBLISH x_PUBACK x_PUBREC x_PUBREL x_PUBCOMP x_SUBSCRIBE x_SUBACK x_UNSUBSCRIBE x_UNSUBACK x_PINGREQ x_PINGRESP x_DISCONNECT x_AUTH h0 n0) room_1.cells room_1.slots (T1.setTop (mkF m 57 #[.val (.int p0), .val (.int p1), .val (.int kk), .val (.int ff), .val (.ref pa1), .unset] [(.int (nb (if_icmp.holds .ne ff (2 : Int32))))]))
      refine GoesW.step (fun _ k => XS.istore X1.here hx rfl (hb hby at_57) rfl (l' := #[.val (.int p0), .val (.int p1), .val (.int kk), .val (.int ff), .val (.ref pa1), .val (.int (nb (if_icmp.holds .ne ff (2 : Int32))))]) rfl k) ?_
      show GoesW p.tables e below s (Q0 Z p0 p1 x_CONNECT x_CONNACK x_PUBLISH x_PUBACK x_PUBREC x_PUBREL x_PUBCOMP x_SUBSCRIBE x_SUBACK x_UNSUBSCRIBE x_UNSUBACK x_PINGREQ x_PINGRESP x_DISCONNECT x_AUTH h0 n0) room_1.cells room_1.slots (T1.setTop (mkF m 59 #[.val (.int p0), .val (.int p1), .val (.int kk), .val (.int ff), .val (.ref pa1), .val (.int (nb (if_icmp.holds .ne ff (2 : Int32))))] []))
      refine GoesW.step (fun _ k => XS.goto X1.here hx rfl (pc0 := 59) (pc' := 73) rfl (hb hby at_59) (by decide) (by decide) k) ?_
      show GoesW p.tables e below s (Q0 Z p0 p1 x_CONNECT x_CONNACK x_PUBLISH x_PUBACK x_PUBREC x_PUBREL x_PUBCOMP x_SUBSCRIBE x_SUBACK x_UNSUBSCRIBE x_UNSUBACK x_PINGREQ x_PINGRESP x_DISCONNECT x_AUTH h0 n0) room_1.cells room_1.slots (T1.setTop (mkF m 73 #[.val (.int p0), .val (.int p1), .val (.int kk), .val (.int ff), .val (.ref pa1), .val (.int (nb (if_icmp.holds .ne ff (2 : Int32))))] []))
      exact J73 _ _ _ X1 eq1 N1 (by rw [show own_fl kk = (2 : Int32) from by subst h5; decide]; exact own_a2 ff)
    · skip
      refine GoesW.step (fun _ k => XS.icmpNo X1.here hx rfl (hb hby at_32) rfl (feq h5).1 k) ?_
      show GoesW p.tables e below s (Q0 Z p0 p1 x_CONNECT x_CONNACK x_PUBLISH x_PUBACK x_PUBREC x_PUBREL x_PUBCOMP x_SUBSCRIBE x_SUBACK x_UNSUBSCRIBE x_UNSUBACK x_PINGREQ x_PINGRESP x_DISCONNECT x_AUTH h0 n0) room_1.cells room_1.slots (T1.setTop (mkF m 35 #[.val (.int p0), .val (.int p1), .val (.int kk), .val (.int ff), .val (.ref pa1), .unset] []))
      refine GoesW.step (fun _ k => XS.iloadN X1.here hx rfl (hb hby at_35) rfl k) ?_
      show GoesW p.tables e below s (Q0 Z p0 p1 x_CONNECT x_CONNACK x_PUBLISH x_PUBACK x_PUBREC x_PUBREL x_PUBCOMP x_SUBSCRIBE x_SUBACK x_UNSUBSCRIBE x_UNSUBACK x_PINGREQ x_PINGRESP x_DISCONNECT x_AUTH h0 n0) room_1.cells room_1.slots (T1.setTop (mkF m 36 #[.val (.int p0), .val (.int p1), .val (.int kk), .val (.int ff), .val (.ref pa1), .unset] [(.int kk)]))
      refine GoesW.step (fun _ k => XS.bipush X1.here hx rfl (hb hby at_36) k) ?_
      show GoesW p.tables e below s (Q0 Z p0 p1 x_CONNECT x_CONNACK x_PUBLISH x_PUBACK x_PUBREC x_PUBREL x_PUBCOMP x_SUBSCRIBE x_SUBACK x_UNSUBSCRIBE x_UNSUBACK x_PINGREQ x_PINGRESP x_DISCONNECT x_AUTH h0 n0) room_1.cells room_1.slots (T1.setTop (mkF m 38 #[.val (.int p0), .val (.int p1), .val (.int kk), .val (.int ff), .val (.ref pa1), .unset] [(.int (7 : Int32)), (.int kk)]))
      by_cases h7 : kk = (7 : Int32)
      · skip
        refine GoesW.step (fun _ k => XS.icmpYes X1.here hx rfl (pc0 := 38) (pc' := 47) rfl (hb hby at_38) rfl (teq h7).1 (by decide) (by decide) k) ?_
        show GoesW p.tables e below s (Q0 Z p0 p1 x_CONNECT x_CONNACK x_PUBLISH x_PUBACK x_PUBREC x_PUBREL x_PUBCOMP x_SUBSCRIBE x_SUBACK x_UNSUBSCRIBE x_UNSUBACK x_PINGREQ x_PINGRESP x_DISCONNECT x_AUTH h0 n0) room_1.cells room_1.slots (T1.setTop (mkF m 47 #[.val (.int p0), .val (.int p1), .val (.int kk), .val (.int ff), .val (.ref pa1), .unset] []))
        refine GoesW.step (fun _ k => XS.iloadN X1.here hx rfl (hb hby at_47) rfl k) ?_
        show GoesW p.tables e below s (Q0 Z p0 p1 x_CONNECT x_CONNACK x_PUBLISH x_PUBACK x_PUBREC x_PUBREL x_PUBCOMP x_SUBSCRIBE x_SUBACK x_UNSUBSCRIBE x_UNSUBACK x_PINGREQ x_PINGRESP x_DISCONNECT x_AUTH h0 n0) room_1.cells room_1.slots (T1.setTop (mkF m 48 #[.val (.int p0), .val (.int p1), .val (.int kk), .val (.int ff), .val (.ref pa1), .unset] [(.int ff)]))
        refine GoesW.step (fun _ k => XS.iconst X1.here hx rfl (hb hby at_48) k) ?_
        show GoesW p.tables e below s (Q0 Z p0 p1 x_CONNECT x_CONNACK x_PUBLISH x_PUBACK x_PUBREC x_PUBREL x_PUBCOMP x_SUBSCRIBE x_SUBACK x_UNSUBSCRIBE x_UNSUBACK x_PINGREQ x_PINGRESP x_DISCONNECT x_AUTH h0 n0) room_1.cells room_1.slots (T1.setTop (mkF m 49 #[.val (.int p0), .val (.int p1), .val (.int kk), .val (.int ff), .val (.ref pa1), .unset] [(.int (2 : Int32)), (.int ff)]))
        refine GoesW.step (fun _ k => diam2 X1.here hx rfl (pc0 := 49) rfl (hb hby at_49) rfl (hb hby at_52) (hb hby at_53) (hb hby at_56) k) ?_
        show GoesW p.tables e below s (Q0 Z p0 p1 x_CONNECT x_CONNACK x_PUBLISH x_PUBACK x_PUBREC x_PUBREL x_PUBCOMP x_SUBSCRIBE x_SUBACK x_UNSUBSCRIBE x_UNSUBACK x_PINGREQ x_PINGRESP x_DISCONNECT x_AUTH h0 n0) room_1.cells room_1.slots (T1.setTop (mkF m 57 #[.val (.int p0), .val (.int p1), .val (.int kk), .val (.int ff), .val (.ref pa1), .unset] [(.int (nb (if_icmp.holds .ne ff (2 : Int32))))]))
        refine GoesW.step (fun _ k => XS.istore X1.here hx rfl (hb hby at_57) rfl (l' := #[.val (.int p0), .val (.int p1), .val (.int kk), .val (.int ff), .val (.ref pa1), .val (.int (nb (if_icmp.holds .ne ff (2 : Int32))))]) rfl k) ?_
        show GoesW p.tables e below s (Q0 Z p0 p1 x_CONNECT x_CONNACK x_PUBLISH x_PUBACK x_PUBREC x_PUBREL x_PUBCOMP x_SUBSCRIBE x_SUBACK x_UNSUBSCRIBE x_UNSUBACK x_PINGREQ x_PINGRESP x_DISCONNECT x_AUTH h0 n0) room_1.cells room_1.slots (T1.setTop (mkF m 59 #[.val (.int p0), .val (.int p1), .val (.int kk), .val (.int ff), .val (.ref pa1), .val (.int (nb (if_icmp.holds .ne ff (2 : Int32))))] []))
        refine GoesW.step (fun _ k => XS.goto X1.here hx rfl (pc0 := 59) (pc' := 73) rfl (hb hby at_59) (by decide) (by decide) k) ?_
        show GoesW p.tables e below s (Q0 Z p0 p1 x_CONNECT x_CONNACK x_PUBLISH x_PUBACK x_PUBREC x_PUBREL x_PUBCOMP x_SUBSCRIBE x_SUBACK x_UNSUBSCRIBE x_UNSUBACK x_PINGREQ x_PINGRESP x_DISCONNECT x_AUTH h0 n0) room_1.cells room_1.slots (T1.setTop (mkF m 73 #[.val (.int p0), .val (.int p1), .val (.int kk), .val (.int ff), .val (.ref pa1), .val (.int (nb (if_icmp.holds .ne ff (2 : Int32))))] []))
        exact J73 _ _ _ X1 eq1 N1 (by rw [show own_fl kk = (2 : Int32) from by subst h7; decide]; exact own_a2 ff)
      · skip
        refine GoesW.step (fun _ k => XS.icmpNo X1.here hx rfl (hb hby at_38) rfl (feq h7).1 k) ?_
        show GoesW p.tables e below s (Q0 Z p0 p1 x_CONNECT x_CONNACK x_PUBLISH x_PUBACK x_PUBREC x_PUBREL x_PUBCOMP x_SUBSCRIBE x_SUBACK x_UNSUBSCRIBE x_UNSUBACK x_PINGREQ x_PINGRESP x_DISCONNECT x_AUTH h0 n0) room_1.cells room_1.slots (T1.setTop (mkF m 41 #[.val (.int p0), .val (.int p1), .val (.int kk), .val (.int ff), .val (.ref pa1), .unset] []))
        refine GoesW.step (fun _ k => XS.iloadN X1.here hx rfl (hb hby at_41) rfl k) ?_
        show GoesW p.tables e below s (Q0 Z p0 p1 x_CONNECT x_CONNACK x_PUBLISH x_PUBACK x_PUBREC x_PUBREL x_PUBCOMP x_SUBSCRIBE x_SUBACK x_UNSUBSCRIBE x_UNSUBACK x_PINGREQ x_PINGRESP x_DISCONNECT x_AUTH h0 n0) room_1.cells room_1.slots (T1.setTop (mkF m 42 #[.val (.int p0), .val (.int p1), .val (.int kk), .val (.int ff), .val (.ref pa1), .unset] [(.int kk)]))
        refine GoesW.step (fun _ k => XS.bipush X1.here hx rfl (hb hby at_42) k) ?_
        show GoesW p.tables e below s (Q0 Z p0 p1 x_CONNECT x_CONNACK x_PUBLISH x_PUBACK x_PUBREC x_PUBREL x_PUBCOMP x_SUBSCRIBE x_SUBACK x_UNSUBSCRIBE x_UNSUBACK x_PINGREQ x_PINGRESP x_DISCONNECT x_AUTH h0 n0) room_1.cells room_1.slots (T1.setTop (mkF m 44 #[.val (.int p0), .val (.int p1), .val (.int kk), .val (.int ff), .val (.ref pa1), .unset] [(.int (9 : Int32)), (.int kk)]))
        by_cases h9 : kk = (9 : Int32)
        · skip
          refine GoesW.step (fun _ k => XS.icmpNo X1.here hx rfl (hb hby at_44) rfl (teq h9).2 k) ?_
          show GoesW p.tables e below s (Q0 Z p0 p1 x_CONNECT x_CONNACK x_PUBLISH x_PUBACK x_PUBREC x_PUBREL x_PUBCOMP x_SUBSCRIBE x_SUBACK x_UNSUBSCRIBE x_UNSUBACK x_PINGREQ x_PINGRESP x_DISCONNECT x_AUTH h0 n0) room_1.cells room_1.slots (T1.setTop (mkF m 47 #[.val (.int p0), .val (.int p1), .val (.int kk), .val (.int ff), .val (.ref pa1), .unset] []))
          refine GoesW.step (fun _ k => XS.iloadN X1.here hx rfl (hb hby at_47) rfl k) ?_
          show GoesW p.tables e below s (Q0 Z p0 p1 x_CONNECT x_CONNACK x_PUBLISH x_PUBACK x_PUBREC x_PUBREL x_PUBCOMP x_SUBSCRIBE x_SUBACK x_UNSUBSCRIBE x_UNSUBACK x_PINGREQ x_PINGRESP x_DISCONNECT x_AUTH h0 n0) room_1.cells room_1.slots (T1.setTop (mkF m 48 #[.val (.int p0), .val (.int p1), .val (.int kk), .val (.int ff), .val (.ref pa1), .unset] [(.int ff)]))
          refine GoesW.step (fun _ k => XS.iconst X1.here hx rfl (hb hby at_48) k) ?_
          show GoesW p.tables e below s (Q0 Z p0 p1 x_CONNECT x_CONNACK x_PUBLISH x_PUBACK x_PUBREC x_PUBREL x_PUBCOMP x_SUBSCRIBE x_SUBACK x_UNSUBSCRIBE x_UNSUBACK x_PINGREQ x_PINGRESP x_DISCONNECT x_AUTH h0 n0) room_1.cells room_1.slots (T1.setTop (mkF m 49 #[.val (.int p0), .val (.int p1), .val (.int kk), .val (.int ff), .val (.ref pa1), .unset] [(.int (2 : Int32)), (.int ff)]))
          refine GoesW.step (fun _ k => diam2 X1.here hx rfl (pc0 := 49) rfl (hb hby at_49) rfl (hb hby at_52) (hb hby at_53) (hb hby at_56) k) ?_
          show GoesW p.tables e below s (Q0 Z p0 p1 x_CONNECT x_CONNACK x_PUBLISH x_PUBACK x_PUBREC x_PUBREL x_PUBCOMP x_SUBSCRIBE x_SUBACK x_UNSUBSCRIBE x_UNSUBACK x_PINGREQ x_PINGRESP x_DISCONNECT x_AUTH h0 n0) room_1.cells room_1.slots (T1.setTop (mkF m 57 #[.val (.int p0), .val (.int p1), .val (.int kk), .val (.int ff), .val (.ref pa1), .unset] [(.int (nb (if_icmp.holds .ne ff (2 : Int32))))]))
          refine GoesW.step (fun _ k => XS.istore X1.here hx rfl (hb hby at_57) rfl (l' := #[.val (.int p0), .val (.int p1), .val (.int kk), .val (.int ff), .val (.ref pa1), .val (.int (nb (if_icmp.holds .ne ff (2 : Int32))))]) rfl k) ?_
          show GoesW p.tables e below s (Q0 Z p0 p1 x_CONNECT x_CONNACK x_PUBLISH x_PUBACK x_PUBREC x_PUBREL x_PUBCOMP x_SUBSCRIBE x_SUBACK x_UNSUBSCRIBE x_UNSUBACK x_PINGREQ x_PINGRESP x_DISCONNECT x_AUTH h0 n0) room_1.cells room_1.slots (T1.setTop (mkF m 59 #[.val (.int p0), .val (.int p1), .val (.int kk), .val (.int ff), .val (.ref pa1), .val (.int (nb (if_icmp.holds .ne ff (2 : Int32))))] []))
          refine GoesW.step (fun _ k => XS.goto X1.here hx rfl (pc0 := 59) (pc' := 73) rfl (hb hby at_59) (by decide) (by decide) k) ?_
          show GoesW p.tables e below s (Q0 Z p0 p1 x_CONNECT x_CONNACK x_PUBLISH x_PUBACK x_PUBREC x_PUBREL x_PUBCOMP x_SUBSCRIBE x_SUBACK x_UNSUBSCRIBE x_UNSUBACK x_PINGREQ x_PINGRESP x_DISCONNECT x_AUTH h0 n0) room_1.cells room_1.slots (T1.setTop (mkF m 73 #[.val (.int p0), .val (.int p1), .val (.int kk), .val (.int ff), .val (.ref pa1), .val (.int (nb (if_icmp.holds .ne ff (2 : Int32))))] []))
          exact J73 _ _ _ X1 eq1 N1 (by rw [show own_fl kk = (2 : Int32) from by subst h9; decide]; exact own_a2 ff)
        · skip
          refine GoesW.step (fun _ k => XS.icmpYes X1.here hx rfl (pc0 := 44) (pc' := 62) rfl (hb hby at_44) rfl (feq h9).2 (by decide) (by decide) k) ?_
          show GoesW p.tables e below s (Q0 Z p0 p1 x_CONNECT x_CONNACK x_PUBLISH x_PUBACK x_PUBREC x_PUBREL x_PUBCOMP x_SUBSCRIBE x_SUBACK x_UNSUBSCRIBE x_UNSUBACK x_PINGREQ x_PINGRESP x_DISCONNECT x_AUTH h0 n0) room_1.cells room_1.slots (T1.setTop (mkF m 62 #[.val (.int p0), .val (.int p1), .val (.int kk), .val (.int ff), .val (.ref pa1), .unset] []))
          refine GoesW.step (fun _ k => XS.iloadN X1.here hx rfl (hb hby at_62) rfl k) ?_
          show GoesW p.tables e below s (Q0 Z p0 p1 x_CONNECT x_CONNACK x_PUBLISH x_PUBACK x_PUBREC x_PUBREL x_PUBCOMP x_SUBSCRIBE x_SUBACK x_UNSUBSCRIBE x_UNSUBACK x_PINGREQ x_PINGRESP x_DISCONNECT x_AUTH h0 n0) room_1.cells room_1.slots (T1.setTop (mkF m 63 #[.val (.int p0), .val (.int p1), .val (.int kk), .val (.int ff), .val (.ref pa1), .unset] [(.int ff)]))
          refine GoesW.step (fun _ k => diam0 X1.here hx rfl (pc0 := 63) rfl (hb hby at_63) rfl (hb hby at_66) (hb hby at_67) (hb hby at_70) k) ?_
          show GoesW p.tables e below s (Q0 Z p0 p1 x_CONNECT x_CONNACK x_PUBLISH x_PUBACK x_PUBREC x_PUBREL x_PUBCOMP x_SUBSCRIBE x_SUBACK x_UNSUBSCRIBE x_UNSUBACK x_PINGREQ x_PINGRESP x_DISCONNECT x_AUTH h0 n0) room_1.cells room_1.slots (T1.setTop (mkF m 71 #[.val (.int p0), .val (.int p1), .val (.int kk), .val (.int ff), .val (.ref pa1), .unset] [(.int (nb (ifCond.holds .ne ff)))]))
          refine GoesW.step (fun _ k => XS.istore X1.here hx rfl (hb hby at_71) rfl (l' := #[.val (.int p0), .val (.int p1), .val (.int kk), .val (.int ff), .val (.ref pa1), .val (.int (nb (ifCond.holds .ne ff)))]) rfl k) ?_
          show GoesW p.tables e below s (Q0 Z p0 p1 x_CONNECT x_CONNACK x_PUBLISH x_PUBACK x_PUBREC x_PUBREL x_PUBCOMP x_SUBSCRIBE x_SUBACK x_UNSUBSCRIBE x_UNSUBACK x_PINGREQ x_PINGRESP x_DISCONNECT x_AUTH h0 n0) room_1.cells room_1.slots (T1.setTop (mkF m 73 #[.val (.int p0), .val (.int p1), .val (.int kk), .val (.int ff), .val (.ref pa1), .val (.int (nb (ifCond.holds .ne ff)))] []))
          exact J73 _ _ _ X1 eq1 N1 (by rw [show own_fl kk = (0 : Int32) from by rw [own_fl, if_neg h2, if_neg h5, if_neg h7, if_neg h9]]; exact own_a0 ff)
set_option maxRecDepth 65536 in
set_option maxHeartbeats 40000000 in
theorem comes_1 {Post : Tables → Env → Array Value → State → Outcome → State → Prop} (hpost : ∀ tb e args s v u, (limb_1_1.after args s (.returned v) u = true ∧ limb_1_2.after args s (.returned v) u = true ∧ True) → FrameEnd s (.returned v) u (Jvm.fieldLocs frame_1_writes args s ++ Jvm.arrayLocs frame_1_arrays args s ++ Jvm.staticLocs frame_1_statics s) 0 0 → Post tb e args s (.returned v) u) :
    ArmFor flags0 classFile x code maxLocals ret World_1 tables_1 room_1 Calls_1 rest_1 Pre_1 Post := by
  intro l hfl _ _ p e ha hc hk s m args below hf hA hF happ hP
  obtain ⟨hcalls, hrest, hpre⟩ := hP
  obtain ⟨-, -, -, hnamed, -, -, -, hat⟩ := (Spec.applies_iff hf).mp happ
  obtain ⟨hg, hn⟩ := and_e (Cond.before_iff.mp (show (Jvm.Cond.and given_1 narrow_1).before args s = true from hpre))
  obtain ⟨gc, gr0⟩ := and_e hg
  obtain ⟨w0, w1, rfl⟩ : ∃ w0 w1 : Value, args = #[w0, w1] := by
    have hs : args.size = 2 := by simpa [Cond.value, given_1] using gc
    obtain ⟨L⟩ := args
    match L, hs with
    | [w0, w1], _ => exact ⟨w0, w1, rfl⟩
  have hw := fun d (hd : d ∈ tables_1) => atoms_spec (ws := Jvm.Cond.code x code maxLocals ret :: tables_1) hat d (List.mem_cons_of_mem _ hd)
  have hfit : Fit s := fun {y c} hc i hi => by
    obtain ⟨ha, rfl⟩ := Array.getElem?_eq_some_iff.mp hc
    have q := List.all_eq_true.mp ((Array.all_eq_true_iff_forall_mem.mp hF) _ (Array.getElem_mem ha)) i (List.mem_range.mpr hi)
    simpa [Array.getElem?_eq_getElem hi] using q
  obtain ⟨ga0, gr1⟩ := and_e gr0
  obtain ⟨i0, ei0⟩ := is_v ga0
  obtain rfl : w0 = (.int i0) := Option.some.inj ei0
  obtain ⟨i1, ei1⟩ := is_v gr1
  obtain rfl : w1 = (.int i1) := Option.some.inj ei1
  obtain ⟨nn0, nm0⟩ := and_e hn
  obtain ⟨x_CONNECT, ev_CONNECT⟩ := exa_v nn0
  have E_CONNECT := Exa.start ev_CONNECT nn0
  have S_CONNECT := Sta.start ev_CONNECT (Or.inr ⟨hw _ (List.mem_of_getElem? (i := 6) rfl), hw _ (List.mem_of_getElem? (i := 7) rfl)⟩)
  obtain ⟨nn1, nm1⟩ := and_e nm0
  have F_CONNECT := Fld.start ((fld_at ev_CONNECT).symm.trans (eqv_i (Term.int_eval (0 : Int32)) nn1))
  obtain ⟨nn2, nm2⟩ := and_e nm1
  obtain ⟨x_AUTH, ev_AUTH⟩ := exa_v nn2
  have E_AUTH := Exa.start ev_AUTH nn2
  have S_AUTH := Sta.start ev_AUTH (Or.inr ⟨hw _ (List.mem_of_getElem? (i := 6) rfl), hw _ (List.mem_of_getElem? (i := 16) rfl)⟩)
  obtain ⟨nn3, nm3⟩ := and_e nm2
  have F_AUTH := Fld.start ((fld_at ev_AUTH).symm.trans (eqv_i (Term.int_eval (0 : Int32)) nn3))
  obtain ⟨nn4, nm4⟩ := and_e nm3
  obtain ⟨x_PUBACK, ev_PUBACK⟩ := exa_v nn4
  have E_PUBACK := Exa.start ev_PUBACK nn4
  have S_PUBACK := Sta.start ev_PUBACK (Or.inr ⟨hw _ (List.mem_of_getElem? (i := 6) rfl), hw _ (List.mem_of_getElem? (i := 18) rfl)⟩)
  obtain ⟨nn5, nm5⟩ := and_e nm4
  have F_PUBACK := Fld.start ((fld_at ev_PUBACK).symm.trans (eqv_i (Term.int_eval (0 : Int32)) nn5))
  obtain ⟨nn6, nm6⟩ := and_e nm5
  obtain ⟨x_PINGREQ, ev_PINGREQ⟩ := exa_v nn6
  have E_PINGREQ := Exa.start ev_PINGREQ nn6
  have S_PINGREQ := Sta.start ev_PINGREQ (Or.inr ⟨hw _ (List.mem_of_getElem? (i := 6) rfl), hw _ (List.mem_of_getElem? (i := 20) rfl)⟩)
  obtain ⟨nn7, nm7⟩ := and_e nm6
  have F_PINGREQ := Fld.start ((fld_at ev_PINGREQ).symm.trans (eqv_i (Term.int_eval (0 : Int32)) nn7))
  obtain ⟨nn8, nm8⟩ := and_e nm7
  obtain ⟨x_CONNACK, ev_CONNACK⟩ := exa_v nn8
  have E_CONNACK := Exa.start ev_CONNACK nn8
  have S_CONNACK := Sta.start ev_CONNACK (Or.inr ⟨hw _ (List.mem_of_getElem? (i := 6) rfl), hw _ (List.mem_of_getElem? (i := 22) rfl)⟩)
  obtain ⟨nn9, nm9⟩ := and_e nm8
  have F_CONNACK := Fld.start ((fld_at ev_CONNACK).symm.trans (eqv_i (Term.int_eval (0 : Int32)) nn9))
  obtain ⟨nn10, nm10⟩ := and_e nm9
  obtain ⟨x_PUBREC, ev_PUBREC⟩ := exa_v nn10
  have E_PUBREC := Exa.start ev_PUBREC nn10
  have S_PUBREC := Sta.start ev_PUBREC (Or.inr ⟨hw _ (List.mem_of_getElem? (i := 6) rfl), hw _ (List.mem_of_getElem? (i := 24) rfl)⟩)
  obtain ⟨nn11, nm11⟩ := and_e nm10
  have F_PUBREC := Fld.start ((fld_at ev_PUBREC).symm.trans (eqv_i (Term.int_eval (0 : Int32)) nn11))
  obtain ⟨nn12, nm12⟩ := and_e nm11
  obtain ⟨x_PUBCOMP, ev_PUBCOMP⟩ := exa_v nn12
  have E_PUBCOMP := Exa.start ev_PUBCOMP nn12
  have S_PUBCOMP := Sta.start ev_PUBCOMP (Or.inr ⟨hw _ (List.mem_of_getElem? (i := 6) rfl), hw _ (List.mem_of_getElem? (i := 26) rfl)⟩)
  obtain ⟨nn13, nm13⟩ := and_e nm12
  have F_PUBCOMP := Fld.start ((fld_at ev_PUBCOMP).symm.trans (eqv_i (Term.int_eval (0 : Int32)) nn13))
  obtain ⟨nn14, nm14⟩ := and_e nm13
  obtain ⟨x_SUBACK, ev_SUBACK⟩ := exa_v nn14
  have E_SUBACK := Exa.start ev_SUBACK nn14
  have S_SUBACK := Sta.start ev_SUBACK (Or.inr ⟨hw _ (List.mem_of_getElem? (i := 6) rfl), hw _ (List.mem_of_getElem? (i := 28) rfl)⟩)
  obtain ⟨nn15, nm15⟩ := and_e nm14
  have F_SUBACK := Fld.start ((fld_at ev_SUBACK).symm.trans (eqv_i (Term.int_eval (0 : Int32)) nn15))
  obtain ⟨nn16, nm16⟩ := and_e nm15
  obtain ⟨x_PINGRESP, ev_PINGRESP⟩ := exa_v nn16
  have E_PINGRESP := Exa.start ev_PINGRESP nn16
  have S_PINGRESP := Sta.start ev_PINGRESP (Or.inr ⟨hw _ (List.mem_of_getElem? (i := 6) rfl), hw _ (List.mem_of_getElem? (i := 30) rfl)⟩)
  obtain ⟨nn17, nm17⟩ := and_e nm16
  have F_PINGRESP := Fld.start ((fld_at ev_PINGRESP).symm.trans (eqv_i (Term.int_eval (0 : Int32)) nn17))
  obtain ⟨nn18, nm18⟩ := and_e nm17
  obtain ⟨x_UNSUBSCRIBE, ev_UNSUBSCRIBE⟩ := exa_v nn18
  have E_UNSUBSCRIBE := Exa.start ev_UNSUBSCRIBE nn18
  have S_UNSUBSCRIBE := Sta.start ev_UNSUBSCRIBE (Or.inr ⟨hw _ (List.mem_of_getElem? (i := 6) rfl), hw _ (List.mem_of_getElem? (i := 32) rfl)⟩)
  obtain ⟨nn19, nm19⟩ := and_e nm18
  have F_UNSUBSCRIBE := Fld.start ((fld_at ev_UNSUBSCRIBE).symm.trans (eqv_i (Term.int_eval (2 : Int32)) nn19))
  obtain ⟨nn20, nm20⟩ := and_e nm19
  obtain ⟨x_SUBSCRIBE, ev_SUBSCRIBE⟩ := exa_v nn20
  have E_SUBSCRIBE := Exa.start ev_SUBSCRIBE nn20
  have S_SUBSCRIBE := Sta.start ev_SUBSCRIBE (Or.inr ⟨hw _ (List.mem_of_getElem? (i := 6) rfl), hw _ (List.mem_of_getElem? (i := 34) rfl)⟩)
  obtain ⟨nn21, nm21⟩ := and_e nm20
  have F_SUBSCRIBE := Fld.start ((fld_at ev_SUBSCRIBE).symm.trans (eqv_i (Term.int_eval (2 : Int32)) nn21))
  obtain ⟨nn22, nm22⟩ := and_e nm21
  obtain ⟨x_PUBLISH, ev_PUBLISH⟩ := exa_v nn22
  have E_PUBLISH := Exa.start ev_PUBLISH nn22
  have S_PUBLISH := Sta.start ev_PUBLISH (Or.inr ⟨hw _ (List.mem_of_getElem? (i := 6) rfl), hw _ (List.mem_of_getElem? (i := 36) rfl)⟩)
  obtain ⟨nn23, nm23⟩ := and_e nm22
  have F_PUBLISH := Fld.start ((fld_at ev_PUBLISH).symm.trans (eqv_i (Term.int_eval (-1 : Int32)) nn23))
  obtain ⟨nn24, nm24⟩ := and_e nm23
  obtain ⟨x_UNSUBACK, ev_UNSUBACK⟩ := exa_v nn24
  have E_UNSUBACK := Exa.start ev_UNSUBACK nn24
  have S_UNSUBACK := Sta.start ev_UNSUBACK (Or.inr ⟨hw _ (List.mem_of_getElem? (i := 6) rfl), hw _ (List.mem_of_getElem? (i := 38) rfl)⟩)
  obtain ⟨nn25, nm25⟩ := and_e nm24
  have F_UNSUBACK := Fld.start ((fld_at ev_UNSUBACK).symm.trans (eqv_i (Term.int_eval (0 : Int32)) nn25))
  obtain ⟨nn26, nm26⟩ := and_e nm25
  obtain ⟨x_PUBREL, ev_PUBREL⟩ := exa_v nn26
  have E_PUBREL := Exa.start ev_PUBREL nn26
  have S_PUBREL := Sta.start ev_PUBREL (Or.inr ⟨hw _ (List.mem_of_getElem? (i := 6) rfl), hw _ (List.mem_of_getElem? (i := 40) rfl)⟩)
  obtain ⟨nn27, nm27⟩ := and_e nm26
  have F_PUBREL := Fld.start ((fld_at ev_PUBREL).symm.trans (eqv_i (Term.int_eval (2 : Int32)) nn27))
  obtain ⟨nn28, nm28⟩ := and_e nm27
  obtain ⟨x_DISCONNECT, ev_DISCONNECT⟩ := exa_v nn28
  have E_DISCONNECT := Exa.start ev_DISCONNECT nn28
  have S_DISCONNECT := Sta.start ev_DISCONNECT (Or.inr ⟨hw _ (List.mem_of_getElem? (i := 6) rfl), hw _ (List.mem_of_getElem? (i := 42) rfl)⟩)
  have F_DISCONNECT := Fld.start ((fld_at ev_DISCONNECT).symm.trans (eqv_i (Term.int_eval (0 : Int32)) nm28))
  obtain ⟨n, o, h1, h2, h3, _, L, rfl, ⟨rfl, N⟩, hq⟩ := rm0 l s _ hw tables_1 i0 i1 x_CONNECT x_CONNACK x_PUBLISH x_PUBACK x_PUBREC x_PUBREL x_PUBCOMP x_SUBSCRIBE x_SUBACK x_UNSUBSCRIBE x_UNSUBACK x_PINGREQ x_PINGRESP x_DISCONNECT x_AUTH s.heap s.heap.size (Nat.le_refl _) S_CONNECT E_CONNECT F_CONNECT S_CONNACK E_CONNACK F_CONNACK S_PUBLISH E_PUBLISH F_PUBLISH S_PUBACK E_PUBACK F_PUBACK S_PUBREC E_PUBREC F_PUBREC S_PUBREL E_PUBREL F_PUBREL S_PUBCOMP E_PUBCOMP F_PUBCOMP S_SUBSCRIBE E_SUBSCRIBE F_SUBSCRIBE S_SUBACK E_SUBACK F_SUBACK S_UNSUBSCRIBE E_UNSUBSCRIBE F_UNSUBSCRIBE S_UNSUBACK E_UNSUBACK F_UNSUBACK S_PINGREQ E_PINGREQ F_PINGREQ S_PINGRESP E_PINGRESP F_PINGRESP S_DISCONNECT E_DISCONNECT F_DISCONNECT S_AUTH E_AUTH F_AUTH p e ha hc hk s m _ below hf ((Spec.applies_iff_loose hf).mp happ).1 ⟨rfl, State.Warmed39.refl s, rfl⟩ trivial
  refine ⟨n, _, h1, h2, h3, hpost _ _ _ _ _ _ ⟨Cond.after_iff.mpr rfl, Cond.after_iff.mpr (eq_i res_at (Term.int_eval (1)) rfl), trivial⟩ ⟨hq.1, hq.2.1, (hq.2.2.sift fun y hy => Or.inr (N y hy)).mono (by decide) (by decide)⟩⟩
theorem main_1_1 : Claimed_1_1 := comes_1 fun _ _ _ _ _ _ h hF => ⟨h.1, hF⟩
theorem main_1_2 : Claimed_1_2 := comes_1 fun _ _ _ _ _ _ h hF => ⟨h.2.1, hF⟩
end Jvm.Pilot.@@N@@
namespace Jvm.Pilot.@@N@@
open Jvm Jvm.ClassFile Sem Op Lib Jvm.Free Jvm.Stand Jvm.Pilot.@@N@@.Jvm.D
/-! MADE BY PROGRAM (witnessworld.py) out of the Statement's table words and the real class files: 12 classes; the members and pool entries that the words name. The judged class is class 1, her method 2. -/
namespace start1
open Jvm.ClassFile
def u (s : String) : CpInfo := .utf8 (stringToUtf16 s)
/-- a pool by its gaps: so many unusable entries, then the entry; so many at the end -/
def gap : Nat → List CpInfo → List CpInfo
  | 0, r => r
  | n + 1, r => .unusable :: gap n r
def poolList (es : List (Nat × CpInfo)) (last : Nat) : List CpInfo := es.foldr (fun e r => gap e.1 (e.2 :: r)) (gap last [])
def pool (es : List (Nat × CpInfo)) (last : Nat) : Array CpInfo := ⟨poolList es last⟩
def fileOf (pool : Array CpInfo) (this : Nat) (attrs : Array Attribute := #[]) (ms : Array MethodInfo := #[]) (fl : Nat := 33) (sup : Nat := 0) (ifs : Array Nat := #[]) (fds : Array FieldInfo := #[]) : ClassFile where
  minorVersion := 0
  majorVersion := 65
  constantPool := pool
  accessFlags := fl
  thisClass := this
  superClass := sup
  interfaces := ifs
  fields := fds
  methods := ms
  attributes := attrs
def plain (name : String) (sup : Option ClassId) : Class where
  name := name
  kind := .ordinary
  loader := none
  accessFlags := 33
  super := sup
  interfaces := #[]
  cf := none
  fields := #[]
  methods := #[]
  instanceTypes := #[]
  staticTypes := #[]
  resolved := #[]
  callSites := []
  init := .initialized
  statics := none
  mirror := none

def pool0 : Array CpInfo := pool [(5, u "<init>"), (0, u "()V"), (1, .class_ 10), (1, u "java/lang/Object")] 113

def k0m0 : Method := { name := "<init>", desc := "()V", sig := { parameters := [], returnType := none }, accessFlags := 1, code := none }
/-- java/lang/Object -/
def k0 : Class := { plain "java/lang/Object" none with
  accessFlags := 33
  interfaces := #[]
  cf := some (fileOf pool0 8 #[] #[{ accessFlags := 1, nameIndex := 5, descriptorIndex := 6, attributes := #[] }] 33 0 #[] #[])
  fields := #[]
  methods := #[k0m0]
  instanceTypes := #[]
  staticTypes := #[]
  resolved := Array.replicate 124 none
  statics := none }

def pool1 : Array CpInfo := pool [(2, .class_ 4), (1, u "java/lang/Object"), (0, u "<init>"), (0, u "()V"), (0, .fieldref 8 9), (0, .class_ 10), (0, .nameAndType 11 12), (0, u "com/example/varuna/varuna/broker/wire/PacketType"), (0, u "CONNECT"), (0, u "Lcom/example/varuna/varuna/broker/wire/PacketType;"), (0, .fieldref 8 14), (0, .nameAndType 15 12), (0, u "CONNACK"), (0, .fieldref 8 17), (0, .nameAndType 18 12), (0, u "PUBLISH"), (0, .fieldref 8 20), (0, .nameAndType 21 12), (0, u "PUBACK"), (0, .fieldref 8 23), (0, .nameAndType 24 12), (0, u "PUBREC"), (0, .fieldref 8 26), (0, .nameAndType 27 12), (0, u "PUBREL"), (0, .fieldref 8 29), (0, .nameAndType 30 12), (0, u "PUBCOMP"), (0, .fieldref 8 32), (0, .nameAndType 33 12), (0, u "SUBSCRIBE"), (0, .fieldref 8 35), (0, .nameAndType 36 12), (0, u "SUBACK"), (0, .fieldref 8 38), (0, .nameAndType 39 12), (0, u "UNSUBSCRIBE"), (0, .fieldref 8 41), (0, .nameAndType 42 12), (0, u "UNSUBACK"), (0, .fieldref 8 44), (0, .nameAndType 45 12), (0, u "PINGREQ"), (0, .fieldref 8 47), (0, .nameAndType 48 12), (0, u "PINGRESP"), (0, .fieldref 8 50), (0, .nameAndType 51 12), (0, u "DISCONNECT"), (0, .fieldref 8 53), (0, .nameAndType 54 12), (0, u "AUTH"), (0, .integer 2147483647), (0, .methodref 57 58), (0, .class_ 59), (0, .nameAndType 60 61), (0, u "com/example/varuna/varuna/broker/wire/PacketTypeAcceptsFlagsPinLaw"), (0, u "pick"), (0, u "(I)Lcom/example/varuna/varuna/broker/wire/PacketType;"), (0, .methodref 8 63), (0, .nameAndType 64 65), (0, u "acceptsFlags"), (0, u "(I)Z"), (3, u "law"), (0, u "(II)Z")] 2

def k1m0 : Method := { name := "<init>", desc := "()V", sig := { parameters := [], returnType := none }, accessFlags := 1, code := none }
def k1c1 : Code := { maxStack := 2, maxLocals := 1, code := method_2_code, exceptionTable := #[], attributes := #[] }
def k1m1 : Method := { name := "pick", desc := "(I)Lcom/example/varuna/varuna/broker/wire/PacketType;", sig := { parameters := [.int], returnType := some (.object "com/example/varuna/varuna/broker/wire/PacketType") }, accessFlags := 10, code := some k1c1 }
def k1c2 : Code := { maxStack := 2, maxLocals := 6, code := code, exceptionTable := #[], attributes := #[] }
def k1m2 : Method := { name := "law", desc := "(II)Z", sig := { parameters := [.int, .int], returnType := some .boolean }, accessFlags := 9, code := some k1c2 }
/-- com/example/varuna/varuna/broker/wire/PacketTypeAcceptsFlagsPinLaw -/
def k1 : Class := { plain "com/example/varuna/varuna/broker/wire/PacketTypeAcceptsFlagsPinLaw" (some 0) with
  accessFlags := 49
  interfaces := #[]
  cf := some (fileOf pool1 57 #[] #[{ accessFlags := 1, nameIndex := 5, descriptorIndex := 6, attributes := #[] }, { accessFlags := 10, nameIndex := 60, descriptorIndex := 61, attributes := #[] }, { accessFlags := 9, nameIndex := 69, descriptorIndex := 70, attributes := #[] }] 49 2 #[] #[])
  fields := #[]
  methods := #[k1m0, k1m1, k1m2]
  instanceTypes := #[]
  staticTypes := #[]
  resolved := Array.replicate 73 none
  statics := none }

def pool2 : Array CpInfo := pool [(1, .class_ 2), (0, u "java/lang/constant/Constable"), (0, .class_ 4), (0, u "java/lang/Object")] 6

/-- java/lang/constant/Constable -/
def k2 : Class := { plain "java/lang/constant/Constable" (some 0) with
  accessFlags := 1537
  interfaces := #[]
  cf := some (fileOf pool2 1 #[] #[] 1537 3 #[] #[])
  fields := #[]
  methods := #[]
  instanceTypes := #[]
  staticTypes := #[]
  resolved := Array.replicate 11 none
  statics := none }

def pool3 : Array CpInfo := pool [(1, .class_ 2), (0, u "java/lang/Comparable"), (0, .class_ 4), (0, u "java/lang/Object")] 7

/-- java/lang/Comparable -/
def k3 : Class := { plain "java/lang/Comparable" (some 0) with
  accessFlags := 1537
  interfaces := #[]
  cf := some (fileOf pool3 1 #[] #[] 1537 3 #[] #[])
  fields := #[]
  methods := #[]
  instanceTypes := #[]
  staticTypes := #[]
  resolved := Array.replicate 12 none
  statics := none }

def pool4 : Array CpInfo := pool [(1, .class_ 2), (0, u "java/io/Serializable"), (0, .class_ 4), (0, u "java/lang/Object")] 2

/-- java/io/Serializable -/
def k4 : Class := { plain "java/io/Serializable" (some 0) with
  accessFlags := 1537
  interfaces := #[]
  cf := some (fileOf pool4 1 #[] #[] 1537 3 #[] #[])
  fields := #[]
  methods := #[]
  instanceTypes := #[]
  staticTypes := #[]
  resolved := Array.replicate 7 none
  statics := none }

def pool5 : Array CpInfo := pool [(2, .class_ 4), (1, u "java/lang/Enum"), (0, u "name"), (0, u "Ljava/lang/String;"), (2, u "ordinal"), (0, u "I"), (1, .class_ 14), (1, u "java/lang/Object"), (4, u "hash"), (86, .class_ 108), (1, u "java/lang/Enum$EnumDesc"), (2, .class_ 112), (0, u "java/lang/constant/Constable"), (0, .class_ 114), (0, u "java/lang/Comparable"), (0, .class_ 116), (0, u "java/io/Serializable")] 87

/-- java/lang/Enum -/
def k5 : Class := { plain "java/lang/Enum" (some 0) with
  accessFlags := 1057
  interfaces := #[2, 3, 4]
  cf := some (fileOf pool5 2 #[.nestMembers #[106]] #[] 1057 12 #[111, 113, 115] #[{ accessFlags := 18, nameIndex := 5, descriptorIndex := 6, attributes := #[] }, { accessFlags := 18, nameIndex := 9, descriptorIndex := 10, attributes := #[] }, { accessFlags := 2, nameIndex := 19, descriptorIndex := 10, attributes := #[] }])
  fields := #[{ name := "name", type := (.object "java/lang/String"), accessFlags := 18, slot := 0, constantValue := 0 }, { name := "ordinal", type := .int, accessFlags := 18, slot := 1, constantValue := 0 }, { name := "hash", type := .int, accessFlags := 2, slot := 2, constantValue := 0 }]
  methods := #[]
  instanceTypes := #[(.object "java/lang/String"), .int, .int]
  staticTypes := #[]
  resolved := Array.replicate 204 none
  statics := none }

def pool6 : Array CpInfo := pool [(1, .class_ 2), (0, u "com/example/varuna/varuna/broker/wire/PacketType"), (2, u "CONNECT"), (0, u "Lcom/example/varuna/varuna/broker/wire/PacketType;"), (2, u "CONNACK"), (2, u "PUBLISH"), (2, u "PUBACK"), (2, u "PUBREC"), (2, u "PUBREL"), (2, u "PUBCOMP"), (2, u "SUBSCRIBE"), (2, u "SUBACK"), (2, u "UNSUBSCRIBE"), (2, u "UNSUBACK"), (2, u "PINGREQ"), (2, u "PINGRESP"), (2, u "DISCONNECT"), (2, u "AUTH"), (2, u "$VALUES"), (0, u "[Lcom/example/varuna/varuna/broker/wire/PacketType;"), (6, .class_ 61), (1, u "java/lang/Enum"), (8, u "value"), (0, u "I"), (0, .fieldref 1 73), (0, .nameAndType 74 71), (0, u "flags"), (9, u "BY_VALUE"), (34, u "acceptsFlags"), (0, u "(I)Z")] 7

def k6c0 : Code := { maxStack := 2, maxLocals := 2, code := prog_8_method_6_code, exceptionTable := #[], attributes := #[] }
def k6m0 : Method := { name := "acceptsFlags", desc := "(I)Z", sig := { parameters := [.int], returnType := some .boolean }, accessFlags := 0, code := some k6c0 }
/-- com/example/varuna/varuna/broker/wire/PacketType -/
def k6 : Class := { plain "com/example/varuna/varuna/broker/wire/PacketType" (some 5) with
  accessFlags := 16433
  interfaces := #[]
  cf := some (fileOf pool6 1 #[] #[{ accessFlags := 0, nameIndex := 119, descriptorIndex := 120, attributes := #[] }] 16433 59 #[] #[{ accessFlags := 16409, nameIndex := 5, descriptorIndex := 6, attributes := #[] }, { accessFlags := 16409, nameIndex := 9, descriptorIndex := 6, attributes := #[] }, { accessFlags := 16409, nameIndex := 12, descriptorIndex := 6, attributes := #[] }, { accessFlags := 16409, nameIndex := 15, descriptorIndex := 6, attributes := #[] }, { accessFlags := 16409, nameIndex := 18, descriptorIndex := 6, attributes := #[] }, { accessFlags := 16409, nameIndex := 21, descriptorIndex := 6, attributes := #[] }, { accessFlags := 16409, nameIndex := 24, descriptorIndex := 6, attributes := #[] }, { accessFlags := 16409, nameIndex := 27, descriptorIndex := 6, attributes := #[] }, { accessFlags := 16409, nameIndex := 30, descriptorIndex := 6, attributes := #[] }, { accessFlags := 16409, nameIndex := 33, descriptorIndex := 6, attributes := #[] }, { accessFlags := 16409, nameIndex := 36, descriptorIndex := 6, attributes := #[] }, { accessFlags := 16409, nameIndex := 39, descriptorIndex := 6, attributes := #[] }, { accessFlags := 16409, nameIndex := 42, descriptorIndex := 6, attributes := #[] }, { accessFlags := 16409, nameIndex := 45, descriptorIndex := 6, attributes := #[] }, { accessFlags := 16409, nameIndex := 48, descriptorIndex := 6, attributes := #[] }, { accessFlags := 26, nameIndex := 84, descriptorIndex := 52, attributes := #[] }, { accessFlags := 18, nameIndex := 70, descriptorIndex := 71, attributes := #[] }, { accessFlags := 18, nameIndex := 74, descriptorIndex := 71, attributes := #[] }, { accessFlags := 4122, nameIndex := 51, descriptorIndex := 52, attributes := #[] }])
  fields := #[{ name := "CONNECT", type := (.object "com/example/varuna/varuna/broker/wire/PacketType"), accessFlags := 16409, slot := 0, constantValue := 0 }, { name := "CONNACK", type := (.object "com/example/varuna/varuna/broker/wire/PacketType"), accessFlags := 16409, slot := 1, constantValue := 0 }, { name := "PUBLISH", type := (.object "com/example/varuna/varuna/broker/wire/PacketType"), accessFlags := 16409, slot := 2, constantValue := 0 }, { name := "PUBACK", type := (.object "com/example/varuna/varuna/broker/wire/PacketType"), accessFlags := 16409, slot := 3, constantValue := 0 }, { name := "PUBREC", type := (.object "com/example/varuna/varuna/broker/wire/PacketType"), accessFlags := 16409, slot := 4, constantValue := 0 }, { name := "PUBREL", type := (.object "com/example/varuna/varuna/broker/wire/PacketType"), accessFlags := 16409, slot := 5, constantValue := 0 }, { name := "PUBCOMP", type := (.object "com/example/varuna/varuna/broker/wire/PacketType"), accessFlags := 16409, slot := 6, constantValue := 0 }, { name := "SUBSCRIBE", type := (.object "com/example/varuna/varuna/broker/wire/PacketType"), accessFlags := 16409, slot := 7, constantValue := 0 }, { name := "SUBACK", type := (.object "com/example/varuna/varuna/broker/wire/PacketType"), accessFlags := 16409, slot := 8, constantValue := 0 }, { name := "UNSUBSCRIBE", type := (.object "com/example/varuna/varuna/broker/wire/PacketType"), accessFlags := 16409, slot := 9, constantValue := 0 }, { name := "UNSUBACK", type := (.object "com/example/varuna/varuna/broker/wire/PacketType"), accessFlags := 16409, slot := 10, constantValue := 0 }, { name := "PINGREQ", type := (.object "com/example/varuna/varuna/broker/wire/PacketType"), accessFlags := 16409, slot := 11, constantValue := 0 }, { name := "PINGRESP", type := (.object "com/example/varuna/varuna/broker/wire/PacketType"), accessFlags := 16409, slot := 12, constantValue := 0 }, { name := "DISCONNECT", type := (.object "com/example/varuna/varuna/broker/wire/PacketType"), accessFlags := 16409, slot := 13, constantValue := 0 }, { name := "AUTH", type := (.object "com/example/varuna/varuna/broker/wire/PacketType"), accessFlags := 16409, slot := 14, constantValue := 0 }, { name := "BY_VALUE", type := (.array (.object "com/example/varuna/varuna/broker/wire/PacketType")), accessFlags := 26, slot := 15, constantValue := 0 }, { name := "value", type := .int, accessFlags := 18, slot := 3, constantValue := 0 }, { name := "flags", type := .int, accessFlags := 18, slot := 4, constantValue := 0 }, { name := "$VALUES", type := (.array (.object "com/example/varuna/varuna/broker/wire/PacketType")), accessFlags := 4122, slot := 16, constantValue := 0 }]
  methods := #[k6m0]
  instanceTypes := #[(.object "java/lang/String"), .int, .int, .int, .int]
  staticTypes := #[(.object "com/example/varuna/varuna/broker/wire/PacketType"), (.object "com/example/varuna/varuna/broker/wire/PacketType"), (.object "com/example/varuna/varuna/broker/wire/PacketType"), (.object "com/example/varuna/varuna/broker/wire/PacketType"), (.object "com/example/varuna/varuna/broker/wire/PacketType"), (.object "com/example/varuna/varuna/broker/wire/PacketType"), (.object "com/example/varuna/varuna/broker/wire/PacketType"), (.object "com/example/varuna/varuna/broker/wire/PacketType"), (.object "com/example/varuna/varuna/broker/wire/PacketType"), (.object "com/example/varuna/varuna/broker/wire/PacketType"), (.object "com/example/varuna/varuna/broker/wire/PacketType"), (.object "com/example/varuna/varuna/broker/wire/PacketType"), (.object "com/example/varuna/varuna/broker/wire/PacketType"), (.object "com/example/varuna/varuna/broker/wire/PacketType"), (.object "com/example/varuna/varuna/broker/wire/PacketType"), (.array (.object "com/example/varuna/varuna/broker/wire/PacketType")), (.array (.object "com/example/varuna/varuna/broker/wire/PacketType"))]
  resolved := Array.replicate 128 none
  statics := some 0 }

def pool7 : Array CpInfo := pool [(1, u "java/lang/Cloneable"), (0, .class_ 1), (0, u "java/lang/Object"), (0, .class_ 3)] 3

/-- java/lang/Cloneable -/
def k7 : Class := { plain "java/lang/Cloneable" (some 0) with
  accessFlags := 1537
  interfaces := #[]
  cf := some (fileOf pool7 2 #[] #[] 1537 4 #[] #[])
  fields := #[]
  methods := #[]
  instanceTypes := #[]
  staticTypes := #[]
  resolved := Array.replicate 8 none
  statics := none }

/-- the primitive byte -/
def k8 : Class := { plain "byte" none with kind := .primitive 'B', accessFlags := 0x411 }
/-- [B -/
def k9 : Class := { plain "[B" (some 0) with kind := .array 8 .byte, interfaces := #[7, 4], accessFlags := 1041 }

/-- the primitive int -/
def k10 : Class := { plain "int" none with kind := .primitive 'I', accessFlags := 0x411 }
/-- [I -/
def k11 : Class := { plain "[I" (some 0) with kind := .array 10 .int, interfaces := #[7, 4], accessFlags := 1041 }

def heap : Heap := #[{ cls := 6, slots := #[.ref 1, .ref 2, .ref 3, .ref 4, .ref 5, .ref 6, .ref 7, .ref 8, .ref 9, .ref 10, .ref 11, .ref 12, .ref 13, .ref 14, .ref 15, .null, .null], vm := .statics 6 },
  { cls := 6, slots := #[.null, .int 0, .int 0, .int 0, .int (0)], vm := .none },
  { cls := 6, slots := #[.null, .int 1, .int 0, .int 0, .int (0)], vm := .none },
  { cls := 6, slots := #[.null, .int 2, .int 0, .int 0, .int (-1)], vm := .none },
  { cls := 6, slots := #[.null, .int 3, .int 0, .int 0, .int (0)], vm := .none },
  { cls := 6, slots := #[.null, .int 4, .int 0, .int 0, .int (0)], vm := .none },
  { cls := 6, slots := #[.null, .int 5, .int 0, .int 0, .int (2)], vm := .none },
  { cls := 6, slots := #[.null, .int 6, .int 0, .int 0, .int (0)], vm := .none },
  { cls := 6, slots := #[.null, .int 7, .int 0, .int 0, .int (2)], vm := .none },
  { cls := 6, slots := #[.null, .int 8, .int 0, .int 0, .int (0)], vm := .none },
  { cls := 6, slots := #[.null, .int 9, .int 0, .int 0, .int (2)], vm := .none },
  { cls := 6, slots := #[.null, .int 10, .int 0, .int 0, .int (0)], vm := .none },
  { cls := 6, slots := #[.null, .int 11, .int 0, .int 0, .int (0)], vm := .none },
  { cls := 6, slots := #[.null, .int 12, .int 0, .int 0, .int (0)], vm := .none },
  { cls := 6, slots := #[.null, .int 13, .int 0, .int 0, .int (0)], vm := .none },
  { cls := 6, slots := #[.null, .int 14, .int 0, .int 0, .int (0)], vm := .none }]
def classes : Array Class := #[k0, k1, k2, k3, k4, k5, k6, k7, k8, k9, k10, k11]
def interned : List (Array UInt16 × Addr) := []
def slotsUsed : Nat := 92
def theMethod : MethodId := ⟨1, 2⟩
def args0 : Array Value := #[.int 5, .int 2]
def aboutOver (below : List Frame) : State where
  vm := { classes := classes, interned := interned.toArray }
  heap := heap
  slotsUsed := slotsUsed
  threads := #[{ frames := .invoking theMethod args0 :: below }]
def below0 : List Frame := [.native { method := ⟨0, 0⟩, args := #[] }]
def about1 : State := aboutOver below0
def p0 : Program := .bare "" "" ""
def e0 : Env := launch0.env 0 0 0
theorem w_frames : about1.frames = Frame.invoking theMethod args0 :: below0 := rfl
set_option maxRecDepth 65536 in
theorem w_args : argsFit about1.vm theMethod args0 = true := by decide +kernel
set_option maxRecDepth 65536 in
theorem w_heap : heapFits about1 = true := by decide +kernel
set_option maxRecDepth 65536 in
theorem w_runnable : about1.curStatus? = some .runnable := by decide +kernel
set_option maxRecDepth 65536 in
theorem w_alone : about1.alone = true := by decide +kernel
set_option maxRecDepth 65536 in
theorem w_named : about1.methodNamed? x = some theMethod := by decide +kernel
set_option maxRecDepth 65536 in
theorem w_hears : about1.hears theMethod below0 = true := by decide +kernel
set_option maxRecDepth 65536 in
theorem w_ripe : about1.ripe theMethod args0 below0 = true := by decide +kernel
theorem w_running : about1.status = .running := rfl
set_option maxRecDepth 65536 in
theorem w_room : about1.hasRoom e0.platform room_1 = true :=
  launch0.hasRoom_least _ room_1 (by decide +kernel) (by decide +kernel) (by decide +kernel) (by decide +kernel) (by decide +kernel) (by decide +kernel)
theorem allAtoms_all (ts : List Jvm.Cond) (a : Array Jvm.Value) (st : Jvm.State) : (allAtoms ts).before a st = ts.all (fun c => c.before a st) := by
  induction ts with
  | nil => rfl
  | cons c t ih =>
    show (Jvm.Cond.and c (allAtoms t)).before a st = _
    rw [Jvm.Cond.before_and, ih, List.all_cons]
def words1 : List Jvm.Cond := Jvm.Cond.code x code maxLocals ret :: tables_1
/-- a 'code' word, met by the world's own term for the bytes: nothing is compared byte by byte -/
theorem code_word {y : MethodName} {bytes : ByteArray} {mx : Nat} {rt : Option FieldType} {a : Array Value} {s : State} {m : MethodId} {meth : Method} {c : Code} (h1 : s.methodNamed? y = some m) (h2 : s.vm.method? m = some meth) (h3 : meth.code = some c) (h4 : c.code = bytes)
    (h5 : (c.maxLocals == mx && c.exceptionTable.isEmpty && decide (c.maxStack ≤ mostOperands) && decide (meth.sig.returnType = rt) && !meth.locks && decide (parseMethodDescriptor y.desc = some meth.sig)) = true) : (Jvm.Cond.code y bytes mx rt).before a s = true := by
  simp only [Bool.and_eq_true, beq_iff_eq, Bool.not_eq_true', decide_eq_true_eq] at h5
  obtain ⟨⟨⟨⟨⟨g1, g2⟩, g3⟩, g4⟩, g5⟩, g6⟩ := h5
  simp [Cond.before, Cond.holds, Cond.value, h1, h2, h3, h4, g1, g2, g3, g4, g5, g6]
def isCode : Jvm.Cond → Bool
  | .code _ _ _ _ => true
  | _ => false
theorem all_split {L : List Jvm.Cond} {P : Jvm.Cond → Bool} (h1 : L.all (fun c => isCode c || P c) = true) (h2 : ∀ c ∈ L.filter isCode, P c = true) : L.all P = true := by
  refine List.all_eq_true.mpr fun c hc => ?_
  have h := List.all_eq_true.mp h1 c hc
  rcases Bool.eq_false_or_eq_true (isCode c) with hi | hi
  · exact h2 c (List.mem_filter.mpr ⟨hc, hi⟩)
  · simpa [hi] using h
set_option maxRecDepth 65536 in
theorem w_c0 : (Jvm.Cond.code x code maxLocals ret).before args0 about1 = true := code_word (m := ⟨1, 2⟩) (meth := k1m2) (c := k1c2) (by decide +kernel) rfl rfl rfl (by decide +kernel)
set_option maxRecDepth 65536 in
theorem w_c1 : (Jvm.Cond.code ({ cls := "com/example/varuna/varuna/broker/wire/PacketTypeAcceptsFlagsPinLaw", name := "pick", desc := "(I)Lcom/example/varuna/varuna/broker/wire/PacketType;" } : Jvm.MethodName) method_2_code (1 : Nat) (Option.some (Jvm.ClassFile.FieldType.object "com/example/varuna/varuna/broker/wire/PacketType"))).before args0 about1 = true := code_word (m := ⟨1, 1⟩) (meth := k1m1) (c := k1c1) (by decide +kernel) rfl rfl rfl (by decide +kernel)
set_option maxRecDepth 65536 in
theorem w_c2 : (Jvm.Cond.code ({ cls := "com/example/varuna/varuna/broker/wire/PacketType", name := "acceptsFlags", desc := "(I)Z" } : Jvm.MethodName) prog_8_method_6_code (2 : Nat) (Option.some Jvm.ClassFile.FieldType.boolean)).before args0 about1 = true := code_word (m := ⟨6, 0⟩) (meth := k6m0) (c := k6c0) (by decide +kernel) rfl rfl rfl (by decide +kernel)
def codes1 : List Jvm.Cond := [Jvm.Cond.code x code maxLocals ret, Jvm.Cond.code ({ cls := "com/example/varuna/varuna/broker/wire/PacketTypeAcceptsFlagsPinLaw", name := "pick", desc := "(I)Lcom/example/varuna/varuna/broker/wire/PacketType;" } : Jvm.MethodName) method_2_code (1 : Nat) (Option.some (Jvm.ClassFile.FieldType.object "com/example/varuna/varuna/broker/wire/PacketType")), Jvm.Cond.code ({ cls := "com/example/varuna/varuna/broker/wire/PacketType", name := "acceptsFlags", desc := "(I)Z" } : Jvm.MethodName) prog_8_method_6_code (2 : Nat) (Option.some Jvm.ClassFile.FieldType.boolean)]
set_option maxRecDepth 65536 in
theorem codes_eq : words1.filter isCode = codes1 := rfl
theorem w_codes : ∀ c ∈ words1.filter isCode, c.before args0 about1 = true := by
  rw [codes_eq]
  intro c hc
  simp only [codes1, List.mem_cons, List.not_mem_nil, or_false] at hc
  rcases hc with rfl | rfl | rfl
  · exact w_c0
  · exact w_c1
  · exact w_c2
set_option maxRecDepth 65536 in
theorem w_t1 : (words1.take 24).all (fun c => isCode c || c.before args0 about1) = true := by decide +kernel
set_option maxRecDepth 65536 in
theorem w_t2 : (words1.drop 24).all (fun c => isCode c || c.before args0 about1) = true := by decide +kernel
theorem w_tables : (allAtoms (Jvm.Cond.code x code maxLocals ret :: tables_1)).before args0 about1 = true := by
  rw [allAtoms_all]
  show words1.all (fun c => c.before args0 about1) = true
  refine all_split ?_ w_codes
  rw [← List.take_append_drop 24 words1, List.all_append, w_t1, w_t2]
  rfl
set_option maxRecDepth 65536 in
theorem w_case : (Jvm.Cond.and given_1 narrow_1).before args0 about1 = true := by decide +kernel
theorem w_applies : (headSpec (Jvm.Cond.code x code maxLocals ret :: tables_1) room_1).applies x e0.platform about1 = true :=
  (Spec.applies_iff w_frames).mpr ⟨w_running, w_runnable, w_alone, w_named, w_hears, w_ripe, w_room, w_tables⟩
theorem atStart : AtStart classFile x code maxLocals ret World_1 tables_1 room_1 Calls_1 rest_1 Pre_1 launch0 p0 e0 about1 theMethod args0 below0 :=
  ⟨lists_1, trivial, launch0.admits_env _ _ _, launch0.least_env, fairChoices_fair.cas, fairChoices_fair.clock, w_frames, w_args, w_heap, w_applies, trivial, trivial, w_case⟩
end start1
theorem witness_1 : WitnessClaimed_1 := ⟨start1.p0, start1.e0, start1.about1, start1.theMethod, start1.args0, start1.below0, start1.atStart⟩
end Jvm.Pilot.@@N@@
