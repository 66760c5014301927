import JvmDerived
import JvmDerived.Pilot.@@N@@Statement
import JvmDerived.Pilot.@@N@@Code
set_option linter.unusedVariables false
set_option linter.unusedSimpArgs false
@@BLOCK:NumsL.lean.txt@@
namespace Jvm.Pilot.@@N@@
open Jvm Jvm.ClassFile Sem Op Lib Jvm.Free Jvm.Stand Jvm.LawKit Jvm.RoadKit Bundle Jvm.Pilot.@@N@@.Jvm.D
/-! small laws of this text's own: returns, lrem as %, lcmp and the branch behind it -/
section Own
variable {p : Program} {l : Launch} {e : Env} {R : Room} {s : State} {m : MethodId} {args : Array Value} {below : List Frame} {meth : Method} {c : Code} {T : State} {locs : List Loc} {cells slots : Nat}
theorem own_retI (X : Stand p l e R s m args below meth c T locs cells slots) (hx : p.tables.exec = Jvm.exec) {pc : Nat} {Ls : Array Slot} {z : Int32} {rest : List Value} (hret : meth.sig.returnType = some .int) (hd : decode c.code pc = .ok (.ireturn, 1)) {fs : List Frame}
    (hl : ∀ (f : JFrame) (acts : List Action), f.method = m → f.locked = none → f.entered = [] → (doReturn e (T.setTop f) acts (some (.int z))).1 = T.setFrames fs) : Steps p.tables e below (T.setTop (mkF m pc Ls (.int z :: rest))) (T.setFrames fs) :=
  retOut X hx hret rfl (Or.inl ⟨rfl, Or.inl rfl, z, rfl⟩) hd hl
theorem own_retJ (X : Stand p l e R s m args below meth c T locs cells slots) (hx : p.tables.exec = Jvm.exec) {pc : Nat} {Ls : Array Slot} {z : Int64} {rest : List Value} (hret : meth.sig.returnType = some .long) (hd : decode c.code pc = .ok (.lreturn, 1)) {fs : List Frame}
    (hl : ∀ (f : JFrame) (acts : List Action), f.method = m → f.locked = none → f.entered = [] → (doReturn e (T.setTop f) acts (some (.long z))).1 = T.setFrames fs) : Steps p.tables e below (T.setTop (mkF m pc Ls (.long z :: rest))) (T.setFrames fs) :=
  retOut X hx hret rfl (Or.inr (Or.inl ⟨rfl, rfl, z, rfl⟩)) hd hl
theorem own_retR (X : Stand p l e R s m args below meth c T locs cells slots) (hx : p.tables.exec = Jvm.exec) {pc : Nat} {Ls : Array Slot} {b : Addr} {rest : List Value} {t : FieldType} (hret : meth.sig.returnType = some t) (ht : t.isReference = true) (hn : narrow t (.ref b) = .ref b) (hd : decode c.code pc = .ok (.areturn, 1)) {fs : List Frame}
    (hl : ∀ (f : JFrame) (acts : List Action), f.method = m → f.locked = none → f.entered = [] → (doReturn e (T.setTop f) acts (some (.ref b))).1 = T.setFrames fs) : Steps p.tables e below (T.setTop (mkF m pc Ls (.ref b :: rest))) (T.setFrames fs) :=
  retOut X hx hret hn (Or.inr (Or.inr (Or.inr (Or.inr ⟨rfl, ht, rfl⟩)))) hd hl
theorem own_lrem_mod (x y : Int64) : x - (x / y) * y = x % y := by
  apply Int64.toInt_inj.mp
  have h1 := Int64.le_toInt (x % y)
  have h2 := Int64.toInt_lt (x % y)
  rw [Int64.toInt_sub, Int64.toInt_mul, Int64.toInt_div, Int.bmod_mul_bmod, Int.sub_bmod_bmod, Int.mul_comm (x.toInt.tdiv y.toInt), ← Int.tmod_def, ← Int64.toInt_mod]
  exact Int.bmod_eq_of_le_mul_two (by omega) (by omega)
theorem own_lremM {tb : Tables} [Ours tb] {e : Env} {below : List Frame} {T target : State} {m : MethodId} {c : Code} {g : JFrame} (h : At T m c below) (hx : tb.exec = Jvm.exec) (hg : g.method = m) {x y : Int64} {rest : List Value} (hd : decode c.code g.pc = .ok (.lrem, 1)) (hs : g.stack = .long y :: .long x :: rest) (hy : y ≠ 0)
    (hr : Steps tb e below (T.setTop { g with pc := g.pc + 1, stack := .long (x % y) :: rest }) target) : Steps tb e below (T.setTop g) target :=
  XS.lrem h hx hg hd hs hy (by rw [own_lrem_mod]; exact hr)
end Own
theorem own_hgt (z : Int32) : ifCond.holds .gt z = decide (z > 0) := rfl
theorem own_hlt (z : Int32) : ifCond.holds .lt z = decide (z < 0) := rfl
theorem own_heq (z : Int32) : ifCond.holds .eq z = (z == 0) := rfl
theorem own_hge (z : Int32) : ifCond.holds .ge z = decide (z ≥ 0) := rfl
theorem own_hle (z : Int32) : ifCond.holds .le z = decide (z ≤ 0) := rfl
theorem own_hne (z : Int32) : ifCond.holds .ne z = (z != 0) := rfl
theorem own_lc1 {x y : Int64} (h : y < x) : lcmpW x y = 1 := if_pos h
theorem own_lc0 {x y : Int64} (h : x = y) : lcmpW x y = 0 := by
  have h1 : ¬ y < x := by rw [h, Int64.lt_iff_toInt_lt]; omega
  exact (if_neg h1).trans (if_pos h)
theorem own_lcm {x y : Int64} (h : x < y) : lcmpW x y = -1 := by
  have h1 : ¬ y < x := by rw [Int64.lt_iff_toInt_lt] at *; omega
  have h2 : ¬ x = y := fun q => by rw [q, Int64.lt_iff_toInt_lt] at h; omega
  exact (if_neg h1).trans (if_neg h2)
theorem own_tri (x y : Int64) : x < y ∨ x = y ∨ y < x := by
  rw [Int64.lt_iff_toInt_lt, Int64.lt_iff_toInt_lt, ← Int64.toInt_inj]; omega
theorem own_nlt {x y : Int64} (h : x < y) : ¬ y < x ∧ ¬ x = y := by
  rw [Int64.lt_iff_toInt_lt] at *
  exact ⟨by omega, fun q => by rw [q] at h; omega⟩
theorem own_Tlt {x y : Int64} (h : x < y) : ifCond.holds .lt (lcmpW x y) = true ∧ ifCond.holds .ge (lcmpW x y) = false := by rw [own_lcm h]; decide
theorem own_Flt {x y : Int64} (h : ¬ x < y) : ifCond.holds .lt (lcmpW x y) = false ∧ ifCond.holds .ge (lcmpW x y) = true := by
  rcases own_tri x y with q | q | q
  · exact absurd q h
  · rw [own_lc0 q]; decide
  · rw [own_lc1 q]; decide
theorem own_Tgt {x y : Int64} (h : y < x) : ifCond.holds .gt (lcmpW x y) = true ∧ ifCond.holds .le (lcmpW x y) = false := by rw [own_lc1 h]; decide
theorem own_Fgt {x y : Int64} (h : ¬ y < x) : ifCond.holds .gt (lcmpW x y) = false ∧ ifCond.holds .le (lcmpW x y) = true := by
  rcases own_tri x y with q | q | q
  · rw [own_lcm q]; decide
  · rw [own_lc0 q]; decide
  · exact absurd q h
theorem own_Teq {x y : Int64} (h : x = y) : ifCond.holds .eq (lcmpW x y) = true ∧ ifCond.holds .ne (lcmpW x y) = false := by rw [own_lc0 h]; decide
theorem own_Feq {x y : Int64} (h : ¬ x = y) : ifCond.holds .eq (lcmpW x y) = false ∧ ifCond.holds .ne (lcmpW x y) = true := by
  rcases own_tri x y with q | q | q
  · rw [own_lcm q]; decide
  · exact absurd q h
  · rw [own_lc1 q]; decide
/-! body 1: secondsRoundedUp -/
theorem d1_0 : decode prog_53_method_3_code 0 = .ok (.lload_n 0, 1) := by decide +kernel
theorem d1_1 : decode prog_53_method_3_code 1 = .ok (.ldc2_w 43, 3) := by decide +kernel
theorem d1_4 : decode prog_53_method_3_code 4 = .ok (.ldiv, 1) := by decide +kernel
theorem d1_5 : decode prog_53_method_3_code 5 = .ok (.lload_n 0, 1) := by decide +kernel
theorem d1_6 : decode prog_53_method_3_code 6 = .ok (.ldc2_w 43, 3) := by decide +kernel
theorem d1_9 : decode prog_53_method_3_code 9 = .ok (.lrem, 1) := by decide +kernel
theorem d1_10 : decode prog_53_method_3_code 10 = .ok (.lconst 0, 1) := by decide +kernel
theorem d1_11 : decode prog_53_method_3_code 11 = .ok (.lcmp, 1) := by decide +kernel
theorem d1_12 : decode prog_53_method_3_code 12 = .ok (.ifCond .ne 7, 3) := by decide +kernel
theorem d1_15 : decode prog_53_method_3_code 15 = .ok (.iconst 0, 1) := by decide +kernel
theorem d1_16 : decode prog_53_method_3_code 16 = .ok (.goto 4, 3) := by decide +kernel
theorem d1_19 : decode prog_53_method_3_code 19 = .ok (.iconst 1, 1) := by decide +kernel
theorem d1_20 : decode prog_53_method_3_code 20 = .ok (.i2l, 1) := by decide +kernel
theorem d1_21 : decode prog_53_method_3_code 21 = .ok (.ladd, 1) := by decide +kernel
theorem d1_22 : decode prog_53_method_3_code 22 = .ok (.lreturn, 1) := by decide +kernel
theorem pn1 : plainName "com/example/ianus/ianus/server/LeverDurations" = true := by first | (simp [plainName, overriddenIn]; done) | decide +kernel
theorem ef1 (m : MethodId) (q1 : Int64) : entryFrame m #[(.long q1)] 2 = mkF m 0 #[.val (.long q1), .second] [] := by first | (simp [entryFrame, mkF, argsToLocals, Value.category]; done) | rfl
def fn1 (q1 : Int64) : Int64 :=
  let u20s0 : Int32 := (if (q1 % (1000000000 : Int64)) = (0 : Int64) then (0 : Int32) else (1 : Int32))
  ((q1 / (1000000000 : Int64)) + (u20s0.toInt64))
def Q1 (Z : State) (q1 : Int64) (h0 : Heap) (n0 : Nat) (v : Option Value) (h : Heap) (L : List Loc) : Prop := v = some (.long (fn1 q1)) ∧ Fr n0 L ∧ h = h0
set_option maxRecDepth 65536 in
set_option maxHeartbeats 40000000 in
theorem rm1 (l : Launch) (Z : State) (a0 : Array Value) (hw : ∀ d ∈ tables_1, d.before a0 Z = true) (ws : List Jvm.Cond) (q1 : Int64) (h0 : Heap) (n0 : Nat) (Z0 : n0 ≤ h0.size) :
    MetFree l (⟨"com/example/ianus/ianus/server/LeverDurations", "secondsRoundedUp", "(J)J"⟩ : MethodName) (head1 (Jvm.Cond.code (⟨"com/example/ianus/ianus/server/LeverDurations", "secondsRoundedUp", "(J)J"⟩ : MethodName) prog_53_method_3_code 2 (some .long) :: ws) ({ frames := 0, cells := 0, slots := 0, locals := 0 } : Room)) (fun a U => a = #[(.long q1)] ∧ Z.Warmed39 U.vm ∧ U.heap = h0) (fun _ _ _ _ _ => True) (fun _ U o U' => ∃ v L, o = .returned v ∧ Q1 Z q1 h0 n0 v U'.heap L ∧ FrameEnd U o U' L ({ frames := 0, cells := 0, slots := 0, locals := 0 } : Room).cells ({ frames := 0, cells := 0, slots := 0, locals := 0 } : Room).slots) := by
  refine MetFree.of_bodySF (plainFor_of_name pn1) hisR ?_
  intro p e s m args below meth c s₁ Bd hml0 hP hK
  obtain ⟨rfl, hZ, hh⟩ := hP
  have hx := Bd.exec
  have hby := Bd.bytes
  have hml : c.maxLocals = 2 := hml0
  have hown : s.vm.findClass "com/example/ianus/ianus/server/LeverDurations" = some m.cls := findClass_of_methodNamed Bd.named
  have hnm := (name_of_methodNamed Bd.named Bd.method).1
  have X0 : Stand p l e ({ frames := 0, cells := 0, slots := 0, locals := 0 } : Room) s m #[(.long q1)] below meth c s₁ [] 0 0 := Stand.of_body Bd
  have e0 : s₁.heap = h0 := by rw [← hh, Bd.state]; rfl
  have N0 := Fr.nil n0
  have pre0 : ∀ t, Steps p.tables e below (s₁.setTop (mkF m 0 #[.val (.long q1), .second] [])) t → Steps p.tables e below (s₁.setTop (entryFrame m #[(.long q1)] 2)) t := fun t k => castTop (ef1 m q1) k
  obtain ⟨u20s0, hu20s0⟩ : ∃ z : Int32, z = (if (q1 % (1000000000 : Int64)) = (0 : Int64) then (0 : Int32) else (1 : Int32)) := ⟨_, rfl⟩
  have pre1 : ∀ t, Steps p.tables e below (s₁.setTop (mkF m 20 #[.val (.long q1), .second] [(.int u20s0), (.long (q1 / (1000000000 : Int64)))])) t → Steps p.tables e below (s₁.setTop (entryFrame m #[(.long q1)] 2)) t := by
    intro t k
    subst hu20s0
    refine pre0 t ?_
    show Steps p.tables e below (s₁.setTop (mkF m 0 #[.val (.long q1), .second] [])) _
    refine XS.lloadN X0.here hx rfl (hb hby d1_0) rfl ?_
    show Steps p.tables e below (s₁.setTop (mkF m 1 #[.val (.long q1), .second] [(.long q1)])) _
    refine X0.ldc2Long hx hown (mvT hZ (hw _ (List.mem_of_getElem? (i := 7) rfl))) (g := (mkF m 1 #[.val (.long q1), .second] [(.long q1)])) rfl (hb hby d1_1) _ ?_
    show Steps p.tables e below (s₁.setTop (mkF m 4 #[.val (.long q1), .second] [(.long (1000000000 : Int64)), (.long q1)])) _
    refine XS.ldiv X0.here hx rfl (hb hby d1_4) rfl (by decide) ?_
    show Steps p.tables e below (s₁.setTop (mkF m 5 #[.val (.long q1), .second] [(.long (q1 / (1000000000 : Int64)))])) _
    refine XS.lloadN X0.here hx rfl (hb hby d1_5) rfl ?_
    show Steps p.tables e below (s₁.setTop (mkF m 6 #[.val (.long q1), .second] [(.long q1), (.long (q1 / (1000000000 : Int64)))])) _
    refine X0.ldc2Long hx hown (mvT hZ (hw _ (List.mem_of_getElem? (i := 7) rfl))) (g := (mkF m 6 #[.val (.long q1), .second] [(.long q1), (.long (q1 / (1000000000 : Int64)))])) rfl (hb hby d1_6) _ ?_
    show Steps p.tables e below (s₁.setTop (mkF m 9 #[.val (.long q1), .second] [(.long (1000000000 : Int64)), (.long q1), (.long (q1 / (1000000000 : Int64)))])) _
    refine own_lremM X0.here hx rfl (hb hby d1_9) rfl (by decide) ?_
    show Steps p.tables e below (s₁.setTop (mkF m 10 #[.val (.long q1), .second] [(.long (q1 % (1000000000 : Int64))), (.long (q1 / (1000000000 : Int64)))])) _
    refine XS.lconst X0.here hx rfl (hb hby d1_10) ?_
    show Steps p.tables e below (s₁.setTop (mkF m 11 #[.val (.long q1), .second] [(.long (0 : Int64)), (.long (q1 % (1000000000 : Int64))), (.long (q1 / (1000000000 : Int64)))])) _
    refine XS.lcmp X0.here hx rfl (hb hby d1_11) rfl ?_
    show Steps p.tables e below (s₁.setTop (mkF m 12 #[.val (.long q1), .second] [(.int (lcmpW (q1 % (1000000000 : Int64)) (0 : Int64))), (.long (q1 / (1000000000 : Int64)))])) _
    by_cases hb12 : (q1 % (1000000000 : Int64)) = (0 : Int64)
    · simp only [if_pos hb12] at k
      refine XS.ifNo X0.here hx rfl (hb hby d1_12) rfl (own_Teq hb12).2 ?_
      show Steps p.tables e below (s₁.setTop (mkF m 15 #[.val (.long q1), .second] [(.long (q1 / (1000000000 : Int64)))])) _
      refine XS.iconst X0.here hx rfl (hb hby d1_15) ?_
      show Steps p.tables e below (s₁.setTop (mkF m 16 #[.val (.long q1), .second] [(.int (0 : Int32)), (.long (q1 / (1000000000 : Int64)))])) _
      refine XS.goto X0.here hx rfl (pc0 := 16) (pc' := 20) rfl (hb hby d1_16) (by decide) (by decide) ?_
      show Steps p.tables e below (s₁.setTop (mkF m 20 #[.val (.long q1), .second] [(.int (0 : Int32)), (.long (q1 / (1000000000 : Int64)))])) _
      exact k
    · simp only [if_neg hb12] at k
      refine XS.ifYes X0.here hx rfl (pc0 := 12) (pc' := 19) rfl (hb hby d1_12) rfl (own_Feq hb12).2 (by decide) (by decide) ?_
      show Steps p.tables e below (s₁.setTop (mkF m 19 #[.val (.long q1), .second] [(.long (q1 / (1000000000 : Int64)))])) _
      refine XS.iconst X0.here hx rfl (hb hby d1_19) ?_
      show Steps p.tables e below (s₁.setTop (mkF m 20 #[.val (.long q1), .second] [(.int (1 : Int32)), (.long (q1 / (1000000000 : Int64)))])) _
      exact k
  have pre2 : ∀ t, Steps p.tables e below (s₁.setTop (mkF m 22 #[.val (.long q1), .second] [(.long ((q1 / (1000000000 : Int64)) + (u20s0.toInt64)))])) t → Steps p.tables e below (s₁.setTop (entryFrame m #[(.long q1)] 2)) t := by
    intro t k
    refine pre1 t ?_
    refine XS.i2l X0.here hx rfl (hb hby d1_20) rfl ?_
    show Steps p.tables e below (s₁.setTop (mkF m 21 #[.val (.long q1), .second] [(.long (u20s0.toInt64)), (.long (q1 / (1000000000 : Int64)))])) _
    refine XS.ladd X0.here hx rfl (hb hby d1_21) rfl ?_
    show Steps p.tables e below (s₁.setTop (mkF m 22 #[.val (.long q1), .second] [(.long ((q1 / (1000000000 : Int64)) + (u20s0.toInt64)))])) _
    exact k
  obtain ⟨fs, hr, hrun, hended, hW, hsame⟩ := X0.leave (v := some (.long ((q1 / (1000000000 : Int64)) + (u20s0.toInt64)))) (fun h => by rw [Bd.returns] at h; cases h)
  refine ⟨_, _, pre2 _ ?_, hrun, hended, _, _, rfl, ?_, ⟨_, rfl⟩, hW, hsame.mono (by decide) (by decide)⟩
  · show Steps p.tables e below (s₁.setTop (mkF m 22 #[.val (.long q1), .second] [(.long ((q1 / (1000000000 : Int64)) + (u20s0.toInt64)))])) _
    exact own_retJ X0 hx Bd.returns (hb hby d1_22) hr
  · show Q1 Z q1 h0 n0 _ s₁.heap _
    rw [e0]
    refine ⟨?_, N0, rfl⟩
    subst hu20s0
    simp only [fn1]
/-! body 0: law -/
theorem pd0_0 : parseMethodDescriptor "(J)J" = some ⟨[.long], some .long⟩ := by decide +kernel
theorem pn0 : plainName "com/example/ianus/ianus/server/LeverDurationsSecondsRoundedUpPinLaw" = true := by first | (simp [plainName, overriddenIn]; done) | decide +kernel
theorem ef0 (m : MethodId) (q1 : Int64) (q2 : Int64) (p3 : Int32) : entryFrame m #[(.long q1), (.long q2), (.int p3)] maxLocals = mkF m 0 #[.val (.long q1), .second, .val (.long q2), .second, .val (.int p3), .unset, .unset, .unset, .unset, .unset, .unset, .unset, .unset, .unset, .unset, .unset] [] := by first | (simp [entryFrame, mkF, argsToLocals, Value.category, maxLocals]; done) | rfl
def fn0 (q1 : Int64) (q2 : Int64) (p3 : Int32) : Int32 :=
  let v9 : Int64 := ((q1 &&& (9223372036854775807 : Int64)) % (9223372037 : Int64))
  let v15 : Int32 := (p3 &&& (3 : Int32))
  let u658 : Int64 := (if v15 = (0 : Int32) then (0 : Int64) else (if v15 = (1 : Int32) then (1 : Int64) else (if v15 = (2 : Int32) then (999999999 : Int64) else ((q2 &&& (9223372036854775807 : Int64)) % (1000000000 : Int64)))))
  let v74 : Int64 := ((v9 * (1000000000 : Int64)) + u658)
  if (0 : Int64) < v74 then
    let u101s0 : Int64 := (if u658 = (0 : Int64) then v9 else (v9 + (1 : Int64)))
    let v108 : Int64 := (fn1 v74)
    let u130s0 : Int32 := (if v108 = u101s0 then (if v108 < (1 : Int64) then (0 : Int32) else (1 : Int32)) else (0 : Int32))
    (nar .boolean u130s0)
  else
    (nar .boolean (1 : Int32))
/-! the plain law -/
theorem own_main (q r n : Int64) (hq0 : 0 ≤ q.toInt) (hq1 : q.toInt ≤ 9223372036) (hr0 : 0 ≤ r.toInt) (hr1 : r.toInt ≤ 999999999) (hn : n = q * (1000000000 : Int64) + r) (hp : (0 : Int64) < n) :
    fn1 n = (if r = (0 : Int64) then q else q + 1) ∧ ¬ fn1 n < 1 := by
  have eM : (1000000000 : Int64).toInt = 1000000000 := by decide
  have e1 : (1 : Int64).toInt = 1 := by decide
  have e0 : (0 : Int64).toInt = 0 := by decide
  have m1 : (q * (1000000000 : Int64)).toInt = q.toInt * 1000000000 := by rw [Jvm.Kit.i64_mul (by rw [eM]; omega) (by rw [eM]; omega), eM]
  rw [Int64.lt_iff_toInt_lt, e0] at hp
  have hs : q.toInt * 1000000000 + r.toInt < 2 ^ 63 := by
    by_cases h : q.toInt * 1000000000 + r.toInt < 2 ^ 63
    · exact h
    · exfalso
      have : n.toInt = q.toInt * 1000000000 + r.toInt - 2 ^ 64 := by
        rw [hn, Int64.toInt_add, m1, ← Int.sub_bmod_right]
        apply Int.bmod_eq_of_le_mul_two <;> omega
      omega
  have en : n.toInt = q.toInt * 1000000000 + r.toInt := by rw [hn, Jvm.Kit.i64_add (by omega) (by omega), m1]
  have ed : (n / (1000000000 : Int64)).toInt = q.toInt := by
    rw [Jvm.Kit.i64_div (by omega), eM, Int.tdiv_eq_ediv_of_nonneg (by omega)]; omega
  have er : (n % (1000000000 : Int64)).toInt = r.toInt := by
    rw [Int64.toInt_mod, eM, Int.tmod_eq_emod_of_nonneg (by omega)]; omega
  by_cases hr : r = 0
  · have hz : n % (1000000000 : Int64) = 0 := by apply Int64.toInt_inj.mp; rw [er, hr]
    have hrr : r.toInt = 0 := by rw [hr]; exact e0
    have hf : fn1 n = q := by
      simp only [fn1, if_pos hz]
      apply Int64.toInt_inj.mp
      have e00 : ((0 : Int32).toInt64).toInt = 0 := by decide
      rw [Jvm.Kit.i64_add (by omega) (by omega), ed, e00]; omega
    rw [if_pos hr, hf, Int64.lt_iff_toInt_lt]
    exact ⟨rfl, by omega⟩
  · have hz : ¬ n % (1000000000 : Int64) = 0 := fun h => hr (by apply Int64.toInt_inj.mp; rw [← er, h])
    have hf : fn1 n = q + 1 := by
      simp only [fn1, if_neg hz]
      apply Int64.toInt_inj.mp
      have e00 : ((1 : Int32).toInt64).toInt = 1 := by decide
      rw [Jvm.Kit.i64_add (by omega) (by omega), ed, e00, Jvm.Kit.i64_add (by omega) (by omega), e1]
    rw [if_neg hr, hf, Int64.lt_iff_toInt_lt, Jvm.Kit.i64_add (by omega) (by omega), e1]
    exact ⟨rfl, by omega⟩
theorem own_mod (x m : Int64) (k : Int) (hm : m.toInt = k) (hk : 0 < k) : 0 ≤ ((x &&& (9223372036854775807 : Int64)) % m).toInt ∧ ((x &&& (9223372036854775807 : Int64)) % m).toInt ≤ k - 1 := by
  have h0 : 0 ≤ (x &&& (9223372036854775807 : Int64)).toInt := by
    rw [Jvm.Kit.i64_mask x 9223372036854775807 (k := 63) (by decide) (by decide)]; omega
  rw [Int64.toInt_mod, hm, Int.tmod_eq_emod_of_nonneg h0]
  have := Int.emod_nonneg (x &&& (9223372036854775807 : Int64)).toInt (b := k) (by omega)
  have := Int.emod_lt_of_pos (x &&& (9223372036854775807 : Int64)).toInt hk
  omega
theorem own_law (q1 q2 : Int64) (p3 : Int32) : fn0 q1 q2 p3 = 1 := by
  simp only [fn0]
  have hq := own_mod q1 9223372037 9223372037 (by decide) (by decide)
  have hr' := own_mod q2 1000000000 1000000000 (by decide) (by decide)
  generalize (q1 &&& (9223372036854775807 : Int64)) % (9223372037 : Int64) = q at *
  generalize (q2 &&& (9223372036854775807 : Int64)) % (1000000000 : Int64) = r' at *
  generalize hr : (if (p3 &&& (3 : Int32)) = (0 : Int32) then (0 : Int64) else (if (p3 &&& (3 : Int32)) = (1 : Int32) then (1 : Int64) else (if (p3 &&& (3 : Int32)) = (2 : Int32) then (999999999 : Int64) else r'))) = r
  have hrr : 0 ≤ r.toInt ∧ r.toInt ≤ 999999999 := by
    rw [← hr]
    split
    · decide
    · split
      · decide
      · split
        · decide
        · omega
  generalize hn : q * (1000000000 : Int64) + r = n
  by_cases hp : (0 : Int64) < n
  · have h := own_main q r n (by omega) (by omega) hrr.1 hrr.2 hn.symm hp
    rw [if_pos hp, if_pos h.1, if_neg h.2]; rfl
  · rw [if_neg hp]; rfl
def Q0 (Z : State) (q1 : Int64) (q2 : Int64) (p3 : Int32) (h0 : Heap) (n0 : Nat) (v : Option Value) (h : Heap) (L : List Loc) : Prop := v = some (.int (fn0 q1 q2 p3)) ∧ Fr n0 L
set_option maxRecDepth 65536 in
set_option maxHeartbeats 40000000 in
theorem rm0 (l : Launch) (Z : State) (a0 : Array Value) (hw : ∀ d ∈ tables_1, d.before a0 Z = true) (ws : List Jvm.Cond) (q1 : Int64) (q2 : Int64) (p3 : Int32) (h0 : Heap) (n0 : Nat) (Z0 : n0 ≤ h0.size) :
    MetFree l x (head1 (Jvm.Cond.code x code maxLocals ret :: ws) room_1) (fun a U => a = #[(.long q1), (.long q2), (.int p3)] ∧ Z.Warmed39 U.vm ∧ U.heap = h0) (fun _ _ _ _ _ => True) (fun _ U o U' => ∃ v L, o = .returned v ∧ Q0 Z q1 q2 p3 h0 n0 v U'.heap L ∧ FrameEnd U o U' L room_1.cells room_1.slots) := by
  refine MetFree.of_bodySF (plainFor_of_name pn0) hisR ?_
  intro p e s m args below meth c s₁ Bd hml0 hP hK
  obtain ⟨rfl, hZ, hh⟩ := hP
  have hx := Bd.exec
  have hby := Bd.bytes
  have hml : c.maxLocals = 16 := hml0
  have hown : s.vm.findClass "com/example/ianus/ianus/server/LeverDurationsSecondsRoundedUpPinLaw" = some m.cls := findClass_of_methodNamed Bd.named
  have hnm := (name_of_methodNamed Bd.named Bd.method).1
  have X0 : Stand p l e room_1 s m #[(.long q1), (.long q2), (.int p3)] below meth c s₁ [] 0 0 := Stand.of_body Bd
  have e0 : s₁.heap = h0 := by rw [← hh, Bd.state]; rfl
  have N0 := Fr.nil n0
  have pre0 : ∀ t, Steps p.tables e below (s₁.setTop (mkF m 0 #[.val (.long q1), .second, .val (.long q2), .second, .val (.int p3), .unset, .unset, .unset, .unset, .unset, .unset, .unset, .unset, .unset, .unset, .unset] [])) t → Steps p.tables e below (s₁.setTop (entryFrame m #[(.long q1), (.long q2), (.int p3)] maxLocals)) t := fun t k => castTop (ef0 m q1 q2 p3) k
  obtain ⟨v9, hv9⟩ : ∃ z : Int64, z = ((q1 &&& (9223372036854775807 : Int64)) % (9223372037 : Int64)) := ⟨_, rfl⟩
  have pre1 : ∀ t, Steps p.tables e below (s₁.setTop (mkF m 11 #[.val (.long q1), .second, .val (.long q2), .second, .val (.int p3), .val (.long v9), .second, .unset, .unset, .unset, .unset, .unset, .unset, .unset, .unset, .unset] [])) t → Steps p.tables e below (s₁.setTop (entryFrame m #[(.long q1), (.long q2), (.int p3)] maxLocals)) t := by
    intro t k
    subst hv9
    refine pre0 t ?_
    show Steps p.tables e below (s₁.setTop (mkF m 0 #[.val (.long q1), .second, .val (.long q2), .second, .val (.int p3), .unset, .unset, .unset, .unset, .unset, .unset, .unset, .unset, .unset, .unset, .unset] [])) _
    refine XS.lloadN X0.here hx rfl (hb hby at_0) rfl ?_
    show Steps p.tables e below (s₁.setTop (mkF m 1 #[.val (.long q1), .second, .val (.long q2), .second, .val (.int p3), .unset, .unset, .unset, .unset, .unset, .unset, .unset, .unset, .unset, .unset, .unset] [(.long q1)])) _
    refine X0.ldc2Long hx hown (mvT hZ (hw _ (List.mem_of_getElem? (i := 0) rfl))) (g := (mkF m 1 #[.val (.long q1), .second, .val (.long q2), .second, .val (.int p3), .unset, .unset, .unset, .unset, .unset, .unset, .unset, .unset, .unset, .unset, .unset] [(.long q1)])) rfl (hb hby at_1) _ ?_
    show Steps p.tables e below (s₁.setTop (mkF m 4 #[.val (.long q1), .second, .val (.long q2), .second, .val (.int p3), .unset, .unset, .unset, .unset, .unset, .unset, .unset, .unset, .unset, .unset, .unset] [(.long (9223372036854775807 : Int64)), (.long q1)])) _
    refine XS.land X0.here hx rfl (hb hby at_4) rfl ?_
    show Steps p.tables e below (s₁.setTop (mkF m 5 #[.val (.long q1), .second, .val (.long q2), .second, .val (.int p3), .unset, .unset, .unset, .unset, .unset, .unset, .unset, .unset, .unset, .unset, .unset] [(.long (q1 &&& (9223372036854775807 : Int64)))])) _
    refine X0.ldc2Long hx hown (mvT hZ (hw _ (List.mem_of_getElem? (i := 1) rfl))) (g := (mkF m 5 #[.val (.long q1), .second, .val (.long q2), .second, .val (.int p3), .unset, .unset, .unset, .unset, .unset, .unset, .unset, .unset, .unset, .unset, .unset] [(.long (q1 &&& (9223372036854775807 : Int64)))])) rfl (hb hby at_5) _ ?_
    show Steps p.tables e below (s₁.setTop (mkF m 8 #[.val (.long q1), .second, .val (.long q2), .second, .val (.int p3), .unset, .unset, .unset, .unset, .unset, .unset, .unset, .unset, .unset, .unset, .unset] [(.long (9223372037 : Int64)), (.long (q1 &&& (9223372036854775807 : Int64)))])) _
    refine own_lremM X0.here hx rfl (hb hby at_8) rfl (by decide) ?_
    show Steps p.tables e below (s₁.setTop (mkF m 9 #[.val (.long q1), .second, .val (.long q2), .second, .val (.int p3), .unset, .unset, .unset, .unset, .unset, .unset, .unset, .unset, .unset, .unset, .unset] [(.long ((q1 &&& (9223372036854775807 : Int64)) % (9223372037 : Int64)))])) _
    refine XS.lstore X0.here hx rfl (hb hby at_9) rfl (l' := #[.val (.long q1), .second, .val (.long q2), .second, .val (.int p3), .val (.long ((q1 &&& (9223372036854775807 : Int64)) % (9223372037 : Int64))), .second, .unset, .unset, .unset, .unset, .unset, .unset, .unset, .unset, .unset]) rfl ?_
    show Steps p.tables e below (s₁.setTop (mkF m 11 #[.val (.long q1), .second, .val (.long q2), .second, .val (.int p3), .val (.long ((q1 &&& (9223372036854775807 : Int64)) % (9223372037 : Int64))), .second, .unset, .unset, .unset, .unset, .unset, .unset, .unset, .unset, .unset] [])) _
    exact k
  obtain ⟨v15, hv15⟩ : ∃ z : Int32, z = (p3 &&& (3 : Int32)) := ⟨_, rfl⟩
  have pre2 : ∀ t, Steps p.tables e below (s₁.setTop (mkF m 17 #[.val (.long q1), .second, .val (.long q2), .second, .val (.int p3), .val (.long v9), .second, .val (.int v15), .unset, .unset, .unset, .unset, .unset, .unset, .unset, .unset] [])) t → Steps p.tables e below (s₁.setTop (entryFrame m #[(.long q1), (.long q2), (.int p3)] maxLocals)) t := by
    intro t k
    subst hv15
    refine pre1 t ?_
    refine XS.iload X0.here hx rfl (hb hby at_11) rfl ?_
    show Steps p.tables e below (s₁.setTop (mkF m 13 #[.val (.long q1), .second, .val (.long q2), .second, .val (.int p3), .val (.long v9), .second, .unset, .unset, .unset, .unset, .unset, .unset, .unset, .unset, .unset] [(.int p3)])) _
    refine XS.iconst X0.here hx rfl (hb hby at_13) ?_
    show Steps p.tables e below (s₁.setTop (mkF m 14 #[.val (.long q1), .second, .val (.long q2), .second, .val (.int p3), .val (.long v9), .second, .unset, .unset, .unset, .unset, .unset, .unset, .unset, .unset, .unset] [(.int (3 : Int32)), (.int p3)])) _
    refine XS.iand X0.here hx rfl (hb hby at_14) rfl ?_
    show Steps p.tables e below (s₁.setTop (mkF m 15 #[.val (.long q1), .second, .val (.long q2), .second, .val (.int p3), .val (.long v9), .second, .unset, .unset, .unset, .unset, .unset, .unset, .unset, .unset, .unset] [(.int (p3 &&& (3 : Int32)))])) _
    refine XS.istore X0.here hx rfl (hb hby at_15) rfl (l' := #[.val (.long q1), .second, .val (.long q2), .second, .val (.int p3), .val (.long v9), .second, .val (.int (p3 &&& (3 : Int32))), .unset, .unset, .unset, .unset, .unset, .unset, .unset, .unset]) rfl ?_
    show Steps p.tables e below (s₁.setTop (mkF m 17 #[.val (.long q1), .second, .val (.long q2), .second, .val (.int p3), .val (.long v9), .second, .val (.int (p3 &&& (3 : Int32))), .unset, .unset, .unset, .unset, .unset, .unset, .unset, .unset] [])) _
    exact k
  obtain ⟨u658, hu658⟩ : ∃ z : Int64, z = (if v15 = (0 : Int32) then (0 : Int64) else (if v15 = (1 : Int32) then (1 : Int64) else (if v15 = (2 : Int32) then (999999999 : Int64) else ((q2 &&& (9223372036854775807 : Int64)) % (1000000000 : Int64))))) := ⟨_, rfl⟩
  have pre3 : ∀ t, Steps p.tables e below (s₁.setTop (mkF m 65 #[.val (.long q1), .second, .val (.long q2), .second, .val (.int p3), .val (.long v9), .second, .val (.int v15), .val (.long u658), .second, .unset, .unset, .unset, .unset, .unset, .unset] [])) t → Steps p.tables e below (s₁.setTop (entryFrame m #[(.long q1), (.long q2), (.int p3)] maxLocals)) t := by
    intro t k
    subst hu658
    refine pre2 t ?_
    refine XS.iload X0.here hx rfl (hb hby at_17) rfl ?_
    show Steps p.tables e below (s₁.setTop (mkF m 19 #[.val (.long q1), .second, .val (.long q2), .second, .val (.int p3), .val (.long v9), .second, .val (.int v15), .unset, .unset, .unset, .unset, .unset, .unset, .unset, .unset] [(.int v15)])) _
    by_cases hb19 : v15 = (0 : Int32)
    · simp only [if_pos hb19] at k
      refine XS.ifNo X0.here hx rfl (hb hby at_19) rfl ((if0 _ _).trans (teq hb19).2) ?_
      show Steps p.tables e below (s₁.setTop (mkF m 22 #[.val (.long q1), .second, .val (.long q2), .second, .val (.int p3), .val (.long v9), .second, .val (.int v15), .unset, .unset, .unset, .unset, .unset, .unset, .unset, .unset] [])) _
      refine XS.lconst X0.here hx rfl (hb hby at_22) ?_
      show Steps p.tables e below (s₁.setTop (mkF m 23 #[.val (.long q1), .second, .val (.long q2), .second, .val (.int p3), .val (.long v9), .second, .val (.int v15), .unset, .unset, .unset, .unset, .unset, .unset, .unset, .unset] [(.long (0 : Int64))])) _
      refine XS.lstore X0.here hx rfl (hb hby at_23) rfl (l' := #[.val (.long q1), .second, .val (.long q2), .second, .val (.int p3), .val (.long v9), .second, .val (.int v15), .val (.long (0 : Int64)), .second, .unset, .unset, .unset, .unset, .unset, .unset]) rfl ?_
      show Steps p.tables e below (s₁.setTop (mkF m 25 #[.val (.long q1), .second, .val (.long q2), .second, .val (.int p3), .val (.long v9), .second, .val (.int v15), .val (.long (0 : Int64)), .second, .unset, .unset, .unset, .unset, .unset, .unset] [])) _
      refine XS.goto X0.here hx rfl (pc0 := 25) (pc' := 65) rfl (hb hby at_25) (by decide) (by decide) ?_
      show Steps p.tables e below (s₁.setTop (mkF m 65 #[.val (.long q1), .second, .val (.long q2), .second, .val (.int p3), .val (.long v9), .second, .val (.int v15), .val (.long (0 : Int64)), .second, .unset, .unset, .unset, .unset, .unset, .unset] [])) _
      exact k
    · refine XS.ifYes X0.here hx rfl (pc0 := 19) (pc' := 28) rfl (hb hby at_19) rfl ((if0 _ _).trans (feq hb19).2) (by decide) (by decide) ?_
      show Steps p.tables e below (s₁.setTop (mkF m 28 #[.val (.long q1), .second, .val (.long q2), .second, .val (.int p3), .val (.long v9), .second, .val (.int v15), .unset, .unset, .unset, .unset, .unset, .unset, .unset, .unset] [])) _
      refine XS.iload X0.here hx rfl (hb hby at_28) rfl ?_
      show Steps p.tables e below (s₁.setTop (mkF m 30 #[.val (.long q1), .second, .val (.long q2), .second, .val (.int p3), .val (.long v9), .second, .val (.int v15), .unset, .unset, .unset, .unset, .unset, .unset, .unset, .unset] [(.int v15)])) _
      refine XS.iconst X0.here hx rfl (hb hby at_30) ?_
      show Steps p.tables e below (s₁.setTop (mkF m 31 #[.val (.long q1), .second, .val (.long q2), .second, .val (.int p3), .val (.long v9), .second, .val (.int v15), .unset, .unset, .unset, .unset, .unset, .unset, .unset, .unset] [(.int (1 : Int32)), (.int v15)])) _
      by_cases hb31 : v15 = (1 : Int32)
      · simp only [if_neg hb19, if_pos hb31] at k
        refine XS.icmpNo X0.here hx rfl (hb hby at_31) rfl (teq hb31).2 ?_
        show Steps p.tables e below (s₁.setTop (mkF m 34 #[.val (.long q1), .second, .val (.long q2), .second, .val (.int p3), .val (.long v9), .second, .val (.int v15), .unset, .unset, .unset, .unset, .unset, .unset, .unset, .unset] [])) _
        refine XS.lconst X0.here hx rfl (hb hby at_34) ?_
        show Steps p.tables e below (s₁.setTop (mkF m 35 #[.val (.long q1), .second, .val (.long q2), .second, .val (.int p3), .val (.long v9), .second, .val (.int v15), .unset, .unset, .unset, .unset, .unset, .unset, .unset, .unset] [(.long (1 : Int64))])) _
        refine XS.lstore X0.here hx rfl (hb hby at_35) rfl (l' := #[.val (.long q1), .second, .val (.long q2), .second, .val (.int p3), .val (.long v9), .second, .val (.int v15), .val (.long (1 : Int64)), .second, .unset, .unset, .unset, .unset, .unset, .unset]) rfl ?_
        show Steps p.tables e below (s₁.setTop (mkF m 37 #[.val (.long q1), .second, .val (.long q2), .second, .val (.int p3), .val (.long v9), .second, .val (.int v15), .val (.long (1 : Int64)), .second, .unset, .unset, .unset, .unset, .unset, .unset] [])) _
        refine XS.goto X0.here hx rfl (pc0 := 37) (pc' := 65) rfl (hb hby at_37) (by decide) (by decide) ?_
        show Steps p.tables e below (s₁.setTop (mkF m 65 #[.val (.long q1), .second, .val (.long q2), .second, .val (.int p3), .val (.long v9), .second, .val (.int v15), .val (.long (1 : Int64)), .second, .unset, .unset, .unset, .unset, .unset, .unset] [])) _
        exact k
      · refine XS.icmpYes X0.here hx rfl (pc0 := 31) (pc' := 40) rfl (hb hby at_31) rfl (feq hb31).2 (by decide) (by decide) ?_
        show Steps p.tables e below (s₁.setTop (mkF m 40 #[.val (.long q1), .second, .val (.long q2), .second, .val (.int p3), .val (.long v9), .second, .val (.int v15), .unset, .unset, .unset, .unset, .unset, .unset, .unset, .unset] [])) _
        refine XS.iload X0.here hx rfl (hb hby at_40) rfl ?_
        show Steps p.tables e below (s₁.setTop (mkF m 42 #[.val (.long q1), .second, .val (.long q2), .second, .val (.int p3), .val (.long v9), .second, .val (.int v15), .unset, .unset, .unset, .unset, .unset, .unset, .unset, .unset] [(.int v15)])) _
        refine XS.iconst X0.here hx rfl (hb hby at_42) ?_
        show Steps p.tables e below (s₁.setTop (mkF m 43 #[.val (.long q1), .second, .val (.long q2), .second, .val (.int p3), .val (.long v9), .second, .val (.int v15), .unset, .unset, .unset, .unset, .unset, .unset, .unset, .unset] [(.int (2 : Int32)), (.int v15)])) _
        by_cases hb43 : v15 = (2 : Int32)
        · simp only [if_neg hb19, if_neg hb31, if_pos hb43] at k
          refine XS.icmpNo X0.here hx rfl (hb hby at_43) rfl (teq hb43).2 ?_
          show Steps p.tables e below (s₁.setTop (mkF m 46 #[.val (.long q1), .second, .val (.long q2), .second, .val (.int p3), .val (.long v9), .second, .val (.int v15), .unset, .unset, .unset, .unset, .unset, .unset, .unset, .unset] [])) _
          refine X0.ldc2Long hx hown (mvT hZ (hw _ (List.mem_of_getElem? (i := 8) rfl))) (g := (mkF m 46 #[.val (.long q1), .second, .val (.long q2), .second, .val (.int p3), .val (.long v9), .second, .val (.int v15), .unset, .unset, .unset, .unset, .unset, .unset, .unset, .unset] [])) rfl (hb hby at_46) _ ?_
          show Steps p.tables e below (s₁.setTop (mkF m 49 #[.val (.long q1), .second, .val (.long q2), .second, .val (.int p3), .val (.long v9), .second, .val (.int v15), .unset, .unset, .unset, .unset, .unset, .unset, .unset, .unset] [(.long (999999999 : Int64))])) _
          refine XS.lstore X0.here hx rfl (hb hby at_49) rfl (l' := #[.val (.long q1), .second, .val (.long q2), .second, .val (.int p3), .val (.long v9), .second, .val (.int v15), .val (.long (999999999 : Int64)), .second, .unset, .unset, .unset, .unset, .unset, .unset]) rfl ?_
          show Steps p.tables e below (s₁.setTop (mkF m 51 #[.val (.long q1), .second, .val (.long q2), .second, .val (.int p3), .val (.long v9), .second, .val (.int v15), .val (.long (999999999 : Int64)), .second, .unset, .unset, .unset, .unset, .unset, .unset] [])) _
          refine XS.goto X0.here hx rfl (pc0 := 51) (pc' := 65) rfl (hb hby at_51) (by decide) (by decide) ?_
          show Steps p.tables e below (s₁.setTop (mkF m 65 #[.val (.long q1), .second, .val (.long q2), .second, .val (.int p3), .val (.long v9), .second, .val (.int v15), .val (.long (999999999 : Int64)), .second, .unset, .unset, .unset, .unset, .unset, .unset] [])) _
          exact k
        · simp only [if_neg hb19, if_neg hb31, if_neg hb43] at k
          refine XS.icmpYes X0.here hx rfl (pc0 := 43) (pc' := 54) rfl (hb hby at_43) rfl (feq hb43).2 (by decide) (by decide) ?_
          show Steps p.tables e below (s₁.setTop (mkF m 54 #[.val (.long q1), .second, .val (.long q2), .second, .val (.int p3), .val (.long v9), .second, .val (.int v15), .unset, .unset, .unset, .unset, .unset, .unset, .unset, .unset] [])) _
          refine XS.lloadN X0.here hx rfl (hb hby at_54) rfl ?_
          show Steps p.tables e below (s₁.setTop (mkF m 55 #[.val (.long q1), .second, .val (.long q2), .second, .val (.int p3), .val (.long v9), .second, .val (.int v15), .unset, .unset, .unset, .unset, .unset, .unset, .unset, .unset] [(.long q2)])) _
          refine X0.ldc2Long hx hown (mvT hZ (hw _ (List.mem_of_getElem? (i := 0) rfl))) (g := (mkF m 55 #[.val (.long q1), .second, .val (.long q2), .second, .val (.int p3), .val (.long v9), .second, .val (.int v15), .unset, .unset, .unset, .unset, .unset, .unset, .unset, .unset] [(.long q2)])) rfl (hb hby at_55) _ ?_
          show Steps p.tables e below (s₁.setTop (mkF m 58 #[.val (.long q1), .second, .val (.long q2), .second, .val (.int p3), .val (.long v9), .second, .val (.int v15), .unset, .unset, .unset, .unset, .unset, .unset, .unset, .unset] [(.long (9223372036854775807 : Int64)), (.long q2)])) _
          refine XS.land X0.here hx rfl (hb hby at_58) rfl ?_
          show Steps p.tables e below (s₁.setTop (mkF m 59 #[.val (.long q1), .second, .val (.long q2), .second, .val (.int p3), .val (.long v9), .second, .val (.int v15), .unset, .unset, .unset, .unset, .unset, .unset, .unset, .unset] [(.long (q2 &&& (9223372036854775807 : Int64)))])) _
          refine X0.ldc2Long hx hown (mvT hZ (hw _ (List.mem_of_getElem? (i := 2) rfl))) (g := (mkF m 59 #[.val (.long q1), .second, .val (.long q2), .second, .val (.int p3), .val (.long v9), .second, .val (.int v15), .unset, .unset, .unset, .unset, .unset, .unset, .unset, .unset] [(.long (q2 &&& (9223372036854775807 : Int64)))])) rfl (hb hby at_59) _ ?_
          show Steps p.tables e below (s₁.setTop (mkF m 62 #[.val (.long q1), .second, .val (.long q2), .second, .val (.int p3), .val (.long v9), .second, .val (.int v15), .unset, .unset, .unset, .unset, .unset, .unset, .unset, .unset] [(.long (1000000000 : Int64)), (.long (q2 &&& (9223372036854775807 : Int64)))])) _
          refine own_lremM X0.here hx rfl (hb hby at_62) rfl (by decide) ?_
          show Steps p.tables e below (s₁.setTop (mkF m 63 #[.val (.long q1), .second, .val (.long q2), .second, .val (.int p3), .val (.long v9), .second, .val (.int v15), .unset, .unset, .unset, .unset, .unset, .unset, .unset, .unset] [(.long ((q2 &&& (9223372036854775807 : Int64)) % (1000000000 : Int64)))])) _
          refine XS.lstore X0.here hx rfl (hb hby at_63) rfl (l' := #[.val (.long q1), .second, .val (.long q2), .second, .val (.int p3), .val (.long v9), .second, .val (.int v15), .val (.long ((q2 &&& (9223372036854775807 : Int64)) % (1000000000 : Int64))), .second, .unset, .unset, .unset, .unset, .unset, .unset]) rfl ?_
          show Steps p.tables e below (s₁.setTop (mkF m 65 #[.val (.long q1), .second, .val (.long q2), .second, .val (.int p3), .val (.long v9), .second, .val (.int v15), .val (.long ((q2 &&& (9223372036854775807 : Int64)) % (1000000000 : Int64))), .second, .unset, .unset, .unset, .unset, .unset, .unset] [])) _
          exact k
  obtain ⟨v74, hv74⟩ : ∃ z : Int64, z = ((v9 * (1000000000 : Int64)) + u658) := ⟨_, rfl⟩
  have pre4 : ∀ t, Steps p.tables e below (s₁.setTop (mkF m 76 #[.val (.long q1), .second, .val (.long q2), .second, .val (.int p3), .val (.long v9), .second, .val (.int v15), .val (.long u658), .second, .val (.long v74), .second, .unset, .unset, .unset, .unset] [])) t → Steps p.tables e below (s₁.setTop (entryFrame m #[(.long q1), (.long q2), (.int p3)] maxLocals)) t := by
    intro t k
    subst hv74
    refine pre3 t ?_
    refine XS.lload X0.here hx rfl (hb hby at_65) rfl ?_
    show Steps p.tables e below (s₁.setTop (mkF m 67 #[.val (.long q1), .second, .val (.long q2), .second, .val (.int p3), .val (.long v9), .second, .val (.int v15), .val (.long u658), .second, .unset, .unset, .unset, .unset, .unset, .unset] [(.long v9)])) _
    refine X0.ldc2Long hx hown (mvT hZ (hw _ (List.mem_of_getElem? (i := 2) rfl))) (g := (mkF m 67 #[.val (.long q1), .second, .val (.long q2), .second, .val (.int p3), .val (.long v9), .second, .val (.int v15), .val (.long u658), .second, .unset, .unset, .unset, .unset, .unset, .unset] [(.long v9)])) rfl (hb hby at_67) _ ?_
    show Steps p.tables e below (s₁.setTop (mkF m 70 #[.val (.long q1), .second, .val (.long q2), .second, .val (.int p3), .val (.long v9), .second, .val (.int v15), .val (.long u658), .second, .unset, .unset, .unset, .unset, .unset, .unset] [(.long (1000000000 : Int64)), (.long v9)])) _
    refine XS.lmul X0.here hx rfl (hb hby at_70) rfl ?_
    show Steps p.tables e below (s₁.setTop (mkF m 71 #[.val (.long q1), .second, .val (.long q2), .second, .val (.int p3), .val (.long v9), .second, .val (.int v15), .val (.long u658), .second, .unset, .unset, .unset, .unset, .unset, .unset] [(.long (v9 * (1000000000 : Int64)))])) _
    refine XS.lload X0.here hx rfl (hb hby at_71) rfl ?_
    show Steps p.tables e below (s₁.setTop (mkF m 73 #[.val (.long q1), .second, .val (.long q2), .second, .val (.int p3), .val (.long v9), .second, .val (.int v15), .val (.long u658), .second, .unset, .unset, .unset, .unset, .unset, .unset] [(.long u658), (.long (v9 * (1000000000 : Int64)))])) _
    refine XS.ladd X0.here hx rfl (hb hby at_73) rfl ?_
    show Steps p.tables e below (s₁.setTop (mkF m 74 #[.val (.long q1), .second, .val (.long q2), .second, .val (.int p3), .val (.long v9), .second, .val (.int v15), .val (.long u658), .second, .unset, .unset, .unset, .unset, .unset, .unset] [(.long ((v9 * (1000000000 : Int64)) + u658))])) _
    refine XS.lstore X0.here hx rfl (hb hby at_74) rfl (l' := #[.val (.long q1), .second, .val (.long q2), .second, .val (.int p3), .val (.long v9), .second, .val (.int v15), .val (.long u658), .second, .val (.long ((v9 * (1000000000 : Int64)) + u658)), .second, .unset, .unset, .unset, .unset]) rfl ?_
    show Steps p.tables e below (s₁.setTop (mkF m 76 #[.val (.long q1), .second, .val (.long q2), .second, .val (.int p3), .val (.long v9), .second, .val (.int v15), .val (.long u658), .second, .val (.long ((v9 * (1000000000 : Int64)) + u658)), .second, .unset, .unset, .unset, .unset] [])) _
    exact k
  have pre5 : ∀ t, Steps p.tables e below (s₁.setTop (mkF m 80 #[.val (.long q1), .second, .val (.long q2), .second, .val (.int p3), .val (.long v9), .second, .val (.int v15), .val (.long u658), .second, .val (.long v74), .second, .unset, .unset, .unset, .unset] [(.int (lcmpW v74 (0 : Int64)))])) t → Steps p.tables e below (s₁.setTop (entryFrame m #[(.long q1), (.long q2), (.int p3)] maxLocals)) t := by
    intro t k
    refine pre4 t ?_
    refine XS.lload X0.here hx rfl (hb hby at_76) rfl ?_
    show Steps p.tables e below (s₁.setTop (mkF m 78 #[.val (.long q1), .second, .val (.long q2), .second, .val (.int p3), .val (.long v9), .second, .val (.int v15), .val (.long u658), .second, .val (.long v74), .second, .unset, .unset, .unset, .unset] [(.long v74)])) _
    refine XS.lconst X0.here hx rfl (hb hby at_78) ?_
    show Steps p.tables e below (s₁.setTop (mkF m 79 #[.val (.long q1), .second, .val (.long q2), .second, .val (.int p3), .val (.long v9), .second, .val (.int v15), .val (.long u658), .second, .val (.long v74), .second, .unset, .unset, .unset, .unset] [(.long (0 : Int64)), (.long v74)])) _
    refine XS.lcmp X0.here hx rfl (hb hby at_79) rfl ?_
    show Steps p.tables e below (s₁.setTop (mkF m 80 #[.val (.long q1), .second, .val (.long q2), .second, .val (.int p3), .val (.long v9), .second, .val (.int v15), .val (.long u658), .second, .val (.long v74), .second, .unset, .unset, .unset, .unset] [(.int (lcmpW v74 (0 : Int64)))])) _
    exact k
  by_cases hc80 : (0 : Int64) < v74
  · obtain ⟨u101s0, hu101s0⟩ : ∃ z : Int64, z = (if u658 = (0 : Int64) then v9 else (v9 + (1 : Int64))) := ⟨_, rfl⟩
    have pre6 : ∀ t, Steps p.tables e below (s₁.setTop (mkF m 101 #[.val (.long q1), .second, .val (.long q2), .second, .val (.int p3), .val (.long v9), .second, .val (.int v15), .val (.long u658), .second, .val (.long v74), .second, .unset, .unset, .unset, .unset] [(.long u101s0)])) t → Steps p.tables e below (s₁.setTop (entryFrame m #[(.long q1), (.long q2), (.int p3)] maxLocals)) t := by
      intro t k
      subst hu101s0
      refine pre5 t ?_
      refine XS.ifYes X0.here hx rfl (pc0 := 80) (pc' := 85) rfl (hb hby at_80) rfl (own_Tgt hc80).1 (by decide) (by decide) ?_
      show Steps p.tables e below (s₁.setTop (mkF m 85 #[.val (.long q1), .second, .val (.long q2), .second, .val (.int p3), .val (.long v9), .second, .val (.int v15), .val (.long u658), .second, .val (.long v74), .second, .unset, .unset, .unset, .unset] [])) _
      refine XS.lload X0.here hx rfl (hb hby at_85) rfl ?_
      show Steps p.tables e below (s₁.setTop (mkF m 87 #[.val (.long q1), .second, .val (.long q2), .second, .val (.int p3), .val (.long v9), .second, .val (.int v15), .val (.long u658), .second, .val (.long v74), .second, .unset, .unset, .unset, .unset] [(.long u658)])) _
      refine XS.lconst X0.here hx rfl (hb hby at_87) ?_
      show Steps p.tables e below (s₁.setTop (mkF m 88 #[.val (.long q1), .second, .val (.long q2), .second, .val (.int p3), .val (.long v9), .second, .val (.int v15), .val (.long u658), .second, .val (.long v74), .second, .unset, .unset, .unset, .unset] [(.long (0 : Int64)), (.long u658)])) _
      refine XS.lcmp X0.here hx rfl (hb hby at_88) rfl ?_
      show Steps p.tables e below (s₁.setTop (mkF m 89 #[.val (.long q1), .second, .val (.long q2), .second, .val (.int p3), .val (.long v9), .second, .val (.int v15), .val (.long u658), .second, .val (.long v74), .second, .unset, .unset, .unset, .unset] [(.int (lcmpW u658 (0 : Int64)))])) _
      by_cases hb89 : u658 = (0 : Int64)
      · simp only [if_pos hb89] at k
        refine XS.ifNo X0.here hx rfl (hb hby at_89) rfl (own_Teq hb89).2 ?_
        show Steps p.tables e below (s₁.setTop (mkF m 92 #[.val (.long q1), .second, .val (.long q2), .second, .val (.int p3), .val (.long v9), .second, .val (.int v15), .val (.long u658), .second, .val (.long v74), .second, .unset, .unset, .unset, .unset] [])) _
        refine XS.lload X0.here hx rfl (hb hby at_92) rfl ?_
        show Steps p.tables e below (s₁.setTop (mkF m 94 #[.val (.long q1), .second, .val (.long q2), .second, .val (.int p3), .val (.long v9), .second, .val (.int v15), .val (.long u658), .second, .val (.long v74), .second, .unset, .unset, .unset, .unset] [(.long v9)])) _
        refine XS.goto X0.here hx rfl (pc0 := 94) (pc' := 101) rfl (hb hby at_94) (by decide) (by decide) ?_
        show Steps p.tables e below (s₁.setTop (mkF m 101 #[.val (.long q1), .second, .val (.long q2), .second, .val (.int p3), .val (.long v9), .second, .val (.int v15), .val (.long u658), .second, .val (.long v74), .second, .unset, .unset, .unset, .unset] [(.long v9)])) _
        exact k
      · simp only [if_neg hb89] at k
        refine XS.ifYes X0.here hx rfl (pc0 := 89) (pc' := 97) rfl (hb hby at_89) rfl (own_Feq hb89).2 (by decide) (by decide) ?_
        show Steps p.tables e below (s₁.setTop (mkF m 97 #[.val (.long q1), .second, .val (.long q2), .second, .val (.int p3), .val (.long v9), .second, .val (.int v15), .val (.long u658), .second, .val (.long v74), .second, .unset, .unset, .unset, .unset] [])) _
        refine XS.lload X0.here hx rfl (hb hby at_97) rfl ?_
        show Steps p.tables e below (s₁.setTop (mkF m 99 #[.val (.long q1), .second, .val (.long q2), .second, .val (.int p3), .val (.long v9), .second, .val (.int v15), .val (.long u658), .second, .val (.long v74), .second, .unset, .unset, .unset, .unset] [(.long v9)])) _
        refine XS.lconst X0.here hx rfl (hb hby at_99) ?_
        show Steps p.tables e below (s₁.setTop (mkF m 100 #[.val (.long q1), .second, .val (.long q2), .second, .val (.int p3), .val (.long v9), .second, .val (.int v15), .val (.long u658), .second, .val (.long v74), .second, .unset, .unset, .unset, .unset] [(.long (1 : Int64)), (.long v9)])) _
        refine XS.ladd X0.here hx rfl (hb hby at_100) rfl ?_
        show Steps p.tables e below (s₁.setTop (mkF m 101 #[.val (.long q1), .second, .val (.long q2), .second, .val (.int p3), .val (.long v9), .second, .val (.int v15), .val (.long u658), .second, .val (.long v74), .second, .unset, .unset, .unset, .unset] [(.long (v9 + (1 : Int64)))])) _
        exact k
    have pre7 : ∀ t, Steps p.tables e below (s₁.setTop (mkF m 105 #[.val (.long q1), .second, .val (.long q2), .second, .val (.int p3), .val (.long v9), .second, .val (.int v15), .val (.long u658), .second, .val (.long v74), .second, .val (.long u101s0), .second, .unset, .unset] [(.long v74)])) t → Steps p.tables e below (s₁.setTop (entryFrame m #[(.long q1), (.long q2), (.int p3)] maxLocals)) t := by
      intro t k
      refine pre6 t ?_
      refine XS.lstore X0.here hx rfl (hb hby at_101) rfl (l' := #[.val (.long q1), .second, .val (.long q2), .second, .val (.int p3), .val (.long v9), .second, .val (.int v15), .val (.long u658), .second, .val (.long v74), .second, .val (.long u101s0), .second, .unset, .unset]) rfl ?_
      show Steps p.tables e below (s₁.setTop (mkF m 103 #[.val (.long q1), .second, .val (.long q2), .second, .val (.int p3), .val (.long v9), .second, .val (.int v15), .val (.long u658), .second, .val (.long v74), .second, .val (.long u101s0), .second, .unset, .unset] [])) _
      refine XS.lload X0.here hx rfl (hb hby at_103) rfl ?_
      show Steps p.tables e below (s₁.setTop (mkF m 105 #[.val (.long q1), .second, .val (.long q2), .second, .val (.int p3), .val (.long v9), .second, .val (.int v15), .val (.long u658), .second, .val (.long v74), .second, .val (.long u101s0), .second, .unset, .unset] [(.long v74)])) _
      exact k
    obtain ⟨_, _, ⟨T8, L8, k8, n8⟩, -, X8, ⟨Lc8, hQ8, l8, y8, z8⟩, st8⟩ := Jvm.LawKit.callS X0 hx (y := (⟨"com/example/ianus/ianus/server/LeverDurations", "secondsRoundedUp", "(J)J"⟩ : MethodName)) hown (mvT hZ (hw _ (List.mem_of_getElem? (i := 3) rfl))) (mvT hZ (hw _ (List.mem_of_getElem? (i := 4) rfl))) (mvT hZ (hw _ (List.mem_of_getElem? (i := 5) rfl))) (mvT hZ (hw _ (List.mem_of_getElem? (i := 6) rfl))) (by decide) (backOf (W := 0) (rm1 l Z a0 hw [] v74 h0 n0 Z0) hZ (hw _ (List.mem_of_getElem? (i := 6) rfl)) (hw _ (List.mem_of_getElem? (i := 5) rfl)) (by decide) (by decide)) (g := (mkF m 105 #[.val (.long q1), .second, .val (.long q2), .second, .val (.int p3), .val (.long v9), .second, .val (.int v15), .val (.long u658), .second, .val (.long v74), .second, .val (.long u101s0), .second, .unset, .unset] [(.long v74)])) rfl (by rw [hml]; rfl) (argsL := [(.long v74)]) (rest := []) (lenOf pd0_0 rfl) rfl (by show 2 * 0 + _ ≤ _; exact Nat.le_of_eq rfl) (hb hby at_105) (fun _ _ => ⟨rfl, e0, (by decide : 0 + 0 ≤ _), (by decide : 0 + 0 ≤ _)⟩)
    dsimp only [Pt.U, Pt.locs, Pt.cells, Pt.slots] at X8 l8 y8 z8 st8 hQ8
    subst l8 y8 z8
    obtain ⟨rfl, Nq8, e8⟩ := hQ8
    have N8 := Fr.app N0 Nq8
    have pre8 : ∀ t, Steps p.tables e below (T8.setTop (mkF m 108 #[.val (.long q1), .second, .val (.long q2), .second, .val (.int p3), .val (.long v9), .second, .val (.int v15), .val (.long u658), .second, .val (.long v74), .second, .val (.long u101s0), .second, .unset, .unset] [(.long (fn1 v74))])) t → Steps p.tables e below (s₁.setTop (entryFrame m #[(.long q1), (.long q2), (.int p3)] maxLocals)) t := fun t k => pre7 t (st8 _ k)
    obtain ⟨v108, hv108⟩ : ∃ z : Int64, z = (fn1 v74) := ⟨_, rfl⟩
    have pre9 : ∀ t, Steps p.tables e below (T8.setTop (mkF m 110 #[.val (.long q1), .second, .val (.long q2), .second, .val (.int p3), .val (.long v9), .second, .val (.int v15), .val (.long u658), .second, .val (.long v74), .second, .val (.long u101s0), .second, .val (.long v108), .second] [])) t → Steps p.tables e below (s₁.setTop (entryFrame m #[(.long q1), (.long q2), (.int p3)] maxLocals)) t := by
      intro t k
      subst hv108
      refine pre8 t ?_
      refine XS.lstore X8.here hx rfl (hb hby at_108) rfl (l' := #[.val (.long q1), .second, .val (.long q2), .second, .val (.int p3), .val (.long v9), .second, .val (.int v15), .val (.long u658), .second, .val (.long v74), .second, .val (.long u101s0), .second, .val (.long (fn1 v74)), .second]) rfl ?_
      show Steps p.tables e below (T8.setTop (mkF m 110 #[.val (.long q1), .second, .val (.long q2), .second, .val (.int p3), .val (.long v9), .second, .val (.int v15), .val (.long u658), .second, .val (.long v74), .second, .val (.long u101s0), .second, .val (.long (fn1 v74)), .second] [])) _
      exact k
    obtain ⟨u130s0, hu130s0⟩ : ∃ z : Int32, z = (if v108 = u101s0 then (if v108 < (1 : Int64) then (0 : Int32) else (1 : Int32)) else (0 : Int32)) := ⟨_, rfl⟩
    have pre10 : ∀ t, Steps p.tables e below (T8.setTop (mkF m 130 #[.val (.long q1), .second, .val (.long q2), .second, .val (.int p3), .val (.long v9), .second, .val (.int v15), .val (.long u658), .second, .val (.long v74), .second, .val (.long u101s0), .second, .val (.long v108), .second] [(.int u130s0)])) t → Steps p.tables e below (s₁.setTop (entryFrame m #[(.long q1), (.long q2), (.int p3)] maxLocals)) t := by
      intro t k
      subst hu130s0
      refine pre9 t ?_
      refine XS.lload X8.here hx rfl (hb hby at_110) rfl ?_
      show Steps p.tables e below (T8.setTop (mkF m 112 #[.val (.long q1), .second, .val (.long q2), .second, .val (.int p3), .val (.long v9), .second, .val (.int v15), .val (.long u658), .second, .val (.long v74), .second, .val (.long u101s0), .second, .val (.long v108), .second] [(.long v108)])) _
      refine XS.lload X8.here hx rfl (hb hby at_112) rfl ?_
      show Steps p.tables e below (T8.setTop (mkF m 114 #[.val (.long q1), .second, .val (.long q2), .second, .val (.int p3), .val (.long v9), .second, .val (.int v15), .val (.long u658), .second, .val (.long v74), .second, .val (.long u101s0), .second, .val (.long v108), .second] [(.long u101s0), (.long v108)])) _
      refine XS.lcmp X8.here hx rfl (hb hby at_114) rfl ?_
      show Steps p.tables e below (T8.setTop (mkF m 115 #[.val (.long q1), .second, .val (.long q2), .second, .val (.int p3), .val (.long v9), .second, .val (.int v15), .val (.long u658), .second, .val (.long v74), .second, .val (.long u101s0), .second, .val (.long v108), .second] [(.int (lcmpW v108 u101s0))])) _
      by_cases hb115 : v108 = u101s0
      · refine XS.ifNo X8.here hx rfl (hb hby at_115) rfl (own_Teq hb115).2 ?_
        show Steps p.tables e below (T8.setTop (mkF m 118 #[.val (.long q1), .second, .val (.long q2), .second, .val (.int p3), .val (.long v9), .second, .val (.int v15), .val (.long u658), .second, .val (.long v74), .second, .val (.long u101s0), .second, .val (.long v108), .second] [])) _
        refine XS.lload X8.here hx rfl (hb hby at_118) rfl ?_
        show Steps p.tables e below (T8.setTop (mkF m 120 #[.val (.long q1), .second, .val (.long q2), .second, .val (.int p3), .val (.long v9), .second, .val (.int v15), .val (.long u658), .second, .val (.long v74), .second, .val (.long u101s0), .second, .val (.long v108), .second] [(.long v108)])) _
        refine XS.lconst X8.here hx rfl (hb hby at_120) ?_
        show Steps p.tables e below (T8.setTop (mkF m 121 #[.val (.long q1), .second, .val (.long q2), .second, .val (.int p3), .val (.long v9), .second, .val (.int v15), .val (.long u658), .second, .val (.long v74), .second, .val (.long u101s0), .second, .val (.long v108), .second] [(.long (1 : Int64)), (.long v108)])) _
        refine XS.lcmp X8.here hx rfl (hb hby at_121) rfl ?_
        show Steps p.tables e below (T8.setTop (mkF m 122 #[.val (.long q1), .second, .val (.long q2), .second, .val (.int p3), .val (.long v9), .second, .val (.int v15), .val (.long u658), .second, .val (.long v74), .second, .val (.long u101s0), .second, .val (.long v108), .second] [(.int (lcmpW v108 (1 : Int64)))])) _
        by_cases hb122 : v108 < (1 : Int64)
        · simp only [if_pos hb115, if_pos hb122] at k
          refine XS.ifYes X8.here hx rfl (pc0 := 122) (pc' := 129) rfl (hb hby at_122) rfl (own_Tlt hb122).1 (by decide) (by decide) ?_
          show Steps p.tables e below (T8.setTop (mkF m 129 #[.val (.long q1), .second, .val (.long q2), .second, .val (.int p3), .val (.long v9), .second, .val (.int v15), .val (.long u658), .second, .val (.long v74), .second, .val (.long u101s0), .second, .val (.long v108), .second] [])) _
          refine XS.iconst X8.here hx rfl (hb hby at_129) ?_
          show Steps p.tables e below (T8.setTop (mkF m 130 #[.val (.long q1), .second, .val (.long q2), .second, .val (.int p3), .val (.long v9), .second, .val (.int v15), .val (.long u658), .second, .val (.long v74), .second, .val (.long u101s0), .second, .val (.long v108), .second] [(.int (0 : Int32))])) _
          exact k
        · simp only [if_pos hb115, if_neg hb122] at k
          refine XS.ifNo X8.here hx rfl (hb hby at_122) rfl (own_Flt hb122).1 ?_
          show Steps p.tables e below (T8.setTop (mkF m 125 #[.val (.long q1), .second, .val (.long q2), .second, .val (.int p3), .val (.long v9), .second, .val (.int v15), .val (.long u658), .second, .val (.long v74), .second, .val (.long u101s0), .second, .val (.long v108), .second] [])) _
          refine XS.iconst X8.here hx rfl (hb hby at_125) ?_
          show Steps p.tables e below (T8.setTop (mkF m 126 #[.val (.long q1), .second, .val (.long q2), .second, .val (.int p3), .val (.long v9), .second, .val (.int v15), .val (.long u658), .second, .val (.long v74), .second, .val (.long u101s0), .second, .val (.long v108), .second] [(.int (1 : Int32))])) _
          refine XS.goto X8.here hx rfl (pc0 := 126) (pc' := 130) rfl (hb hby at_126) (by decide) (by decide) ?_
          show Steps p.tables e below (T8.setTop (mkF m 130 #[.val (.long q1), .second, .val (.long q2), .second, .val (.int p3), .val (.long v9), .second, .val (.int v15), .val (.long u658), .second, .val (.long v74), .second, .val (.long u101s0), .second, .val (.long v108), .second] [(.int (1 : Int32))])) _
          exact k
      · simp only [if_neg hb115] at k
        refine XS.ifYes X8.here hx rfl (pc0 := 115) (pc' := 129) rfl (hb hby at_115) rfl (own_Feq hb115).2 (by decide) (by decide) ?_
        show Steps p.tables e below (T8.setTop (mkF m 129 #[.val (.long q1), .second, .val (.long q2), .second, .val (.int p3), .val (.long v9), .second, .val (.int v15), .val (.long u658), .second, .val (.long v74), .second, .val (.long u101s0), .second, .val (.long v108), .second] [])) _
        refine XS.iconst X8.here hx rfl (hb hby at_129) ?_
        show Steps p.tables e below (T8.setTop (mkF m 130 #[.val (.long q1), .second, .val (.long q2), .second, .val (.int p3), .val (.long v9), .second, .val (.int v15), .val (.long u658), .second, .val (.long v74), .second, .val (.long u101s0), .second, .val (.long v108), .second] [(.int (0 : Int32))])) _
        exact k
    obtain ⟨fs, hr, hrun, hended, hW, hsame⟩ := X8.leave (v := some (.int (nar .boolean u130s0))) (fun h => by rw [Bd.returns] at h; cases h)
    refine ⟨_, _, pre10 _ ?_, hrun, hended, _, _, rfl, ?_, ⟨_, rfl⟩, hW, hsame.mono (by decide) (by decide)⟩
    · show Steps p.tables e below (T8.setTop (mkF m 130 #[.val (.long q1), .second, .val (.long q2), .second, .val (.int p3), .val (.long v9), .second, .val (.int v15), .val (.long u658), .second, .val (.long v74), .second, .val (.long u101s0), .second, .val (.long v108), .second] [(.int u130s0)])) _
      exact retN X8 hx (t := .boolean) Bd.returns (by simp) (hb hby at_130) hr
    · show Q0 Z q1 q2 p3 h0 n0 _ T8.heap _
      rw [e8]
      refine ⟨?_, N8⟩
      subst hu130s0 hv108 hu101s0 hv74 hu658 hv15 hv9
      simp only [fn0, if_pos hc80]
  · have pre11 : ∀ t, Steps p.tables e below (s₁.setTop (mkF m 84 #[.val (.long q1), .second, .val (.long q2), .second, .val (.int p3), .val (.long v9), .second, .val (.int v15), .val (.long u658), .second, .val (.long v74), .second, .unset, .unset, .unset, .unset] [(.int (1 : Int32))])) t → Steps p.tables e below (s₁.setTop (entryFrame m #[(.long q1), (.long q2), (.int p3)] maxLocals)) t := by
      intro t k
      refine pre5 t ?_
      refine XS.ifNo X0.here hx rfl (hb hby at_80) rfl (own_Fgt hc80).1 ?_
      show Steps p.tables e below (s₁.setTop (mkF m 83 #[.val (.long q1), .second, .val (.long q2), .second, .val (.int p3), .val (.long v9), .second, .val (.int v15), .val (.long u658), .second, .val (.long v74), .second, .unset, .unset, .unset, .unset] [])) _
      refine XS.iconst X0.here hx rfl (hb hby at_83) ?_
      show Steps p.tables e below (s₁.setTop (mkF m 84 #[.val (.long q1), .second, .val (.long q2), .second, .val (.int p3), .val (.long v9), .second, .val (.int v15), .val (.long u658), .second, .val (.long v74), .second, .unset, .unset, .unset, .unset] [(.int (1 : Int32))])) _
      exact k
    obtain ⟨fs, hr, hrun, hended, hW, hsame⟩ := X0.leave (v := some (.int (nar .boolean (1 : Int32)))) (fun h => by rw [Bd.returns] at h; cases h)
    refine ⟨_, _, pre11 _ ?_, hrun, hended, _, _, rfl, ?_, ⟨_, rfl⟩, hW, hsame.mono (by decide) (by decide)⟩
    · show Steps p.tables e below (s₁.setTop (mkF m 84 #[.val (.long q1), .second, .val (.long q2), .second, .val (.int p3), .val (.long v9), .second, .val (.int v15), .val (.long u658), .second, .val (.long v74), .second, .unset, .unset, .unset, .unset] [(.int (1 : Int32))])) _
      exact retN X0 hx (t := .boolean) Bd.returns (by simp) (hb hby at_84) hr
    · show Q0 Z q1 q2 p3 h0 n0 _ s₁.heap _
      rw [e0]
      refine ⟨?_, N0⟩
      subst hv74 hu658 hv15 hv9
      simp only [fn0, if_neg hc80]
set_option maxRecDepth 65536 in
set_option maxHeartbeats 40000000 in
theorem comes_1 {Post : Tables → Env → Array Value → State → Outcome → State → Prop} (hpost : ∀ tb e args s v u, (limb_1_1.after args s (.returned v) u = true ∧ limb_1_2.after args s (.returned v) u = true ∧ True) → FrameEnd s (.returned v) u (Jvm.fieldLocs frame_1_writes args s ++ Jvm.arrayLocs frame_1_arrays args s ++ Jvm.staticLocs frame_1_statics s) 0 0 → Post tb e args s (.returned v) u) :
    ArmFor flags0 classFile x code maxLocals ret World_1 tables_1 room_1 Calls_1 rest_1 Pre_1 Post := by
  intro l hfl _ _ p e ha hc hk s m args below hf hA hF happ hP
  obtain ⟨hcalls, hrest, hpre⟩ := hP
  obtain ⟨-, -, -, hnamed, -, -, -, hat⟩ := (Spec.applies_iff hf).mp happ
  obtain ⟨hg, hn⟩ := and_e (Cond.before_iff.mp (show (Jvm.Cond.and given_1 narrow_1).before args s = true from hpre))
  obtain ⟨hcount, g0⟩ := and_e hg
  obtain ⟨a0, g1⟩ := and_e g0
  obtain ⟨a1, g2⟩ := and_e g1
  have a2 := g2
  obtain ⟨w0, w1, w2, rfl⟩ : ∃ w0 w1 w2 : Value, args = #[w0, w1, w2] := by
    have hs : args.size = 3 := by simpa [Cond.value, given_1] using hcount
    obtain ⟨L⟩ := args
    match L, hs with
    | [w0, w1, w2], _ => exact ⟨w0, w1, w2, rfl⟩
  have hw := fun d (hd : d ∈ tables_1) => atoms_spec (ws := Jvm.Cond.code x code maxLocals ret :: tables_1) hat d (List.mem_cons_of_mem _ hd)
  obtain ⟨i0, ei0⟩ := isL_v a0
  obtain rfl : w0 = (.long i0) := Option.some.inj ei0
  obtain ⟨i1, ei1⟩ := isL_v a1
  obtain rfl : w1 = (.long i1) := Option.some.inj ei1
  obtain ⟨i2, ei2⟩ := is_v a2
  obtain rfl : w2 = (.int i2) := Option.some.inj ei2
  obtain ⟨n, o, h1, h2, h3, v, L, rfl, ⟨hv, N⟩, hq⟩ := rm0 l s _ hw tables_1 i0 i1 i2 s.heap s.heap.size (Nat.le_refl _) p e ha hc hk s m _ below hf ((Spec.applies_iff_loose hf).mp happ).1 ⟨rfl, State.Warmed39.refl s, rfl⟩ trivial
  rw [own_law] at hv
  subst hv
  refine ⟨n, _, h1, h2, h3, hpost _ _ _ _ _ _ ⟨Cond.after_iff.mpr rfl, Cond.after_iff.mpr (eq_i res_at (Term.int_eval (1)) rfl), trivial⟩ ⟨hq.1, hq.2.1, (hq.2.2.sift fun y hy => Or.inr (N y hy)).mono (by decide) (by decide)⟩⟩
theorem main_1_1 : Claimed_1_1 := comes_1 fun _ _ _ _ _ _ h hF => ⟨h.1, hF⟩
theorem main_1_2 : Claimed_1_2 := comes_1 fun _ _ _ _ _ _ h hF => ⟨h.2.1, hF⟩
end Jvm.Pilot.@@N@@
namespace Jvm.Pilot.@@N@@
open Jvm Jvm.ClassFile Sem Op Lib Jvm.Free Jvm.Stand Jvm.Pilot.@@N@@.Jvm.D
/-! MADE BY PROGRAM (witnessworld.py) out of the Statement's table words and the real class files: 9 classes; the members and pool entries that the words name. The judged class is class 1, her method 1. -/
namespace start1
open Jvm.ClassFile
def u (s : String) : CpInfo := .utf8 (stringToUtf16 s)
/-- a pool by its gaps: so many unusable entries, then the entry; so many at the end -/
def gap : Nat → List CpInfo → List CpInfo
  | 0, r => r
  | n + 1, r => .unusable :: gap n r
def poolList (es : List (Nat × CpInfo)) (last : Nat) : List CpInfo := es.foldr (fun e r => gap e.1 (e.2 :: r)) (gap last [])
def pool (es : List (Nat × CpInfo)) (last : Nat) : Array CpInfo := ⟨poolList es last⟩
def fileOf (pool : Array CpInfo) (this : Nat) (attrs : Array Attribute := #[]) (ms : Array MethodInfo := #[]) (fl : Nat := 33) (sup : Nat := 0) (ifs : Array Nat := #[]) (fds : Array FieldInfo := #[]) : ClassFile where
  minorVersion := 0
  majorVersion := 65
  constantPool := pool
  accessFlags := fl
  thisClass := this
  superClass := sup
  interfaces := ifs
  fields := fds
  methods := ms
  attributes := attrs
def plain (name : String) (sup : Option ClassId) : Class where
  name := name
  kind := .ordinary
  loader := none
  accessFlags := 33
  super := sup
  interfaces := #[]
  cf := none
  fields := #[]
  methods := #[]
  instanceTypes := #[]
  staticTypes := #[]
  resolved := #[]
  callSites := []
  init := .initialized
  statics := none
  mirror := none

def pool0 : Array CpInfo := pool [(5, u "<init>"), (0, u "()V"), (1, .class_ 10), (1, u "java/lang/Object")] 113

def k0m0 : Method := { name := "<init>", desc := "()V", sig := { parameters := [], returnType := none }, accessFlags := 1, code := none }
/-- java/lang/Object -/
def k0 : Class := { plain "java/lang/Object" none with
  accessFlags := 33
  interfaces := #[]
  cf := some (fileOf pool0 8 #[] #[{ accessFlags := 1, nameIndex := 5, descriptorIndex := 6, attributes := #[] }] 33 0 #[] #[])
  fields := #[]
  methods := #[k0m0]
  instanceTypes := #[]
  staticTypes := #[]
  resolved := Array.replicate 124 none
  statics := none }

def pool1 : Array CpInfo := pool [(2, .class_ 4), (1, u "java/lang/Object"), (0, u "<init>"), (0, u "()V"), (2, .long 9223372036854775807), (1, .long 9223372037), (1, .long 999999999), (1, .long 1000000000), (1, .methodref 18 19), (0, .class_ 20), (0, .nameAndType 21 22), (0, u "com/example/ianus/ianus/server/LeverDurations"), (0, u "secondsRoundedUp"), (0, u "(J)J"), (0, .class_ 24), (0, u "com/example/ianus/ianus/server/LeverDurationsSecondsRoundedUpPinLaw"), (2, u "law"), (0, u "(JJI)Z")] 3

def k1m0 : Method := { name := "<init>", desc := "()V", sig := { parameters := [], returnType := none }, accessFlags := 2, code := none }
def k1c1 : Code := { maxStack := 4, maxLocals := 16, code := code, exceptionTable := #[], attributes := #[] }
def k1m1 : Method := { name := "law", desc := "(JJI)Z", sig := { parameters := [.long, .long, .int], returnType := some .boolean }, accessFlags := 9, code := some k1c1 }
/-- com/example/ianus/ianus/server/LeverDurationsSecondsRoundedUpPinLaw -/
def k1 : Class := { plain "com/example/ianus/ianus/server/LeverDurationsSecondsRoundedUpPinLaw" (some 0) with
  accessFlags := 49
  interfaces := #[]
  cf := some (fileOf pool1 23 #[] #[{ accessFlags := 2, nameIndex := 5, descriptorIndex := 6, attributes := #[] }, { accessFlags := 9, nameIndex := 27, descriptorIndex := 28, attributes := #[] }] 49 2 #[] #[])
  fields := #[]
  methods := #[k1m0, k1m1]
  instanceTypes := #[]
  staticTypes := #[]
  resolved := Array.replicate 32 none
  statics := none }

def pool2 : Array CpInfo := pool [(2, .class_ 4), (1, u "java/lang/Object"), (0, u "<init>"), (0, u "()V"), (34, .class_ 42), (0, u "com/example/ianus/ianus/server/LeverDurations"), (0, .long 1000000000), (1, u "NANOS_PER_SECOND"), (0, u "J"), (6, u "secondsRoundedUp"), (0, u "(J)J")] 17

def k2m0 : Method := { name := "<init>", desc := "()V", sig := { parameters := [], returnType := none }, accessFlags := 2, code := none }
def k2c1 : Code := { maxStack := 6, maxLocals := 2, code := prog_53_method_3_code, exceptionTable := #[], attributes := #[] }
def k2m1 : Method := { name := "secondsRoundedUp", desc := "(J)J", sig := { parameters := [.long], returnType := some .long }, accessFlags := 8, code := some k2c1 }
/-- com/example/ianus/ianus/server/LeverDurations -/
def k2 : Class := { plain "com/example/ianus/ianus/server/LeverDurations" (some 0) with
  accessFlags := 32
  interfaces := #[]
  cf := some (fileOf pool2 41 #[] #[{ accessFlags := 2, nameIndex := 5, descriptorIndex := 6, attributes := #[] }, { accessFlags := 8, nameIndex := 53, descriptorIndex := 54, attributes := #[] }] 32 2 #[] #[{ accessFlags := 26, nameIndex := 45, descriptorIndex := 46, attributes := #[] }])
  fields := #[{ name := "NANOS_PER_SECOND", type := .long, accessFlags := 26, slot := 0, constantValue := 0 }]
  methods := #[k2m0, k2m1]
  instanceTypes := #[]
  staticTypes := #[.long]
  resolved := Array.replicate 72 none
  statics := none }

def pool3 : Array CpInfo := pool [(1, u "java/lang/Cloneable"), (0, .class_ 1), (0, u "java/lang/Object"), (0, .class_ 3)] 3

/-- java/lang/Cloneable -/
def k3 : Class := { plain "java/lang/Cloneable" (some 0) with
  accessFlags := 1537
  interfaces := #[]
  cf := some (fileOf pool3 2 #[] #[] 1537 4 #[] #[])
  fields := #[]
  methods := #[]
  instanceTypes := #[]
  staticTypes := #[]
  resolved := Array.replicate 8 none
  statics := none }

def pool4 : Array CpInfo := pool [(1, u "java/io/Serializable"), (0, .class_ 1), (0, u "java/lang/Object"), (0, .class_ 3)] 3

/-- java/io/Serializable -/
def k4 : Class := { plain "java/io/Serializable" (some 0) with
  accessFlags := 1537
  interfaces := #[]
  cf := some (fileOf pool4 2 #[] #[] 1537 4 #[] #[])
  fields := #[]
  methods := #[]
  instanceTypes := #[]
  staticTypes := #[]
  resolved := Array.replicate 8 none
  statics := none }

/-- the primitive byte -/
def k5 : Class := { plain "byte" none with kind := .primitive 'B', accessFlags := 0x411 }
/-- [B -/
def k6 : Class := { plain "[B" (some 0) with kind := .array 5 .byte, interfaces := #[3, 4], accessFlags := 1041 }

/-- the primitive int -/
def k7 : Class := { plain "int" none with kind := .primitive 'I', accessFlags := 0x411 }
/-- [I -/
def k8 : Class := { plain "[I" (some 0) with kind := .array 7 .int, interfaces := #[3, 4], accessFlags := 1041 }

def heap : Heap := #[]
def classes : Array Class := #[k0, k1, k2, k3, k4, k5, k6, k7, k8]
def interned : List (Array UInt16 × Addr) := []
def slotsUsed : Nat := 0
def theMethod : MethodId := ⟨1, 1⟩
def args0 : Array Value := #[.long 5, .long 7, .int 3]
def aboutOver (below : List Frame) : State where
  vm := { classes := classes, interned := interned.toArray }
  heap := heap
  slotsUsed := slotsUsed
  threads := #[{ frames := .invoking theMethod args0 :: below }]
def below0 : List Frame := [.native { method := ⟨0, 0⟩, args := #[] }]
def about1 : State := aboutOver below0
def p0 : Program := .bare "" "" ""
def e0 : Env := launch0.env 0 0 0
theorem w_frames : about1.frames = Frame.invoking theMethod args0 :: below0 := rfl
set_option maxRecDepth 65536 in
theorem w_args : argsFit about1.vm theMethod args0 = true := by decide +kernel
set_option maxRecDepth 65536 in
theorem w_heap : heapFits about1 = true := by decide +kernel
set_option maxRecDepth 65536 in
theorem w_runnable : about1.curStatus? = some .runnable := by decide +kernel
set_option maxRecDepth 65536 in
theorem w_alone : about1.alone = true := by decide +kernel
set_option maxRecDepth 65536 in
theorem w_named : about1.methodNamed? x = some theMethod := by decide +kernel
set_option maxRecDepth 65536 in
theorem w_hears : about1.hears theMethod below0 = true := by decide +kernel
set_option maxRecDepth 65536 in
theorem w_ripe : about1.ripe theMethod args0 below0 = true := by decide +kernel
theorem w_running : about1.status = .running := rfl
set_option maxRecDepth 65536 in
theorem w_room : about1.hasRoom e0.platform room_1 = true :=
  launch0.hasRoom_least _ room_1 (by decide +kernel) (by decide +kernel) (by decide +kernel) (by decide +kernel) (by decide +kernel) (by decide +kernel)
theorem allAtoms_all (ts : List Jvm.Cond) (a : Array Jvm.Value) (st : Jvm.State) : (allAtoms ts).before a st = ts.all (fun c => c.before a st) := by
  induction ts with
  | nil => rfl
  | cons c t ih =>
    show (Jvm.Cond.and c (allAtoms t)).before a st = _
    rw [Jvm.Cond.before_and, ih, List.all_cons]
def words1 : List Jvm.Cond := Jvm.Cond.code x code maxLocals ret :: tables_1
/-- a 'code' word, met by the world's own term for the bytes: nothing is compared byte by byte -/
theorem code_word {y : MethodName} {bytes : ByteArray} {mx : Nat} {rt : Option FieldType} {a : Array Value} {s : State} {m : MethodId} {meth : Method} {c : Code} (h1 : s.methodNamed? y = some m) (h2 : s.vm.method? m = some meth) (h3 : meth.code = some c) (h4 : c.code = bytes)
    (h5 : (c.maxLocals == mx && c.exceptionTable.isEmpty && decide (c.maxStack ≤ mostOperands) && decide (meth.sig.returnType = rt) && !meth.locks && decide (parseMethodDescriptor y.desc = some meth.sig)) = true) : (Jvm.Cond.code y bytes mx rt).before a s = true := by
  simp only [Bool.and_eq_true, beq_iff_eq, Bool.not_eq_true', decide_eq_true_eq] at h5
  obtain ⟨⟨⟨⟨⟨g1, g2⟩, g3⟩, g4⟩, g5⟩, g6⟩ := h5
  simp [Cond.before, Cond.holds, Cond.value, h1, h2, h3, h4, g1, g2, g3, g4, g5, g6]
def isCode : Jvm.Cond → Bool
  | .code _ _ _ _ => true
  | _ => false
theorem all_split {L : List Jvm.Cond} {P : Jvm.Cond → Bool} (h1 : L.all (fun c => isCode c || P c) = true) (h2 : ∀ c ∈ L.filter isCode, P c = true) : L.all P = true := by
  refine List.all_eq_true.mpr fun c hc => ?_
  have h := List.all_eq_true.mp h1 c hc
  rcases Bool.eq_false_or_eq_true (isCode c) with hi | hi
  · exact h2 c (List.mem_filter.mpr ⟨hc, hi⟩)
  · simpa [hi] using h
set_option maxRecDepth 65536 in
theorem w_c0 : (Jvm.Cond.code x code maxLocals ret).before args0 about1 = true := code_word (m := ⟨1, 1⟩) (meth := k1m1) (c := k1c1) (by decide +kernel) rfl rfl rfl (by decide +kernel)
set_option maxRecDepth 65536 in
theorem w_c1 : (Jvm.Cond.code ({ cls := "com/example/ianus/ianus/server/LeverDurations", name := "secondsRoundedUp", desc := "(J)J" } : Jvm.MethodName) prog_53_method_3_code (2 : Nat) (Option.some Jvm.ClassFile.FieldType.long)).before args0 about1 = true := code_word (m := ⟨2, 1⟩) (meth := k2m1) (c := k2c1) (by decide +kernel) rfl rfl rfl (by decide +kernel)
def codes1 : List Jvm.Cond := [Jvm.Cond.code x code maxLocals ret, Jvm.Cond.code ({ cls := "com/example/ianus/ianus/server/LeverDurations", name := "secondsRoundedUp", desc := "(J)J" } : Jvm.MethodName) prog_53_method_3_code (2 : Nat) (Option.some Jvm.ClassFile.FieldType.long)]
set_option maxRecDepth 65536 in
theorem codes_eq : words1.filter isCode = codes1 := rfl
theorem w_codes : ∀ c ∈ words1.filter isCode, c.before args0 about1 = true := by
  rw [codes_eq]
  intro c hc
  simp only [codes1, List.mem_cons, List.not_mem_nil, or_false] at hc
  rcases hc with rfl | rfl
  · exact w_c0
  · exact w_c1
set_option maxRecDepth 65536 in
theorem w_t1 : words1.all (fun c => isCode c || c.before args0 about1) = true := by decide +kernel
theorem w_tables : (allAtoms (Jvm.Cond.code x code maxLocals ret :: tables_1)).before args0 about1 = true := by
  rw [allAtoms_all]
  show words1.all (fun c => c.before args0 about1) = true
  refine all_split ?_ w_codes
  rw [w_t1]
set_option maxRecDepth 65536 in
theorem w_case : (Jvm.Cond.and given_1 narrow_1).before args0 about1 = true := by decide +kernel
theorem w_applies : (headSpec (Jvm.Cond.code x code maxLocals ret :: tables_1) room_1).applies x e0.platform about1 = true :=
  (Spec.applies_iff w_frames).mpr ⟨w_running, w_runnable, w_alone, w_named, w_hears, w_ripe, w_room, w_tables⟩
theorem atStart : AtStart classFile x code maxLocals ret World_1 tables_1 room_1 Calls_1 rest_1 Pre_1 launch0 p0 e0 about1 theMethod args0 below0 :=
  ⟨lists_1, trivial, launch0.admits_env _ _ _, launch0.least_env, fairChoices_fair.cas, fairChoices_fair.clock, w_frames, w_args, w_heap, w_applies, trivial, trivial, w_case⟩
end start1
theorem witness_1 : WitnessClaimed_1 := ⟨start1.p0, start1.e0, start1.about1, start1.theMethod, start1.args0, start1.below0, start1.atStart⟩
end Jvm.Pilot.@@N@@
