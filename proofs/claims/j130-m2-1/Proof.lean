import JvmDerived
import JvmDerived.Pilot.@@N@@Statement
import JvmDerived.Pilot.@@N@@Code
set_option linter.unusedVariables false
set_option linter.unusedSimpArgs false
@@BLOCK:NumsL.lean.txt@@
namespace Jvm.Pilot.@@N@@
open Jvm Jvm.ClassFile Sem Op Lib Jvm.Free Jvm.Stand Jvm.LawKit Jvm.RoadKit Bundle Jvm.Pilot.@@N@@.Jvm.D
/-! small laws of this text's own: returns, lrem as %, lcmp and the branch behind it -/
section Own
variable {p : Program} {l : Launch} {e : Env} {R : Room} {s : State} {m : MethodId} {args : Array Value} {below : List Frame} {meth : Method} {c : Code} {T : State} {locs : List Loc} {cells slots : Nat}
theorem own_retI (X : Stand p l e R s m args below meth c T locs cells slots) (hx : p.tables.exec = Jvm.exec) {pc : Nat} {Ls : Array Slot} {z : Int32} {rest : List Value} (hret : meth.sig.returnType = some .int) (hd : decode c.code pc = .ok (.ireturn, 1)) {fs : List Frame}
    (hl : ∀ (f : JFrame) (acts : List Action), f.method = m → f.locked = none → f.entered = [] → (doReturn e (T.setTop f) acts (some (.int z))).1 = T.setFrames fs) : Steps p.tables e below (T.setTop (mkF m pc Ls (.int z :: rest))) (T.setFrames fs) :=
  retOut X hx hret rfl (Or.inl ⟨rfl, Or.inl rfl, z, rfl⟩) hd hl
theorem own_retJ (X : Stand p l e R s m args below meth c T locs cells slots) (hx : p.tables.exec = Jvm.exec) {pc : Nat} {Ls : Array Slot} {z : Int64} {rest : List Value} (hret : meth.sig.returnType = some .long) (hd : decode c.code pc = .ok (.lreturn, 1)) {fs : List Frame}
    (hl : ∀ (f : JFrame) (acts : List Action), f.method = m → f.locked = none → f.entered = [] → (doReturn e (T.setTop f) acts (some (.long z))).1 = T.setFrames fs) : Steps p.tables e below (T.setTop (mkF m pc Ls (.long z :: rest))) (T.setFrames fs) :=
  retOut X hx hret rfl (Or.inr (Or.inl ⟨rfl, rfl, z, rfl⟩)) hd hl
theorem own_retR (X : Stand p l e R s m args below meth c T locs cells slots) (hx : p.tables.exec = Jvm.exec) {pc : Nat} {Ls : Array Slot} {b : Addr} {rest : List Value} {t : FieldType} (hret : meth.sig.returnType = some t) (ht : t.isReference = true) (hn : narrow t (.ref b) = .ref b) (hd : decode c.code pc = .ok (.areturn, 1)) {fs : List Frame}
    (hl : ∀ (f : JFrame) (acts : List Action), f.method = m → f.locked = none → f.entered = [] → (doReturn e (T.setTop f) acts (some (.ref b))).1 = T.setFrames fs) : Steps p.tables e below (T.setTop (mkF m pc Ls (.ref b :: rest))) (T.setFrames fs) :=
  retOut X hx hret hn (Or.inr (Or.inr (Or.inr (Or.inr ⟨rfl, ht, rfl⟩)))) hd hl
theorem own_lrem_mod (x y : Int64) : x - (x / y) * y = x % y := by
  apply Int64.toInt_inj.mp
  have h1 := Int64.le_toInt (x % y)
  have h2 := Int64.toInt_lt (x % y)
  rw [Int64.toInt_sub, Int64.toInt_mul, Int64.toInt_div, Int.bmod_mul_bmod, Int.sub_bmod_bmod, Int.mul_comm (x.toInt.tdiv y.toInt), ← Int.tmod_def, ← Int64.toInt_mod]
  exact Int.bmod_eq_of_le_mul_two (by omega) (by omega)
theorem own_lremM {tb : Tables} [Ours tb] {e : Env} {below : List Frame} {T target : State} {m : MethodId} {c : Code} {g : JFrame} (h : At T m c below) (hx : tb.exec = Jvm.exec) (hg : g.method = m) {x y : Int64} {rest : List Value} (hd : decode c.code g.pc = .ok (.lrem, 1)) (hs : g.stack = .long y :: .long x :: rest) (hy : y ≠ 0)
    (hr : Steps tb e below (T.setTop { g with pc := g.pc + 1, stack := .long (x % y) :: rest }) target) : Steps tb e below (T.setTop g) target :=
  XS.lrem h hx hg hd hs hy (by rw [own_lrem_mod]; exact hr)
end Own
theorem own_hgt (z : Int32) : ifCond.holds .gt z = decide (z > 0) := rfl
theorem own_hlt (z : Int32) : ifCond.holds .lt z = decide (z < 0) := rfl
theorem own_heq (z : Int32) : ifCond.holds .eq z = (z == 0) := rfl
theorem own_hge (z : Int32) : ifCond.holds .ge z = decide (z ≥ 0) := rfl
theorem own_hle (z : Int32) : ifCond.holds .le z = decide (z ≤ 0) := rfl
theorem own_hne (z : Int32) : ifCond.holds .ne z = (z != 0) := rfl
theorem own_lc1 {x y : Int64} (h : y < x) : lcmpW x y = 1 := if_pos h
theorem own_lc0 {x y : Int64} (h : x = y) : lcmpW x y = 0 := by
  have h1 : ¬ y < x := by rw [h, Int64.lt_iff_toInt_lt]; omega
  exact (if_neg h1).trans (if_pos h)
theorem own_lcm {x y : Int64} (h : x < y) : lcmpW x y = -1 := by
  have h1 : ¬ y < x := by rw [Int64.lt_iff_toInt_lt] at *; omega
  have h2 : ¬ x = y := fun q => by rw [q, Int64.lt_iff_toInt_lt] at h; omega
  exact (if_neg h1).trans (if_neg h2)
theorem own_tri (x y : Int64) : x < y ∨ x = y ∨ y < x := by
  rw [Int64.lt_iff_toInt_lt, Int64.lt_iff_toInt_lt, ← Int64.toInt_inj]; omega
theorem own_nlt {x y : Int64} (h : x < y) : ¬ y < x ∧ ¬ x = y := by
  rw [Int64.lt_iff_toInt_lt] at *
  exact ⟨by omega, fun q => by rw [q] at h; omega⟩
theorem own_Tlt {x y : Int64} (h : x < y) : ifCond.holds .lt (lcmpW x y) = true ∧ ifCond.holds .ge (lcmpW x y) = false := by rw [own_lcm h]; decide
theorem own_Flt {x y : Int64} (h : ¬ x < y) : ifCond.holds .lt (lcmpW x y) = false ∧ ifCond.holds .ge (lcmpW x y) = true := by
  rcases own_tri x y with q | q | q
  · exact absurd q h
  · rw [own_lc0 q]; decide
  · rw [own_lc1 q]; decide
theorem own_Tgt {x y : Int64} (h : y < x) : ifCond.holds .gt (lcmpW x y) = true ∧ ifCond.holds .le (lcmpW x y) = false := by rw [own_lc1 h]; decide
theorem own_Fgt {x y : Int64} (h : ¬ y < x) : ifCond.holds .gt (lcmpW x y) = false ∧ ifCond.holds .le (lcmpW x y) = true := by
  rcases own_tri x y with q | q | q
  · rw [own_lcm q]; decide
  · rw [own_lc0 q]; decide
  · exact absurd q h
theorem own_Teq {x y : Int64} (h : x = y) : ifCond.holds .eq (lcmpW x y) = true ∧ ifCond.holds .ne (lcmpW x y) = false := by rw [own_lc0 h]; decide
theorem own_Feq {x y : Int64} (h : ¬ x = y) : ifCond.holds .eq (lcmpW x y) = false ∧ ifCond.holds .ne (lcmpW x y) = true := by
  rcases own_tri x y with q | q | q
  · rw [own_lcm q]; decide
  · exact absurd q h
  · rw [own_lc1 q]; decide
def own_vs : Nat → Int32 → Int64 → Int32
  | 0, n, _ => n
  | f + 1, n, r => if r = 0 then n else own_vs f (n + 1) ((r.toUInt64 >>> ((7 : Int32) &&& 0x3f).toInt64.toUInt64).toInt64)
theorem own_sh (r : Int64) : ((r.toUInt64 >>> ((7 : Int32) &&& 0x3f).toInt64.toUInt64).toInt64).toUInt64.toNat = r.toUInt64.toNat / 128 := by
  have e : (((7 : Int32) &&& 0x3f).toInt64.toUInt64).toNat % 64 = 7 := by decide
  show (r.toUInt64 >>> ((7 : Int32) &&& 0x3f).toInt64.toUInt64).toNat = _
  rw [UInt64.toNat_shiftRight, e, Nat.shiftRight_eq_div_pow]
theorem own_zero {r : Int64} (h : r.toUInt64.toNat = 0) : r = 0 := by
  have q : r.toUInt64 = 0 := UInt64.toNat_inj.mp h
  have := congrArg UInt64.toInt64 q
  exact this
theorem d1_7 : decode prog_105_method_12_code 7 = .ok (.lload_n 3, 1) := by decide +kernel
theorem d1_8 : decode prog_105_method_12_code 8 = .ok (.lconst 0, 1) := by decide +kernel
theorem d1_9 : decode prog_105_method_12_code 9 = .ok (.lcmp, 1) := by decide +kernel
theorem d1_10 : decode prog_105_method_12_code 10 = .ok (.ifCond .eq 14, 3) := by decide +kernel
theorem d1_13 : decode prog_105_method_12_code 13 = .ok (.iinc 2 1, 3) := by decide +kernel
theorem d1_16 : decode prog_105_method_12_code 16 = .ok (.lload_n 3, 1) := by decide +kernel
theorem d1_17 : decode prog_105_method_12_code 17 = .ok (.bipush 7, 2) := by decide +kernel
theorem d1_19 : decode prog_105_method_12_code 19 = .ok (.lushr, 1) := by decide +kernel
theorem d1_20 : decode prog_105_method_12_code 20 = .ok (.lstore_n 3, 1) := by decide +kernel
theorem d1_21 : decode prog_105_method_12_code 21 = .ok (.goto (-14), 3) := by decide +kernel
set_option maxRecDepth 65536 in
set_option maxHeartbeats 40000000 in
theorem own_turn {p : Program} {l : Launch} {e : Env} {R : Room} {s : State} {m : MethodId} {args : Array Value} {below : List Frame} {meth : Method} {c : Code} {T0 : State} {locs : List Loc} {cells slots : Nat} {Z : State} {a0 : Array Value} {h0 : Heap} (q0 q3 : Int64) (i2 : Int32)
    (X0 : Stand p l e R s m args below meth c T0 locs cells slots) (hx : p.tables.exec = Jvm.exec) (hZ : Z.Warmed39 s.vm) (hw : ∀ d ∈ tables_1, d.before a0 Z = true) (hby : c.code = prog_105_method_12_code) (hml : c.maxLocals = 5) (hown : s.vm.findClass "com/example/alluvium/alluvium/change/ProtoWriter" = some m.cls) (e0 : T0.heap = h0) (hc10 : ¬ q3 = 0) :
      ∀ t, Steps p.tables e below (T0.setTop (mkF m 7 #[.val (.long q0), .second, .val (.int (i2 + (1 : Int32))), .val (.long ((q3.toUInt64 >>> ((7 : Int32) &&& 0x3f).toInt64.toUInt64).toInt64)), .second] [])) t → Steps p.tables e below (T0.setTop (mkF m 7 #[.val (.long q0), .second, .val (.int i2), .val (.long q3), .second] [])) t := by
  have pre0 : ∀ t, Steps p.tables e below (T0.setTop (mkF m 7 #[.val (.long q0), .second, .val (.int i2), .val (.long q3), .second] [])) t → Steps p.tables e below (T0.setTop (mkF m 7 #[.val (.long q0), .second, .val (.int i2), .val (.long q3), .second] [])) t := fun t k => k
  obtain ⟨v13, hv13⟩ : ∃ z : Int32, z = (i2 + (1 : Int32)) := ⟨_, rfl⟩
  have pre1 : ∀ t, Steps p.tables e below (T0.setTop (mkF m 16 #[.val (.long q0), .second, .val (.int v13), .val (.long q3), .second] [])) t → Steps p.tables e below (T0.setTop (mkF m 7 #[.val (.long q0), .second, .val (.int i2), .val (.long q3), .second] [])) t := by
    intro t k
    subst hv13
    refine pre0 t ?_
    show Steps p.tables e below (T0.setTop (mkF m 7 #[.val (.long q0), .second, .val (.int i2), .val (.long q3), .second] [])) _
    refine XS.lloadN X0.here hx rfl (hb hby d1_7) rfl ?_
    show Steps p.tables e below (T0.setTop (mkF m 8 #[.val (.long q0), .second, .val (.int i2), .val (.long q3), .second] [(.long q3)])) _
    refine XS.lconst X0.here hx rfl (hb hby d1_8) ?_
    show Steps p.tables e below (T0.setTop (mkF m 9 #[.val (.long q0), .second, .val (.int i2), .val (.long q3), .second] [(.long (0 : Int64)), (.long q3)])) _
    refine XS.lcmp X0.here hx rfl (hb hby d1_9) rfl ?_
    show Steps p.tables e below (T0.setTop (mkF m 10 #[.val (.long q0), .second, .val (.int i2), .val (.long q3), .second] [(.int (lcmpW q3 (0 : Int64)))])) _
    refine XS.ifNo X0.here hx rfl (hb hby d1_10) rfl (own_Feq hc10).1 ?_
    show Steps p.tables e below (T0.setTop (mkF m 13 #[.val (.long q0), .second, .val (.int i2), .val (.long q3), .second] [])) _
    refine XS.iinc X0.here hx rfl (hb hby d1_13) rfl (l' := #[.val (.long q0), .second, .val (.int (i2 + (1 : Int32))), .val (.long q3), .second]) rfl ?_
    show Steps p.tables e below (T0.setTop (mkF m 16 #[.val (.long q0), .second, .val (.int (i2 + (1 : Int32))), .val (.long q3), .second] [])) _
    exact k
  obtain ⟨v20, hv20⟩ : ∃ z : Int64, z = ((q3.toUInt64 >>> ((7 : Int32) &&& 0x3f).toInt64.toUInt64).toInt64) := ⟨_, rfl⟩
  have pre2 : ∀ t, Steps p.tables e below (T0.setTop (mkF m 21 #[.val (.long q0), .second, .val (.int v13), .val (.long v20), .second] [])) t → Steps p.tables e below (T0.setTop (mkF m 7 #[.val (.long q0), .second, .val (.int i2), .val (.long q3), .second] [])) t := by
    intro t k
    subst hv20
    refine pre1 t ?_
    refine XS.lloadN X0.here hx rfl (hb hby d1_16) rfl ?_
    show Steps p.tables e below (T0.setTop (mkF m 17 #[.val (.long q0), .second, .val (.int v13), .val (.long q3), .second] [(.long q3)])) _
    refine XS.bipush X0.here hx rfl (hb hby d1_17) ?_
    show Steps p.tables e below (T0.setTop (mkF m 19 #[.val (.long q0), .second, .val (.int v13), .val (.long q3), .second] [(.int (7 : Int32)), (.long q3)])) _
    refine XS.lushr X0.here hx rfl (hb hby d1_19) rfl ?_
    show Steps p.tables e below (T0.setTop (mkF m 20 #[.val (.long q0), .second, .val (.int v13), .val (.long q3), .second] [(.long ((q3.toUInt64 >>> ((7 : Int32) &&& 0x3f).toInt64.toUInt64).toInt64))])) _
    refine XS.lstoreN X0.here hx rfl (hb hby d1_20) rfl (l' := #[.val (.long q0), .second, .val (.int v13), .val (.long ((q3.toUInt64 >>> ((7 : Int32) &&& 0x3f).toInt64.toUInt64).toInt64)), .second]) rfl ?_
    show Steps p.tables e below (T0.setTop (mkF m 21 #[.val (.long q0), .second, .val (.int v13), .val (.long ((q3.toUInt64 >>> ((7 : Int32) &&& 0x3f).toInt64.toUInt64).toInt64)), .second] [])) _
    exact k
  have pre3 : ∀ t, Steps p.tables e below (T0.setTop (mkF m 7 #[.val (.long q0), .second, .val (.int v13), .val (.long v20), .second] [])) t → Steps p.tables e below (T0.setTop (mkF m 7 #[.val (.long q0), .second, .val (.int i2), .val (.long q3), .second] [])) t := by
    intro t k
    refine pre2 t ?_
    refine XS.goto X0.here hx rfl (pc0 := 21) (pc' := 7) rfl (hb hby d1_21) (by decide) (by decide) ?_
    show Steps p.tables e below (T0.setTop (mkF m 7 #[.val (.long q0), .second, .val (.int v13), .val (.long v20), .second] [])) _
    exact k
  subst hv20 hv13
  exact pre3
set_option maxRecDepth 65536 in
set_option maxHeartbeats 40000000 in
theorem own_leave {p : Program} {l : Launch} {e : Env} {R : Room} {s : State} {m : MethodId} {args : Array Value} {below : List Frame} {meth : Method} {c : Code} {T0 : State} {locs : List Loc} {cells slots : Nat} {Z : State} {a0 : Array Value} {h0 : Heap} (q0 q3 : Int64) (i2 : Int32)
    (X0 : Stand p l e R s m args below meth c T0 locs cells slots) (hx : p.tables.exec = Jvm.exec) (hZ : Z.Warmed39 s.vm) (hw : ∀ d ∈ tables_1, d.before a0 Z = true) (hby : c.code = prog_105_method_12_code) (hml : c.maxLocals = 5) (hown : s.vm.findClass "com/example/alluvium/alluvium/change/ProtoWriter" = some m.cls) (e0 : T0.heap = h0) (hc10 : q3 = 0) :
      ∀ t, Steps p.tables e below (T0.setTop (mkF m 24 #[.val (.long q0), .second, .val (.int i2), .val (.long q3), .second] [])) t → Steps p.tables e below (T0.setTop (mkF m 7 #[.val (.long q0), .second, .val (.int i2), .val (.long q3), .second] [])) t := by
  have pre0 : ∀ t, Steps p.tables e below (T0.setTop (mkF m 7 #[.val (.long q0), .second, .val (.int i2), .val (.long q3), .second] [])) t → Steps p.tables e below (T0.setTop (mkF m 7 #[.val (.long q0), .second, .val (.int i2), .val (.long q3), .second] [])) t := fun t k => k
  have pre1 : ∀ t, Steps p.tables e below (T0.setTop (mkF m 24 #[.val (.long q0), .second, .val (.int i2), .val (.long q3), .second] [])) t → Steps p.tables e below (T0.setTop (mkF m 7 #[.val (.long q0), .second, .val (.int i2), .val (.long q3), .second] [])) t := by
    intro t k
    refine pre0 t ?_
    show Steps p.tables e below (T0.setTop (mkF m 7 #[.val (.long q0), .second, .val (.int i2), .val (.long q3), .second] [])) _
    refine XS.lloadN X0.here hx rfl (hb hby d1_7) rfl ?_
    show Steps p.tables e below (T0.setTop (mkF m 8 #[.val (.long q0), .second, .val (.int i2), .val (.long q3), .second] [(.long q3)])) _
    refine XS.lconst X0.here hx rfl (hb hby d1_8) ?_
    show Steps p.tables e below (T0.setTop (mkF m 9 #[.val (.long q0), .second, .val (.int i2), .val (.long q3), .second] [(.long (0 : Int64)), (.long q3)])) _
    refine XS.lcmp X0.here hx rfl (hb hby d1_9) rfl ?_
    show Steps p.tables e below (T0.setTop (mkF m 10 #[.val (.long q0), .second, .val (.int i2), .val (.long q3), .second] [(.int (lcmpW q3 (0 : Int64)))])) _
    refine XS.ifYes X0.here hx rfl (pc0 := 10) (pc' := 24) rfl (hb hby d1_10) rfl (own_Teq hc10).1 (by decide) (by decide) ?_
    show Steps p.tables e below (T0.setTop (mkF m 24 #[.val (.long q0), .second, .val (.int i2), .val (.long q3), .second] [])) _
    exact k
  exact pre1
set_option maxRecDepth 65536 in
theorem own_loop {p : Program} {l : Launch} {e : Env} {R : Room} {s : State} {m : MethodId} {args : Array Value} {below : List Frame} {meth : Method} {c : Code} {T0 : State} {locs : List Loc} {cells slots : Nat} {Z : State} {a0 : Array Value} {h0 : Heap} (q0 : Int64)
    (X0 : Stand p l e R s m args below meth c T0 locs cells slots) (hx : p.tables.exec = Jvm.exec) (hZ : Z.Warmed39 s.vm) (hw : ∀ d ∈ tables_1, d.before a0 Z = true) (hby : c.code = prog_105_method_12_code) (hml : c.maxLocals = 5) (hown : s.vm.findClass "com/example/alluvium/alluvium/change/ProtoWriter" = some m.cls) (e0 : T0.heap = h0) :
    ∀ (f : Nat) (i2 : Int32) (q3 : Int64), q3.toUInt64.toNat < 2 ^ (7 * f) → ∀ t, Steps p.tables e below (T0.setTop (mkF m 24 #[.val (.long q0), .second, .val (.int (own_vs f i2 q3)), .val (.long (0 : Int64)), .second] [])) t → Steps p.tables e below (T0.setTop (mkF m 7 #[.val (.long q0), .second, .val (.int i2), .val (.long q3), .second] [])) t := by
  intro f
  induction f with
  | zero =>
    intro i2 q3 h t k
    have hz : q3 = 0 := own_zero (by omega)
    subst hz
    exact own_leave q0 0 i2 X0 hx hZ hw hby hml hown e0 rfl t k
  | succ f ih =>
    intro i2 q3 h t k
    by_cases hz : q3 = 0
    · have e : own_vs (f + 1) i2 q3 = i2 := if_pos hz
      rw [e] at k
      subst hz
      exact own_leave q0 0 i2 X0 hx hZ hw hby hml hown e0 rfl t k
    · have e : own_vs (f + 1) i2 q3 = own_vs f (i2 + 1) ((q3.toUInt64 >>> ((7 : Int32) &&& 0x3f).toInt64.toUInt64).toInt64) := if_neg hz
      rw [e] at k
      refine own_turn q0 q3 i2 X0 hx hZ hw hby hml hown e0 hz t (ih _ _ ?_ t k)
      rw [own_sh]
      have : 2 ^ (7 * (f + 1)) = 2 ^ (7 * f) * 128 := by rw [Nat.mul_succ, Nat.pow_add]
      omega
/-! body 1: varintSize -/
theorem d1_0 : decode prog_105_method_12_code 0 = .ok (.iconst 1, 1) := by decide +kernel
theorem d1_1 : decode prog_105_method_12_code 1 = .ok (.istore_n 2, 1) := by decide +kernel
theorem d1_2 : decode prog_105_method_12_code 2 = .ok (.lload_n 0, 1) := by decide +kernel
theorem d1_3 : decode prog_105_method_12_code 3 = .ok (.bipush 7, 2) := by decide +kernel
theorem d1_5 : decode prog_105_method_12_code 5 = .ok (.lushr, 1) := by decide +kernel
theorem d1_6 : decode prog_105_method_12_code 6 = .ok (.lstore_n 3, 1) := by decide +kernel
theorem d1_24 : decode prog_105_method_12_code 24 = .ok (.iload_n 2, 1) := by decide +kernel
theorem d1_25 : decode prog_105_method_12_code 25 = .ok (.ireturn, 1) := by decide +kernel
theorem pn1 : plainName "com/example/alluvium/alluvium/change/ProtoWriter" = true := by first | (simp [plainName, overriddenIn]; done) | decide +kernel
theorem ef1 (m : MethodId) (q1 : Int64) : entryFrame m #[(.long q1)] 5 = mkF m 0 #[.val (.long q1), .second, .unset, .unset, .unset] [] := by first | (simp [entryFrame, mkF, argsToLocals, Value.category]; done) | rfl
def fn1 (q1 : Int64) : Int32 :=
  let v6 : Int64 := ((q1.toUInt64 >>> ((7 : Int32) &&& 0x3f).toInt64.toUInt64).toInt64)
  (own_vs 9 (1 : Int32) v6)
def Q1 (Z : State) (q1 : Int64) (h0 : Heap) (n0 : Nat) (v : Option Value) (h : Heap) (L : List Loc) : Prop := v = some (.int (fn1 q1)) ∧ Fr n0 L ∧ h = h0
set_option maxRecDepth 65536 in
set_option maxHeartbeats 40000000 in
theorem rm1 (l : Launch) (Z : State) (a0 : Array Value) (hw : ∀ d ∈ tables_1, d.before a0 Z = true) (ws : List Jvm.Cond) (q1 : Int64) (h0 : Heap) (n0 : Nat) (Z0 : n0 ≤ h0.size) :
    MetFree l (⟨"com/example/alluvium/alluvium/change/ProtoWriter", "varintSize", "(J)I"⟩ : MethodName) (head1 (Jvm.Cond.code (⟨"com/example/alluvium/alluvium/change/ProtoWriter", "varintSize", "(J)I"⟩ : MethodName) prog_105_method_12_code 5 (some .int) :: ws) ({ frames := 0, cells := 0, slots := 0, locals := 0 } : Room)) (fun a U => a = #[(.long q1)] ∧ Z.Warmed39 U.vm ∧ U.heap = h0) (fun _ _ _ _ _ => True) (fun _ U o U' => ∃ v L, o = .returned v ∧ Q1 Z q1 h0 n0 v U'.heap L ∧ FrameEnd U o U' L ({ frames := 0, cells := 0, slots := 0, locals := 0 } : Room).cells ({ frames := 0, cells := 0, slots := 0, locals := 0 } : Room).slots) := by
  refine MetFree.of_bodySF (plainFor_of_name pn1) hisR ?_
  intro p e s m args below meth c s₁ Bd hml0 hP hK
  obtain ⟨rfl, hZ, hh⟩ := hP
  have hx := Bd.exec
  have hby := Bd.bytes
  have hml : c.maxLocals = 5 := hml0
  have hown : s.vm.findClass "com/example/alluvium/alluvium/change/ProtoWriter" = some m.cls := findClass_of_methodNamed Bd.named
  have hnm := (name_of_methodNamed Bd.named Bd.method).1
  have X0 : Stand p l e ({ frames := 0, cells := 0, slots := 0, locals := 0 } : Room) s m #[(.long q1)] below meth c s₁ [] 0 0 := Stand.of_body Bd
  have e0 : s₁.heap = h0 := by rw [← hh, Bd.state]; rfl
  have N0 := Fr.nil n0
  have pre0 : ∀ t, Steps p.tables e below (s₁.setTop (mkF m 0 #[.val (.long q1), .second, .unset, .unset, .unset] [])) t → Steps p.tables e below (s₁.setTop (entryFrame m #[(.long q1)] 5)) t := fun t k => castTop (ef1 m q1) k
  obtain ⟨v6, hv6⟩ : ∃ z : Int64, z = ((q1.toUInt64 >>> ((7 : Int32) &&& 0x3f).toInt64.toUInt64).toInt64) := ⟨_, rfl⟩
  have pre1 : ∀ t, Steps p.tables e below (s₁.setTop (mkF m 7 #[.val (.long q1), .second, .val (.int (1 : Int32)), .val (.long v6), .second] [])) t → Steps p.tables e below (s₁.setTop (entryFrame m #[(.long q1)] 5)) t := by
    intro t k
    subst hv6
    refine pre0 t ?_
    show Steps p.tables e below (s₁.setTop (mkF m 0 #[.val (.long q1), .second, .unset, .unset, .unset] [])) _
    refine XS.iconst X0.here hx rfl (hb hby d1_0) ?_
    show Steps p.tables e below (s₁.setTop (mkF m 1 #[.val (.long q1), .second, .unset, .unset, .unset] [(.int (1 : Int32))])) _
    refine XS.istoreN X0.here hx rfl (hb hby d1_1) rfl (l' := #[.val (.long q1), .second, .val (.int (1 : Int32)), .unset, .unset]) rfl ?_
    show Steps p.tables e below (s₁.setTop (mkF m 2 #[.val (.long q1), .second, .val (.int (1 : Int32)), .unset, .unset] [])) _
    refine XS.lloadN X0.here hx rfl (hb hby d1_2) rfl ?_
    show Steps p.tables e below (s₁.setTop (mkF m 3 #[.val (.long q1), .second, .val (.int (1 : Int32)), .unset, .unset] [(.long q1)])) _
    refine XS.bipush X0.here hx rfl (hb hby d1_3) ?_
    show Steps p.tables e below (s₁.setTop (mkF m 5 #[.val (.long q1), .second, .val (.int (1 : Int32)), .unset, .unset] [(.int (7 : Int32)), (.long q1)])) _
    refine XS.lushr X0.here hx rfl (hb hby d1_5) rfl ?_
    show Steps p.tables e below (s₁.setTop (mkF m 6 #[.val (.long q1), .second, .val (.int (1 : Int32)), .unset, .unset] [(.long ((q1.toUInt64 >>> ((7 : Int32) &&& 0x3f).toInt64.toUInt64).toInt64))])) _
    refine XS.lstoreN X0.here hx rfl (hb hby d1_6) rfl (l' := #[.val (.long q1), .second, .val (.int (1 : Int32)), .val (.long ((q1.toUInt64 >>> ((7 : Int32) &&& 0x3f).toInt64.toUInt64).toInt64)), .second]) rfl ?_
    show Steps p.tables e below (s₁.setTop (mkF m 7 #[.val (.long q1), .second, .val (.int (1 : Int32)), .val (.long ((q1.toUInt64 >>> ((7 : Int32) &&& 0x3f).toInt64.toUInt64).toInt64)), .second] [])) _
    exact k
  have hr2 : v6.toUInt64.toNat < 2 ^ (7 * 9) := by rw [hv6, own_sh]; have := UInt64.toNat_lt q1.toUInt64; omega
  have pre2 : ∀ t, Steps p.tables e below (s₁.setTop (mkF m 24 #[.val (.long q1), .second, .val (.int (own_vs 9 (1 : Int32) v6)), .val (.long (0 : Int64)), .second] [])) t → Steps p.tables e below (s₁.setTop (entryFrame m #[(.long q1)] 5)) t := fun t k => pre1 t (own_loop q1 X0 hx hZ hw hby hml hown e0 9 (1 : Int32) v6 hr2 t k)
  have pre3 : ∀ t, Steps p.tables e below (s₁.setTop (mkF m 25 #[.val (.long q1), .second, .val (.int (own_vs 9 (1 : Int32) v6)), .val (.long (0 : Int64)), .second] [(.int (own_vs 9 (1 : Int32) v6))])) t → Steps p.tables e below (s₁.setTop (entryFrame m #[(.long q1)] 5)) t := by
    intro t k
    refine pre2 t ?_
    refine XS.iloadN X0.here hx rfl (hb hby d1_24) rfl ?_
    show Steps p.tables e below (s₁.setTop (mkF m 25 #[.val (.long q1), .second, .val (.int (own_vs 9 (1 : Int32) v6)), .val (.long (0 : Int64)), .second] [(.int (own_vs 9 (1 : Int32) v6))])) _
    exact k
  obtain ⟨fs, hr, hrun, hended, hW, hsame⟩ := X0.leave (v := some (.int (own_vs 9 (1 : Int32) v6))) (fun h => by rw [Bd.returns] at h; cases h)
  refine ⟨_, _, pre3 _ ?_, hrun, hended, _, _, rfl, ?_, ⟨_, rfl⟩, hW, hsame.mono (by decide) (by decide)⟩
  · show Steps p.tables e below (s₁.setTop (mkF m 25 #[.val (.long q1), .second, .val (.int (own_vs 9 (1 : Int32) v6)), .val (.long (0 : Int64)), .second] [(.int (own_vs 9 (1 : Int32) v6))])) _
    exact own_retI X0 hx Bd.returns (hb hby d1_25) hr
  · show Q1 Z q1 h0 n0 _ s₁.heap _
    rw [e0]
    refine ⟨?_, N0, rfl⟩
    subst hv6
    simp only [fn1]
/-! body 2: expected -/
theorem d2_0 : decode method_3_code 0 = .ok (.lload_n 0, 1) := by decide +kernel
theorem d2_1 : decode method_3_code 1 = .ok (.lconst 0, 1) := by decide +kernel
theorem d2_2 : decode method_3_code 2 = .ok (.lcmp, 1) := by decide +kernel
theorem d2_3 : decode method_3_code 3 = .ok (.ifCond .ge 6, 3) := by decide +kernel
theorem d2_6 : decode method_3_code 6 = .ok (.bipush 10, 2) := by decide +kernel
theorem d2_8 : decode method_3_code 8 = .ok (.ireturn, 1) := by decide +kernel
theorem d2_9 : decode method_3_code 9 = .ok (.lload_n 0, 1) := by decide +kernel
theorem d2_10 : decode method_3_code 10 = .ok (.ldc2_w 18, 3) := by decide +kernel
theorem d2_13 : decode method_3_code 13 = .ok (.lcmp, 1) := by decide +kernel
theorem d2_14 : decode method_3_code 14 = .ok (.ifCond .ge 5, 3) := by decide +kernel
theorem d2_17 : decode method_3_code 17 = .ok (.iconst 1, 1) := by decide +kernel
theorem d2_18 : decode method_3_code 18 = .ok (.ireturn, 1) := by decide +kernel
theorem d2_19 : decode method_3_code 19 = .ok (.lload_n 0, 1) := by decide +kernel
theorem d2_20 : decode method_3_code 20 = .ok (.ldc2_w 20, 3) := by decide +kernel
theorem d2_23 : decode method_3_code 23 = .ok (.lcmp, 1) := by decide +kernel
theorem d2_24 : decode method_3_code 24 = .ok (.ifCond .ge 5, 3) := by decide +kernel
theorem d2_27 : decode method_3_code 27 = .ok (.iconst 2, 1) := by decide +kernel
theorem d2_28 : decode method_3_code 28 = .ok (.ireturn, 1) := by decide +kernel
theorem d2_29 : decode method_3_code 29 = .ok (.lload_n 0, 1) := by decide +kernel
theorem d2_30 : decode method_3_code 30 = .ok (.ldc2_w 22, 3) := by decide +kernel
theorem d2_33 : decode method_3_code 33 = .ok (.lcmp, 1) := by decide +kernel
theorem d2_34 : decode method_3_code 34 = .ok (.ifCond .ge 5, 3) := by decide +kernel
theorem d2_37 : decode method_3_code 37 = .ok (.iconst 3, 1) := by decide +kernel
theorem d2_38 : decode method_3_code 38 = .ok (.ireturn, 1) := by decide +kernel
theorem d2_39 : decode method_3_code 39 = .ok (.lload_n 0, 1) := by decide +kernel
theorem d2_40 : decode method_3_code 40 = .ok (.ldc2_w 24, 3) := by decide +kernel
theorem d2_43 : decode method_3_code 43 = .ok (.lcmp, 1) := by decide +kernel
theorem d2_44 : decode method_3_code 44 = .ok (.ifCond .ge 5, 3) := by decide +kernel
theorem d2_47 : decode method_3_code 47 = .ok (.iconst 4, 1) := by decide +kernel
theorem d2_48 : decode method_3_code 48 = .ok (.ireturn, 1) := by decide +kernel
theorem d2_49 : decode method_3_code 49 = .ok (.lload_n 0, 1) := by decide +kernel
theorem d2_50 : decode method_3_code 50 = .ok (.ldc2_w 26, 3) := by decide +kernel
theorem d2_53 : decode method_3_code 53 = .ok (.lcmp, 1) := by decide +kernel
theorem d2_54 : decode method_3_code 54 = .ok (.ifCond .ge 5, 3) := by decide +kernel
theorem d2_57 : decode method_3_code 57 = .ok (.iconst 5, 1) := by decide +kernel
theorem d2_58 : decode method_3_code 58 = .ok (.ireturn, 1) := by decide +kernel
theorem d2_59 : decode method_3_code 59 = .ok (.lload_n 0, 1) := by decide +kernel
theorem d2_60 : decode method_3_code 60 = .ok (.ldc2_w 28, 3) := by decide +kernel
theorem d2_63 : decode method_3_code 63 = .ok (.lcmp, 1) := by decide +kernel
theorem d2_64 : decode method_3_code 64 = .ok (.ifCond .ge 6, 3) := by decide +kernel
theorem d2_67 : decode method_3_code 67 = .ok (.bipush 6, 2) := by decide +kernel
theorem d2_69 : decode method_3_code 69 = .ok (.ireturn, 1) := by decide +kernel
theorem d2_70 : decode method_3_code 70 = .ok (.lload_n 0, 1) := by decide +kernel
theorem d2_71 : decode method_3_code 71 = .ok (.ldc2_w 30, 3) := by decide +kernel
theorem d2_74 : decode method_3_code 74 = .ok (.lcmp, 1) := by decide +kernel
theorem d2_75 : decode method_3_code 75 = .ok (.ifCond .ge 6, 3) := by decide +kernel
theorem d2_78 : decode method_3_code 78 = .ok (.bipush 7, 2) := by decide +kernel
theorem d2_80 : decode method_3_code 80 = .ok (.ireturn, 1) := by decide +kernel
theorem d2_81 : decode method_3_code 81 = .ok (.lload_n 0, 1) := by decide +kernel
theorem d2_82 : decode method_3_code 82 = .ok (.ldc2_w 32, 3) := by decide +kernel
theorem d2_85 : decode method_3_code 85 = .ok (.lcmp, 1) := by decide +kernel
theorem d2_86 : decode method_3_code 86 = .ok (.ifCond .ge 6, 3) := by decide +kernel
theorem d2_89 : decode method_3_code 89 = .ok (.bipush 8, 2) := by decide +kernel
theorem d2_91 : decode method_3_code 91 = .ok (.ireturn, 1) := by decide +kernel
theorem d2_92 : decode method_3_code 92 = .ok (.bipush 9, 2) := by decide +kernel
theorem d2_94 : decode method_3_code 94 = .ok (.ireturn, 1) := by decide +kernel
theorem pn2 : plainName "com/example/alluvium/alluvium/change/ProtoWriterVarintSizePinLaw" = true := by first | (simp [plainName, overriddenIn]; done) | decide +kernel
theorem ef2 (m : MethodId) (q1 : Int64) : entryFrame m #[(.long q1)] 2 = mkF m 0 #[.val (.long q1), .second] [] := by first | (simp [entryFrame, mkF, argsToLocals, Value.category]; done) | rfl
def fn2 (q1 : Int64) : Int32 :=
  if q1 < (0 : Int64) then
    (10 : Int32)
  else
    if q1 < (128 : Int64) then
      (1 : Int32)
    else
      if q1 < (16384 : Int64) then
        (2 : Int32)
      else
        if q1 < (2097152 : Int64) then
          (3 : Int32)
        else
          if q1 < (268435456 : Int64) then
            (4 : Int32)
          else
            if q1 < (34359738368 : Int64) then
              (5 : Int32)
            else
              if q1 < (4398046511104 : Int64) then
                (6 : Int32)
              else
                if q1 < (562949953421312 : Int64) then
                  (7 : Int32)
                else
                  if q1 < (72057594037927936 : Int64) then
                    (8 : Int32)
                  else
                    (9 : Int32)
def Q2 (Z : State) (q1 : Int64) (h0 : Heap) (n0 : Nat) (v : Option Value) (h : Heap) (L : List Loc) : Prop := v = some (.int (fn2 q1)) ∧ Fr n0 L ∧ h = h0
set_option maxRecDepth 65536 in
set_option maxHeartbeats 40000000 in
theorem rm2 (l : Launch) (Z : State) (a0 : Array Value) (hw : ∀ d ∈ tables_1, d.before a0 Z = true) (ws : List Jvm.Cond) (q1 : Int64) (h0 : Heap) (n0 : Nat) (Z0 : n0 ≤ h0.size) :
    MetFree l (⟨"com/example/alluvium/alluvium/change/ProtoWriterVarintSizePinLaw", "expected", "(J)I"⟩ : MethodName) (head1 (Jvm.Cond.code (⟨"com/example/alluvium/alluvium/change/ProtoWriterVarintSizePinLaw", "expected", "(J)I"⟩ : MethodName) method_3_code 2 (some .int) :: ws) ({ frames := 0, cells := 0, slots := 0, locals := 0 } : Room)) (fun a U => a = #[(.long q1)] ∧ Z.Warmed39 U.vm ∧ U.heap = h0) (fun _ _ _ _ _ => True) (fun _ U o U' => ∃ v L, o = .returned v ∧ Q2 Z q1 h0 n0 v U'.heap L ∧ FrameEnd U o U' L ({ frames := 0, cells := 0, slots := 0, locals := 0 } : Room).cells ({ frames := 0, cells := 0, slots := 0, locals := 0 } : Room).slots) := by
  refine MetFree.of_bodySF (plainFor_of_name pn2) hisR ?_
  intro p e s m args below meth c s₁ Bd hml0 hP hK
  obtain ⟨rfl, hZ, hh⟩ := hP
  have hx := Bd.exec
  have hby := Bd.bytes
  have hml : c.maxLocals = 2 := hml0
  have hown : s.vm.findClass "com/example/alluvium/alluvium/change/ProtoWriterVarintSizePinLaw" = some m.cls := findClass_of_methodNamed Bd.named
  have hnm := (name_of_methodNamed Bd.named Bd.method).1
  have X0 : Stand p l e ({ frames := 0, cells := 0, slots := 0, locals := 0 } : Room) s m #[(.long q1)] below meth c s₁ [] 0 0 := Stand.of_body Bd
  have e0 : s₁.heap = h0 := by rw [← hh, Bd.state]; rfl
  have N0 := Fr.nil n0
  have pre0 : ∀ t, Steps p.tables e below (s₁.setTop (mkF m 0 #[.val (.long q1), .second] [])) t → Steps p.tables e below (s₁.setTop (entryFrame m #[(.long q1)] 2)) t := fun t k => castTop (ef2 m q1) k
  have pre1 : ∀ t, Steps p.tables e below (s₁.setTop (mkF m 3 #[.val (.long q1), .second] [(.int (lcmpW q1 (0 : Int64)))])) t → Steps p.tables e below (s₁.setTop (entryFrame m #[(.long q1)] 2)) t := by
    intro t k
    refine pre0 t ?_
    show Steps p.tables e below (s₁.setTop (mkF m 0 #[.val (.long q1), .second] [])) _
    refine XS.lloadN X0.here hx rfl (hb hby d2_0) rfl ?_
    show Steps p.tables e below (s₁.setTop (mkF m 1 #[.val (.long q1), .second] [(.long q1)])) _
    refine XS.lconst X0.here hx rfl (hb hby d2_1) ?_
    show Steps p.tables e below (s₁.setTop (mkF m 2 #[.val (.long q1), .second] [(.long (0 : Int64)), (.long q1)])) _
    refine XS.lcmp X0.here hx rfl (hb hby d2_2) rfl ?_
    show Steps p.tables e below (s₁.setTop (mkF m 3 #[.val (.long q1), .second] [(.int (lcmpW q1 (0 : Int64)))])) _
    exact k
  by_cases hc3 : q1 < (0 : Int64)
  · have pre2 : ∀ t, Steps p.tables e below (s₁.setTop (mkF m 8 #[.val (.long q1), .second] [(.int (10 : Int32))])) t → Steps p.tables e below (s₁.setTop (entryFrame m #[(.long q1)] 2)) t := by
      intro t k
      refine pre1 t ?_
      refine XS.ifNo X0.here hx rfl (hb hby d2_3) rfl (own_Tlt hc3).2 ?_
      show Steps p.tables e below (s₁.setTop (mkF m 6 #[.val (.long q1), .second] [])) _
      refine XS.bipush X0.here hx rfl (hb hby d2_6) ?_
      show Steps p.tables e below (s₁.setTop (mkF m 8 #[.val (.long q1), .second] [(.int (10 : Int32))])) _
      exact k
    obtain ⟨fs, hr, hrun, hended, hW, hsame⟩ := X0.leave (v := some (.int (10 : Int32))) (fun h => by rw [Bd.returns] at h; cases h)
    refine ⟨_, _, pre2 _ ?_, hrun, hended, _, _, rfl, ?_, ⟨_, rfl⟩, hW, hsame.mono (by decide) (by decide)⟩
    · show Steps p.tables e below (s₁.setTop (mkF m 8 #[.val (.long q1), .second] [(.int (10 : Int32))])) _
      exact own_retI X0 hx Bd.returns (hb hby d2_8) hr
    · show Q2 Z q1 h0 n0 _ s₁.heap _
      rw [e0]
      refine ⟨?_, N0, rfl⟩
      simp only [fn2, if_pos hc3]
  · have pre3 : ∀ t, Steps p.tables e below (s₁.setTop (mkF m 14 #[.val (.long q1), .second] [(.int (lcmpW q1 (128 : Int64)))])) t → Steps p.tables e below (s₁.setTop (entryFrame m #[(.long q1)] 2)) t := by
      intro t k
      refine pre1 t ?_
      refine XS.ifYes X0.here hx rfl (pc0 := 3) (pc' := 9) rfl (hb hby d2_3) rfl (own_Flt hc3).2 (by decide) (by decide) ?_
      show Steps p.tables e below (s₁.setTop (mkF m 9 #[.val (.long q1), .second] [])) _
      refine XS.lloadN X0.here hx rfl (hb hby d2_9) rfl ?_
      show Steps p.tables e below (s₁.setTop (mkF m 10 #[.val (.long q1), .second] [(.long q1)])) _
      refine X0.ldc2Long hx hown (mvT hZ (hw _ (List.mem_of_getElem? (i := 8) rfl))) (g := (mkF m 10 #[.val (.long q1), .second] [(.long q1)])) rfl (hb hby d2_10) _ ?_
      show Steps p.tables e below (s₁.setTop (mkF m 13 #[.val (.long q1), .second] [(.long (128 : Int64)), (.long q1)])) _
      refine XS.lcmp X0.here hx rfl (hb hby d2_13) rfl ?_
      show Steps p.tables e below (s₁.setTop (mkF m 14 #[.val (.long q1), .second] [(.int (lcmpW q1 (128 : Int64)))])) _
      exact k
    by_cases hc14 : q1 < (128 : Int64)
    · have pre4 : ∀ t, Steps p.tables e below (s₁.setTop (mkF m 18 #[.val (.long q1), .second] [(.int (1 : Int32))])) t → Steps p.tables e below (s₁.setTop (entryFrame m #[(.long q1)] 2)) t := by
        intro t k
        refine pre3 t ?_
        refine XS.ifNo X0.here hx rfl (hb hby d2_14) rfl (own_Tlt hc14).2 ?_
        show Steps p.tables e below (s₁.setTop (mkF m 17 #[.val (.long q1), .second] [])) _
        refine XS.iconst X0.here hx rfl (hb hby d2_17) ?_
        show Steps p.tables e below (s₁.setTop (mkF m 18 #[.val (.long q1), .second] [(.int (1 : Int32))])) _
        exact k
      obtain ⟨fs, hr, hrun, hended, hW, hsame⟩ := X0.leave (v := some (.int (1 : Int32))) (fun h => by rw [Bd.returns] at h; cases h)
      refine ⟨_, _, pre4 _ ?_, hrun, hended, _, _, rfl, ?_, ⟨_, rfl⟩, hW, hsame.mono (by decide) (by decide)⟩
      · show Steps p.tables e below (s₁.setTop (mkF m 18 #[.val (.long q1), .second] [(.int (1 : Int32))])) _
        exact own_retI X0 hx Bd.returns (hb hby d2_18) hr
      · show Q2 Z q1 h0 n0 _ s₁.heap _
        rw [e0]
        refine ⟨?_, N0, rfl⟩
        simp only [fn2, if_neg hc3, if_pos hc14]
    · have pre5 : ∀ t, Steps p.tables e below (s₁.setTop (mkF m 24 #[.val (.long q1), .second] [(.int (lcmpW q1 (16384 : Int64)))])) t → Steps p.tables e below (s₁.setTop (entryFrame m #[(.long q1)] 2)) t := by
        intro t k
        refine pre3 t ?_
        refine XS.ifYes X0.here hx rfl (pc0 := 14) (pc' := 19) rfl (hb hby d2_14) rfl (own_Flt hc14).2 (by decide) (by decide) ?_
        show Steps p.tables e below (s₁.setTop (mkF m 19 #[.val (.long q1), .second] [])) _
        refine XS.lloadN X0.here hx rfl (hb hby d2_19) rfl ?_
        show Steps p.tables e below (s₁.setTop (mkF m 20 #[.val (.long q1), .second] [(.long q1)])) _
        refine X0.ldc2Long hx hown (mvT hZ (hw _ (List.mem_of_getElem? (i := 9) rfl))) (g := (mkF m 20 #[.val (.long q1), .second] [(.long q1)])) rfl (hb hby d2_20) _ ?_
        show Steps p.tables e below (s₁.setTop (mkF m 23 #[.val (.long q1), .second] [(.long (16384 : Int64)), (.long q1)])) _
        refine XS.lcmp X0.here hx rfl (hb hby d2_23) rfl ?_
        show Steps p.tables e below (s₁.setTop (mkF m 24 #[.val (.long q1), .second] [(.int (lcmpW q1 (16384 : Int64)))])) _
        exact k
      by_cases hc24 : q1 < (16384 : Int64)
      · have pre6 : ∀ t, Steps p.tables e below (s₁.setTop (mkF m 28 #[.val (.long q1), .second] [(.int (2 : Int32))])) t → Steps p.tables e below (s₁.setTop (entryFrame m #[(.long q1)] 2)) t := by
          intro t k
          refine pre5 t ?_
          refine XS.ifNo X0.here hx rfl (hb hby d2_24) rfl (own_Tlt hc24).2 ?_
          show Steps p.tables e below (s₁.setTop (mkF m 27 #[.val (.long q1), .second] [])) _
          refine XS.iconst X0.here hx rfl (hb hby d2_27) ?_
          show Steps p.tables e below (s₁.setTop (mkF m 28 #[.val (.long q1), .second] [(.int (2 : Int32))])) _
          exact k
        obtain ⟨fs, hr, hrun, hended, hW, hsame⟩ := X0.leave (v := some (.int (2 : Int32))) (fun h => by rw [Bd.returns] at h; cases h)
        refine ⟨_, _, pre6 _ ?_, hrun, hended, _, _, rfl, ?_, ⟨_, rfl⟩, hW, hsame.mono (by decide) (by decide)⟩
        · show Steps p.tables e below (s₁.setTop (mkF m 28 #[.val (.long q1), .second] [(.int (2 : Int32))])) _
          exact own_retI X0 hx Bd.returns (hb hby d2_28) hr
        · show Q2 Z q1 h0 n0 _ s₁.heap _
          rw [e0]
          refine ⟨?_, N0, rfl⟩
          simp only [fn2, if_neg hc3, if_neg hc14, if_pos hc24]
      · have pre7 : ∀ t, Steps p.tables e below (s₁.setTop (mkF m 34 #[.val (.long q1), .second] [(.int (lcmpW q1 (2097152 : Int64)))])) t → Steps p.tables e below (s₁.setTop (entryFrame m #[(.long q1)] 2)) t := by
          intro t k
          refine pre5 t ?_
          refine XS.ifYes X0.here hx rfl (pc0 := 24) (pc' := 29) rfl (hb hby d2_24) rfl (own_Flt hc24).2 (by decide) (by decide) ?_
          show Steps p.tables e below (s₁.setTop (mkF m 29 #[.val (.long q1), .second] [])) _
          refine XS.lloadN X0.here hx rfl (hb hby d2_29) rfl ?_
          show Steps p.tables e below (s₁.setTop (mkF m 30 #[.val (.long q1), .second] [(.long q1)])) _
          refine X0.ldc2Long hx hown (mvT hZ (hw _ (List.mem_of_getElem? (i := 10) rfl))) (g := (mkF m 30 #[.val (.long q1), .second] [(.long q1)])) rfl (hb hby d2_30) _ ?_
          show Steps p.tables e below (s₁.setTop (mkF m 33 #[.val (.long q1), .second] [(.long (2097152 : Int64)), (.long q1)])) _
          refine XS.lcmp X0.here hx rfl (hb hby d2_33) rfl ?_
          show Steps p.tables e below (s₁.setTop (mkF m 34 #[.val (.long q1), .second] [(.int (lcmpW q1 (2097152 : Int64)))])) _
          exact k
        by_cases hc34 : q1 < (2097152 : Int64)
        · have pre8 : ∀ t, Steps p.tables e below (s₁.setTop (mkF m 38 #[.val (.long q1), .second] [(.int (3 : Int32))])) t → Steps p.tables e below (s₁.setTop (entryFrame m #[(.long q1)] 2)) t := by
            intro t k
            refine pre7 t ?_
            refine XS.ifNo X0.here hx rfl (hb hby d2_34) rfl (own_Tlt hc34).2 ?_
            show Steps p.tables e below (s₁.setTop (mkF m 37 #[.val (.long q1), .second] [])) _
            refine XS.iconst X0.here hx rfl (hb hby d2_37) ?_
            show Steps p.tables e below (s₁.setTop (mkF m 38 #[.val (.long q1), .second] [(.int (3 : Int32))])) _
            exact k
          obtain ⟨fs, hr, hrun, hended, hW, hsame⟩ := X0.leave (v := some (.int (3 : Int32))) (fun h => by rw [Bd.returns] at h; cases h)
          refine ⟨_, _, pre8 _ ?_, hrun, hended, _, _, rfl, ?_, ⟨_, rfl⟩, hW, hsame.mono (by decide) (by decide)⟩
          · show Steps p.tables e below (s₁.setTop (mkF m 38 #[.val (.long q1), .second] [(.int (3 : Int32))])) _
            exact own_retI X0 hx Bd.returns (hb hby d2_38) hr
          · show Q2 Z q1 h0 n0 _ s₁.heap _
            rw [e0]
            refine ⟨?_, N0, rfl⟩
            simp only [fn2, if_neg hc3, if_neg hc14, if_neg hc24, if_pos hc34]
        · have pre9 : ∀ t, Steps p.tables e below (s₁.setTop (mkF m 44 #[.val (.long q1), .second] [(.int (lcmpW q1 (268435456 : Int64)))])) t → Steps p.tables e below (s₁.setTop (entryFrame m #[(.long q1)] 2)) t := by
            intro t k
            refine pre7 t ?_
            refine XS.ifYes X0.here hx rfl (pc0 := 34) (pc' := 39) rfl (hb hby d2_34) rfl (own_Flt hc34).2 (by decide) (by decide) ?_
            show Steps p.tables e below (s₁.setTop (mkF m 39 #[.val (.long q1), .second] [])) _
            refine XS.lloadN X0.here hx rfl (hb hby d2_39) rfl ?_
            show Steps p.tables e below (s₁.setTop (mkF m 40 #[.val (.long q1), .second] [(.long q1)])) _
            refine X0.ldc2Long hx hown (mvT hZ (hw _ (List.mem_of_getElem? (i := 11) rfl))) (g := (mkF m 40 #[.val (.long q1), .second] [(.long q1)])) rfl (hb hby d2_40) _ ?_
            show Steps p.tables e below (s₁.setTop (mkF m 43 #[.val (.long q1), .second] [(.long (268435456 : Int64)), (.long q1)])) _
            refine XS.lcmp X0.here hx rfl (hb hby d2_43) rfl ?_
            show Steps p.tables e below (s₁.setTop (mkF m 44 #[.val (.long q1), .second] [(.int (lcmpW q1 (268435456 : Int64)))])) _
            exact k
          by_cases hc44 : q1 < (268435456 : Int64)
          · have pre10 : ∀ t, Steps p.tables e below (s₁.setTop (mkF m 48 #[.val (.long q1), .second] [(.int (4 : Int32))])) t → Steps p.tables e below (s₁.setTop (entryFrame m #[(.long q1)] 2)) t := by
              intro t k
              refine pre9 t ?_
              refine XS.ifNo X0.here hx rfl (hb hby d2_44) rfl (own_Tlt hc44).2 ?_
              show Steps p.tables e below (s₁.setTop (mkF m 47 #[.val (.long q1), .second] [])) _
              refine XS.iconst X0.here hx rfl (hb hby d2_47) ?_
              show Steps p.tables e below (s₁.setTop (mkF m 48 #[.val (.long q1), .second] [(.int (4 : Int32))])) _
              exact k
            obtain ⟨fs, hr, hrun, hended, hW, hsame⟩ := X0.leave (v := some (.int (4 : Int32))) (fun h => by rw [Bd.returns] at h; cases h)
            refine ⟨_, _, pre10 _ ?_, hrun, hended, _, _, rfl, ?_, ⟨_, rfl⟩, hW, hsame.mono (by decide) (by decide)⟩
            · show Steps p.tables e below (s₁.setTop (mkF m 48 #[.val (.long q1), .second] [(.int (4 : Int32))])) _
              exact own_retI X0 hx Bd.returns (hb hby d2_48) hr
            · show Q2 Z q1 h0 n0 _ s₁.heap _
              rw [e0]
              refine ⟨?_, N0, rfl⟩
              simp only [fn2, if_neg hc3, if_neg hc14, if_neg hc24, if_neg hc34, if_pos hc44]
          · have pre11 : ∀ t, Steps p.tables e below (s₁.setTop (mkF m 54 #[.val (.long q1), .second] [(.int (lcmpW q1 (34359738368 : Int64)))])) t → Steps p.tables e below (s₁.setTop (entryFrame m #[(.long q1)] 2)) t := by
              intro t k
              refine pre9 t ?_
              refine XS.ifYes X0.here hx rfl (pc0 := 44) (pc' := 49) rfl (hb hby d2_44) rfl (own_Flt hc44).2 (by decide) (by decide) ?_
              show Steps p.tables e below (s₁.setTop (mkF m 49 #[.val (.long q1), .second] [])) _
              refine XS.lloadN X0.here hx rfl (hb hby d2_49) rfl ?_
              show Steps p.tables e below (s₁.setTop (mkF m 50 #[.val (.long q1), .second] [(.long q1)])) _
              refine X0.ldc2Long hx hown (mvT hZ (hw _ (List.mem_of_getElem? (i := 12) rfl))) (g := (mkF m 50 #[.val (.long q1), .second] [(.long q1)])) rfl (hb hby d2_50) _ ?_
              show Steps p.tables e below (s₁.setTop (mkF m 53 #[.val (.long q1), .second] [(.long (34359738368 : Int64)), (.long q1)])) _
              refine XS.lcmp X0.here hx rfl (hb hby d2_53) rfl ?_
              show Steps p.tables e below (s₁.setTop (mkF m 54 #[.val (.long q1), .second] [(.int (lcmpW q1 (34359738368 : Int64)))])) _
              exact k
            by_cases hc54 : q1 < (34359738368 : Int64)
            · have pre12 : ∀ t, Steps p.tables e below (s₁.setTop (mkF m 58 #[.val (.long q1), .second] [(.int (5 : Int32))])) t → Steps p.tables e below (s₁.setTop (entryFrame m #[(.long q1)] 2)) t := by
                intro t k
                refine pre11 t ?_
                refine XS.ifNo X0.here hx rfl (hb hby d2_54) rfl (own_Tlt hc54).2 ?_
                show Steps p.tables e below (s₁.setTop (mkF m 57 #[.val (.long q1), .second] [])) _
                refine XS.iconst X0.here hx rfl (hb hby d2_57) ?_
                show Steps p.tables e below (s₁.setTop (mkF m 58 #[.val (.long q1), .second] [(.int (5 : Int32))])) _
                exact k
              obtain ⟨fs, hr, hrun, hended, hW, hsame⟩ := X0.leave (v := some (.int (5 : Int32))) (fun h => by rw [Bd.returns] at h; cases h)
              refine ⟨_, _, pre12 _ ?_, hrun, hended, _, _, rfl, ?_, ⟨_, rfl⟩, hW, hsame.mono (by decide) (by decide)⟩
              · show Steps p.tables e below (s₁.setTop (mkF m 58 #[.val (.long q1), .second] [(.int (5 : Int32))])) _
                exact own_retI X0 hx Bd.returns (hb hby d2_58) hr
              · show Q2 Z q1 h0 n0 _ s₁.heap _
                rw [e0]
                refine ⟨?_, N0, rfl⟩
                simp only [fn2, if_neg hc3, if_neg hc14, if_neg hc24, if_neg hc34, if_neg hc44, if_pos hc54]
            · have pre13 : ∀ t, Steps p.tables e below (s₁.setTop (mkF m 64 #[.val (.long q1), .second] [(.int (lcmpW q1 (4398046511104 : Int64)))])) t → Steps p.tables e below (s₁.setTop (entryFrame m #[(.long q1)] 2)) t := by
                intro t k
                refine pre11 t ?_
                refine XS.ifYes X0.here hx rfl (pc0 := 54) (pc' := 59) rfl (hb hby d2_54) rfl (own_Flt hc54).2 (by decide) (by decide) ?_
                show Steps p.tables e below (s₁.setTop (mkF m 59 #[.val (.long q1), .second] [])) _
                refine XS.lloadN X0.here hx rfl (hb hby d2_59) rfl ?_
                show Steps p.tables e below (s₁.setTop (mkF m 60 #[.val (.long q1), .second] [(.long q1)])) _
                refine X0.ldc2Long hx hown (mvT hZ (hw _ (List.mem_of_getElem? (i := 13) rfl))) (g := (mkF m 60 #[.val (.long q1), .second] [(.long q1)])) rfl (hb hby d2_60) _ ?_
                show Steps p.tables e below (s₁.setTop (mkF m 63 #[.val (.long q1), .second] [(.long (4398046511104 : Int64)), (.long q1)])) _
                refine XS.lcmp X0.here hx rfl (hb hby d2_63) rfl ?_
                show Steps p.tables e below (s₁.setTop (mkF m 64 #[.val (.long q1), .second] [(.int (lcmpW q1 (4398046511104 : Int64)))])) _
                exact k
              by_cases hc64 : q1 < (4398046511104 : Int64)
              · have pre14 : ∀ t, Steps p.tables e below (s₁.setTop (mkF m 69 #[.val (.long q1), .second] [(.int (6 : Int32))])) t → Steps p.tables e below (s₁.setTop (entryFrame m #[(.long q1)] 2)) t := by
                  intro t k
                  refine pre13 t ?_
                  refine XS.ifNo X0.here hx rfl (hb hby d2_64) rfl (own_Tlt hc64).2 ?_
                  show Steps p.tables e below (s₁.setTop (mkF m 67 #[.val (.long q1), .second] [])) _
                  refine XS.bipush X0.here hx rfl (hb hby d2_67) ?_
                  show Steps p.tables e below (s₁.setTop (mkF m 69 #[.val (.long q1), .second] [(.int (6 : Int32))])) _
                  exact k
                obtain ⟨fs, hr, hrun, hended, hW, hsame⟩ := X0.leave (v := some (.int (6 : Int32))) (fun h => by rw [Bd.returns] at h; cases h)
                refine ⟨_, _, pre14 _ ?_, hrun, hended, _, _, rfl, ?_, ⟨_, rfl⟩, hW, hsame.mono (by decide) (by decide)⟩
                · show Steps p.tables e below (s₁.setTop (mkF m 69 #[.val (.long q1), .second] [(.int (6 : Int32))])) _
                  exact own_retI X0 hx Bd.returns (hb hby d2_69) hr
                · show Q2 Z q1 h0 n0 _ s₁.heap _
                  rw [e0]
                  refine ⟨?_, N0, rfl⟩
                  simp only [fn2, if_neg hc3, if_neg hc14, if_neg hc24, if_neg hc34, if_neg hc44, if_neg hc54, if_pos hc64]
              · have pre15 : ∀ t, Steps p.tables e below (s₁.setTop (mkF m 75 #[.val (.long q1), .second] [(.int (lcmpW q1 (562949953421312 : Int64)))])) t → Steps p.tables e below (s₁.setTop (entryFrame m #[(.long q1)] 2)) t := by
                  intro t k
                  refine pre13 t ?_
                  refine XS.ifYes X0.here hx rfl (pc0 := 64) (pc' := 70) rfl (hb hby d2_64) rfl (own_Flt hc64).2 (by decide) (by decide) ?_
                  show Steps p.tables e below (s₁.setTop (mkF m 70 #[.val (.long q1), .second] [])) _
                  refine XS.lloadN X0.here hx rfl (hb hby d2_70) rfl ?_
                  show Steps p.tables e below (s₁.setTop (mkF m 71 #[.val (.long q1), .second] [(.long q1)])) _
                  refine X0.ldc2Long hx hown (mvT hZ (hw _ (List.mem_of_getElem? (i := 14) rfl))) (g := (mkF m 71 #[.val (.long q1), .second] [(.long q1)])) rfl (hb hby d2_71) _ ?_
                  show Steps p.tables e below (s₁.setTop (mkF m 74 #[.val (.long q1), .second] [(.long (562949953421312 : Int64)), (.long q1)])) _
                  refine XS.lcmp X0.here hx rfl (hb hby d2_74) rfl ?_
                  show Steps p.tables e below (s₁.setTop (mkF m 75 #[.val (.long q1), .second] [(.int (lcmpW q1 (562949953421312 : Int64)))])) _
                  exact k
                by_cases hc75 : q1 < (562949953421312 : Int64)
                · have pre16 : ∀ t, Steps p.tables e below (s₁.setTop (mkF m 80 #[.val (.long q1), .second] [(.int (7 : Int32))])) t → Steps p.tables e below (s₁.setTop (entryFrame m #[(.long q1)] 2)) t := by
                    intro t k
                    refine pre15 t ?_
                    refine XS.ifNo X0.here hx rfl (hb hby d2_75) rfl (own_Tlt hc75).2 ?_
                    show Steps p.tables e below (s₁.setTop (mkF m 78 #[.val (.long q1), .second] [])) _
                    refine XS.bipush X0.here hx rfl (hb hby d2_78) ?_
                    show Steps p.tables e below (s₁.setTop (mkF m 80 #[.val (.long q1), .second] [(.int (7 : Int32))])) _
                    exact k
                  obtain ⟨fs, hr, hrun, hended, hW, hsame⟩ := X0.leave (v := some (.int (7 : Int32))) (fun h => by rw [Bd.returns] at h; cases h)
                  refine ⟨_, _, pre16 _ ?_, hrun, hended, _, _, rfl, ?_, ⟨_, rfl⟩, hW, hsame.mono (by decide) (by decide)⟩
                  · show Steps p.tables e below (s₁.setTop (mkF m 80 #[.val (.long q1), .second] [(.int (7 : Int32))])) _
                    exact own_retI X0 hx Bd.returns (hb hby d2_80) hr
                  · show Q2 Z q1 h0 n0 _ s₁.heap _
                    rw [e0]
                    refine ⟨?_, N0, rfl⟩
                    simp only [fn2, if_neg hc3, if_neg hc14, if_neg hc24, if_neg hc34, if_neg hc44, if_neg hc54, if_neg hc64, if_pos hc75]
                · have pre17 : ∀ t, Steps p.tables e below (s₁.setTop (mkF m 86 #[.val (.long q1), .second] [(.int (lcmpW q1 (72057594037927936 : Int64)))])) t → Steps p.tables e below (s₁.setTop (entryFrame m #[(.long q1)] 2)) t := by
                    intro t k
                    refine pre15 t ?_
                    refine XS.ifYes X0.here hx rfl (pc0 := 75) (pc' := 81) rfl (hb hby d2_75) rfl (own_Flt hc75).2 (by decide) (by decide) ?_
                    show Steps p.tables e below (s₁.setTop (mkF m 81 #[.val (.long q1), .second] [])) _
                    refine XS.lloadN X0.here hx rfl (hb hby d2_81) rfl ?_
                    show Steps p.tables e below (s₁.setTop (mkF m 82 #[.val (.long q1), .second] [(.long q1)])) _
                    refine X0.ldc2Long hx hown (mvT hZ (hw _ (List.mem_of_getElem? (i := 15) rfl))) (g := (mkF m 82 #[.val (.long q1), .second] [(.long q1)])) rfl (hb hby d2_82) _ ?_
                    show Steps p.tables e below (s₁.setTop (mkF m 85 #[.val (.long q1), .second] [(.long (72057594037927936 : Int64)), (.long q1)])) _
                    refine XS.lcmp X0.here hx rfl (hb hby d2_85) rfl ?_
                    show Steps p.tables e below (s₁.setTop (mkF m 86 #[.val (.long q1), .second] [(.int (lcmpW q1 (72057594037927936 : Int64)))])) _
                    exact k
                  by_cases hc86 : q1 < (72057594037927936 : Int64)
                  · have pre18 : ∀ t, Steps p.tables e below (s₁.setTop (mkF m 91 #[.val (.long q1), .second] [(.int (8 : Int32))])) t → Steps p.tables e below (s₁.setTop (entryFrame m #[(.long q1)] 2)) t := by
                      intro t k
                      refine pre17 t ?_
                      refine XS.ifNo X0.here hx rfl (hb hby d2_86) rfl (own_Tlt hc86).2 ?_
                      show Steps p.tables e below (s₁.setTop (mkF m 89 #[.val (.long q1), .second] [])) _
                      refine XS.bipush X0.here hx rfl (hb hby d2_89) ?_
                      show Steps p.tables e below (s₁.setTop (mkF m 91 #[.val (.long q1), .second] [(.int (8 : Int32))])) _
                      exact k
                    obtain ⟨fs, hr, hrun, hended, hW, hsame⟩ := X0.leave (v := some (.int (8 : Int32))) (fun h => by rw [Bd.returns] at h; cases h)
                    refine ⟨_, _, pre18 _ ?_, hrun, hended, _, _, rfl, ?_, ⟨_, rfl⟩, hW, hsame.mono (by decide) (by decide)⟩
                    · show Steps p.tables e below (s₁.setTop (mkF m 91 #[.val (.long q1), .second] [(.int (8 : Int32))])) _
                      exact own_retI X0 hx Bd.returns (hb hby d2_91) hr
                    · show Q2 Z q1 h0 n0 _ s₁.heap _
                      rw [e0]
                      refine ⟨?_, N0, rfl⟩
                      simp only [fn2, if_neg hc3, if_neg hc14, if_neg hc24, if_neg hc34, if_neg hc44, if_neg hc54, if_neg hc64, if_neg hc75, if_pos hc86]
                  · have pre19 : ∀ t, Steps p.tables e below (s₁.setTop (mkF m 94 #[.val (.long q1), .second] [(.int (9 : Int32))])) t → Steps p.tables e below (s₁.setTop (entryFrame m #[(.long q1)] 2)) t := by
                      intro t k
                      refine pre17 t ?_
                      refine XS.ifYes X0.here hx rfl (pc0 := 86) (pc' := 92) rfl (hb hby d2_86) rfl (own_Flt hc86).2 (by decide) (by decide) ?_
                      show Steps p.tables e below (s₁.setTop (mkF m 92 #[.val (.long q1), .second] [])) _
                      refine XS.bipush X0.here hx rfl (hb hby d2_92) ?_
                      show Steps p.tables e below (s₁.setTop (mkF m 94 #[.val (.long q1), .second] [(.int (9 : Int32))])) _
                      exact k
                    obtain ⟨fs, hr, hrun, hended, hW, hsame⟩ := X0.leave (v := some (.int (9 : Int32))) (fun h => by rw [Bd.returns] at h; cases h)
                    refine ⟨_, _, pre19 _ ?_, hrun, hended, _, _, rfl, ?_, ⟨_, rfl⟩, hW, hsame.mono (by decide) (by decide)⟩
                    · show Steps p.tables e below (s₁.setTop (mkF m 94 #[.val (.long q1), .second] [(.int (9 : Int32))])) _
                      exact own_retI X0 hx Bd.returns (hb hby d2_94) hr
                    · show Q2 Z q1 h0 n0 _ s₁.heap _
                      rw [e0]
                      refine ⟨?_, N0, rfl⟩
                      simp only [fn2, if_neg hc3, if_neg hc14, if_neg hc24, if_neg hc34, if_neg hc44, if_neg hc54, if_neg hc64, if_neg hc75, if_neg hc86]
/-! body 0: law -/
theorem pd0_0 : parseMethodDescriptor "(J)I" = some ⟨[.long], some .int⟩ := by decide +kernel
theorem pn0 : plainName "com/example/alluvium/alluvium/change/ProtoWriterVarintSizePinLaw" = true := by first | (simp [plainName, overriddenIn]; done) | decide +kernel
theorem ef0 (m : MethodId) (q1 : Int64) (p2 : Int32) : entryFrame m #[(.long q1), (.int p2)] maxLocals = mkF m 0 #[.val (.long q1), .second, .val (.int p2), .unset, .unset] [] := by first | (simp [entryFrame, mkF, argsToLocals, Value.category, maxLocals]; done) | rfl
def fn0 (q1 : Int64) (p2 : Int32) : Int32 :=
  let u17s0 : Int64 := (if (p2 &&& (64 : Int32)) = (0 : Int32) then ((q1.toUInt64 >>> ((p2 &&& (63 : Int32)) &&& 0x3f).toInt64.toUInt64).toInt64) else q1)
  let u34s0 : Int32 := (if (fn1 u17s0) = (fn2 u17s0) then (1 : Int32) else (0 : Int32))
  (nar .boolean u34s0)
/-! the plain law -/
def own_vn : Nat → Int32 → Nat → Int32
  | 0, n, _ => n
  | f + 1, n, V => if V = 0 then n else own_vn f (n + 1) (V / 128)
theorem own_vn_s (f : Nat) (n : Int32) (V : Nat) : own_vn (f + 1) n V = if V = 0 then n else own_vn f (n + 1) (V / 128) := rfl
theorem own_vs_vn : ∀ (f : Nat) (n : Int32) (r : Int64), own_vs f n r = own_vn f n r.toUInt64.toNat
  | 0, n, r => rfl
  | f + 1, n, r => by
    by_cases h : r = 0
    · have e : r.toUInt64.toNat = 0 := by rw [h]; rfl
      rw [own_vn_s, if_pos e]; exact if_pos h
    · have e : ¬ r.toUInt64.toNat = 0 := fun q => h (own_zero q)
      rw [own_vn_s, if_neg e, ← own_sh]
      exact (if_neg h).trans (own_vs_vn f (n + 1) _)
theorem own_key (V : Nat) (hV : V < 18446744073709551616) : own_vn 9 1 (V / 128) = (if V < 128 then (1 : Int32) else (if V < 16384 then (2 : Int32) else (if V < 2097152 then (3 : Int32) else (if V < 268435456 then (4 : Int32) else (if V < 34359738368 then (5 : Int32) else (if V < 4398046511104 then (6 : Int32) else (if V < 562949953421312 then (7 : Int32) else (if V < 72057594037927936 then (8 : Int32) else (if V < 9223372036854775808 then (9 : Int32) else (10 : Int32)))))))))) := by
  by_cases c1 : V < 128
  · rw [if_pos c1]
    rw [own_vn_s, if_pos (show (V / 128) = 0 by omega)]
  · skip
    by_cases c2 : V < 16384
    · rw [if_neg c1, if_pos c2]
      rw [own_vn_s, if_neg (show ¬ (V / 128) = 0 by omega), own_vn_s, if_pos (show ((V / 128) / 128) = 0 by omega)]; rfl
    · skip
      by_cases c3 : V < 2097152
      · rw [if_neg c1, if_neg c2, if_pos c3]
        rw [own_vn_s, if_neg (show ¬ (V / 128) = 0 by omega), own_vn_s, if_neg (show ¬ ((V / 128) / 128) = 0 by omega), own_vn_s, if_pos (show (((V / 128) / 128) / 128) = 0 by omega)]; rfl
      · skip
        by_cases c4 : V < 268435456
        · rw [if_neg c1, if_neg c2, if_neg c3, if_pos c4]
          rw [own_vn_s, if_neg (show ¬ (V / 128) = 0 by omega), own_vn_s, if_neg (show ¬ ((V / 128) / 128) = 0 by omega), own_vn_s, if_neg (show ¬ (((V / 128) / 128) / 128) = 0 by omega), own_vn_s, if_pos (show ((((V / 128) / 128) / 128) / 128) = 0 by omega)]; rfl
        · skip
          by_cases c5 : V < 34359738368
          · rw [if_neg c1, if_neg c2, if_neg c3, if_neg c4, if_pos c5]
            rw [own_vn_s, if_neg (show ¬ (V / 128) = 0 by omega), own_vn_s, if_neg (show ¬ ((V / 128) / 128) = 0 by omega), own_vn_s, if_neg (show ¬ (((V / 128) / 128) / 128) = 0 by omega), own_vn_s, if_neg (show ¬ ((((V / 128) / 128) / 128) / 128) = 0 by omega), own_vn_s, if_pos (show (((((V / 128) / 128) / 128) / 128) / 128) = 0 by omega)]; rfl
          · skip
            by_cases c6 : V < 4398046511104
            · rw [if_neg c1, if_neg c2, if_neg c3, if_neg c4, if_neg c5, if_pos c6]
              rw [own_vn_s, if_neg (show ¬ (V / 128) = 0 by omega), own_vn_s, if_neg (show ¬ ((V / 128) / 128) = 0 by omega), own_vn_s, if_neg (show ¬ (((V / 128) / 128) / 128) = 0 by omega), own_vn_s, if_neg (show ¬ ((((V / 128) / 128) / 128) / 128) = 0 by omega), own_vn_s, if_neg (show ¬ (((((V / 128) / 128) / 128) / 128) / 128) = 0 by omega), own_vn_s, if_pos (show ((((((V / 128) / 128) / 128) / 128) / 128) / 128) = 0 by omega)]; rfl
            · skip
              by_cases c7 : V < 562949953421312
              · rw [if_neg c1, if_neg c2, if_neg c3, if_neg c4, if_neg c5, if_neg c6, if_pos c7]
                rw [own_vn_s, if_neg (show ¬ (V / 128) = 0 by omega), own_vn_s, if_neg (show ¬ ((V / 128) / 128) = 0 by omega), own_vn_s, if_neg (show ¬ (((V / 128) / 128) / 128) = 0 by omega), own_vn_s, if_neg (show ¬ ((((V / 128) / 128) / 128) / 128) = 0 by omega), own_vn_s, if_neg (show ¬ (((((V / 128) / 128) / 128) / 128) / 128) = 0 by omega), own_vn_s, if_neg (show ¬ ((((((V / 128) / 128) / 128) / 128) / 128) / 128) = 0 by omega), own_vn_s, if_pos (show (((((((V / 128) / 128) / 128) / 128) / 128) / 128) / 128) = 0 by omega)]; rfl
              · skip
                by_cases c8 : V < 72057594037927936
                · rw [if_neg c1, if_neg c2, if_neg c3, if_neg c4, if_neg c5, if_neg c6, if_neg c7, if_pos c8]
                  rw [own_vn_s, if_neg (show ¬ (V / 128) = 0 by omega), own_vn_s, if_neg (show ¬ ((V / 128) / 128) = 0 by omega), own_vn_s, if_neg (show ¬ (((V / 128) / 128) / 128) = 0 by omega), own_vn_s, if_neg (show ¬ ((((V / 128) / 128) / 128) / 128) = 0 by omega), own_vn_s, if_neg (show ¬ (((((V / 128) / 128) / 128) / 128) / 128) = 0 by omega), own_vn_s, if_neg (show ¬ ((((((V / 128) / 128) / 128) / 128) / 128) / 128) = 0 by omega), own_vn_s, if_neg (show ¬ (((((((V / 128) / 128) / 128) / 128) / 128) / 128) / 128) = 0 by omega), own_vn_s, if_pos (show ((((((((V / 128) / 128) / 128) / 128) / 128) / 128) / 128) / 128) = 0 by omega)]; rfl
                · skip
                  by_cases c9 : V < 9223372036854775808
                  · rw [if_neg c1, if_neg c2, if_neg c3, if_neg c4, if_neg c5, if_neg c6, if_neg c7, if_neg c8, if_pos c9]
                    rw [own_vn_s, if_neg (show ¬ (V / 128) = 0 by omega), own_vn_s, if_neg (show ¬ ((V / 128) / 128) = 0 by omega), own_vn_s, if_neg (show ¬ (((V / 128) / 128) / 128) = 0 by omega), own_vn_s, if_neg (show ¬ ((((V / 128) / 128) / 128) / 128) = 0 by omega), own_vn_s, if_neg (show ¬ (((((V / 128) / 128) / 128) / 128) / 128) = 0 by omega), own_vn_s, if_neg (show ¬ ((((((V / 128) / 128) / 128) / 128) / 128) / 128) = 0 by omega), own_vn_s, if_neg (show ¬ (((((((V / 128) / 128) / 128) / 128) / 128) / 128) / 128) = 0 by omega), own_vn_s, if_neg (show ¬ ((((((((V / 128) / 128) / 128) / 128) / 128) / 128) / 128) / 128) = 0 by omega), own_vn_s, if_pos (show (((((((((V / 128) / 128) / 128) / 128) / 128) / 128) / 128) / 128) / 128) = 0 by omega)]; rfl
                  · skip
                    rw [if_neg c1, if_neg c2, if_neg c3, if_neg c4, if_neg c5, if_neg c6, if_neg c7, if_neg c8, if_neg c9]
                    rw [own_vn_s, if_neg (show ¬ (V / 128) = 0 by omega), own_vn_s, if_neg (show ¬ ((V / 128) / 128) = 0 by omega), own_vn_s, if_neg (show ¬ (((V / 128) / 128) / 128) = 0 by omega), own_vn_s, if_neg (show ¬ ((((V / 128) / 128) / 128) / 128) = 0 by omega), own_vn_s, if_neg (show ¬ (((((V / 128) / 128) / 128) / 128) / 128) = 0 by omega), own_vn_s, if_neg (show ¬ ((((((V / 128) / 128) / 128) / 128) / 128) / 128) = 0 by omega), own_vn_s, if_neg (show ¬ (((((((V / 128) / 128) / 128) / 128) / 128) / 128) / 128) = 0 by omega), own_vn_s, if_neg (show ¬ ((((((((V / 128) / 128) / 128) / 128) / 128) / 128) / 128) / 128) = 0 by omega), own_vn_s, if_neg (show ¬ (((((((((V / 128) / 128) / 128) / 128) / 128) / 128) / 128) / 128) / 128) = 0 by omega)]; rfl
theorem own_neg (v : Int64) : v < 0 ↔ 9223372036854775808 ≤ v.toUInt64.toNat := by
  have e0 : (0 : Int64).toInt = 0 := by decide
  have e : v.toInt = (v.toUInt64.toNat : Int).bmod (2 ^ 64) := BitVec.toInt_eq_toNat_bmod v.toBitVec
  have := UInt64.toNat_lt v.toUInt64
  rw [Int64.lt_iff_toInt_lt, e0, e, Int.bmod_def]
  omega
theorem own_lit (v : Int64) (h : ¬ v < 0) (k : Int64) (K : Nat) (hk : k.toInt = K) : v < k ↔ v.toUInt64.toNat < K := by
  have e : v.toInt = (v.toUInt64.toNat : Int).bmod (2 ^ 64) := BitVec.toInt_eq_toNat_bmod v.toBitVec
  have := UInt64.toNat_lt v.toUInt64
  rw [own_neg] at h
  rw [Int64.lt_iff_toInt_lt, hk, e, Int.bmod_def]
  omega
theorem own_same (v : Int64) : fn1 v = fn2 v := by
  have hb := UInt64.toNat_lt v.toUInt64
  have e : fn1 v = own_vn 9 1 (v.toUInt64.toNat / 128) := by
    have q : fn1 v = own_vs 9 1 ((v.toUInt64 >>> ((7 : Int32) &&& 0x3f).toInt64.toUInt64).toInt64) := rfl
    rw [q, own_vs_vn, own_sh]
  rw [e, own_key _ hb]
  by_cases h : v < 0
  · have hh := (own_neg v).mp h
    simp only [fn2, if_pos h]
    rw [if_neg (show ¬ v.toUInt64.toNat < 128 by omega), if_neg (show ¬ v.toUInt64.toNat < 16384 by omega), if_neg (show ¬ v.toUInt64.toNat < 2097152 by omega), if_neg (show ¬ v.toUInt64.toNat < 268435456 by omega), if_neg (show ¬ v.toUInt64.toNat < 34359738368 by omega), if_neg (show ¬ v.toUInt64.toNat < 4398046511104 by omega), if_neg (show ¬ v.toUInt64.toNat < 562949953421312 by omega), if_neg (show ¬ v.toUInt64.toNat < 72057594037927936 by omega), if_neg (show ¬ v.toUInt64.toNat < 9223372036854775808 by omega)]
  · have hh : v.toUInt64.toNat < 9223372036854775808 := by rw [own_neg] at h; omega
    have q9 : v.toUInt64.toNat < 9223372036854775808 := hh
    have q1 := own_lit v h 128 128 (by decide)
    have q2 := own_lit v h 16384 16384 (by decide)
    have q3 := own_lit v h 2097152 2097152 (by decide)
    have q4 := own_lit v h 268435456 268435456 (by decide)
    have q5 := own_lit v h 34359738368 34359738368 (by decide)
    have q6 := own_lit v h 4398046511104 4398046511104 (by decide)
    have q7 := own_lit v h 562949953421312 562949953421312 (by decide)
    have q8 := own_lit v h 72057594037927936 72057594037927936 (by decide)
    by_cases c1 : v.toUInt64.toNat < 128
    · simp only [fn2, if_neg h, if_pos c1, if_pos (q1.mpr c1)]
    · skip
      by_cases c2 : v.toUInt64.toNat < 16384
      · simp only [fn2, if_neg h, if_neg c1, if_neg (fun z => c1 (q1.mp z)), if_pos c2, if_pos (q2.mpr c2)]
      · skip
        by_cases c3 : v.toUInt64.toNat < 2097152
        · simp only [fn2, if_neg h, if_neg c1, if_neg (fun z => c1 (q1.mp z)), if_neg c2, if_neg (fun z => c2 (q2.mp z)), if_pos c3, if_pos (q3.mpr c3)]
        · skip
          by_cases c4 : v.toUInt64.toNat < 268435456
          · simp only [fn2, if_neg h, if_neg c1, if_neg (fun z => c1 (q1.mp z)), if_neg c2, if_neg (fun z => c2 (q2.mp z)), if_neg c3, if_neg (fun z => c3 (q3.mp z)), if_pos c4, if_pos (q4.mpr c4)]
          · skip
            by_cases c5 : v.toUInt64.toNat < 34359738368
            · simp only [fn2, if_neg h, if_neg c1, if_neg (fun z => c1 (q1.mp z)), if_neg c2, if_neg (fun z => c2 (q2.mp z)), if_neg c3, if_neg (fun z => c3 (q3.mp z)), if_neg c4, if_neg (fun z => c4 (q4.mp z)), if_pos c5, if_pos (q5.mpr c5)]
            · skip
              by_cases c6 : v.toUInt64.toNat < 4398046511104
              · simp only [fn2, if_neg h, if_neg c1, if_neg (fun z => c1 (q1.mp z)), if_neg c2, if_neg (fun z => c2 (q2.mp z)), if_neg c3, if_neg (fun z => c3 (q3.mp z)), if_neg c4, if_neg (fun z => c4 (q4.mp z)), if_neg c5, if_neg (fun z => c5 (q5.mp z)), if_pos c6, if_pos (q6.mpr c6)]
              · skip
                by_cases c7 : v.toUInt64.toNat < 562949953421312
                · simp only [fn2, if_neg h, if_neg c1, if_neg (fun z => c1 (q1.mp z)), if_neg c2, if_neg (fun z => c2 (q2.mp z)), if_neg c3, if_neg (fun z => c3 (q3.mp z)), if_neg c4, if_neg (fun z => c4 (q4.mp z)), if_neg c5, if_neg (fun z => c5 (q5.mp z)), if_neg c6, if_neg (fun z => c6 (q6.mp z)), if_pos c7, if_pos (q7.mpr c7)]
                · skip
                  by_cases c8 : v.toUInt64.toNat < 72057594037927936
                  · simp only [fn2, if_neg h, if_neg c1, if_neg (fun z => c1 (q1.mp z)), if_neg c2, if_neg (fun z => c2 (q2.mp z)), if_neg c3, if_neg (fun z => c3 (q3.mp z)), if_neg c4, if_neg (fun z => c4 (q4.mp z)), if_neg c5, if_neg (fun z => c5 (q5.mp z)), if_neg c6, if_neg (fun z => c6 (q6.mp z)), if_neg c7, if_neg (fun z => c7 (q7.mp z)), if_pos c8, if_pos (q8.mpr c8)]
                  · skip
                    simp only [fn2, if_neg h, if_neg c1, if_neg (fun z => c1 (q1.mp z)), if_neg c2, if_neg (fun z => c2 (q2.mp z)), if_neg c3, if_neg (fun z => c3 (q3.mp z)), if_neg c4, if_neg (fun z => c4 (q4.mp z)), if_neg c5, if_neg (fun z => c5 (q5.mp z)), if_neg c6, if_neg (fun z => c6 (q6.mp z)), if_neg c7, if_neg (fun z => c7 (q7.mp z)), if_neg c8, if_neg (fun z => c8 (q8.mp z)), if_pos q9]
theorem own_law (q1 : Int64) (p2 : Int32) : fn0 q1 p2 = 1 := by
  simp only [fn0, own_same, if_true]
  rfl
def Q0 (Z : State) (q1 : Int64) (p2 : Int32) (h0 : Heap) (n0 : Nat) (v : Option Value) (h : Heap) (L : List Loc) : Prop := v = some (.int (fn0 q1 p2)) ∧ Fr n0 L
set_option maxRecDepth 65536 in
set_option maxHeartbeats 40000000 in
theorem rm0 (l : Launch) (Z : State) (a0 : Array Value) (hw : ∀ d ∈ tables_1, d.before a0 Z = true) (ws : List Jvm.Cond) (q1 : Int64) (p2 : Int32) (h0 : Heap) (n0 : Nat) (Z0 : n0 ≤ h0.size) :
    MetFree l x (head1 (Jvm.Cond.code x code maxLocals ret :: ws) room_1) (fun a U => a = #[(.long q1), (.int p2)] ∧ Z.Warmed39 U.vm ∧ U.heap = h0) (fun _ _ _ _ _ => True) (fun _ U o U' => ∃ v L, o = .returned v ∧ Q0 Z q1 p2 h0 n0 v U'.heap L ∧ FrameEnd U o U' L room_1.cells room_1.slots) := by
  refine MetFree.of_bodySF (plainFor_of_name pn0) hisR ?_
  intro p e s m args below meth c s₁ Bd hml0 hP hK
  obtain ⟨rfl, hZ, hh⟩ := hP
  have hx := Bd.exec
  have hby := Bd.bytes
  have hml : c.maxLocals = 5 := hml0
  have hown : s.vm.findClass "com/example/alluvium/alluvium/change/ProtoWriterVarintSizePinLaw" = some m.cls := findClass_of_methodNamed Bd.named
  have hnm := (name_of_methodNamed Bd.named Bd.method).1
  have X0 : Stand p l e room_1 s m #[(.long q1), (.int p2)] below meth c s₁ [] 0 0 := Stand.of_body Bd
  have e0 : s₁.heap = h0 := by rw [← hh, Bd.state]; rfl
  have N0 := Fr.nil n0
  have pre0 : ∀ t, Steps p.tables e below (s₁.setTop (mkF m 0 #[.val (.long q1), .second, .val (.int p2), .unset, .unset] [])) t → Steps p.tables e below (s₁.setTop (entryFrame m #[(.long q1), (.int p2)] maxLocals)) t := fun t k => castTop (ef0 m q1 p2) k
  obtain ⟨u17s0, hu17s0⟩ : ∃ z : Int64, z = (if (p2 &&& (64 : Int32)) = (0 : Int32) then ((q1.toUInt64 >>> ((p2 &&& (63 : Int32)) &&& 0x3f).toInt64.toUInt64).toInt64) else q1) := ⟨_, rfl⟩
  have pre1 : ∀ t, Steps p.tables e below (s₁.setTop (mkF m 17 #[.val (.long q1), .second, .val (.int p2), .unset, .unset] [(.long u17s0)])) t → Steps p.tables e below (s₁.setTop (entryFrame m #[(.long q1), (.int p2)] maxLocals)) t := by
    intro t k
    subst hu17s0
    refine pre0 t ?_
    show Steps p.tables e below (s₁.setTop (mkF m 0 #[.val (.long q1), .second, .val (.int p2), .unset, .unset] [])) _
    refine XS.iloadN X0.here hx rfl (hb hby at_0) rfl ?_
    show Steps p.tables e below (s₁.setTop (mkF m 1 #[.val (.long q1), .second, .val (.int p2), .unset, .unset] [(.int p2)])) _
    refine XS.bipush X0.here hx rfl (hb hby at_1) ?_
    show Steps p.tables e below (s₁.setTop (mkF m 3 #[.val (.long q1), .second, .val (.int p2), .unset, .unset] [(.int (64 : Int32)), (.int p2)])) _
    refine XS.iand X0.here hx rfl (hb hby at_3) rfl ?_
    show Steps p.tables e below (s₁.setTop (mkF m 4 #[.val (.long q1), .second, .val (.int p2), .unset, .unset] [(.int (p2 &&& (64 : Int32)))])) _
    by_cases hb4 : (p2 &&& (64 : Int32)) = (0 : Int32)
    · simp only [if_pos hb4] at k
      refine XS.ifYes X0.here hx rfl (pc0 := 4) (pc' := 11) rfl (hb hby at_4) rfl ((if0 _ _).trans (teq hb4).1) (by decide) (by decide) ?_
      show Steps p.tables e below (s₁.setTop (mkF m 11 #[.val (.long q1), .second, .val (.int p2), .unset, .unset] [])) _
      refine XS.lloadN X0.here hx rfl (hb hby at_11) rfl ?_
      show Steps p.tables e below (s₁.setTop (mkF m 12 #[.val (.long q1), .second, .val (.int p2), .unset, .unset] [(.long q1)])) _
      refine XS.iloadN X0.here hx rfl (hb hby at_12) rfl ?_
      show Steps p.tables e below (s₁.setTop (mkF m 13 #[.val (.long q1), .second, .val (.int p2), .unset, .unset] [(.int p2), (.long q1)])) _
      refine XS.bipush X0.here hx rfl (hb hby at_13) ?_
      show Steps p.tables e below (s₁.setTop (mkF m 15 #[.val (.long q1), .second, .val (.int p2), .unset, .unset] [(.int (63 : Int32)), (.int p2), (.long q1)])) _
      refine XS.iand X0.here hx rfl (hb hby at_15) rfl ?_
      show Steps p.tables e below (s₁.setTop (mkF m 16 #[.val (.long q1), .second, .val (.int p2), .unset, .unset] [(.int (p2 &&& (63 : Int32))), (.long q1)])) _
      refine XS.lushr X0.here hx rfl (hb hby at_16) rfl ?_
      show Steps p.tables e below (s₁.setTop (mkF m 17 #[.val (.long q1), .second, .val (.int p2), .unset, .unset] [(.long ((q1.toUInt64 >>> ((p2 &&& (63 : Int32)) &&& 0x3f).toInt64.toUInt64).toInt64))])) _
      exact k
    · simp only [if_neg hb4] at k
      refine XS.ifNo X0.here hx rfl (hb hby at_4) rfl ((if0 _ _).trans (feq hb4).1) ?_
      show Steps p.tables e below (s₁.setTop (mkF m 7 #[.val (.long q1), .second, .val (.int p2), .unset, .unset] [])) _
      refine XS.lloadN X0.here hx rfl (hb hby at_7) rfl ?_
      show Steps p.tables e below (s₁.setTop (mkF m 8 #[.val (.long q1), .second, .val (.int p2), .unset, .unset] [(.long q1)])) _
      refine XS.goto X0.here hx rfl (pc0 := 8) (pc' := 17) rfl (hb hby at_8) (by decide) (by decide) ?_
      show Steps p.tables e below (s₁.setTop (mkF m 17 #[.val (.long q1), .second, .val (.int p2), .unset, .unset] [(.long q1)])) _
      exact k
  have pre2 : ∀ t, Steps p.tables e below (s₁.setTop (mkF m 19 #[.val (.long q1), .second, .val (.int p2), .val (.long u17s0), .second] [(.long u17s0)])) t → Steps p.tables e below (s₁.setTop (entryFrame m #[(.long q1), (.int p2)] maxLocals)) t := by
    intro t k
    refine pre1 t ?_
    refine XS.lstoreN X0.here hx rfl (hb hby at_17) rfl (l' := #[.val (.long q1), .second, .val (.int p2), .val (.long u17s0), .second]) rfl ?_
    show Steps p.tables e below (s₁.setTop (mkF m 18 #[.val (.long q1), .second, .val (.int p2), .val (.long u17s0), .second] [])) _
    refine XS.lloadN X0.here hx rfl (hb hby at_18) rfl ?_
    show Steps p.tables e below (s₁.setTop (mkF m 19 #[.val (.long q1), .second, .val (.int p2), .val (.long u17s0), .second] [(.long u17s0)])) _
    exact k
  obtain ⟨_, _, ⟨T3, L3, k3, n3⟩, -, X3, ⟨Lc3, hQ3, l3, y3, z3⟩, st3⟩ := Jvm.LawKit.callS X0 hx (y := (⟨"com/example/alluvium/alluvium/change/ProtoWriter", "varintSize", "(J)I"⟩ : MethodName)) hown (mvT hZ (hw _ (List.mem_of_getElem? (i := 0) rfl))) (mvT hZ (hw _ (List.mem_of_getElem? (i := 1) rfl))) (mvT hZ (hw _ (List.mem_of_getElem? (i := 2) rfl))) (mvT hZ (hw _ (List.mem_of_getElem? (i := 3) rfl))) (by decide) (backOf (W := 0) (rm1 l Z a0 hw [] u17s0 h0 n0 Z0) hZ (hw _ (List.mem_of_getElem? (i := 3) rfl)) (hw _ (List.mem_of_getElem? (i := 2) rfl)) (by decide) (by decide)) (g := (mkF m 19 #[.val (.long q1), .second, .val (.int p2), .val (.long u17s0), .second] [(.long u17s0)])) rfl (by rw [hml]; rfl) (argsL := [(.long u17s0)]) (rest := []) (lenOf pd0_0 rfl) rfl (by show 2 * 0 + _ ≤ _; exact Nat.le_of_eq rfl) (hb hby at_19) (fun _ _ => ⟨rfl, e0, (by decide : 0 + 0 ≤ _), (by decide : 0 + 0 ≤ _)⟩)
  dsimp only [Pt.U, Pt.locs, Pt.cells, Pt.slots] at X3 l3 y3 z3 st3 hQ3
  subst l3 y3 z3
  obtain ⟨rfl, Nq3, e3⟩ := hQ3
  have N3 := Fr.app N0 Nq3
  have pre3 : ∀ t, Steps p.tables e below (T3.setTop (mkF m 22 #[.val (.long q1), .second, .val (.int p2), .val (.long u17s0), .second] [(.int (fn1 u17s0))])) t → Steps p.tables e below (s₁.setTop (entryFrame m #[(.long q1), (.int p2)] maxLocals)) t := fun t k => pre2 t (st3 _ k)
  have pre4 : ∀ t, Steps p.tables e below (T3.setTop (mkF m 23 #[.val (.long q1), .second, .val (.int p2), .val (.long u17s0), .second] [(.long u17s0), (.int (fn1 u17s0))])) t → Steps p.tables e below (s₁.setTop (entryFrame m #[(.long q1), (.int p2)] maxLocals)) t := by
    intro t k
    refine pre3 t ?_
    refine XS.lloadN X3.here hx rfl (hb hby at_22) rfl ?_
    show Steps p.tables e below (T3.setTop (mkF m 23 #[.val (.long q1), .second, .val (.int p2), .val (.long u17s0), .second] [(.long u17s0), (.int (fn1 u17s0))])) _
    exact k
  obtain ⟨_, _, ⟨T5, L5, k5, n5⟩, -, X5, ⟨Lc5, hQ5, l5, y5, z5⟩, st5⟩ := Jvm.LawKit.callS X3 hx (y := (⟨"com/example/alluvium/alluvium/change/ProtoWriterVarintSizePinLaw", "expected", "(J)I"⟩ : MethodName)) hown (mvT hZ (hw _ (List.mem_of_getElem? (i := 4) rfl))) (mvT hZ (hw _ (List.mem_of_getElem? (i := 5) rfl))) (mvT hZ (hw _ (List.mem_of_getElem? (i := 6) rfl))) (mvT hZ (hw _ (List.mem_of_getElem? (i := 7) rfl))) (by decide) (backOf (W := 1) (rm2 l Z a0 hw [] u17s0 h0 n0 Z0) hZ (hw _ (List.mem_of_getElem? (i := 7) rfl)) (hw _ (List.mem_of_getElem? (i := 6) rfl)) (by decide) (by decide)) (g := (mkF m 23 #[.val (.long q1), .second, .val (.int p2), .val (.long u17s0), .second] [(.long u17s0), (.int (fn1 u17s0))])) rfl (by rw [hml]; rfl) (argsL := [(.long u17s0)]) (rest := [(.int (fn1 u17s0))]) (lenOf pd0_0 rfl) rfl (by show 2 * 0 + _ ≤ _; exact Nat.le_of_eq rfl) (hb hby at_23) (fun _ _ => ⟨rfl, e3, (by decide : 0 + 0 ≤ _), (by decide : 0 + 0 ≤ _)⟩)
  dsimp only [Pt.U, Pt.locs, Pt.cells, Pt.slots] at X5 l5 y5 z5 st5 hQ5
  subst l5 y5 z5
  obtain ⟨rfl, Nq5, e5⟩ := hQ5
  have N5 := Fr.app N3 Nq5
  have pre5 : ∀ t, Steps p.tables e below (T5.setTop (mkF m 26 #[.val (.long q1), .second, .val (.int p2), .val (.long u17s0), .second] [(.int (fn2 u17s0)), (.int (fn1 u17s0))])) t → Steps p.tables e below (s₁.setTop (entryFrame m #[(.long q1), (.int p2)] maxLocals)) t := fun t k => pre4 t (st5 _ k)
  obtain ⟨u34s0, hu34s0⟩ : ∃ z : Int32, z = (if (fn1 u17s0) = (fn2 u17s0) then (1 : Int32) else (0 : Int32)) := ⟨_, rfl⟩
  have pre6 : ∀ t, Steps p.tables e below (T5.setTop (mkF m 34 #[.val (.long q1), .second, .val (.int p2), .val (.long u17s0), .second] [(.int u34s0)])) t → Steps p.tables e below (s₁.setTop (entryFrame m #[(.long q1), (.int p2)] maxLocals)) t := by
    intro t k
    subst hu34s0
    refine pre5 t ?_
    by_cases hb26 : (fn1 u17s0) = (fn2 u17s0)
    · simp only [if_pos hb26] at k
      refine XS.icmpNo X5.here hx rfl (hb hby at_26) rfl (teq hb26).2 ?_
      show Steps p.tables e below (T5.setTop (mkF m 29 #[.val (.long q1), .second, .val (.int p2), .val (.long u17s0), .second] [])) _
      refine XS.iconst X5.here hx rfl (hb hby at_29) ?_
      show Steps p.tables e below (T5.setTop (mkF m 30 #[.val (.long q1), .second, .val (.int p2), .val (.long u17s0), .second] [(.int (1 : Int32))])) _
      refine XS.goto X5.here hx rfl (pc0 := 30) (pc' := 34) rfl (hb hby at_30) (by decide) (by decide) ?_
      show Steps p.tables e below (T5.setTop (mkF m 34 #[.val (.long q1), .second, .val (.int p2), .val (.long u17s0), .second] [(.int (1 : Int32))])) _
      exact k
    · simp only [if_neg hb26] at k
      refine XS.icmpYes X5.here hx rfl (pc0 := 26) (pc' := 33) rfl (hb hby at_26) rfl (feq hb26).2 (by decide) (by decide) ?_
      show Steps p.tables e below (T5.setTop (mkF m 33 #[.val (.long q1), .second, .val (.int p2), .val (.long u17s0), .second] [])) _
      refine XS.iconst X5.here hx rfl (hb hby at_33) ?_
      show Steps p.tables e below (T5.setTop (mkF m 34 #[.val (.long q1), .second, .val (.int p2), .val (.long u17s0), .second] [(.int (0 : Int32))])) _
      exact k
  obtain ⟨fs, hr, hrun, hended, hW, hsame⟩ := X5.leave (v := some (.int (nar .boolean u34s0))) (fun h => by rw [Bd.returns] at h; cases h)
  refine ⟨_, _, pre6 _ ?_, hrun, hended, _, _, rfl, ?_, ⟨_, rfl⟩, hW, hsame.mono (by decide) (by decide)⟩
  · show Steps p.tables e below (T5.setTop (mkF m 34 #[.val (.long q1), .second, .val (.int p2), .val (.long u17s0), .second] [(.int u34s0)])) _
    exact retN X5 hx (t := .boolean) Bd.returns (by simp) (hb hby at_34) hr
  · show Q0 Z q1 p2 h0 n0 _ T5.heap _
    rw [e5]
    refine ⟨?_, N5⟩
    subst hu34s0 hu17s0
    simp only [fn0]
set_option maxRecDepth 65536 in
set_option maxHeartbeats 40000000 in
theorem comes_1 {Post : Tables → Env → Array Value → State → Outcome → State → Prop} (hpost : ∀ tb e args s v u, (limb_1_1.after args s (.returned v) u = true ∧ limb_1_2.after args s (.returned v) u = true ∧ True) → FrameEnd s (.returned v) u (Jvm.fieldLocs frame_1_writes args s ++ Jvm.arrayLocs frame_1_arrays args s ++ Jvm.staticLocs frame_1_statics s) 0 0 → Post tb e args s (.returned v) u) :
    ArmFor flags0 classFile x code maxLocals ret World_1 tables_1 room_1 Calls_1 rest_1 Pre_1 Post := by
  intro l hfl _ _ p e ha hc hk s m args below hf hA hF happ hP
  obtain ⟨hcalls, hrest, hpre⟩ := hP
  obtain ⟨-, -, -, hnamed, -, -, -, hat⟩ := (Spec.applies_iff hf).mp happ
  obtain ⟨hg, hn⟩ := and_e (Cond.before_iff.mp (show (Jvm.Cond.and given_1 narrow_1).before args s = true from hpre))
  obtain ⟨hcount, g0⟩ := and_e hg
  obtain ⟨a0, g1⟩ := and_e g0
  have a1 := g1
  obtain ⟨w0, w1, rfl⟩ : ∃ w0 w1 : Value, args = #[w0, w1] := by
    have hs : args.size = 2 := by simpa [Cond.value, given_1] using hcount
    obtain ⟨L⟩ := args
    match L, hs with
    | [w0, w1], _ => exact ⟨w0, w1, rfl⟩
  have hw := fun d (hd : d ∈ tables_1) => atoms_spec (ws := Jvm.Cond.code x code maxLocals ret :: tables_1) hat d (List.mem_cons_of_mem _ hd)
  obtain ⟨i0, ei0⟩ := isL_v a0
  obtain rfl : w0 = (.long i0) := Option.some.inj ei0
  obtain ⟨i1, ei1⟩ := is_v a1
  obtain rfl : w1 = (.int i1) := Option.some.inj ei1
  obtain ⟨n, o, h1, h2, h3, v, L, rfl, ⟨hv, N⟩, hq⟩ := rm0 l s _ hw tables_1 i0 i1 s.heap s.heap.size (Nat.le_refl _) p e ha hc hk s m _ below hf ((Spec.applies_iff_loose hf).mp happ).1 ⟨rfl, State.Warmed39.refl s, rfl⟩ trivial
  rw [own_law] at hv
  subst hv
  refine ⟨n, _, h1, h2, h3, hpost _ _ _ _ _ _ ⟨Cond.after_iff.mpr rfl, Cond.after_iff.mpr (eq_i res_at (Term.int_eval (1)) rfl), trivial⟩ ⟨hq.1, hq.2.1, (hq.2.2.sift fun y hy => Or.inr (N y hy)).mono (by decide) (by decide)⟩⟩
theorem main_1_1 : Claimed_1_1 := comes_1 fun _ _ _ _ _ _ h hF => ⟨h.1, hF⟩
theorem main_1_2 : Claimed_1_2 := comes_1 fun _ _ _ _ _ _ h hF => ⟨h.2.1, hF⟩
end Jvm.Pilot.@@N@@
namespace Jvm.Pilot.@@N@@
open Jvm Jvm.ClassFile Sem Op Lib Jvm.Free Jvm.Stand Jvm.Pilot.@@N@@.Jvm.D
/-! MADE BY PROGRAM (witnessworld.py) out of the Statement's table words and the real class files: 9 classes; the members and pool entries that the words name. The judged class is class 1, her method 1. -/
namespace start1
open Jvm.ClassFile
def u (s : String) : CpInfo := .utf8 (stringToUtf16 s)
/-- a pool by its gaps: so many unusable entries, then the entry; so many at the end -/
def gap : Nat → List CpInfo → List CpInfo
  | 0, r => r
  | n + 1, r => .unusable :: gap n r
def poolList (es : List (Nat × CpInfo)) (last : Nat) : List CpInfo := es.foldr (fun e r => gap e.1 (e.2 :: r)) (gap last [])
def pool (es : List (Nat × CpInfo)) (last : Nat) : Array CpInfo := ⟨poolList es last⟩
def fileOf (pool : Array CpInfo) (this : Nat) (attrs : Array Attribute := #[]) (ms : Array MethodInfo := #[]) (fl : Nat := 33) (sup : Nat := 0) (ifs : Array Nat := #[]) (fds : Array FieldInfo := #[]) : ClassFile where
  minorVersion := 0
  majorVersion := 65
  constantPool := pool
  accessFlags := fl
  thisClass := this
  superClass := sup
  interfaces := ifs
  fields := fds
  methods := ms
  attributes := attrs
def plain (name : String) (sup : Option ClassId) : Class where
  name := name
  kind := .ordinary
  loader := none
  accessFlags := 33
  super := sup
  interfaces := #[]
  cf := none
  fields := #[]
  methods := #[]
  instanceTypes := #[]
  staticTypes := #[]
  resolved := #[]
  callSites := []
  init := .initialized
  statics := none
  mirror := none

def pool0 : Array CpInfo := pool [(5, u "<init>"), (0, u "()V"), (1, .class_ 10), (1, u "java/lang/Object")] 113

def k0m0 : Method := { name := "<init>", desc := "()V", sig := { parameters := [], returnType := none }, accessFlags := 1, code := none }
/-- java/lang/Object -/
def k0 : Class := { plain "java/lang/Object" none with
  accessFlags := 33
  interfaces := #[]
  cf := some (fileOf pool0 8 #[] #[{ accessFlags := 1, nameIndex := 5, descriptorIndex := 6, attributes := #[] }] 33 0 #[] #[])
  fields := #[]
  methods := #[k0m0]
  instanceTypes := #[]
  staticTypes := #[]
  resolved := Array.replicate 124 none
  statics := none }

def pool1 : Array CpInfo := pool [(2, .class_ 4), (1, u "java/lang/Object"), (0, u "<init>"), (0, u "()V"), (0, .methodref 8 9), (0, .class_ 10), (0, .nameAndType 11 12), (0, u "com/example/alluvium/alluvium/change/ProtoWriter"), (0, u "varintSize"), (0, u "(J)I"), (0, .methodref 14 15), (0, .class_ 16), (0, .nameAndType 17 12), (0, u "com/example/alluvium/alluvium/change/ProtoWriterVarintSizePinLaw"), (0, u "expected"), (0, .long 128), (1, .long 16384), (1, .long 2097152), (1, .long 268435456), (1, .long 34359738368), (1, .long 4398046511104), (1, .long 562949953421312), (1, .long 72057594037927936), (3, u "law"), (0, u "(JI)Z")] 3

def k1m0 : Method := { name := "<init>", desc := "()V", sig := { parameters := [], returnType := none }, accessFlags := 1, code := none }
def k1c1 : Code := { maxStack := 4, maxLocals := 5, code := code, exceptionTable := #[], attributes := #[] }
def k1m1 : Method := { name := "law", desc := "(JI)Z", sig := { parameters := [.long, .int], returnType := some .boolean }, accessFlags := 9, code := some k1c1 }
def k1c2 : Code := { maxStack := 4, maxLocals := 2, code := method_3_code, exceptionTable := #[], attributes := #[] }
def k1m2 : Method := { name := "expected", desc := "(J)I", sig := { parameters := [.long], returnType := some .int }, accessFlags := 10, code := some k1c2 }
/-- com/example/alluvium/alluvium/change/ProtoWriterVarintSizePinLaw -/
def k1 : Class := { plain "com/example/alluvium/alluvium/change/ProtoWriterVarintSizePinLaw" (some 0) with
  accessFlags := 49
  interfaces := #[]
  cf := some (fileOf pool1 14 #[] #[{ accessFlags := 1, nameIndex := 5, descriptorIndex := 6, attributes := #[] }, { accessFlags := 9, nameIndex := 36, descriptorIndex := 37, attributes := #[] }, { accessFlags := 10, nameIndex := 17, descriptorIndex := 12, attributes := #[] }] 49 2 #[] #[])
  fields := #[]
  methods := #[k1m0, k1m1, k1m2]
  instanceTypes := #[]
  staticTypes := #[]
  resolved := Array.replicate 41 none
  statics := none }

def pool2 : Array CpInfo := pool [(2, .class_ 4), (1, u "java/lang/Object"), (0, u "<init>"), (0, u "()V"), (4, .class_ 13), (1, u "com/example/alluvium/alluvium/change/ProtoWriter"), (0, u "out"), (0, u "Lcom/example/alluvium/alluvium/change/ByteWriter;"), (47, u "varintSize"), (0, u "(J)I"), (0, u "VARINT"), (0, u "I"), (2, u "LENGTH_DELIMITED")] 24

def k2m0 : Method := { name := "<init>", desc := "()V", sig := { parameters := [], returnType := none }, accessFlags := 0, code := none }
def k2c1 : Code := { maxStack := 4, maxLocals := 5, code := prog_105_method_12_code, exceptionTable := #[], attributes := #[] }
def k2m1 : Method := { name := "varintSize", desc := "(J)I", sig := { parameters := [.long], returnType := some .int }, accessFlags := 8, code := some k2c1 }
/-- com/example/alluvium/alluvium/change/ProtoWriter -/
def k2 : Class := { plain "com/example/alluvium/alluvium/change/ProtoWriter" (some 0) with
  accessFlags := 48
  interfaces := #[]
  cf := some (fileOf pool2 11 #[] #[{ accessFlags := 0, nameIndex := 5, descriptorIndex := 6, attributes := #[] }, { accessFlags := 8, nameIndex := 63, descriptorIndex := 64, attributes := #[] }] 48 2 #[] #[{ accessFlags := 26, nameIndex := 65, descriptorIndex := 66, attributes := #[] }, { accessFlags := 26, nameIndex := 69, descriptorIndex := 66, attributes := #[] }, { accessFlags := 18, nameIndex := 14, descriptorIndex := 15, attributes := #[] }])
  fields := #[{ name := "VARINT", type := .int, accessFlags := 26, slot := 0, constantValue := 0 }, { name := "LENGTH_DELIMITED", type := .int, accessFlags := 26, slot := 1, constantValue := 0 }, { name := "out", type := (.object "com/example/alluvium/alluvium/change/ByteWriter"), accessFlags := 18, slot := 0, constantValue := 0 }]
  methods := #[k2m0, k2m1]
  instanceTypes := #[(.object "com/example/alluvium/alluvium/change/ByteWriter")]
  staticTypes := #[.int, .int]
  resolved := Array.replicate 94 none
  statics := none }

def pool3 : Array CpInfo := pool [(1, u "java/lang/Cloneable"), (0, .class_ 1), (0, u "java/lang/Object"), (0, .class_ 3)] 3

/-- java/lang/Cloneable -/
def k3 : Class := { plain "java/lang/Cloneable" (some 0) with
  accessFlags := 1537
  interfaces := #[]
  cf := some (fileOf pool3 2 #[] #[] 1537 4 #[] #[])
  fields := #[]
  methods := #[]
  instanceTypes := #[]
  staticTypes := #[]
  resolved := Array.replicate 8 none
  statics := none }

def pool4 : Array CpInfo := pool [(1, u "java/io/Serializable"), (0, .class_ 1), (0, u "java/lang/Object"), (0, .class_ 3)] 3

/-- java/io/Serializable -/
def k4 : Class := { plain "java/io/Serializable" (some 0) with
  accessFlags := 1537
  interfaces := #[]
  cf := some (fileOf pool4 2 #[] #[] 1537 4 #[] #[])
  fields := #[]
  methods := #[]
  instanceTypes := #[]
  staticTypes := #[]
  resolved := Array.replicate 8 none
  statics := none }

/-- the primitive byte -/
def k5 : Class := { plain "byte" none with kind := .primitive 'B', accessFlags := 0x411 }
/-- [B -/
def k6 : Class := { plain "[B" (some 0) with kind := .array 5 .byte, interfaces := #[3, 4], accessFlags := 1041 }

/-- the primitive int -/
def k7 : Class := { plain "int" none with kind := .primitive 'I', accessFlags := 0x411 }
/-- [I -/
def k8 : Class := { plain "[I" (some 0) with kind := .array 7 .int, interfaces := #[3, 4], accessFlags := 1041 }

def heap : Heap := #[]
def classes : Array Class := #[k0, k1, k2, k3, k4, k5, k6, k7, k8]
def interned : List (Array UInt16 × Addr) := []
def slotsUsed : Nat := 0
def theMethod : MethodId := ⟨1, 1⟩
def args0 : Array Value := #[.long 300, .int 3]
def aboutOver (below : List Frame) : State where
  vm := { classes := classes, interned := interned.toArray }
  heap := heap
  slotsUsed := slotsUsed
  threads := #[{ frames := .invoking theMethod args0 :: below }]
def below0 : List Frame := [.native { method := ⟨0, 0⟩, args := #[] }]
def about1 : State := aboutOver below0
def p0 : Program := .bare "" "" ""
def e0 : Env := launch0.env 0 0 0
theorem w_frames : about1.frames = Frame.invoking theMethod args0 :: below0 := rfl
set_option maxRecDepth 65536 in
theorem w_args : argsFit about1.vm theMethod args0 = true := by decide +kernel
set_option maxRecDepth 65536 in
theorem w_heap : heapFits about1 = true := by decide +kernel
set_option maxRecDepth 65536 in
theorem w_runnable : about1.curStatus? = some .runnable := by decide +kernel
set_option maxRecDepth 65536 in
theorem w_alone : about1.alone = true := by decide +kernel
set_option maxRecDepth 65536 in
theorem w_named : about1.methodNamed? x = some theMethod := by decide +kernel
set_option maxRecDepth 65536 in
theorem w_hears : about1.hears theMethod below0 = true := by decide +kernel
set_option maxRecDepth 65536 in
theorem w_ripe : about1.ripe theMethod args0 below0 = true := by decide +kernel
theorem w_running : about1.status = .running := rfl
set_option maxRecDepth 65536 in
theorem w_room : about1.hasRoom e0.platform room_1 = true :=
  launch0.hasRoom_least _ room_1 (by decide +kernel) (by decide +kernel) (by decide +kernel) (by decide +kernel) (by decide +kernel) (by decide +kernel)
theorem allAtoms_all (ts : List Jvm.Cond) (a : Array Jvm.Value) (st : Jvm.State) : (allAtoms ts).before a st = ts.all (fun c => c.before a st) := by
  induction ts with
  | nil => rfl
  | cons c t ih =>
    show (Jvm.Cond.and c (allAtoms t)).before a st = _
    rw [Jvm.Cond.before_and, ih, List.all_cons]
def words1 : List Jvm.Cond := Jvm.Cond.code x code maxLocals ret :: tables_1
/-- a 'code' word, met by the world's own term for the bytes: nothing is compared byte by byte -/
theorem code_word {y : MethodName} {bytes : ByteArray} {mx : Nat} {rt : Option FieldType} {a : Array Value} {s : State} {m : MethodId} {meth : Method} {c : Code} (h1 : s.methodNamed? y = some m) (h2 : s.vm.method? m = some meth) (h3 : meth.code = some c) (h4 : c.code = bytes)
    (h5 : (c.maxLocals == mx && c.exceptionTable.isEmpty && decide (c.maxStack ≤ mostOperands) && decide (meth.sig.returnType = rt) && !meth.locks && decide (parseMethodDescriptor y.desc = some meth.sig)) = true) : (Jvm.Cond.code y bytes mx rt).before a s = true := by
  simp only [Bool.and_eq_true, beq_iff_eq, Bool.not_eq_true', decide_eq_true_eq] at h5
  obtain ⟨⟨⟨⟨⟨g1, g2⟩, g3⟩, g4⟩, g5⟩, g6⟩ := h5
  simp [Cond.before, Cond.holds, Cond.value, h1, h2, h3, h4, g1, g2, g3, g4, g5, g6]
def isCode : Jvm.Cond → Bool
  | .code _ _ _ _ => true
  | _ => false
theorem all_split {L : List Jvm.Cond} {P : Jvm.Cond → Bool} (h1 : L.all (fun c => isCode c || P c) = true) (h2 : ∀ c ∈ L.filter isCode, P c = true) : L.all P = true := by
  refine List.all_eq_true.mpr fun c hc => ?_
  have h := List.all_eq_true.mp h1 c hc
  rcases Bool.eq_false_or_eq_true (isCode c) with hi | hi
  · exact h2 c (List.mem_filter.mpr ⟨hc, hi⟩)
  · simpa [hi] using h
set_option maxRecDepth 65536 in
theorem w_c0 : (Jvm.Cond.code x code maxLocals ret).before args0 about1 = true := code_word (m := ⟨1, 1⟩) (meth := k1m1) (c := k1c1) (by decide +kernel) rfl rfl rfl (by decide +kernel)
set_option maxRecDepth 65536 in
theorem w_c1 : (Jvm.Cond.code ({ cls := "com/example/alluvium/alluvium/change/ProtoWriter", name := "varintSize", desc := "(J)I" } : Jvm.MethodName) prog_105_method_12_code (5 : Nat) (Option.some Jvm.ClassFile.FieldType.int)).before args0 about1 = true := code_word (m := ⟨2, 1⟩) (meth := k2m1) (c := k2c1) (by decide +kernel) rfl rfl rfl (by decide +kernel)
set_option maxRecDepth 65536 in
theorem w_c2 : (Jvm.Cond.code ({ cls := "com/example/alluvium/alluvium/change/ProtoWriterVarintSizePinLaw", name := "expected", desc := "(J)I" } : Jvm.MethodName) method_3_code (2 : Nat) (Option.some Jvm.ClassFile.FieldType.int)).before args0 about1 = true := code_word (m := ⟨1, 2⟩) (meth := k1m2) (c := k1c2) (by decide +kernel) rfl rfl rfl (by decide +kernel)
def codes1 : List Jvm.Cond := [Jvm.Cond.code x code maxLocals ret, Jvm.Cond.code ({ cls := "com/example/alluvium/alluvium/change/ProtoWriter", name := "varintSize", desc := "(J)I" } : Jvm.MethodName) prog_105_method_12_code (5 : Nat) (Option.some Jvm.ClassFile.FieldType.int), Jvm.Cond.code ({ cls := "com/example/alluvium/alluvium/change/ProtoWriterVarintSizePinLaw", name := "expected", desc := "(J)I" } : Jvm.MethodName) method_3_code (2 : Nat) (Option.some Jvm.ClassFile.FieldType.int)]
set_option maxRecDepth 65536 in
theorem codes_eq : words1.filter isCode = codes1 := rfl
theorem w_codes : ∀ c ∈ words1.filter isCode, c.before args0 about1 = true := by
  rw [codes_eq]
  intro c hc
  simp only [codes1, List.mem_cons, List.not_mem_nil, or_false] at hc
  rcases hc with rfl | rfl | rfl
  · exact w_c0
  · exact w_c1
  · exact w_c2
set_option maxRecDepth 65536 in
theorem w_t1 : words1.all (fun c => isCode c || c.before args0 about1) = true := by decide +kernel
theorem w_tables : (allAtoms (Jvm.Cond.code x code maxLocals ret :: tables_1)).before args0 about1 = true := by
  rw [allAtoms_all]
  show words1.all (fun c => c.before args0 about1) = true
  refine all_split ?_ w_codes
  rw [w_t1]
set_option maxRecDepth 65536 in
theorem w_case : (Jvm.Cond.and given_1 narrow_1).before args0 about1 = true := by decide +kernel
theorem w_applies : (headSpec (Jvm.Cond.code x code maxLocals ret :: tables_1) room_1).applies x e0.platform about1 = true :=
  (Spec.applies_iff w_frames).mpr ⟨w_running, w_runnable, w_alone, w_named, w_hears, w_ripe, w_room, w_tables⟩
theorem atStart : AtStart classFile x code maxLocals ret World_1 tables_1 room_1 Calls_1 rest_1 Pre_1 launch0 p0 e0 about1 theMethod args0 below0 :=
  ⟨lists_1, trivial, launch0.admits_env _ _ _, launch0.least_env, fairChoices_fair.cas, fairChoices_fair.clock, w_frames, w_args, w_heap, w_applies, trivial, trivial, w_case⟩
end start1
theorem witness_1 : WitnessClaimed_1 := ⟨start1.p0, start1.e0, start1.about1, start1.theMethod, start1.args0, start1.below0, start1.atStart⟩
end Jvm.Pilot.@@N@@
