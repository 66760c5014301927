import JvmDerived
import JvmDerived.Pilot.@@N@@Statement
import JvmDerived.Pilot.@@N@@Code
set_option linter.unusedVariables false
set_option linter.unusedSimpArgs false
@@BLOCK:NumsL.lean.txt@@
namespace Jvm.Pilot.@@N@@
open Jvm Jvm.ClassFile Sem Op Lib Jvm.Free Jvm.Stand Jvm.LawKit Jvm.RoadKit Bundle Jvm.Pilot.@@N@@.Jvm.D
/-! small laws of this text's own: returns, lrem as %, lcmp and the branch behind it -/
section Own
variable {p : Program} {l : Launch} {e : Env} {R : Room} {s : State} {m : MethodId} {args : Array Value} {below : List Frame} {meth : Method} {c : Code} {T : State} {locs : List Loc} {cells slots : Nat}
theorem own_retI (X : Stand p l e R s m args below meth c T locs cells slots) (hx : p.tables.exec = Jvm.exec) {pc : Nat} {Ls : Array Slot} {z : Int32} {rest : List Value} (hret : meth.sig.returnType = some .int) (hd : decode c.code pc = .ok (.ireturn, 1)) {fs : List Frame}
    (hl : ∀ (f : JFrame) (acts : List Action), f.method = m → f.locked = none → f.entered = [] → (doReturn e (T.setTop f) acts (some (.int z))).1 = T.setFrames fs) : Steps p.tables e below (T.setTop (mkF m pc Ls (.int z :: rest))) (T.setFrames fs) :=
  retOut X hx hret rfl (Or.inl ⟨rfl, Or.inl rfl, z, rfl⟩) hd hl
theorem own_retJ (X : Stand p l e R s m args below meth c T locs cells slots) (hx : p.tables.exec = Jvm.exec) {pc : Nat} {Ls : Array Slot} {z : Int64} {rest : List Value} (hret : meth.sig.returnType = some .long) (hd : decode c.code pc = .ok (.lreturn, 1)) {fs : List Frame}
    (hl : ∀ (f : JFrame) (acts : List Action), f.method = m → f.locked = none → f.entered = [] → (doReturn e (T.setTop f) acts (some (.long z))).1 = T.setFrames fs) : Steps p.tables e below (T.setTop (mkF m pc Ls (.long z :: rest))) (T.setFrames fs) :=
  retOut X hx hret rfl (Or.inr (Or.inl ⟨rfl, rfl, z, rfl⟩)) hd hl
theorem own_retR (X : Stand p l e R s m args below meth c T locs cells slots) (hx : p.tables.exec = Jvm.exec) {pc : Nat} {Ls : Array Slot} {b : Addr} {rest : List Value} {t : FieldType} (hret : meth.sig.returnType = some t) (ht : t.isReference = true) (hn : narrow t (.ref b) = .ref b) (hd : decode c.code pc = .ok (.areturn, 1)) {fs : List Frame}
    (hl : ∀ (f : JFrame) (acts : List Action), f.method = m → f.locked = none → f.entered = [] → (doReturn e (T.setTop f) acts (some (.ref b))).1 = T.setFrames fs) : Steps p.tables e below (T.setTop (mkF m pc Ls (.ref b :: rest))) (T.setFrames fs) :=
  retOut X hx hret hn (Or.inr (Or.inr (Or.inr (Or.inr ⟨rfl, ht, rfl⟩)))) hd hl
theorem own_lrem_mod (x y : Int64) : x - (x / y) * y = x % y := by
  apply Int64.toInt_inj.mp
  have h1 := Int64.le_toInt (x % y)
  have h2 := Int64.toInt_lt (x % y)
  rw [Int64.toInt_sub, Int64.toInt_mul, Int64.toInt_div, Int.bmod_mul_bmod, Int.sub_bmod_bmod, Int.mul_comm (x.toInt.tdiv y.toInt), ← Int.tmod_def, ← Int64.toInt_mod]
  exact Int.bmod_eq_of_le_mul_two (by omega) (by omega)
theorem own_lremM {tb : Tables} [Ours tb] {e : Env} {below : List Frame} {T target : State} {m : MethodId} {c : Code} {g : JFrame} (h : At T m c below) (hx : tb.exec = Jvm.exec) (hg : g.method = m) {x y : Int64} {rest : List Value} (hd : decode c.code g.pc = .ok (.lrem, 1)) (hs : g.stack = .long y :: .long x :: rest) (hy : y ≠ 0)
    (hr : Steps tb e below (T.setTop { g with pc := g.pc + 1, stack := .long (x % y) :: rest }) target) : Steps tb e below (T.setTop g) target :=
  XS.lrem h hx hg hd hs hy (by rw [own_lrem_mod]; exact hr)
end Own
theorem own_hgt (z : Int32) : ifCond.holds .gt z = decide (z > 0) := rfl
theorem own_hlt (z : Int32) : ifCond.holds .lt z = decide (z < 0) := rfl
theorem own_heq (z : Int32) : ifCond.holds .eq z = (z == 0) := rfl
theorem own_hge (z : Int32) : ifCond.holds .ge z = decide (z ≥ 0) := rfl
theorem own_hle (z : Int32) : ifCond.holds .le z = decide (z ≤ 0) := rfl
theorem own_hne (z : Int32) : ifCond.holds .ne z = (z != 0) := rfl
theorem own_lc1 {x y : Int64} (h : y < x) : lcmpW x y = 1 := if_pos h
theorem own_lc0 {x y : Int64} (h : x = y) : lcmpW x y = 0 := by
  have h1 : ¬ y < x := by rw [h, Int64.lt_iff_toInt_lt]; omega
  exact (if_neg h1).trans (if_pos h)
theorem own_lcm {x y : Int64} (h : x < y) : lcmpW x y = -1 := by
  have h1 : ¬ y < x := by rw [Int64.lt_iff_toInt_lt] at *; omega
  have h2 : ¬ x = y := fun q => by rw [q, Int64.lt_iff_toInt_lt] at h; omega
  exact (if_neg h1).trans (if_neg h2)
theorem own_tri (x y : Int64) : x < y ∨ x = y ∨ y < x := by
  rw [Int64.lt_iff_toInt_lt, Int64.lt_iff_toInt_lt, ← Int64.toInt_inj]; omega
theorem own_nlt {x y : Int64} (h : x < y) : ¬ y < x ∧ ¬ x = y := by
  rw [Int64.lt_iff_toInt_lt] at *
  exact ⟨by omega, fun q => by rw [q] at h; omega⟩
theorem own_Tlt {x y : Int64} (h : x < y) : ifCond.holds .lt (lcmpW x y) = true ∧ ifCond.holds .ge (lcmpW x y) = false := by rw [own_lcm h]; decide
theorem own_Flt {x y : Int64} (h : ¬ x < y) : ifCond.holds .lt (lcmpW x y) = false ∧ ifCond.holds .ge (lcmpW x y) = true := by
  rcases own_tri x y with q | q | q
  · exact absurd q h
  · rw [own_lc0 q]; decide
  · rw [own_lc1 q]; decide
theorem own_Tgt {x y : Int64} (h : y < x) : ifCond.holds .gt (lcmpW x y) = true ∧ ifCond.holds .le (lcmpW x y) = false := by rw [own_lc1 h]; decide
theorem own_Fgt {x y : Int64} (h : ¬ y < x) : ifCond.holds .gt (lcmpW x y) = false ∧ ifCond.holds .le (lcmpW x y) = true := by
  rcases own_tri x y with q | q | q
  · rw [own_lcm q]; decide
  · rw [own_lc0 q]; decide
  · exact absurd q h
theorem own_Teq {x y : Int64} (h : x = y) : ifCond.holds .eq (lcmpW x y) = true ∧ ifCond.holds .ne (lcmpW x y) = false := by rw [own_lc0 h]; decide
theorem own_Feq {x y : Int64} (h : ¬ x = y) : ifCond.holds .eq (lcmpW x y) = false ∧ ifCond.holds .ne (lcmpW x y) = true := by
  rcases own_tri x y with q | q | q
  · rw [own_lcm q]; decide
  · exact absurd q h
  · rw [own_lc1 q]; decide
/-! arrays as functions: what place i of the array holds -/
section OwnH
variable {p : Program} {l : Launch} {e : Env} {R : Room} {s : State} {m : MethodId} {args : Array Value} {below : List Frame} {meth : Method} {c : Code} {T : State} {locs : List Loc} {cells slots : Nat} {Z : State} {h h' : Heap} {a b : Addr} {z j : Int32} {ty : FieldType} {ws : List Addr} {sl : Nat} {w : Value}
def own_AI (Z : State) (h : Heap) (a : Addr) (ty : FieldType) (z : Int32) (f : Nat → Int32) : Prop := ∃ c : Cell, Arr Z h a c ty ∧ c.slots.size = z.toNatClampNeg ∧ ¬ z < 0 ∧ ∀ i, i < c.slots.size → c.slots[i]? = some (.int (f i))
def own_AJ (Z : State) (h : Heap) (a : Addr) (z : Int32) (f : Nat → Int64) : Prop := ∃ c : Cell, Arr Z h a c .long ∧ c.slots.size = z.toNatClampNeg ∧ ¬ z < 0 ∧ ∀ i, i < c.slots.size → c.slots[i]? = some (.long (f i))
def own_upd {α : Type} (f : Nat → α) (k : Nat) (v : α) : Nat → α := fun i => if i = k then v else f i
theorem own_slots (c : Cell) (k : Nat) (v : Value) : (c.setSlot k v).slots = c.slots.setIfInBounds k v := rfl
theorem own_AI.ext {f : Nat → Int32} (A : own_AI Z h a ty z f) (E : Ext h h') : own_AI Z h' a ty z f := by obtain ⟨c, A1, r⟩ := A; exact ⟨c, A1.ext E, r⟩
theorem own_AI.other {f : Nat → Int32} (A : own_AI Z h a ty z f) (W : Wr h h' b sl w) (q : a ≠ b) : own_AI Z h' a ty z f := by obtain ⟨c, A1, r⟩ := A; exact ⟨c, A1.other W q, r⟩
theorem own_AI.keep {f : Nat → Int32} (A : own_AI Z h a ty z f) (K : Keep h h' ws) (q : a ∉ ws) : own_AI Z h' a ty z f := by obtain ⟨c, A1, r⟩ := A; exact ⟨c, ⟨K.2.1 a c A1.1 q, A1.2⟩, r⟩
theorem own_AI.lt {f : Nat → Int32} (A : own_AI Z h a ty z f) : a < h.size := by obtain ⟨c, A1, -⟩ := A; exact A1.lt
theorem own_AI.set {f : Nat → Int32} {k : Nat} {v : Int32} (A : own_AI Z h a ty z f) (W : Wr h h' a k (.int v)) : own_AI Z h' a ty z (own_upd f k v) := by
  obtain ⟨c, A1, S, M, H⟩ := A
  refine ⟨_, A1.same W, by rw [sz_set]; exact S, M, fun i hi => ?_⟩
  rw [sz_set] at hi
  rw [own_slots]
  by_cases q : i = k
  · subst q
    rw [Array.getElem?_setIfInBounds_self_of_lt hi]
    exact congrArg (fun u => some (Value.int u)) (if_pos rfl).symm
  · rw [Array.getElem?_setIfInBounds_ne (fun u => q u.symm), H i hi]
    exact congrArg (fun u => some (Value.int u)) (if_neg q).symm
theorem own_AI.new {k : ClassId} (A : Arr Z h a (newA k ty z) ty) (q : ¬ z < 0) (hd : defaultValue ty = .int 0) : own_AI Z h a ty z (fun _ => 0) := by
  obtain ⟨c, A1, -, S, M, H, -⟩ := Arv.new A q
  refine ⟨c, A1, S, M, fun i hi => ?_⟩
  rw [H i hi, ← hd]; rfl
theorem own_AI.congr {f f' : Nat → Int32} (A : own_AI Z h a ty z f) (q : ∀ i, i < z.toNatClampNeg → f i = f' i) : own_AI Z h a ty z f' := by
  obtain ⟨c, A1, S, M, H⟩ := A
  exact ⟨c, A1, S, M, fun i hi => by rw [H i hi, q i (S ▸ hi)]⟩
theorem own_AJ.ext {f : Nat → Int64} (A : own_AJ Z h a z f) (E : Ext h h') : own_AJ Z h' a z f := by obtain ⟨c, A1, r⟩ := A; exact ⟨c, A1.ext E, r⟩
theorem own_AJ.other {f : Nat → Int64} (A : own_AJ Z h a z f) (W : Wr h h' b sl w) (q : a ≠ b) : own_AJ Z h' a z f := by obtain ⟨c, A1, r⟩ := A; exact ⟨c, A1.other W q, r⟩
theorem own_AJ.keep {f : Nat → Int64} (A : own_AJ Z h a z f) (K : Keep h h' ws) (q : a ∉ ws) : own_AJ Z h' a z f := by obtain ⟨c, A1, r⟩ := A; exact ⟨c, ⟨K.2.1 a c A1.1 q, A1.2⟩, r⟩
theorem own_AJ.lt {f : Nat → Int64} (A : own_AJ Z h a z f) : a < h.size := by obtain ⟨c, A1, -⟩ := A; exact A1.lt
theorem own_AJ.set {f : Nat → Int64} {k : Nat} {v : Int64} (A : own_AJ Z h a z f) (W : Wr h h' a k (.long v)) : own_AJ Z h' a z (own_upd f k v) := by
  obtain ⟨c, A1, S, M, H⟩ := A
  refine ⟨_, A1.same W, by rw [sz_set]; exact S, M, fun i hi => ?_⟩
  rw [sz_set] at hi
  rw [own_slots]
  by_cases q : i = k
  · subst q
    rw [Array.getElem?_setIfInBounds_self_of_lt hi]
    exact congrArg (fun u => some (Value.long u)) (if_pos rfl).symm
  · rw [Array.getElem?_setIfInBounds_ne (fun u => q u.symm), H i hi]
    exact congrArg (fun u => some (Value.long u)) (if_neg q).symm
theorem own_AJ.new {k : ClassId} (A : Arr Z h a (newA k .long z) .long) (q : ¬ z < 0) : own_AJ Z h a z (fun _ => 0) := by
  obtain ⟨c, A1, -, S, M, H, -⟩ := Arv.new A q
  refine ⟨c, A1, S, M, fun i hi => ?_⟩
  rw [H i hi]; rfl
theorem own_ldI {f : Nat → Int32} (X : Stand p l e R s m args below meth c T locs cells slots) (hx : p.tables.exec = Jvm.exec) (hZ : Z.Warmed39 s.vm) (eT : T.heap = h) (A : own_AI Z h a .int z f) (h0 : ¬ j < 0) (h1 : j < z) {g : JFrame} (hg : g.method = m) {rest : List Value} (hs : g.stack = .int j :: .ref a :: rest) (hd : decode c.code g.pc = .ok (.iaload, 1)) :
    ∀ t, Steps p.tables e below (T.setTop { g with pc := g.pc + 1, stack := .int (f j.toNatClampNeg) :: rest }) t → Steps p.tables e below (T.setTop g) t := by
  obtain ⟨c, A1, S, M, H⟩ := A
  have hin := inb_of S ⟨h0, h1⟩
  exact fun t k => X.iaload hx (by rw [eT]; exact A1.1) (State.isArrayOf_alike hZ.alike A1.2.1) A1.2.2 hin (H _ (Nat.lt_of_not_le fun q => hin (Or.inr q))) hg hs hd t k
theorem own_ldB {f : Nat → Int32} (X : Stand p l e R s m args below meth c T locs cells slots) (hx : p.tables.exec = Jvm.exec) (hZ : Z.Warmed39 s.vm) (eT : T.heap = h) (A : own_AI Z h a .byte z f) (h0 : ¬ j < 0) (h1 : j < z) {g : JFrame} (hg : g.method = m) {rest : List Value} (hs : g.stack = .int j :: .ref a :: rest) (hd : decode c.code g.pc = .ok (.baload, 1)) :
    ∀ t, Steps p.tables e below (T.setTop { g with pc := g.pc + 1, stack := .int (f j.toNatClampNeg) :: rest }) t → Steps p.tables e below (T.setTop g) t := by
  obtain ⟨c, A1, S, M, H⟩ := A
  have hin := inb_of S ⟨h0, h1⟩
  exact fun t k => X.baloadBytes hx (by rw [eT]; exact A1.1) (State.isArrayOf_alike hZ.alike A1.2.1) A1.2.2 hin (H _ (Nat.lt_of_not_le fun q => hin (Or.inr q))) hg hs hd t k
theorem own_ldJ {f : Nat → Int64} (X : Stand p l e R s m args below meth c T locs cells slots) (hx : p.tables.exec = Jvm.exec) (hZ : Z.Warmed39 s.vm) (eT : T.heap = h) (A : own_AJ Z h a z f) (h0 : ¬ j < 0) (h1 : j < z) {g : JFrame} (hg : g.method = m) {rest : List Value} (hs : g.stack = .int j :: .ref a :: rest) (hd : decode c.code g.pc = .ok (.laload, 1)) :
    ∀ t, Steps p.tables e below (T.setTop { g with pc := g.pc + 1, stack := .long (f j.toNatClampNeg) :: rest }) t → Steps p.tables e below (T.setTop g) t := by
  obtain ⟨c, A1, S, M, H⟩ := A
  have hin := inb_of S ⟨h0, h1⟩
  exact fun t k => X.laload hx (by rw [eT]; exact A1.1) (State.isArrayOf_alike hZ.alike A1.2.1) A1.2.2 hin (H _ (Nat.lt_of_not_le fun q => hin (Or.inr q))) hg hs hd t k
theorem own_lenI {f : Nat → Int32} (X : Stand p l e R s m args below meth c T locs cells slots) (hx : p.tables.exec = Jvm.exec) (hZ : Z.Warmed39 s.vm) (eT : T.heap = h) (A : own_AI Z h a ty z f) {g : JFrame} (hg : g.method = m) {rest : List Value} (hs : g.stack = .ref a :: rest) (hd : decode c.code g.pc = .ok (.arraylength, 1)) :
    ∀ t, Steps p.tables e below (T.setTop { g with pc := g.pc + 1, stack := .int z :: rest }) t → Steps p.tables e below (T.setTop g) t := by
  obtain ⟨c, A1, S, M, H⟩ := A
  exact fun t k => X.arraylength hx (by rw [eT]; exact A1.1) (State.isArrayOf_alike hZ.alike A1.2.1) hg hs hd t (by rw [len_of S M]; exact k)
theorem own_lenJ {f : Nat → Int64} (X : Stand p l e R s m args below meth c T locs cells slots) (hx : p.tables.exec = Jvm.exec) (hZ : Z.Warmed39 s.vm) (eT : T.heap = h) (A : own_AJ Z h a z f) {g : JFrame} (hg : g.method = m) {rest : List Value} (hs : g.stack = .ref a :: rest) (hd : decode c.code g.pc = .ok (.arraylength, 1)) :
    ∀ t, Steps p.tables e below (T.setTop { g with pc := g.pc + 1, stack := .int z :: rest }) t → Steps p.tables e below (T.setTop g) t := by
  obtain ⟨c, A1, S, M, H⟩ := A
  exact fun t k => X.arraylength hx (by rw [eT]; exact A1.1) (State.isArrayOf_alike hZ.alike A1.2.1) hg hs hd t (by rw [len_of S M]; exact k)
theorem own_stI {f : Nat → Int32} {x : Int32} (X : Stand p l e R s m args below meth c T locs cells slots) (hx : p.tables.exec = Jvm.exec) (hZ : Z.Warmed39 s.vm) (eT : T.heap = h) (A : own_AI Z h a .int z f) (h0 : ¬ j < 0) (h1 : j < z) {g : JFrame} (hg : g.method = m) {rest : List Value} (hs : g.stack = .int x :: .int j :: .ref a :: rest) (hd : decode c.code g.pc = .ok (.iastore, 1)) :
    ∃ T' h', Stand p l e R s m args below meth c T' (locs ++ [⟨a, j.toNatClampNeg⟩]) cells slots ∧ T'.heap = h' ∧ Wr h h' a j.toNatClampNeg (.int x) ∧ own_AI Z h' a .int z (own_upd f j.toNatClampNeg x) ∧ ∀ t, Steps p.tables e below (T'.setTop { g with pc := g.pc + 1, stack := rest }) t → Steps p.tables e below (T.setTop g) t := by
  obtain ⟨c, A1, S, M, H⟩ := A
  obtain ⟨T', h', X', e', W, st⟩ := stI X hx hZ eT A1 (inb_of S ⟨h0, h1⟩) hg hs hd
  exact ⟨T', h', X', e', W, own_AI.set ⟨c, A1, S, M, H⟩ W, st⟩
theorem own_stB {f : Nat → Int32} {x : Int32} (X : Stand p l e R s m args below meth c T locs cells slots) (hx : p.tables.exec = Jvm.exec) (hZ : Z.Warmed39 s.vm) (eT : T.heap = h) (A : own_AI Z h a .byte z f) (h0 : ¬ j < 0) (h1 : j < z) {g : JFrame} (hg : g.method = m) {rest : List Value} (hs : g.stack = .int x :: .int j :: .ref a :: rest) (hd : decode c.code g.pc = .ok (.bastore, 1)) :
    ∃ T' h', Stand p l e R s m args below meth c T' (locs ++ [⟨a, j.toNatClampNeg⟩]) cells slots ∧ T'.heap = h' ∧ Wr h h' a j.toNatClampNeg (.int (nar .byte x)) ∧ own_AI Z h' a .byte z (own_upd f j.toNatClampNeg (nar .byte x)) ∧ ∀ t, Steps p.tables e below (T'.setTop { g with pc := g.pc + 1, stack := rest }) t → Steps p.tables e below (T.setTop g) t := by
  obtain ⟨c, A1, S, M, H⟩ := A
  obtain ⟨T', h', X', e', W, st⟩ := stB X hx hZ eT A1 (inb_of S ⟨h0, h1⟩) hg hs hd
  exact ⟨T', h', X', e', W, own_AI.set ⟨c, A1, S, M, H⟩ W, st⟩
theorem own_stJ {f : Nat → Int64} {x : Int64} (X : Stand p l e R s m args below meth c T locs cells slots) (hx : p.tables.exec = Jvm.exec) (hZ : Z.Warmed39 s.vm) (eT : T.heap = h) (A : own_AJ Z h a z f) (h0 : ¬ j < 0) (h1 : j < z) {g : JFrame} (hg : g.method = m) {rest : List Value} (hs : g.stack = .long x :: .int j :: .ref a :: rest) (hd : decode c.code g.pc = .ok (.lastore, 1)) :
    ∃ T' h', Stand p l e R s m args below meth c T' (locs ++ [⟨a, j.toNatClampNeg⟩]) cells slots ∧ T'.heap = h' ∧ Wr h h' a j.toNatClampNeg (.long x) ∧ own_AJ Z h' a z (own_upd f j.toNatClampNeg x) ∧ ∀ t, Steps p.tables e below (T'.setTop { g with pc := g.pc + 1, stack := rest }) t → Steps p.tables e below (T.setTop g) t := by
  obtain ⟨c, A1, S, M, H⟩ := A
  obtain ⟨T', h', X', e', W, st⟩ := stJ X hx hZ eT A1 (inb_of S ⟨h0, h1⟩) hg hs hd
  exact ⟨T', h', X', e', W, own_AJ.set ⟨c, A1, S, M, H⟩ W, st⟩
end OwnH
theorem own_clamp {n : Nat} (h : n < 2147483648) : (Int32.ofNat n).toNatClampNeg = n := by
  have e : (Int32.ofNat n).toInt = n := Int32.toInt_ofNat_of_lt (by omega)
  show (Int32.ofNat n).toInt.toNat = n
  rw [e]; rfl
theorem own_ofNat {n : Nat} (h : n < 2147483648) : (Int32.ofNat n).toInt = n := Int32.toInt_ofNat_of_lt (by omega)
theorem own_nn {n : Nat} (h : n < 2147483648) : ¬ Int32.ofNat n < 0 := by
  have e0 : (0 : Int32).toInt = 0 := by decide
  rw [Int32.lt_iff_toInt_lt, own_ofNat h, e0]; omega
theorem own_ltN {i n : Nat} (h : i < n) (hn : n < 2147483648) : Int32.ofNat i < Int32.ofNat n := by
  rw [Int32.lt_iff_toInt_lt, own_ofNat (by omega), own_ofNat hn]; omega
theorem own_succ (i : Nat) : Int32.ofNat i + (1 : Int32) = Int32.ofNat (i + 1) := (Int32.ofNat_add i 1).symm
def own_le (f : Nat → Int32) (at_ : Nat) : Nat → Int64 → Int64
  | 0, S => S
  | k + 1, S => own_le f at_ k ((S <<< ((8 : Int32) &&& 0x3f).toInt64) ||| ((f (at_ + k) &&& (255 : Int32)).toInt64))
theorem own_back {v : Int32} (h : ¬ v < 0) : Int32.ofNat v.toNatClampNeg = v := by
  have hl := v.toInt_lt
  have e0 : (0 : Int32).toInt = 0 := by decide
  rw [Int32.lt_iff_toInt_lt, e0] at h
  have q : v.toNatClampNeg < 2147483648 := by show v.toInt.toNat < _; omega
  apply Int32.toInt_inj.mp
  rw [own_ofNat q]
  show (v.toInt.toNat : Int) = _
  omega
theorem own_dec (k : Nat) : Int32.ofNat (k + 1) - (1 : Int32) = Int32.ofNat k := by
  rw [Int32.ofNat_add]
  exact Int32.add_sub_cancel _ _
theorem own_decm (k : Nat) : Int32.ofNat k + (-1 : Int32) = Int32.ofNat k - (1 : Int32) := by
  rw [Int32.sub_eq_add_neg]
theorem own_neg1 : Int32.ofNat 0 - (1 : Int32) < (0 : Int32) := by decide
theorem own_addN (i k : Nat) : Int32.ofNat i + Int32.ofNat k = Int32.ofNat (i + k) := (Int32.ofNat_add i k).symm
theorem d1_7 : decode prog_52_method_5_code 7 = .ok (.iload 5, 2) := by decide +kernel
theorem d1_9 : decode prog_52_method_5_code 9 = .ok (.ifCond .lt 26, 3) := by decide +kernel
theorem d1_12 : decode prog_52_method_5_code 12 = .ok (.lload_n 3, 1) := by decide +kernel
theorem d1_13 : decode prog_52_method_5_code 13 = .ok (.bipush 8, 2) := by decide +kernel
theorem d1_15 : decode prog_52_method_5_code 15 = .ok (.lshl, 1) := by decide +kernel
theorem d1_16 : decode prog_52_method_5_code 16 = .ok (.aload_n 0, 1) := by decide +kernel
theorem d1_17 : decode prog_52_method_5_code 17 = .ok (.iload_n 1, 1) := by decide +kernel
theorem d1_18 : decode prog_52_method_5_code 18 = .ok (.iload 5, 2) := by decide +kernel
theorem d1_20 : decode prog_52_method_5_code 20 = .ok (.iadd, 1) := by decide +kernel
theorem d1_21 : decode prog_52_method_5_code 21 = .ok (.baload, 1) := by decide +kernel
theorem d1_22 : decode prog_52_method_5_code 22 = .ok (.sipush 255, 3) := by decide +kernel
theorem d1_25 : decode prog_52_method_5_code 25 = .ok (.iand, 1) := by decide +kernel
theorem d1_26 : decode prog_52_method_5_code 26 = .ok (.i2l, 1) := by decide +kernel
theorem d1_27 : decode prog_52_method_5_code 27 = .ok (.lor, 1) := by decide +kernel
theorem d1_28 : decode prog_52_method_5_code 28 = .ok (.lstore_n 3, 1) := by decide +kernel
theorem d1_29 : decode prog_52_method_5_code 29 = .ok (.iinc 5 (-1), 3) := by decide +kernel
theorem d1_32 : decode prog_52_method_5_code 32 = .ok (.goto (-25), 3) := by decide +kernel
set_option maxRecDepth 65536 in
set_option maxHeartbeats 40000000 in
theorem own_turn {p : Program} {l : Launch} {e : Env} {R : Room} {s : State} {m : MethodId} {args : Array Value} {below : List Frame} {meth : Method} {c : Code} {T0 : State} {locs : List Loc} {cells slots : Nat} {Z : State} {a0 : Array Value} {h0 : Heap} (o0 : Addr) (i1 i2 i5 : Int32) (S : Int64) (f : Nat → Int32)
    (X0 : Stand p l e R s m args below meth c T0 locs cells slots) (hx : p.tables.exec = Jvm.exec) (hZ : Z.Warmed39 s.vm) (hw : ∀ d ∈ tables_1, d.before a0 Z = true) (hby : c.code = prog_52_method_5_code) (hml : c.maxLocals = 6) (hown : s.vm.findClass "com/example/alluvium/alluvium/binlog/LittleEndian" = some m.cls) (e0 : T0.heap = h0) (A0 : own_AI Z h0 o0 .byte (11 : Int32) f) (hc9 : ¬ i5 < 0) (hb0 : ¬ (i1 + i5) < 0) (hb1 : (i1 + i5) < (11 : Int32)) :
      ∀ t, Steps p.tables e below (T0.setTop (mkF m 7 #[.val (.ref o0), .val (.int i1), .val (.int i2), .val (.long ((S <<< ((8 : Int32) &&& 0x3f).toInt64) ||| (((f (i1 + i5).toNatClampNeg) &&& (255 : Int32)).toInt64))), .second, .val (.int (i5 + (-1 : Int32)))] [])) t → Steps p.tables e below (T0.setTop (mkF m 7 #[.val (.ref o0), .val (.int i1), .val (.int i2), .val (.long S), .second, .val (.int i5)] [])) t := by
  have pre0 : ∀ t, Steps p.tables e below (T0.setTop (mkF m 7 #[.val (.ref o0), .val (.int i1), .val (.int i2), .val (.long S), .second, .val (.int i5)] [])) t → Steps p.tables e below (T0.setTop (mkF m 7 #[.val (.ref o0), .val (.int i1), .val (.int i2), .val (.long S), .second, .val (.int i5)] [])) t := fun t k => k
  obtain ⟨v28, hv28⟩ : ∃ z : Int64, z = ((S <<< ((8 : Int32) &&& 0x3f).toInt64) ||| (((f (i1 + i5).toNatClampNeg) &&& (255 : Int32)).toInt64)) := ⟨_, rfl⟩
  have pre1 : ∀ t, Steps p.tables e below (T0.setTop (mkF m 29 #[.val (.ref o0), .val (.int i1), .val (.int i2), .val (.long v28), .second, .val (.int i5)] [])) t → Steps p.tables e below (T0.setTop (mkF m 7 #[.val (.ref o0), .val (.int i1), .val (.int i2), .val (.long S), .second, .val (.int i5)] [])) t := by
    intro t k
    subst hv28
    refine pre0 t ?_
    show Steps p.tables e below (T0.setTop (mkF m 7 #[.val (.ref o0), .val (.int i1), .val (.int i2), .val (.long S), .second, .val (.int i5)] [])) _
    refine XS.iload X0.here hx rfl (hb hby d1_7) rfl ?_
    show Steps p.tables e below (T0.setTop (mkF m 9 #[.val (.ref o0), .val (.int i1), .val (.int i2), .val (.long S), .second, .val (.int i5)] [(.int i5)])) _
    refine XS.ifNo X0.here hx rfl (hb hby d1_9) rfl ((if0 _ _).trans (flt hc9).1) ?_
    show Steps p.tables e below (T0.setTop (mkF m 12 #[.val (.ref o0), .val (.int i1), .val (.int i2), .val (.long S), .second, .val (.int i5)] [])) _
    refine XS.lloadN X0.here hx rfl (hb hby d1_12) rfl ?_
    show Steps p.tables e below (T0.setTop (mkF m 13 #[.val (.ref o0), .val (.int i1), .val (.int i2), .val (.long S), .second, .val (.int i5)] [(.long S)])) _
    refine XS.bipush X0.here hx rfl (hb hby d1_13) ?_
    show Steps p.tables e below (T0.setTop (mkF m 15 #[.val (.ref o0), .val (.int i1), .val (.int i2), .val (.long S), .second, .val (.int i5)] [(.int (8 : Int32)), (.long S)])) _
    refine XS.lshl X0.here hx rfl (hb hby d1_15) rfl ?_
    show Steps p.tables e below (T0.setTop (mkF m 16 #[.val (.ref o0), .val (.int i1), .val (.int i2), .val (.long S), .second, .val (.int i5)] [(.long (S <<< ((8 : Int32) &&& 0x3f).toInt64))])) _
    refine XS.aloadN X0.here hx rfl (hb hby d1_16) rfl rfl ?_
    show Steps p.tables e below (T0.setTop (mkF m 17 #[.val (.ref o0), .val (.int i1), .val (.int i2), .val (.long S), .second, .val (.int i5)] [(.ref o0), (.long (S <<< ((8 : Int32) &&& 0x3f).toInt64))])) _
    refine XS.iloadN X0.here hx rfl (hb hby d1_17) rfl ?_
    show Steps p.tables e below (T0.setTop (mkF m 18 #[.val (.ref o0), .val (.int i1), .val (.int i2), .val (.long S), .second, .val (.int i5)] [(.int i1), (.ref o0), (.long (S <<< ((8 : Int32) &&& 0x3f).toInt64))])) _
    refine XS.iload X0.here hx rfl (hb hby d1_18) rfl ?_
    show Steps p.tables e below (T0.setTop (mkF m 20 #[.val (.ref o0), .val (.int i1), .val (.int i2), .val (.long S), .second, .val (.int i5)] [(.int i5), (.int i1), (.ref o0), (.long (S <<< ((8 : Int32) &&& 0x3f).toInt64))])) _
    refine XS.iadd X0.here hx rfl (hb hby d1_20) rfl ?_
    show Steps p.tables e below (T0.setTop (mkF m 21 #[.val (.ref o0), .val (.int i1), .val (.int i2), .val (.long S), .second, .val (.int i5)] [(.int (i1 + i5)), (.ref o0), (.long (S <<< ((8 : Int32) &&& 0x3f).toInt64))])) _
    refine own_ldB X0 hx hZ e0 A0 hb0 hb1 (g := (mkF m 21 #[.val (.ref o0), .val (.int i1), .val (.int i2), .val (.long S), .second, .val (.int i5)] [(.int (i1 + i5)), (.ref o0), (.long (S <<< ((8 : Int32) &&& 0x3f).toInt64))])) rfl rfl (hb hby d1_21) _ ?_
    show Steps p.tables e below (T0.setTop (mkF m 22 #[.val (.ref o0), .val (.int i1), .val (.int i2), .val (.long S), .second, .val (.int i5)] [(.int (f (i1 + i5).toNatClampNeg)), (.long (S <<< ((8 : Int32) &&& 0x3f).toInt64))])) _
    refine XS.sipush X0.here hx rfl (hb hby d1_22) ?_
    show Steps p.tables e below (T0.setTop (mkF m 25 #[.val (.ref o0), .val (.int i1), .val (.int i2), .val (.long S), .second, .val (.int i5)] [(.int (255 : Int32)), (.int (f (i1 + i5).toNatClampNeg)), (.long (S <<< ((8 : Int32) &&& 0x3f).toInt64))])) _
    refine XS.iand X0.here hx rfl (hb hby d1_25) rfl ?_
    show Steps p.tables e below (T0.setTop (mkF m 26 #[.val (.ref o0), .val (.int i1), .val (.int i2), .val (.long S), .second, .val (.int i5)] [(.int ((f (i1 + i5).toNatClampNeg) &&& (255 : Int32))), (.long (S <<< ((8 : Int32) &&& 0x3f).toInt64))])) _
    refine XS.i2l X0.here hx rfl (hb hby d1_26) rfl ?_
    show Steps p.tables e below (T0.setTop (mkF m 27 #[.val (.ref o0), .val (.int i1), .val (.int i2), .val (.long S), .second, .val (.int i5)] [(.long (((f (i1 + i5).toNatClampNeg) &&& (255 : Int32)).toInt64)), (.long (S <<< ((8 : Int32) &&& 0x3f).toInt64))])) _
    refine XS.lor X0.here hx rfl (hb hby d1_27) rfl ?_
    show Steps p.tables e below (T0.setTop (mkF m 28 #[.val (.ref o0), .val (.int i1), .val (.int i2), .val (.long S), .second, .val (.int i5)] [(.long ((S <<< ((8 : Int32) &&& 0x3f).toInt64) ||| (((f (i1 + i5).toNatClampNeg) &&& (255 : Int32)).toInt64)))])) _
    refine XS.lstoreN X0.here hx rfl (hb hby d1_28) rfl (l' := #[.val (.ref o0), .val (.int i1), .val (.int i2), .val (.long ((S <<< ((8 : Int32) &&& 0x3f).toInt64) ||| (((f (i1 + i5).toNatClampNeg) &&& (255 : Int32)).toInt64))), .second, .val (.int i5)]) rfl ?_
    show Steps p.tables e below (T0.setTop (mkF m 29 #[.val (.ref o0), .val (.int i1), .val (.int i2), .val (.long ((S <<< ((8 : Int32) &&& 0x3f).toInt64) ||| (((f (i1 + i5).toNatClampNeg) &&& (255 : Int32)).toInt64))), .second, .val (.int i5)] [])) _
    exact k
  obtain ⟨v29, hv29⟩ : ∃ z : Int32, z = (i5 + (-1 : Int32)) := ⟨_, rfl⟩
  have pre2 : ∀ t, Steps p.tables e below (T0.setTop (mkF m 32 #[.val (.ref o0), .val (.int i1), .val (.int i2), .val (.long v28), .second, .val (.int v29)] [])) t → Steps p.tables e below (T0.setTop (mkF m 7 #[.val (.ref o0), .val (.int i1), .val (.int i2), .val (.long S), .second, .val (.int i5)] [])) t := by
    intro t k
    subst hv29
    refine pre1 t ?_
    refine XS.iinc X0.here hx rfl (hb hby d1_29) rfl (l' := #[.val (.ref o0), .val (.int i1), .val (.int i2), .val (.long v28), .second, .val (.int (i5 + (-1 : Int32)))]) rfl ?_
    show Steps p.tables e below (T0.setTop (mkF m 32 #[.val (.ref o0), .val (.int i1), .val (.int i2), .val (.long v28), .second, .val (.int (i5 + (-1 : Int32)))] [])) _
    exact k
  have pre3 : ∀ t, Steps p.tables e below (T0.setTop (mkF m 7 #[.val (.ref o0), .val (.int i1), .val (.int i2), .val (.long v28), .second, .val (.int v29)] [])) t → Steps p.tables e below (T0.setTop (mkF m 7 #[.val (.ref o0), .val (.int i1), .val (.int i2), .val (.long S), .second, .val (.int i5)] [])) t := by
    intro t k
    refine pre2 t ?_
    refine XS.goto X0.here hx rfl (pc0 := 32) (pc' := 7) rfl (hb hby d1_32) (by decide) (by decide) ?_
    show Steps p.tables e below (T0.setTop (mkF m 7 #[.val (.ref o0), .val (.int i1), .val (.int i2), .val (.long v28), .second, .val (.int v29)] [])) _
    exact k
  subst hv29 hv28
  exact pre3
set_option maxRecDepth 65536 in
set_option maxHeartbeats 40000000 in
theorem own_leave {p : Program} {l : Launch} {e : Env} {R : Room} {s : State} {m : MethodId} {args : Array Value} {below : List Frame} {meth : Method} {c : Code} {T0 : State} {locs : List Loc} {cells slots : Nat} {Z : State} {a0 : Array Value} {h0 : Heap} (o0 : Addr) (i1 i2 i5 : Int32) (S : Int64) (f : Nat → Int32)
    (X0 : Stand p l e R s m args below meth c T0 locs cells slots) (hx : p.tables.exec = Jvm.exec) (hZ : Z.Warmed39 s.vm) (hw : ∀ d ∈ tables_1, d.before a0 Z = true) (hby : c.code = prog_52_method_5_code) (hml : c.maxLocals = 6) (hown : s.vm.findClass "com/example/alluvium/alluvium/binlog/LittleEndian" = some m.cls) (e0 : T0.heap = h0) (hc9 : i5 < 0) :
      ∀ t, Steps p.tables e below (T0.setTop (mkF m 35 #[.val (.ref o0), .val (.int i1), .val (.int i2), .val (.long S), .second, .val (.int i5)] [])) t → Steps p.tables e below (T0.setTop (mkF m 7 #[.val (.ref o0), .val (.int i1), .val (.int i2), .val (.long S), .second, .val (.int i5)] [])) t := by
  have pre0 : ∀ t, Steps p.tables e below (T0.setTop (mkF m 7 #[.val (.ref o0), .val (.int i1), .val (.int i2), .val (.long S), .second, .val (.int i5)] [])) t → Steps p.tables e below (T0.setTop (mkF m 7 #[.val (.ref o0), .val (.int i1), .val (.int i2), .val (.long S), .second, .val (.int i5)] [])) t := fun t k => k
  have pre1 : ∀ t, Steps p.tables e below (T0.setTop (mkF m 35 #[.val (.ref o0), .val (.int i1), .val (.int i2), .val (.long S), .second, .val (.int i5)] [])) t → Steps p.tables e below (T0.setTop (mkF m 7 #[.val (.ref o0), .val (.int i1), .val (.int i2), .val (.long S), .second, .val (.int i5)] [])) t := by
    intro t k
    refine pre0 t ?_
    show Steps p.tables e below (T0.setTop (mkF m 7 #[.val (.ref o0), .val (.int i1), .val (.int i2), .val (.long S), .second, .val (.int i5)] [])) _
    refine XS.iload X0.here hx rfl (hb hby d1_7) rfl ?_
    show Steps p.tables e below (T0.setTop (mkF m 9 #[.val (.ref o0), .val (.int i1), .val (.int i2), .val (.long S), .second, .val (.int i5)] [(.int i5)])) _
    refine XS.ifYes X0.here hx rfl (pc0 := 9) (pc' := 35) rfl (hb hby d1_9) rfl ((if0 _ _).trans (tlt hc9).1) (by decide) (by decide) ?_
    show Steps p.tables e below (T0.setTop (mkF m 35 #[.val (.ref o0), .val (.int i1), .val (.int i2), .val (.long S), .second, .val (.int i5)] [])) _
    exact k
  exact pre1
set_option maxRecDepth 65536 in
theorem own_loop {p : Program} {l : Launch} {e : Env} {R : Room} {s : State} {m : MethodId} {args : Array Value} {below : List Frame} {meth : Method} {c : Code} {T0 : State} {locs : List Loc} {cells slots : Nat} {Z : State} {a0 : Array Value} {h0 : Heap} (o0 : Addr) (f : Nat → Int32) (at_ : Nat) (i2 : Int32)
    (X0 : Stand p l e R s m args below meth c T0 locs cells slots) (hx : p.tables.exec = Jvm.exec) (hZ : Z.Warmed39 s.vm) (hw : ∀ d ∈ tables_1, d.before a0 Z = true) (hby : c.code = prog_52_method_5_code) (hml : c.maxLocals = 6) (hown : s.vm.findClass "com/example/alluvium/alluvium/binlog/LittleEndian" = some m.cls) (e0 : T0.heap = h0) (A0 : own_AI Z h0 o0 .byte (11 : Int32) f) :
    ∀ (k : Nat) (S : Int64), at_ + k ≤ 11 → ∀ t, Steps p.tables e below (T0.setTop (mkF m 35 #[.val (.ref o0), .val (.int (Int32.ofNat at_)), .val (.int i2), .val (.long (own_le f at_ k S)), .second, .val (.int (Int32.ofNat 0 - (1 : Int32)))] [])) t → Steps p.tables e below (T0.setTop (mkF m 7 #[.val (.ref o0), .val (.int (Int32.ofNat at_)), .val (.int i2), .val (.long S), .second, .val (.int (Int32.ofNat k - (1 : Int32)))] [])) t := by
  intro k
  induction k with
  | zero =>
    intro S hk t q
    exact own_leave o0 (Int32.ofNat at_) i2 (Int32.ofNat 0 - (1 : Int32)) S f X0 hx hZ hw hby hml hown e0 own_neg1 t q
  | succ k ih =>
    intro S hk t q
    have hn : (11 : Int32) = Int32.ofNat 11 := rfl
    have e1 : Int32.ofNat at_ + Int32.ofNat k = Int32.ofNat (at_ + k) := own_addN at_ k
    have tn := own_turn o0 (Int32.ofNat at_) i2 (Int32.ofNat k) S f X0 hx hZ hw hby hml hown e0 A0 (own_nn (by omega)) (by rw [e1]; exact own_nn (by omega)) (by rw [e1, hn]; exact own_ltN (by omega) (by omega)) t
    rw [e1, own_clamp (by omega), own_decm] at tn
    rw [own_dec]
    exact tn (ih _ (by omega) t q)
/-! body 1: unsigned -/
theorem d1_0 : decode prog_52_method_5_code 0 = .ok (.lconst 0, 1) := by decide +kernel
theorem d1_1 : decode prog_52_method_5_code 1 = .ok (.lstore_n 3, 1) := by decide +kernel
theorem d1_2 : decode prog_52_method_5_code 2 = .ok (.iload_n 2, 1) := by decide +kernel
theorem d1_3 : decode prog_52_method_5_code 3 = .ok (.iconst 1, 1) := by decide +kernel
theorem d1_4 : decode prog_52_method_5_code 4 = .ok (.isub, 1) := by decide +kernel
theorem d1_5 : decode prog_52_method_5_code 5 = .ok (.istore 5, 2) := by decide +kernel
theorem d1_35 : decode prog_52_method_5_code 35 = .ok (.lload_n 3, 1) := by decide +kernel
theorem d1_36 : decode prog_52_method_5_code 36 = .ok (.lreturn, 1) := by decide +kernel
theorem pn1 : plainName "com/example/alluvium/alluvium/binlog/LittleEndian" = true := by first | (simp [plainName, overriddenIn]; done) | decide +kernel
theorem ef1 (m : MethodId) (a1 : Addr) (p2 : Int32) (p3 : Int32) : entryFrame m #[(.ref a1), (.int p2), (.int p3)] 6 = mkF m 0 #[.val (.ref a1), .val (.int p2), .val (.int p3), .unset, .unset, .unset] [] := by first | (simp [entryFrame, mkF, argsToLocals, Value.category]; done) | rfl
def fn1 (p2 : Int32) (p3 : Int32) (f : Nat → Int32) : Int64 :=
  let v5 : Int32 := (p3 - (1 : Int32))
  (own_le f p2.toNatClampNeg p3.toNatClampNeg (0 : Int64))
def Q1 (Z : State) (a1 : Addr) (p2 : Int32) (p3 : Int32) (f : Nat → Int32) (h0 : Heap) (n0 : Nat) (v : Option Value) (h : Heap) (L : List Loc) : Prop := v = some (.long (fn1 p2 p3 f)) ∧ Fr n0 L ∧ h = h0
set_option maxRecDepth 65536 in
set_option maxHeartbeats 40000000 in
theorem rm1 (l : Launch) (Z : State) (a0 : Array Value) (hw : ∀ d ∈ tables_1, d.before a0 Z = true) (ws : List Jvm.Cond) (a1 : Addr) (p2 : Int32) (p3 : Int32) (f : Nat → Int32) (h0 : Heap) (n0 : Nat) (Z0 : n0 ≤ h0.size) (hp2 : ¬ p2 < 0) (hp3 : ¬ p3 < 0) (hbd : p2.toNatClampNeg + p3.toNatClampNeg ≤ 11) (A0 : own_AI Z h0 a1 .byte (11 : Int32) f) :
    MetFree l (⟨"com/example/alluvium/alluvium/binlog/LittleEndian", "unsigned", "([BII)J"⟩ : MethodName) (head1 (Jvm.Cond.code (⟨"com/example/alluvium/alluvium/binlog/LittleEndian", "unsigned", "([BII)J"⟩ : MethodName) prog_52_method_5_code 6 (some .long) :: ws) ({ frames := 0, cells := 0, slots := 0, locals := 0 } : Room)) (fun a U => a = #[(.ref a1), (.int p2), (.int p3)] ∧ Z.Warmed39 U.vm ∧ U.heap = h0) (fun _ _ _ _ _ => True) (fun _ U o U' => ∃ v L, o = .returned v ∧ Q1 Z a1 p2 p3 f h0 n0 v U'.heap L ∧ FrameEnd U o U' L ({ frames := 0, cells := 0, slots := 0, locals := 0 } : Room).cells ({ frames := 0, cells := 0, slots := 0, locals := 0 } : Room).slots) := by
  refine MetFree.of_bodySF (plainFor_of_name pn1) hisR ?_
  intro p e s m args below meth c s₁ Bd hml0 hP hK
  obtain ⟨rfl, hZ, hh⟩ := hP
  have hx := Bd.exec
  have hby := Bd.bytes
  have hml : c.maxLocals = 6 := hml0
  have hown : s.vm.findClass "com/example/alluvium/alluvium/binlog/LittleEndian" = some m.cls := findClass_of_methodNamed Bd.named
  have hnm := (name_of_methodNamed Bd.named Bd.method).1
  have X0 : Stand p l e ({ frames := 0, cells := 0, slots := 0, locals := 0 } : Room) s m #[(.ref a1), (.int p2), (.int p3)] below meth c s₁ [] 0 0 := Stand.of_body Bd
  have e0 : s₁.heap = h0 := by rw [← hh, Bd.state]; rfl
  have N0 := Fr.nil n0
  have pre0 : ∀ t, Steps p.tables e below (s₁.setTop (mkF m 0 #[.val (.ref a1), .val (.int p2), .val (.int p3), .unset, .unset, .unset] [])) t → Steps p.tables e below (s₁.setTop (entryFrame m #[(.ref a1), (.int p2), (.int p3)] 6)) t := fun t k => castTop (ef1 m a1 p2 p3) k
  obtain ⟨v5, hv5⟩ : ∃ z : Int32, z = (p3 - (1 : Int32)) := ⟨_, rfl⟩
  have pre1 : ∀ t, Steps p.tables e below (s₁.setTop (mkF m 7 #[.val (.ref a1), .val (.int p2), .val (.int p3), .val (.long (0 : Int64)), .second, .val (.int v5)] [])) t → Steps p.tables e below (s₁.setTop (entryFrame m #[(.ref a1), (.int p2), (.int p3)] 6)) t := by
    intro t k
    subst hv5
    refine pre0 t ?_
    show Steps p.tables e below (s₁.setTop (mkF m 0 #[.val (.ref a1), .val (.int p2), .val (.int p3), .unset, .unset, .unset] [])) _
    refine XS.lconst X0.here hx rfl (hb hby d1_0) ?_
    show Steps p.tables e below (s₁.setTop (mkF m 1 #[.val (.ref a1), .val (.int p2), .val (.int p3), .unset, .unset, .unset] [(.long (0 : Int64))])) _
    refine XS.lstoreN X0.here hx rfl (hb hby d1_1) rfl (l' := #[.val (.ref a1), .val (.int p2), .val (.int p3), .val (.long (0 : Int64)), .second, .unset]) rfl ?_
    show Steps p.tables e below (s₁.setTop (mkF m 2 #[.val (.ref a1), .val (.int p2), .val (.int p3), .val (.long (0 : Int64)), .second, .unset] [])) _
    refine XS.iloadN X0.here hx rfl (hb hby d1_2) rfl ?_
    show Steps p.tables e below (s₁.setTop (mkF m 3 #[.val (.ref a1), .val (.int p2), .val (.int p3), .val (.long (0 : Int64)), .second, .unset] [(.int p3)])) _
    refine XS.iconst X0.here hx rfl (hb hby d1_3) ?_
    show Steps p.tables e below (s₁.setTop (mkF m 4 #[.val (.ref a1), .val (.int p2), .val (.int p3), .val (.long (0 : Int64)), .second, .unset] [(.int (1 : Int32)), (.int p3)])) _
    refine XS.isub X0.here hx rfl (hb hby d1_4) rfl ?_
    show Steps p.tables e below (s₁.setTop (mkF m 5 #[.val (.ref a1), .val (.int p2), .val (.int p3), .val (.long (0 : Int64)), .second, .unset] [(.int (p3 - (1 : Int32)))])) _
    refine XS.istore X0.here hx rfl (hb hby d1_5) rfl (l' := #[.val (.ref a1), .val (.int p2), .val (.int p3), .val (.long (0 : Int64)), .second, .val (.int (p3 - (1 : Int32)))]) rfl ?_
    show Steps p.tables e below (s₁.setTop (mkF m 7 #[.val (.ref a1), .val (.int p2), .val (.int p3), .val (.long (0 : Int64)), .second, .val (.int (p3 - (1 : Int32)))] [])) _
    exact k
  have lp := own_loop a1 f p2.toNatClampNeg p3 X0 hx hZ hw hby hml hown e0 A0 p3.toNatClampNeg (0 : Int64) hbd
  rw [own_back hp2, own_back hp3, ← hv5] at lp
  have pre2 : ∀ t, Steps p.tables e below (s₁.setTop (mkF m 35 #[.val (.ref a1), .val (.int p2), .val (.int p3), .val (.long (own_le f p2.toNatClampNeg p3.toNatClampNeg (0 : Int64))), .second, .val (.int (Int32.ofNat 0 - (1 : Int32)))] [])) t → Steps p.tables e below (s₁.setTop (entryFrame m #[(.ref a1), (.int p2), (.int p3)] 6)) t := fun t k => pre1 t (lp t k)
  have pre3 : ∀ t, Steps p.tables e below (s₁.setTop (mkF m 36 #[.val (.ref a1), .val (.int p2), .val (.int p3), .val (.long (own_le f p2.toNatClampNeg p3.toNatClampNeg (0 : Int64))), .second, .val (.int (Int32.ofNat 0 - (1 : Int32)))] [(.long (own_le f p2.toNatClampNeg p3.toNatClampNeg (0 : Int64)))])) t → Steps p.tables e below (s₁.setTop (entryFrame m #[(.ref a1), (.int p2), (.int p3)] 6)) t := by
    intro t k
    refine pre2 t ?_
    refine XS.lloadN X0.here hx rfl (hb hby d1_35) rfl ?_
    show Steps p.tables e below (s₁.setTop (mkF m 36 #[.val (.ref a1), .val (.int p2), .val (.int p3), .val (.long (own_le f p2.toNatClampNeg p3.toNatClampNeg (0 : Int64))), .second, .val (.int (Int32.ofNat 0 - (1 : Int32)))] [(.long (own_le f p2.toNatClampNeg p3.toNatClampNeg (0 : Int64)))])) _
    exact k
  obtain ⟨fs, hr, hrun, hended, hW, hsame⟩ := X0.leave (v := some (.long (own_le f p2.toNatClampNeg p3.toNatClampNeg (0 : Int64)))) (fun h => by rw [Bd.returns] at h; cases h)
  refine ⟨_, _, pre3 _ ?_, hrun, hended, _, _, rfl, ?_, ⟨_, rfl⟩, hW, hsame.mono (by decide) (by decide)⟩
  · show Steps p.tables e below (s₁.setTop (mkF m 36 #[.val (.ref a1), .val (.int p2), .val (.int p3), .val (.long (own_le f p2.toNatClampNeg p3.toNatClampNeg (0 : Int64))), .second, .val (.int (Int32.ofNat 0 - (1 : Int32)))] [(.long (own_le f p2.toNatClampNeg p3.toNatClampNeg (0 : Int64)))])) _
    exact own_retJ X0 hx Bd.returns (hb hby d1_36) hr
  · show Q1 Z a1 p2 p3 f h0 n0 _ s₁.heap _
    rw [e0]
    refine ⟨?_, N0, rfl⟩
    subst hv5
    simp only [fn1]
/-! body 0: law -/
theorem pd0_0 : parseMethodDescriptor "([BII)J" = some ⟨[(.array .byte), .int, .int], some .long⟩ := by decide +kernel
theorem pn0 : plainName "com/example/alluvium/alluvium/binlog/LittleEndianUnsignedPinLaw" = true := by first | (simp [plainName, overriddenIn]; done) | decide +kernel
theorem ef0 (m : MethodId) (q1 : Int64) (p2 : Int32) (p3 : Int32) (p4 : Int32) : entryFrame m #[(.long q1), (.int p2), (.int p3), (.int p4)] maxLocals = mkF m 0 #[.val (.long q1), .second, .val (.int p2), .val (.int p3), .val (.int p4), .unset, .unset, .unset, .unset, .unset] [] := by first | (simp [entryFrame, mkF, argsToLocals, Value.category, maxLocals]; done) | rfl
def fn0 (q1 : Int64) (p2 : Int32) (p3 : Int32) (p4 : Int32) : Int32 :=
  let v6 : Int32 := ((p2 &&& (2147483647 : Int32)) % (3 : Int32))
  let v15 : Int32 := ((p3 &&& (2147483647 : Int32)) % (9 : Int32))
  let f29 : Nat → Int32 := (own_upd (fun _ => 0) (0 : Int32).toNatClampNeg (nar .byte (p4.toInt8.toInt32)))
  let f39 : Nat → Int32 := (own_upd f29 (1 : Int32).toNatClampNeg (nar .byte (((p4.toUInt32 >>> ((8 : Int32) &&& 31).toUInt32).toInt32).toInt8.toInt32)))
  let f49 : Nat → Int32 := (own_upd f39 (2 : Int32).toNatClampNeg (nar .byte (((p4.toUInt32 >>> ((16 : Int32) &&& 31).toUInt32).toInt32).toInt8.toInt32)))
  let f59 : Nat → Int32 := (own_upd f49 (3 : Int32).toNatClampNeg (nar .byte (((p4.toUInt32 >>> ((24 : Int32) &&& 31).toUInt32).toInt32).toInt8.toInt32)))
  let f66 : Nat → Int32 := (own_upd f59 (4 : Int32).toNatClampNeg (nar .byte (p4.toInt8.toInt32)))
  let f76 : Nat → Int32 := (own_upd f66 (5 : Int32).toNatClampNeg (nar .byte (((p4.toUInt32 >>> ((8 : Int32) &&& 31).toUInt32).toInt32).toInt8.toInt32)))
  let f87 : Nat → Int32 := (own_upd f76 (6 : Int32).toNatClampNeg (nar .byte (((p4.toUInt32 >>> ((16 : Int32) &&& 31).toUInt32).toInt32).toInt8.toInt32)))
  let f98 : Nat → Int32 := (own_upd f87 (7 : Int32).toNatClampNeg (nar .byte (((p4.toUInt32 >>> ((24 : Int32) &&& 31).toUInt32).toInt32).toInt8.toInt32)))
  let f106 : Nat → Int32 := (own_upd f98 (8 : Int32).toNatClampNeg (nar .byte (p4.toInt8.toInt32)))
  let f117 : Nat → Int32 := (own_upd f106 (9 : Int32).toNatClampNeg (nar .byte (((p4.toUInt32 >>> ((8 : Int32) &&& 31).toUInt32).toInt32).toInt8.toInt32)))
  let f128 : Nat → Int32 := (own_upd f117 (10 : Int32).toNatClampNeg (nar .byte (((p4.toUInt32 >>> ((16 : Int32) &&& 31).toUInt32).toInt32).toInt8.toInt32)))
  let f136 : Nat → Int32 := (own_upd f128 v6.toNatClampNeg (nar .byte ((q1.toInt32).toInt8.toInt32)))
  let f149 : Nat → Int32 := (own_upd f136 (v6 + (1 : Int32)).toNatClampNeg (nar .byte ((((q1.toUInt64 >>> ((8 : Int32) &&& 0x3f).toInt64.toUInt64).toInt64).toInt32).toInt8.toInt32)))
  let f162 : Nat → Int32 := (own_upd f149 (v6 + (2 : Int32)).toNatClampNeg (nar .byte ((((q1.toUInt64 >>> ((16 : Int32) &&& 0x3f).toInt64.toUInt64).toInt64).toInt32).toInt8.toInt32)))
  let f175 : Nat → Int32 := (own_upd f162 (v6 + (3 : Int32)).toNatClampNeg (nar .byte ((((q1.toUInt64 >>> ((24 : Int32) &&& 0x3f).toInt64.toUInt64).toInt64).toInt32).toInt8.toInt32)))
  let f188 : Nat → Int32 := (own_upd f175 (v6 + (4 : Int32)).toNatClampNeg (nar .byte ((((q1.toUInt64 >>> ((32 : Int32) &&& 0x3f).toInt64.toUInt64).toInt64).toInt32).toInt8.toInt32)))
  let f201 : Nat → Int32 := (own_upd f188 (v6 + (5 : Int32)).toNatClampNeg (nar .byte ((((q1.toUInt64 >>> ((40 : Int32) &&& 0x3f).toInt64.toUInt64).toInt64).toInt32).toInt8.toInt32)))
  let f215 : Nat → Int32 := (own_upd f201 (v6 + (6 : Int32)).toNatClampNeg (nar .byte ((((q1.toUInt64 >>> ((48 : Int32) &&& 0x3f).toInt64.toUInt64).toInt64).toInt32).toInt8.toInt32)))
  let f229 : Nat → Int32 := (own_upd f215 (v6 + (7 : Int32)).toNatClampNeg (nar .byte ((((q1.toUInt64 >>> ((56 : Int32) &&& 0x3f).toInt64.toUInt64).toInt64).toInt32).toInt8.toInt32)))
  let u2568 : Int64 := (if v15 = (8 : Int32) then q1 else (q1 &&& (((1 : Int64) <<< (((8 : Int32) * v15) &&& 0x3f).toInt64) - (1 : Int64))))
  let u276s0 : Int32 := (if (fn1 v6 v15 f229) = u2568 then (1 : Int32) else (0 : Int32))
  (nar .boolean u276s0)
/-! the plain law -/
theorem own_r3' {v p : Int32} (h : v = ((p &&& (2147483647 : Int32)) % (3 : Int32))) : 0 ≤ v.toInt ∧ v.toInt ≤ 2 := by
  have e : (3 : Int32).toInt = 3 := by decide
  have hm := Jvm.Kit.i32_mask p 2147483647 (k := 31) (by decide) (by decide)
  rw [h, Jvm.Kit.i32_rem_nonneg (by omega), e]; omega
theorem own_r9' {v p : Int32} (h : v = ((p &&& (2147483647 : Int32)) % (9 : Int32))) : 0 ≤ v.toInt ∧ v.toInt ≤ 8 := by
  have e : (9 : Int32).toInt = 9 := by decide
  have hm := Jvm.Kit.i32_mask p 2147483647 (k := 31) (by decide) (by decide)
  rw [h, Jvm.Kit.i32_rem_nonneg (by omega), e]; omega
theorem own_bd {v k : Int32} (h : 0 ≤ v.toInt ∧ v.toInt ≤ 2) (hk : 0 ≤ k.toInt ∧ k.toInt ≤ 7) : ¬ (v + k) < 0 ∧ (v + k) < (11 : Int32) := by
  have e0 : (0 : Int32).toInt = 0 := by decide
  have e11 : (11 : Int32).toInt = 11 := by decide
  rw [Int32.lt_iff_toInt_lt, Int32.lt_iff_toInt_lt, Jvm.Kit.i32_add (by omega) (by omega)]; omega
theorem own_r3 {v p : Int32} (h : v = ((p &&& (2147483647 : Int32)) % (3 : Int32))) : ¬ v < 0 ∧ v < (11 : Int32) := by
  have := own_r3' h
  have e0 : (0 : Int32).toInt = 0 := by decide
  have e11 : (11 : Int32).toInt = 11 := by decide
  rw [Int32.lt_iff_toInt_lt, Int32.lt_iff_toInt_lt]; omega
theorem own_r9 {v p : Int32} (h : v = ((p &&& (2147483647 : Int32)) % (9 : Int32))) : ¬ v < 0 ∧ v < (11 : Int32) := by
  have := own_r9' h
  have e0 : (0 : Int32).toInt = 0 := by decide
  have e11 : (11 : Int32).toInt = 11 := by decide
  rw [Int32.lt_iff_toInt_lt, Int32.lt_iff_toInt_lt]; omega
theorem own_sum {v w p q : Int32} (h : v = ((p &&& (2147483647 : Int32)) % (3 : Int32))) (h' : w = ((q &&& (2147483647 : Int32)) % (9 : Int32))) : v.toNatClampNeg + w.toNatClampNeg ≤ 11 := by
  have := own_r3' h
  have := own_r9' h'
  show v.toInt.toNat + w.toInt.toNat ≤ 11
  omega
theorem own_b1 {v p : Int32} (h : v = ((p &&& (2147483647 : Int32)) % (3 : Int32))) : ¬ (v + (1 : Int32)) < 0 ∧ (v + (1 : Int32)) < (11 : Int32) := own_bd (own_r3' h) (by decide)
theorem own_b2 {v p : Int32} (h : v = ((p &&& (2147483647 : Int32)) % (3 : Int32))) : ¬ (v + (2 : Int32)) < 0 ∧ (v + (2 : Int32)) < (11 : Int32) := own_bd (own_r3' h) (by decide)
theorem own_b3 {v p : Int32} (h : v = ((p &&& (2147483647 : Int32)) % (3 : Int32))) : ¬ (v + (3 : Int32)) < 0 ∧ (v + (3 : Int32)) < (11 : Int32) := own_bd (own_r3' h) (by decide)
theorem own_b4 {v p : Int32} (h : v = ((p &&& (2147483647 : Int32)) % (3 : Int32))) : ¬ (v + (4 : Int32)) < 0 ∧ (v + (4 : Int32)) < (11 : Int32) := own_bd (own_r3' h) (by decide)
theorem own_b5 {v p : Int32} (h : v = ((p &&& (2147483647 : Int32)) % (3 : Int32))) : ¬ (v + (5 : Int32)) < 0 ∧ (v + (5 : Int32)) < (11 : Int32) := own_bd (own_r3' h) (by decide)
theorem own_b6 {v p : Int32} (h : v = ((p &&& (2147483647 : Int32)) % (3 : Int32))) : ¬ (v + (6 : Int32)) < 0 ∧ (v + (6 : Int32)) < (11 : Int32) := own_bd (own_r3' h) (by decide)
theorem own_b7 {v p : Int32} (h : v = ((p &&& (2147483647 : Int32)) % (3 : Int32))) : ¬ (v + (7 : Int32)) < 0 ∧ (v + (7 : Int32)) < (11 : Int32) := own_bd (own_r3' h) (by decide)
def own_by (v : Int64) : Nat → Int32
  | 0 => nar .byte ((v.toInt32).toInt8.toInt32)
  | 1 => nar .byte ((((v.toUInt64 >>> ((8 : Int32) &&& 0x3f).toInt64.toUInt64).toInt64).toInt32).toInt8.toInt32)
  | 2 => nar .byte ((((v.toUInt64 >>> ((16 : Int32) &&& 0x3f).toInt64.toUInt64).toInt64).toInt32).toInt8.toInt32)
  | 3 => nar .byte ((((v.toUInt64 >>> ((24 : Int32) &&& 0x3f).toInt64.toUInt64).toInt64).toInt32).toInt8.toInt32)
  | 4 => nar .byte ((((v.toUInt64 >>> ((32 : Int32) &&& 0x3f).toInt64.toUInt64).toInt64).toInt32).toInt8.toInt32)
  | 5 => nar .byte ((((v.toUInt64 >>> ((40 : Int32) &&& 0x3f).toInt64.toUInt64).toInt64).toInt32).toInt8.toInt32)
  | 6 => nar .byte ((((v.toUInt64 >>> ((48 : Int32) &&& 0x3f).toInt64.toUInt64).toInt64).toInt32).toInt8.toInt32)
  | 7 => nar .byte ((((v.toUInt64 >>> ((56 : Int32) &&& 0x3f).toInt64.toUInt64).toInt64).toInt32).toInt8.toInt32)
  | _ => 0
theorem own_low (x : Int32) : ((nar .byte (x.toInt8.toInt32)) &&& (255 : Int32)).toInt64.toBitVec.toNat = x.toBitVec.toNat % 256 := by
  have h1 : (nar .byte (x.toInt8.toInt32)) = x.toInt8.toInt32 := by
    show (x.toInt8.toInt32).toInt8.toInt32 = _
    rw [Int8.toInt8_toInt32]
  have h2 : (x.toInt8.toInt32 &&& (255 : Int32)).toInt = x.toInt % 256 := by
    rw [Jvm.Kit.i32_mask _ 255 (k := 8) (by decide) (by decide), Int8.toInt_toInt32, Int32.toInt_toInt8]
    rw [Int.bmod_def]; omega
  have h3 : ((x.toInt8.toInt32 &&& (255 : Int32)).toInt64).toInt = x.toInt % 256 := by rw [Jvm.Kit.i64_of_i32, h2]
  have h4 : x.toInt = (x.toBitVec.toNat : Int).bmod (2 ^ 32) := BitVec.toInt_eq_toNat_bmod x.toBitVec
  have h5 : ((x.toInt8.toInt32 &&& (255 : Int32)).toInt64).toInt = (((x.toInt8.toInt32 &&& (255 : Int32)).toInt64).toBitVec.toNat : Int).bmod (2 ^ 64) := BitVec.toInt_eq_toNat_bmod _
  have h6 := x.toBitVec.isLt
  have h7 := ((x.toInt8.toInt32 &&& (255 : Int32)).toInt64).toBitVec.isLt
  rw [h1]
  rw [h5, h4, Int.bmod_def, Int.bmod_def] at h3
  omega
theorem own_l2i (v : Int64) : v.toInt32.toBitVec.toNat = v.toBitVec.toNat % 4294967296 := by
  have : v.toInt32.toBitVec = v.toBitVec.setWidth 32 := by
    apply BitVec.eq_of_toInt_eq
    have q : v.toInt32.toInt = v.toInt.bmod (2 ^ 32) := Int64.toInt_toInt32 v
    show v.toInt32.toInt = _
    rw [q]
    show v.toBitVec.toInt.bmod _ = _
    rw [BitVec.toInt_setWidth, BitVec.toInt_eq_toNat_bmod, Int.bmod_bmod_of_dvd (by decide)]
  rw [this, BitVec.toNat_setWidth]
theorem own_y0 (v : Int64) : ((own_by v 0) &&& (255 : Int32)).toInt64.toBitVec.toNat = v.toBitVec.toNat % 256 := by
  show ((nar .byte ((v.toInt32).toInt8.toInt32)) &&& (255 : Int32)).toInt64.toBitVec.toNat = _
  rw [own_low, own_l2i]; omega
theorem own_y1 (v : Int64) : ((own_by v 1) &&& (255 : Int32)).toInt64.toBitVec.toNat = v.toBitVec.toNat / 256 % 256 := by
  have e : (((8 : Int32) &&& 0x3f).toInt64.toUInt64).toNat % 64 = 8 := by decide
  have q : ((v.toUInt64 >>> ((8 : Int32) &&& 0x3f).toInt64.toUInt64).toInt64).toBitVec.toNat = v.toBitVec.toNat / 256 := by
    show (v.toUInt64 >>> ((8 : Int32) &&& 0x3f).toInt64.toUInt64).toNat = _
    rw [UInt64.toNat_shiftRight, e, Nat.shiftRight_eq_div_pow]; rfl
  show ((nar .byte ((((v.toUInt64 >>> ((8 : Int32) &&& 0x3f).toInt64.toUInt64).toInt64).toInt32).toInt8.toInt32)) &&& (255 : Int32)).toInt64.toBitVec.toNat = _
  rw [own_low, own_l2i, q]; omega
theorem own_y2 (v : Int64) : ((own_by v 2) &&& (255 : Int32)).toInt64.toBitVec.toNat = v.toBitVec.toNat / 65536 % 256 := by
  have e : (((16 : Int32) &&& 0x3f).toInt64.toUInt64).toNat % 64 = 16 := by decide
  have q : ((v.toUInt64 >>> ((16 : Int32) &&& 0x3f).toInt64.toUInt64).toInt64).toBitVec.toNat = v.toBitVec.toNat / 65536 := by
    show (v.toUInt64 >>> ((16 : Int32) &&& 0x3f).toInt64.toUInt64).toNat = _
    rw [UInt64.toNat_shiftRight, e, Nat.shiftRight_eq_div_pow]; rfl
  show ((nar .byte ((((v.toUInt64 >>> ((16 : Int32) &&& 0x3f).toInt64.toUInt64).toInt64).toInt32).toInt8.toInt32)) &&& (255 : Int32)).toInt64.toBitVec.toNat = _
  rw [own_low, own_l2i, q]; omega
theorem own_y3 (v : Int64) : ((own_by v 3) &&& (255 : Int32)).toInt64.toBitVec.toNat = v.toBitVec.toNat / 16777216 % 256 := by
  have e : (((24 : Int32) &&& 0x3f).toInt64.toUInt64).toNat % 64 = 24 := by decide
  have q : ((v.toUInt64 >>> ((24 : Int32) &&& 0x3f).toInt64.toUInt64).toInt64).toBitVec.toNat = v.toBitVec.toNat / 16777216 := by
    show (v.toUInt64 >>> ((24 : Int32) &&& 0x3f).toInt64.toUInt64).toNat = _
    rw [UInt64.toNat_shiftRight, e, Nat.shiftRight_eq_div_pow]; rfl
  show ((nar .byte ((((v.toUInt64 >>> ((24 : Int32) &&& 0x3f).toInt64.toUInt64).toInt64).toInt32).toInt8.toInt32)) &&& (255 : Int32)).toInt64.toBitVec.toNat = _
  rw [own_low, own_l2i, q]; omega
theorem own_y4 (v : Int64) : ((own_by v 4) &&& (255 : Int32)).toInt64.toBitVec.toNat = v.toBitVec.toNat / 4294967296 % 256 := by
  have e : (((32 : Int32) &&& 0x3f).toInt64.toUInt64).toNat % 64 = 32 := by decide
  have q : ((v.toUInt64 >>> ((32 : Int32) &&& 0x3f).toInt64.toUInt64).toInt64).toBitVec.toNat = v.toBitVec.toNat / 4294967296 := by
    show (v.toUInt64 >>> ((32 : Int32) &&& 0x3f).toInt64.toUInt64).toNat = _
    rw [UInt64.toNat_shiftRight, e, Nat.shiftRight_eq_div_pow]; rfl
  show ((nar .byte ((((v.toUInt64 >>> ((32 : Int32) &&& 0x3f).toInt64.toUInt64).toInt64).toInt32).toInt8.toInt32)) &&& (255 : Int32)).toInt64.toBitVec.toNat = _
  rw [own_low, own_l2i, q]; omega
theorem own_y5 (v : Int64) : ((own_by v 5) &&& (255 : Int32)).toInt64.toBitVec.toNat = v.toBitVec.toNat / 1099511627776 % 256 := by
  have e : (((40 : Int32) &&& 0x3f).toInt64.toUInt64).toNat % 64 = 40 := by decide
  have q : ((v.toUInt64 >>> ((40 : Int32) &&& 0x3f).toInt64.toUInt64).toInt64).toBitVec.toNat = v.toBitVec.toNat / 1099511627776 := by
    show (v.toUInt64 >>> ((40 : Int32) &&& 0x3f).toInt64.toUInt64).toNat = _
    rw [UInt64.toNat_shiftRight, e, Nat.shiftRight_eq_div_pow]; rfl
  show ((nar .byte ((((v.toUInt64 >>> ((40 : Int32) &&& 0x3f).toInt64.toUInt64).toInt64).toInt32).toInt8.toInt32)) &&& (255 : Int32)).toInt64.toBitVec.toNat = _
  rw [own_low, own_l2i, q]; omega
theorem own_y6 (v : Int64) : ((own_by v 6) &&& (255 : Int32)).toInt64.toBitVec.toNat = v.toBitVec.toNat / 281474976710656 % 256 := by
  have e : (((48 : Int32) &&& 0x3f).toInt64.toUInt64).toNat % 64 = 48 := by decide
  have q : ((v.toUInt64 >>> ((48 : Int32) &&& 0x3f).toInt64.toUInt64).toInt64).toBitVec.toNat = v.toBitVec.toNat / 281474976710656 := by
    show (v.toUInt64 >>> ((48 : Int32) &&& 0x3f).toInt64.toUInt64).toNat = _
    rw [UInt64.toNat_shiftRight, e, Nat.shiftRight_eq_div_pow]; rfl
  show ((nar .byte ((((v.toUInt64 >>> ((48 : Int32) &&& 0x3f).toInt64.toUInt64).toInt64).toInt32).toInt8.toInt32)) &&& (255 : Int32)).toInt64.toBitVec.toNat = _
  rw [own_low, own_l2i, q]; omega
theorem own_y7 (v : Int64) : ((own_by v 7) &&& (255 : Int32)).toInt64.toBitVec.toNat = v.toBitVec.toNat / 72057594037927936 % 256 := by
  have e : (((56 : Int32) &&& 0x3f).toInt64.toUInt64).toNat % 64 = 56 := by decide
  have q : ((v.toUInt64 >>> ((56 : Int32) &&& 0x3f).toInt64.toUInt64).toInt64).toBitVec.toNat = v.toBitVec.toNat / 72057594037927936 := by
    show (v.toUInt64 >>> ((56 : Int32) &&& 0x3f).toInt64.toUInt64).toNat = _
    rw [UInt64.toNat_shiftRight, e, Nat.shiftRight_eq_div_pow]; rfl
  show ((nar .byte ((((v.toUInt64 >>> ((56 : Int32) &&& 0x3f).toInt64.toUInt64).toInt64).toInt32).toInt8.toInt32)) &&& (255 : Int32)).toInt64.toBitVec.toNat = _
  rw [own_low, own_l2i, q]; omega
theorem own_stepN (S : Int64) (b : Int64) (hS : S.toBitVec.toNat < 72057594037927936) (hb : b.toBitVec.toNat < 256) : ((S <<< ((8 : Int32) &&& 0x3f).toInt64) ||| b).toBitVec.toNat = S.toBitVec.toNat * 256 + b.toBitVec.toNat := by
  have e : (((8 : Int32) &&& 0x3f).toInt64).toBitVec.smod 64 = 8#64 := by decide
  rw [Int64.toBitVec_or, Int64.toBitVec_shiftLeft, e, BitVec.toNat_or]
  have s : (S.toBitVec <<< 8#64).toNat = S.toBitVec.toNat <<< 8 := by
    show (S.toBitVec <<< (8#64).toNat).toNat = _
    rw [BitVec.toNat_shiftLeft]
    have : (8#64).toNat = 8 := rfl
    rw [this, Nat.shiftLeft_eq, Nat.mod_eq_of_lt (by omega)]
  rw [s, Nat.shiftLeft_eq]
  have := Nat.two_pow_add_eq_or_of_lt (i := 8) (b := b.toBitVec.toNat) (by omega) S.toBitVec.toNat
  rw [Nat.mul_comm] at this
  exact this.symm
def own_leN (B : Nat → Nat) : Nat → Nat → Nat
  | 0, S => S
  | k + 1, S => own_leN B k (S * 256 + B k)
theorem own_le_leN (f : Nat → Int32) (at_ : Nat) (B : Nat → Nat) (n : Nat) (hB : ∀ k, k < n → ((f (at_ + k)) &&& (255 : Int32)).toInt64.toBitVec.toNat = B k ∧ B k < 256) :
    ∀ (k : Nat) (S : Int64), k ≤ n → k ≤ 8 → S.toBitVec.toNat < 2 ^ (64 - 8 * k) → (own_le f at_ k S).toBitVec.toNat = own_leN B k S.toBitVec.toNat := by
  intro k
  induction k with
  | zero => intro S _ _ _; rfl
  | succ k ih =>
    intro S h1 h2 hS
    obtain ⟨hb, hb2⟩ := hB k (by omega)
    have p1 : 2 ^ (64 - 8 * (k + 1)) ≤ 2 ^ 56 := Nat.pow_le_pow_right (by decide) (by omega)
    have p2 : 2 ^ (64 - 8 * k) = 2 ^ (64 - 8 * (k + 1)) * 256 := by
      have : 64 - 8 * k = (64 - 8 * (k + 1)) + 8 := by omega
      rw [this, Nat.pow_add]
    have st := own_stepN S ((f (at_ + k)) &&& (255 : Int32)).toInt64 (by omega) (by omega)
    have : own_le f at_ (k + 1) S = own_le f at_ k ((S <<< ((8 : Int32) &&& 0x3f).toInt64) ||| ((f (at_ + k) &&& (255 : Int32)).toInt64)) := rfl
    rw [this, ih _ (by omega) (by omega) (by rw [st, hb]; omega), st, hb]
    rfl
theorem own_rng3 {v : Int32} (h : 0 ≤ v.toInt ∧ v.toInt ≤ 2) : v = 0 ∨ v = 1 ∨ v = 2 := by
  have e : ∀ k : Int32, v = k ↔ v.toInt = k.toInt := fun k => Int32.toInt_inj.symm
  simp only [e]
  have z0 : (0 : Int32).toInt = 0 := by decide
  have z1 : (1 : Int32).toInt = 1 := by decide
  have z2 : (2 : Int32).toInt = 2 := by decide
  omega
theorem own_rng9 {v : Int32} (h : 0 ≤ v.toInt ∧ v.toInt ≤ 8) : v = 0 ∨ v = 1 ∨ v = 2 ∨ v = 3 ∨ v = 4 ∨ v = 5 ∨ v = 6 ∨ v = 7 ∨ v = 8 := by
  have e : ∀ k : Int32, v = k ↔ v.toInt = k.toInt := fun k => Int32.toInt_inj.symm
  simp only [e]
  have z0 : (0 : Int32).toInt = 0 := by decide
  have z1 : (1 : Int32).toInt = 1 := by decide
  have z2 : (2 : Int32).toInt = 2 := by decide
  have z3 : (3 : Int32).toInt = 3 := by decide
  have z4 : (4 : Int32).toInt = 4 := by decide
  have z5 : (5 : Int32).toInt = 5 := by decide
  have z6 : (6 : Int32).toInt = 6 := by decide
  have z7 : (7 : Int32).toInt = 7 := by decide
  have z8 : (8 : Int32).toInt = 8 := by decide
  omega
def own_ch (f : Nat → Int32) (v : Int64) (a : Int32) : Nat → Int32 :=
  own_upd (own_upd (own_upd (own_upd (own_upd (own_upd (own_upd (own_upd f a.toNatClampNeg (own_by v 0)) (a + (1 : Int32)).toNatClampNeg (own_by v 1)) (a + (2 : Int32)).toNatClampNeg (own_by v 2)) (a + (3 : Int32)).toNatClampNeg (own_by v 3)) (a + (4 : Int32)).toNatClampNeg (own_by v 4)) (a + (5 : Int32)).toNatClampNeg (own_by v 5)) (a + (6 : Int32)).toNatClampNeg (own_by v 6)) (a + (7 : Int32)).toNatClampNeg (own_by v 7)
theorem own_lt8 {k : Nat} (h : k < 8) : k = 0 ∨ k = 1 ∨ k = 2 ∨ k = 3 ∨ k = 4 ∨ k = 5 ∨ k = 6 ∨ k = 7 := by omega
theorem own_cl (a k : Int32) (n : Nat) (h : 0 ≤ a.toInt ∧ a.toInt ≤ 2) (hk : k.toInt = n) (hn : n ≤ 7) : (a + k).toNatClampNeg = a.toNatClampNeg + n := by
  show (a + k).toInt.toNat = a.toInt.toNat + n
  rw [Jvm.Kit.i32_add (by omega) (by omega)]; omega
theorem own_at (f : Nat → Int32) (v : Int64) (a : Int32) (h : 0 ≤ a.toInt ∧ a.toInt ≤ 2) (k : Nat) (hk : k < 8) : own_ch f v a (a.toNatClampNeg + k) = own_by v k := by
  unfold own_ch
  rw [own_cl a 1 1 h (by decide) (by decide), own_cl a 2 2 h (by decide) (by decide), own_cl a 3 3 h (by decide) (by decide), own_cl a 4 4 h (by decide) (by decide), own_cl a 5 5 h (by decide) (by decide), own_cl a 6 6 h (by decide) (by decide), own_cl a 7 7 h (by decide) (by decide)]
  generalize a.toNatClampNeg = n
  simp only [own_upd]
  rcases (own_lt8 hk) with rfl | rfl | rfl | rfl | rfl | rfl | rfl | rfl
  · rw [if_neg (show ¬ n + 0 = n + 7 by omega), if_neg (show ¬ n + 0 = n + 6 by omega), if_neg (show ¬ n + 0 = n + 5 by omega), if_neg (show ¬ n + 0 = n + 4 by omega), if_neg (show ¬ n + 0 = n + 3 by omega), if_neg (show ¬ n + 0 = n + 2 by omega), if_neg (show ¬ n + 0 = n + 1 by omega), if_pos (show n + 0 = n by omega)]
  · rw [if_neg (show ¬ n + 1 = n + 7 by omega), if_neg (show ¬ n + 1 = n + 6 by omega), if_neg (show ¬ n + 1 = n + 5 by omega), if_neg (show ¬ n + 1 = n + 4 by omega), if_neg (show ¬ n + 1 = n + 3 by omega), if_neg (show ¬ n + 1 = n + 2 by omega), if_pos (rfl : n + 1 = n + 1)]
  · rw [if_neg (show ¬ n + 2 = n + 7 by omega), if_neg (show ¬ n + 2 = n + 6 by omega), if_neg (show ¬ n + 2 = n + 5 by omega), if_neg (show ¬ n + 2 = n + 4 by omega), if_neg (show ¬ n + 2 = n + 3 by omega), if_pos (rfl : n + 2 = n + 2)]
  · rw [if_neg (show ¬ n + 3 = n + 7 by omega), if_neg (show ¬ n + 3 = n + 6 by omega), if_neg (show ¬ n + 3 = n + 5 by omega), if_neg (show ¬ n + 3 = n + 4 by omega), if_pos (rfl : n + 3 = n + 3)]
  · rw [if_neg (show ¬ n + 4 = n + 7 by omega), if_neg (show ¬ n + 4 = n + 6 by omega), if_neg (show ¬ n + 4 = n + 5 by omega), if_pos (rfl : n + 4 = n + 4)]
  · rw [if_neg (show ¬ n + 5 = n + 7 by omega), if_neg (show ¬ n + 5 = n + 6 by omega), if_pos (rfl : n + 5 = n + 5)]
  · rw [if_neg (show ¬ n + 6 = n + 7 by omega), if_pos (rfl : n + 6 = n + 6)]
  · rw [if_pos (rfl : n + 7 = n + 7)]
def own_B (V : Nat) : Nat → Nat
  | 0 => V % 256
  | 1 => V / 256 % 256
  | 2 => V / 65536 % 256
  | 3 => V / 16777216 % 256
  | 4 => V / 4294967296 % 256
  | 5 => V / 1099511627776 % 256
  | 6 => V / 281474976710656 % 256
  | 7 => V / 72057594037927936 % 256
  | _ => 0
theorem own_Bok (v : Int64) (k : Nat) (hk : k < 8) : ((own_by v k) &&& (255 : Int32)).toInt64.toBitVec.toNat = own_B v.toBitVec.toNat k ∧ own_B v.toBitVec.toNat k < 256 := by
  rcases (own_lt8 hk) with rfl | rfl | rfl | rfl | rfl | rfl | rfl | rfl
  · exact ⟨own_y0 v, Nat.mod_lt _ (by decide)⟩
  · exact ⟨own_y1 v, Nat.mod_lt _ (by decide)⟩
  · exact ⟨own_y2 v, Nat.mod_lt _ (by decide)⟩
  · exact ⟨own_y3 v, Nat.mod_lt _ (by decide)⟩
  · exact ⟨own_y4 v, Nat.mod_lt _ (by decide)⟩
  · exact ⟨own_y5 v, Nat.mod_lt _ (by decide)⟩
  · exact ⟨own_y6 v, Nat.mod_lt _ (by decide)⟩
  · exact ⟨own_y7 v, Nat.mod_lt _ (by decide)⟩
theorem own_n0 (V : Nat) (hV : V < 18446744073709551616) : own_leN (own_B V) 0 0 = V % 1 := by
  show 0 = _
  omega
theorem own_n1 (V : Nat) (hV : V < 18446744073709551616) : own_leN (own_B V) 1 0 = V % 256 := by
  show (0 * 256 + V % 256) = _
  omega
theorem own_n2 (V : Nat) (hV : V < 18446744073709551616) : own_leN (own_B V) 2 0 = V % 65536 := by
  show ((0 * 256 + V / 256 % 256) * 256 + V % 256) = _
  omega
theorem own_n3 (V : Nat) (hV : V < 18446744073709551616) : own_leN (own_B V) 3 0 = V % 16777216 := by
  show (((0 * 256 + V / 65536 % 256) * 256 + V / 256 % 256) * 256 + V % 256) = _
  omega
theorem own_n4 (V : Nat) (hV : V < 18446744073709551616) : own_leN (own_B V) 4 0 = V % 4294967296 := by
  show ((((0 * 256 + V / 16777216 % 256) * 256 + V / 65536 % 256) * 256 + V / 256 % 256) * 256 + V % 256) = _
  omega
theorem own_n5 (V : Nat) (hV : V < 18446744073709551616) : own_leN (own_B V) 5 0 = V % 1099511627776 := by
  show (((((0 * 256 + V / 4294967296 % 256) * 256 + V / 16777216 % 256) * 256 + V / 65536 % 256) * 256 + V / 256 % 256) * 256 + V % 256) = _
  omega
theorem own_n6 (V : Nat) (hV : V < 18446744073709551616) : own_leN (own_B V) 6 0 = V % 281474976710656 := by
  show ((((((0 * 256 + V / 1099511627776 % 256) * 256 + V / 4294967296 % 256) * 256 + V / 16777216 % 256) * 256 + V / 65536 % 256) * 256 + V / 256 % 256) * 256 + V % 256) = _
  omega
theorem own_n7 (V : Nat) (hV : V < 18446744073709551616) : own_leN (own_B V) 7 0 = V % 72057594037927936 := by
  show (((((((0 * 256 + V / 281474976710656 % 256) * 256 + V / 1099511627776 % 256) * 256 + V / 4294967296 % 256) * 256 + V / 16777216 % 256) * 256 + V / 65536 % 256) * 256 + V / 256 % 256) * 256 + V % 256) = _
  omega
theorem own_n8 (V : Nat) (hV : V < 18446744073709551616) : own_leN (own_B V) 8 0 = V % 18446744073709551616 := by
  show ((((((((0 * 256 + V / 72057594037927936 % 256) * 256 + V / 281474976710656 % 256) * 256 + V / 1099511627776 % 256) * 256 + V / 4294967296 % 256) * 256 + V / 16777216 % 256) * 256 + V / 65536 % 256) * 256 + V / 256 % 256) * 256 + V % 256) = _
  omega
theorem own_mask (v m : Int64) (k : Nat) (hm : m.toBitVec.toNat = 2 ^ k - 1) : (v &&& m).toBitVec.toNat = v.toBitVec.toNat % 2 ^ k := by
  rw [Int64.toBitVec_and, BitVec.toNat_and, hm, Nat.and_two_pow_sub_one_eq_mod]
theorem own_res (v : Int64) (f : Nat → Int32) (a w : Int32) (ha : 0 ≤ a.toInt ∧ a.toInt ≤ 2) (hw : 0 ≤ w.toInt ∧ w.toInt ≤ 8) : fn1 a w (own_ch f v a) = (if w = (8 : Int32) then v else (v &&& (((1 : Int64) <<< (((8 : Int32) * w) &&& 0x3f).toInt64) - (1 : Int64)))) := by
  have hB : ∀ k, k < 8 → ((own_ch f v a (a.toNatClampNeg + k)) &&& (255 : Int32)).toInt64.toBitVec.toNat = own_B v.toBitVec.toNat k ∧ own_B v.toBitVec.toNat k < 256 := fun k hk => by
    rw [own_at f v a ha k hk]; exact own_Bok v k hk
  have hl := own_le_leN (own_ch f v a) a.toNatClampNeg (own_B v.toBitVec.toNat) 8 hB
  have hV : v.toBitVec.toNat < 18446744073709551616 := v.toBitVec.isLt
  have e : ∀ w : Int32, fn1 a w (own_ch f v a) = own_le (own_ch f v a) a.toNatClampNeg w.toNatClampNeg 0 := fun _ => rfl
  rw [e]
  have hz : ∀ k, k ≤ 8 → (own_le (own_ch f v a) a.toNatClampNeg k 0).toBitVec.toNat = own_leN (own_B v.toBitVec.toNat) k 0 := fun k hk => hl k 0 hk hk (Nat.pow_pos (by decide))
  rcases own_rng9 hw with rfl | rfl | rfl | rfl | rfl | rfl | rfl | rfl | rfl
  · rw [if_neg (by decide)]
    apply Int64.toBitVec_inj.mp; apply BitVec.eq_of_toNat_eq
    rw [own_mask v _ 0 (by decide)]
    exact (hz 0 (by decide)).trans (own_n0 _ hV)
  · rw [if_neg (by decide)]
    apply Int64.toBitVec_inj.mp; apply BitVec.eq_of_toNat_eq
    rw [own_mask v _ 8 (by decide)]
    exact (hz 1 (by decide)).trans (own_n1 _ hV)
  · rw [if_neg (by decide)]
    apply Int64.toBitVec_inj.mp; apply BitVec.eq_of_toNat_eq
    rw [own_mask v _ 16 (by decide)]
    exact (hz 2 (by decide)).trans (own_n2 _ hV)
  · rw [if_neg (by decide)]
    apply Int64.toBitVec_inj.mp; apply BitVec.eq_of_toNat_eq
    rw [own_mask v _ 24 (by decide)]
    exact (hz 3 (by decide)).trans (own_n3 _ hV)
  · rw [if_neg (by decide)]
    apply Int64.toBitVec_inj.mp; apply BitVec.eq_of_toNat_eq
    rw [own_mask v _ 32 (by decide)]
    exact (hz 4 (by decide)).trans (own_n4 _ hV)
  · rw [if_neg (by decide)]
    apply Int64.toBitVec_inj.mp; apply BitVec.eq_of_toNat_eq
    rw [own_mask v _ 40 (by decide)]
    exact (hz 5 (by decide)).trans (own_n5 _ hV)
  · rw [if_neg (by decide)]
    apply Int64.toBitVec_inj.mp; apply BitVec.eq_of_toNat_eq
    rw [own_mask v _ 48 (by decide)]
    exact (hz 6 (by decide)).trans (own_n6 _ hV)
  · rw [if_neg (by decide)]
    apply Int64.toBitVec_inj.mp; apply BitVec.eq_of_toNat_eq
    rw [own_mask v _ 56 (by decide)]
    exact (hz 7 (by decide)).trans (own_n7 _ hV)
  · rw [if_pos rfl]
    apply Int64.toBitVec_inj.mp; apply BitVec.eq_of_toNat_eq
    exact ((hz 8 (by decide)).trans (own_n8 _ hV)).trans (Nat.mod_eq_of_lt hV)
theorem own_law (q1 : Int64) (p2 p3 p4 : Int32) : fn0 q1 p2 p3 p4 = 1 := by
  simp only [fn0]
  refine (congrArg (nar .boolean) (if_pos ?_)).trans rfl
  exact own_res q1 _ ((p2 &&& (2147483647 : Int32)) % (3 : Int32)) ((p3 &&& (2147483647 : Int32)) % (9 : Int32)) (own_r3' rfl) (own_r9' rfl)
def Q0 (Z : State) (q1 : Int64) (p2 : Int32) (p3 : Int32) (p4 : Int32) (h0 : Heap) (n0 : Nat) (v : Option Value) (h : Heap) (L : List Loc) : Prop := v = some (.int (fn0 q1 p2 p3 p4)) ∧ Fr n0 L
set_option maxRecDepth 65536 in
set_option maxHeartbeats 40000000 in
theorem rm0 (l : Launch) (Z : State) (a0 : Array Value) (hw : ∀ d ∈ tables_1, d.before a0 Z = true) (ws : List Jvm.Cond) (q1 : Int64) (p2 : Int32) (p3 : Int32) (p4 : Int32) (h0 : Heap) (n0 : Nat) (Z0 : n0 ≤ h0.size) :
    MetFree l x (head1 (Jvm.Cond.code x code maxLocals ret :: ws) room_1) (fun a U => a = #[(.long q1), (.int p2), (.int p3), (.int p4)] ∧ Z.Warmed39 U.vm ∧ U.heap = h0) (fun _ _ _ _ _ => True) (fun _ U o U' => ∃ v L, o = .returned v ∧ Q0 Z q1 p2 p3 p4 h0 n0 v U'.heap L ∧ FrameEnd U o U' L room_1.cells room_1.slots) := by
  refine MetFree.of_bodySF (plainFor_of_name pn0) hisR ?_
  intro p e s m args below meth c s₁ Bd hml0 hP hK
  obtain ⟨rfl, hZ, hh⟩ := hP
  have hx := Bd.exec
  have hby := Bd.bytes
  have hml : c.maxLocals = 10 := hml0
  have hown : s.vm.findClass "com/example/alluvium/alluvium/binlog/LittleEndianUnsignedPinLaw" = some m.cls := findClass_of_methodNamed Bd.named
  have hnm := (name_of_methodNamed Bd.named Bd.method).1
  have X0 : Stand p l e room_1 s m #[(.long q1), (.int p2), (.int p3), (.int p4)] below meth c s₁ [] 0 0 := Stand.of_body Bd
  have e0 : s₁.heap = h0 := by rw [← hh, Bd.state]; rfl
  have N0 := Fr.nil n0
  have pre0 : ∀ t, Steps p.tables e below (s₁.setTop (mkF m 0 #[.val (.long q1), .second, .val (.int p2), .val (.int p3), .val (.int p4), .unset, .unset, .unset, .unset, .unset] [])) t → Steps p.tables e below (s₁.setTop (entryFrame m #[(.long q1), (.int p2), (.int p3), (.int p4)] maxLocals)) t := fun t k => castTop (ef0 m q1 p2 p3 p4) k
  obtain ⟨v6, hv6⟩ : ∃ z : Int32, z = ((p2 &&& (2147483647 : Int32)) % (3 : Int32)) := ⟨_, rfl⟩
  have pre1 : ∀ t, Steps p.tables e below (s₁.setTop (mkF m 8 #[.val (.long q1), .second, .val (.int p2), .val (.int p3), .val (.int p4), .val (.int v6), .unset, .unset, .unset, .unset] [])) t → Steps p.tables e below (s₁.setTop (entryFrame m #[(.long q1), (.int p2), (.int p3), (.int p4)] maxLocals)) t := by
    intro t k
    subst hv6
    refine pre0 t ?_
    show Steps p.tables e below (s₁.setTop (mkF m 0 #[.val (.long q1), .second, .val (.int p2), .val (.int p3), .val (.int p4), .unset, .unset, .unset, .unset, .unset] [])) _
    refine XS.iloadN X0.here hx rfl (hb hby at_0) rfl ?_
    show Steps p.tables e below (s₁.setTop (mkF m 1 #[.val (.long q1), .second, .val (.int p2), .val (.int p3), .val (.int p4), .unset, .unset, .unset, .unset, .unset] [(.int p2)])) _
    refine X0.ldcInt hx hown (mvT hZ (hw _ (List.mem_of_getElem? (i := 0) rfl))) (g := (mkF m 1 #[.val (.long q1), .second, .val (.int p2), .val (.int p3), .val (.int p4), .unset, .unset, .unset, .unset, .unset] [(.int p2)])) rfl (hb hby at_1) _ ?_
    show Steps p.tables e below (s₁.setTop (mkF m 3 #[.val (.long q1), .second, .val (.int p2), .val (.int p3), .val (.int p4), .unset, .unset, .unset, .unset, .unset] [(.int (2147483647 : Int32)), (.int p2)])) _
    refine XS.iand X0.here hx rfl (hb hby at_3) rfl ?_
    show Steps p.tables e below (s₁.setTop (mkF m 4 #[.val (.long q1), .second, .val (.int p2), .val (.int p3), .val (.int p4), .unset, .unset, .unset, .unset, .unset] [(.int (p2 &&& (2147483647 : Int32)))])) _
    refine XS.iconst X0.here hx rfl (hb hby at_4) ?_
    show Steps p.tables e below (s₁.setTop (mkF m 5 #[.val (.long q1), .second, .val (.int p2), .val (.int p3), .val (.int p4), .unset, .unset, .unset, .unset, .unset] [(.int (3 : Int32)), (.int (p2 &&& (2147483647 : Int32)))])) _
    refine iremM X0 hx rfl (hb hby at_5) rfl (by decide) ?_
    show Steps p.tables e below (s₁.setTop (mkF m 6 #[.val (.long q1), .second, .val (.int p2), .val (.int p3), .val (.int p4), .unset, .unset, .unset, .unset, .unset] [(.int ((p2 &&& (2147483647 : Int32)) % (3 : Int32)))])) _
    refine XS.istore X0.here hx rfl (hb hby at_6) rfl (l' := #[.val (.long q1), .second, .val (.int p2), .val (.int p3), .val (.int p4), .val (.int ((p2 &&& (2147483647 : Int32)) % (3 : Int32))), .unset, .unset, .unset, .unset]) rfl ?_
    show Steps p.tables e below (s₁.setTop (mkF m 8 #[.val (.long q1), .second, .val (.int p2), .val (.int p3), .val (.int p4), .val (.int ((p2 &&& (2147483647 : Int32)) % (3 : Int32))), .unset, .unset, .unset, .unset] [])) _
    exact k
  obtain ⟨v15, hv15⟩ : ∃ z : Int32, z = ((p3 &&& (2147483647 : Int32)) % (9 : Int32)) := ⟨_, rfl⟩
  have pre2 : ∀ t, Steps p.tables e below (s₁.setTop (mkF m 17 #[.val (.long q1), .second, .val (.int p2), .val (.int p3), .val (.int p4), .val (.int v6), .val (.int v15), .unset, .unset, .unset] [])) t → Steps p.tables e below (s₁.setTop (entryFrame m #[(.long q1), (.int p2), (.int p3), (.int p4)] maxLocals)) t := by
    intro t k
    subst hv15
    refine pre1 t ?_
    refine XS.iloadN X0.here hx rfl (hb hby at_8) rfl ?_
    show Steps p.tables e below (s₁.setTop (mkF m 9 #[.val (.long q1), .second, .val (.int p2), .val (.int p3), .val (.int p4), .val (.int v6), .unset, .unset, .unset, .unset] [(.int p3)])) _
    refine X0.ldcInt hx hown (mvT hZ (hw _ (List.mem_of_getElem? (i := 0) rfl))) (g := (mkF m 9 #[.val (.long q1), .second, .val (.int p2), .val (.int p3), .val (.int p4), .val (.int v6), .unset, .unset, .unset, .unset] [(.int p3)])) rfl (hb hby at_9) _ ?_
    show Steps p.tables e below (s₁.setTop (mkF m 11 #[.val (.long q1), .second, .val (.int p2), .val (.int p3), .val (.int p4), .val (.int v6), .unset, .unset, .unset, .unset] [(.int (2147483647 : Int32)), (.int p3)])) _
    refine XS.iand X0.here hx rfl (hb hby at_11) rfl ?_
    show Steps p.tables e below (s₁.setTop (mkF m 12 #[.val (.long q1), .second, .val (.int p2), .val (.int p3), .val (.int p4), .val (.int v6), .unset, .unset, .unset, .unset] [(.int (p3 &&& (2147483647 : Int32)))])) _
    refine XS.bipush X0.here hx rfl (hb hby at_12) ?_
    show Steps p.tables e below (s₁.setTop (mkF m 14 #[.val (.long q1), .second, .val (.int p2), .val (.int p3), .val (.int p4), .val (.int v6), .unset, .unset, .unset, .unset] [(.int (9 : Int32)), (.int (p3 &&& (2147483647 : Int32)))])) _
    refine iremM X0 hx rfl (hb hby at_14) rfl (by decide) ?_
    show Steps p.tables e below (s₁.setTop (mkF m 15 #[.val (.long q1), .second, .val (.int p2), .val (.int p3), .val (.int p4), .val (.int v6), .unset, .unset, .unset, .unset] [(.int ((p3 &&& (2147483647 : Int32)) % (9 : Int32)))])) _
    refine XS.istore X0.here hx rfl (hb hby at_15) rfl (l' := #[.val (.long q1), .second, .val (.int p2), .val (.int p3), .val (.int p4), .val (.int v6), .val (.int ((p3 &&& (2147483647 : Int32)) % (9 : Int32))), .unset, .unset, .unset]) rfl ?_
    show Steps p.tables e below (s₁.setTop (mkF m 17 #[.val (.long q1), .second, .val (.int p2), .val (.int p3), .val (.int p4), .val (.int v6), .val (.int ((p3 &&& (2147483647 : Int32)) % (9 : Int32))), .unset, .unset, .unset] [])) _
    exact k
  have pre3 : ∀ t, Steps p.tables e below (s₁.setTop (mkF m 19 #[.val (.long q1), .second, .val (.int p2), .val (.int p3), .val (.int p4), .val (.int v6), .val (.int v15), .unset, .unset, .unset] [(.int (11 : Int32))])) t → Steps p.tables e below (s₁.setTop (entryFrame m #[(.long q1), (.int p2), (.int p3), (.int p4)] maxLocals)) t := by
    intro t k
    refine pre2 t ?_
    refine XS.bipush X0.here hx rfl (hb hby at_17) ?_
    show Steps p.tables e below (s₁.setTop (mkF m 19 #[.val (.long q1), .second, .val (.int p2), .val (.int p3), .val (.int p4), .val (.int v6), .val (.int v15), .unset, .unset, .unset] [(.int (11 : Int32))])) _
    exact k
  obtain ⟨T4, h4, k4, X4, e4, E4, A4, st4⟩ := newP X0 hx hZ (hw _ (List.mem_of_getElem? (i := 1) rfl)) e0 (g := (mkF m 19 #[.val (.long q1), .second, .val (.int p2), .val (.int p3), .val (.int p4), .val (.int v6), .val (.int v15), .unset, .unset, .unset] [(.int (11 : Int32))])) rfl (hb hby at_19) rfl (by decide) (cap := 11) (by decide) (by decide) (by decide) (by decide)
  obtain ⟨b4, g4⟩ : ∃ z, z = h0.size := ⟨_, rfl⟩
  rw [← g4] at A4 st4
  have gg4 : n0 ≤ b4 := Nat.le_trans Z0 (Nat.le_of_eq g4.symm)
  have Z4 : n0 ≤ h4.size := Nat.le_trans Z0 E4.1
  have V4 : own_AI Z h4 b4 .byte (11 : Int32) (fun _ => 0) := own_AI.new A4 (by decide) rfl
  have pre4 : ∀ t, Steps p.tables e below (T4.setTop (mkF m 21 #[.val (.long q1), .second, .val (.int p2), .val (.int p3), .val (.int p4), .val (.int v6), .val (.int v15), .unset, .unset, .unset] [(.ref b4)])) t → Steps p.tables e below (s₁.setTop (entryFrame m #[(.long q1), (.int p2), (.int p3), (.int p4)] maxLocals)) t := fun t k => pre3 t (st4 _ k)
  have pre5 : ∀ t, Steps p.tables e below (T4.setTop (mkF m 29 #[.val (.long q1), .second, .val (.int p2), .val (.int p3), .val (.int p4), .val (.int v6), .val (.int v15), .val (.ref b4), .unset, .unset] [(.int (p4.toInt8.toInt32)), (.int (0 : Int32)), (.ref b4)])) t → Steps p.tables e below (s₁.setTop (entryFrame m #[(.long q1), (.int p2), (.int p3), (.int p4)] maxLocals)) t := by
    intro t k
    refine pre4 t ?_
    refine XS.astore X4.here hx rfl (hb hby at_21) rfl rfl (l' := #[.val (.long q1), .second, .val (.int p2), .val (.int p3), .val (.int p4), .val (.int v6), .val (.int v15), .val (.ref b4), .unset, .unset]) rfl ?_
    show Steps p.tables e below (T4.setTop (mkF m 23 #[.val (.long q1), .second, .val (.int p2), .val (.int p3), .val (.int p4), .val (.int v6), .val (.int v15), .val (.ref b4), .unset, .unset] [])) _
    refine XS.aload X4.here hx rfl (hb hby at_23) rfl rfl ?_
    show Steps p.tables e below (T4.setTop (mkF m 25 #[.val (.long q1), .second, .val (.int p2), .val (.int p3), .val (.int p4), .val (.int v6), .val (.int v15), .val (.ref b4), .unset, .unset] [(.ref b4)])) _
    refine XS.iconst X4.here hx rfl (hb hby at_25) ?_
    show Steps p.tables e below (T4.setTop (mkF m 26 #[.val (.long q1), .second, .val (.int p2), .val (.int p3), .val (.int p4), .val (.int v6), .val (.int v15), .val (.ref b4), .unset, .unset] [(.int (0 : Int32)), (.ref b4)])) _
    refine XS.iload X4.here hx rfl (hb hby at_26) rfl ?_
    show Steps p.tables e below (T4.setTop (mkF m 28 #[.val (.long q1), .second, .val (.int p2), .val (.int p3), .val (.int p4), .val (.int v6), .val (.int v15), .val (.ref b4), .unset, .unset] [(.int p4), (.int (0 : Int32)), (.ref b4)])) _
    refine XS.i2b X4.here hx rfl (hb hby at_28) rfl ?_
    show Steps p.tables e below (T4.setTop (mkF m 29 #[.val (.long q1), .second, .val (.int p2), .val (.int p3), .val (.int p4), .val (.int v6), .val (.int v15), .val (.ref b4), .unset, .unset] [(.int (p4.toInt8.toInt32)), (.int (0 : Int32)), (.ref b4)])) _
    exact k
  obtain ⟨T6, h6, X6, e6, W6, V6, st6⟩ := own_stB X4 hx hZ e4 V4 (by decide) (by decide) (g := (mkF m 29 #[.val (.long q1), .second, .val (.int p2), .val (.int p3), .val (.int p4), .val (.int v6), .val (.int v15), .val (.ref b4), .unset, .unset] [(.int (p4.toInt8.toInt32)), (.int (0 : Int32)), (.ref b4)])) rfl rfl (hb hby at_29)
  have F6_0 := V6
  have Z6 : n0 ≤ h6.size := Nat.le_trans Z4 (Keep.of_wr W6).1
  have N6 := Fr.snoc X6 N0 gg4
  obtain ⟨f29, hf29⟩ : ∃ z : Nat → Int32, z = (own_upd (fun _ => 0) (0 : Int32).toNatClampNeg (nar .byte (p4.toInt8.toInt32))) := ⟨_, rfl⟩
  rw [← hf29] at F6_0
  have pre6 : ∀ t, Steps p.tables e below (T6.setTop (mkF m 30 #[.val (.long q1), .second, .val (.int p2), .val (.int p3), .val (.int p4), .val (.int v6), .val (.int v15), .val (.ref b4), .unset, .unset] [])) t → Steps p.tables e below (s₁.setTop (entryFrame m #[(.long q1), (.int p2), (.int p3), (.int p4)] maxLocals)) t := fun t k => pre5 t (st6 _ k)
  have pre7 : ∀ t, Steps p.tables e below (T6.setTop (mkF m 39 #[.val (.long q1), .second, .val (.int p2), .val (.int p3), .val (.int p4), .val (.int v6), .val (.int v15), .val (.ref b4), .unset, .unset] [(.int (((p4.toUInt32 >>> ((8 : Int32) &&& 31).toUInt32).toInt32).toInt8.toInt32)), (.int (1 : Int32)), (.ref b4)])) t → Steps p.tables e below (s₁.setTop (entryFrame m #[(.long q1), (.int p2), (.int p3), (.int p4)] maxLocals)) t := by
    intro t k
    refine pre6 t ?_
    refine XS.aload X6.here hx rfl (hb hby at_30) rfl rfl ?_
    show Steps p.tables e below (T6.setTop (mkF m 32 #[.val (.long q1), .second, .val (.int p2), .val (.int p3), .val (.int p4), .val (.int v6), .val (.int v15), .val (.ref b4), .unset, .unset] [(.ref b4)])) _
    refine XS.iconst X6.here hx rfl (hb hby at_32) ?_
    show Steps p.tables e below (T6.setTop (mkF m 33 #[.val (.long q1), .second, .val (.int p2), .val (.int p3), .val (.int p4), .val (.int v6), .val (.int v15), .val (.ref b4), .unset, .unset] [(.int (1 : Int32)), (.ref b4)])) _
    refine XS.iload X6.here hx rfl (hb hby at_33) rfl ?_
    show Steps p.tables e below (T6.setTop (mkF m 35 #[.val (.long q1), .second, .val (.int p2), .val (.int p3), .val (.int p4), .val (.int v6), .val (.int v15), .val (.ref b4), .unset, .unset] [(.int p4), (.int (1 : Int32)), (.ref b4)])) _
    refine XS.bipush X6.here hx rfl (hb hby at_35) ?_
    show Steps p.tables e below (T6.setTop (mkF m 37 #[.val (.long q1), .second, .val (.int p2), .val (.int p3), .val (.int p4), .val (.int v6), .val (.int v15), .val (.ref b4), .unset, .unset] [(.int (8 : Int32)), (.int p4), (.int (1 : Int32)), (.ref b4)])) _
    refine XS.iushr X6.here hx rfl (hb hby at_37) rfl ?_
    show Steps p.tables e below (T6.setTop (mkF m 38 #[.val (.long q1), .second, .val (.int p2), .val (.int p3), .val (.int p4), .val (.int v6), .val (.int v15), .val (.ref b4), .unset, .unset] [(.int ((p4.toUInt32 >>> ((8 : Int32) &&& 31).toUInt32).toInt32)), (.int (1 : Int32)), (.ref b4)])) _
    refine XS.i2b X6.here hx rfl (hb hby at_38) rfl ?_
    show Steps p.tables e below (T6.setTop (mkF m 39 #[.val (.long q1), .second, .val (.int p2), .val (.int p3), .val (.int p4), .val (.int v6), .val (.int v15), .val (.ref b4), .unset, .unset] [(.int (((p4.toUInt32 >>> ((8 : Int32) &&& 31).toUInt32).toInt32).toInt8.toInt32)), (.int (1 : Int32)), (.ref b4)])) _
    exact k
  obtain ⟨T8, h8, X8, e8, W8, V8, st8⟩ := own_stB X6 hx hZ e6 F6_0 (by decide) (by decide) (g := (mkF m 39 #[.val (.long q1), .second, .val (.int p2), .val (.int p3), .val (.int p4), .val (.int v6), .val (.int v15), .val (.ref b4), .unset, .unset] [(.int (((p4.toUInt32 >>> ((8 : Int32) &&& 31).toUInt32).toInt32).toInt8.toInt32)), (.int (1 : Int32)), (.ref b4)])) rfl rfl (hb hby at_39)
  have F8_0 := V8
  have Z8 : n0 ≤ h8.size := Nat.le_trans Z6 (Keep.of_wr W8).1
  have N8 := Fr.snoc X8 N6 gg4
  obtain ⟨f39, hf39⟩ : ∃ z : Nat → Int32, z = (own_upd f29 (1 : Int32).toNatClampNeg (nar .byte (((p4.toUInt32 >>> ((8 : Int32) &&& 31).toUInt32).toInt32).toInt8.toInt32))) := ⟨_, rfl⟩
  rw [← hf39] at F8_0
  have pre8 : ∀ t, Steps p.tables e below (T8.setTop (mkF m 40 #[.val (.long q1), .second, .val (.int p2), .val (.int p3), .val (.int p4), .val (.int v6), .val (.int v15), .val (.ref b4), .unset, .unset] [])) t → Steps p.tables e below (s₁.setTop (entryFrame m #[(.long q1), (.int p2), (.int p3), (.int p4)] maxLocals)) t := fun t k => pre7 t (st8 _ k)
  have pre9 : ∀ t, Steps p.tables e below (T8.setTop (mkF m 49 #[.val (.long q1), .second, .val (.int p2), .val (.int p3), .val (.int p4), .val (.int v6), .val (.int v15), .val (.ref b4), .unset, .unset] [(.int (((p4.toUInt32 >>> ((16 : Int32) &&& 31).toUInt32).toInt32).toInt8.toInt32)), (.int (2 : Int32)), (.ref b4)])) t → Steps p.tables e below (s₁.setTop (entryFrame m #[(.long q1), (.int p2), (.int p3), (.int p4)] maxLocals)) t := by
    intro t k
    refine pre8 t ?_
    refine XS.aload X8.here hx rfl (hb hby at_40) rfl rfl ?_
    show Steps p.tables e below (T8.setTop (mkF m 42 #[.val (.long q1), .second, .val (.int p2), .val (.int p3), .val (.int p4), .val (.int v6), .val (.int v15), .val (.ref b4), .unset, .unset] [(.ref b4)])) _
    refine XS.iconst X8.here hx rfl (hb hby at_42) ?_
    show Steps p.tables e below (T8.setTop (mkF m 43 #[.val (.long q1), .second, .val (.int p2), .val (.int p3), .val (.int p4), .val (.int v6), .val (.int v15), .val (.ref b4), .unset, .unset] [(.int (2 : Int32)), (.ref b4)])) _
    refine XS.iload X8.here hx rfl (hb hby at_43) rfl ?_
    show Steps p.tables e below (T8.setTop (mkF m 45 #[.val (.long q1), .second, .val (.int p2), .val (.int p3), .val (.int p4), .val (.int v6), .val (.int v15), .val (.ref b4), .unset, .unset] [(.int p4), (.int (2 : Int32)), (.ref b4)])) _
    refine XS.bipush X8.here hx rfl (hb hby at_45) ?_
    show Steps p.tables e below (T8.setTop (mkF m 47 #[.val (.long q1), .second, .val (.int p2), .val (.int p3), .val (.int p4), .val (.int v6), .val (.int v15), .val (.ref b4), .unset, .unset] [(.int (16 : Int32)), (.int p4), (.int (2 : Int32)), (.ref b4)])) _
    refine XS.iushr X8.here hx rfl (hb hby at_47) rfl ?_
    show Steps p.tables e below (T8.setTop (mkF m 48 #[.val (.long q1), .second, .val (.int p2), .val (.int p3), .val (.int p4), .val (.int v6), .val (.int v15), .val (.ref b4), .unset, .unset] [(.int ((p4.toUInt32 >>> ((16 : Int32) &&& 31).toUInt32).toInt32)), (.int (2 : Int32)), (.ref b4)])) _
    refine XS.i2b X8.here hx rfl (hb hby at_48) rfl ?_
    show Steps p.tables e below (T8.setTop (mkF m 49 #[.val (.long q1), .second, .val (.int p2), .val (.int p3), .val (.int p4), .val (.int v6), .val (.int v15), .val (.ref b4), .unset, .unset] [(.int (((p4.toUInt32 >>> ((16 : Int32) &&& 31).toUInt32).toInt32).toInt8.toInt32)), (.int (2 : Int32)), (.ref b4)])) _
    exact k
  obtain ⟨T10, h10, X10, e10, W10, V10, st10⟩ := own_stB X8 hx hZ e8 F8_0 (by decide) (by decide) (g := (mkF m 49 #[.val (.long q1), .second, .val (.int p2), .val (.int p3), .val (.int p4), .val (.int v6), .val (.int v15), .val (.ref b4), .unset, .unset] [(.int (((p4.toUInt32 >>> ((16 : Int32) &&& 31).toUInt32).toInt32).toInt8.toInt32)), (.int (2 : Int32)), (.ref b4)])) rfl rfl (hb hby at_49)
  have F10_0 := V10
  have Z10 : n0 ≤ h10.size := Nat.le_trans Z8 (Keep.of_wr W10).1
  have N10 := Fr.snoc X10 N8 gg4
  obtain ⟨f49, hf49⟩ : ∃ z : Nat → Int32, z = (own_upd f39 (2 : Int32).toNatClampNeg (nar .byte (((p4.toUInt32 >>> ((16 : Int32) &&& 31).toUInt32).toInt32).toInt8.toInt32))) := ⟨_, rfl⟩
  rw [← hf49] at F10_0
  have pre10 : ∀ t, Steps p.tables e below (T10.setTop (mkF m 50 #[.val (.long q1), .second, .val (.int p2), .val (.int p3), .val (.int p4), .val (.int v6), .val (.int v15), .val (.ref b4), .unset, .unset] [])) t → Steps p.tables e below (s₁.setTop (entryFrame m #[(.long q1), (.int p2), (.int p3), (.int p4)] maxLocals)) t := fun t k => pre9 t (st10 _ k)
  have pre11 : ∀ t, Steps p.tables e below (T10.setTop (mkF m 59 #[.val (.long q1), .second, .val (.int p2), .val (.int p3), .val (.int p4), .val (.int v6), .val (.int v15), .val (.ref b4), .unset, .unset] [(.int (((p4.toUInt32 >>> ((24 : Int32) &&& 31).toUInt32).toInt32).toInt8.toInt32)), (.int (3 : Int32)), (.ref b4)])) t → Steps p.tables e below (s₁.setTop (entryFrame m #[(.long q1), (.int p2), (.int p3), (.int p4)] maxLocals)) t := by
    intro t k
    refine pre10 t ?_
    refine XS.aload X10.here hx rfl (hb hby at_50) rfl rfl ?_
    show Steps p.tables e below (T10.setTop (mkF m 52 #[.val (.long q1), .second, .val (.int p2), .val (.int p3), .val (.int p4), .val (.int v6), .val (.int v15), .val (.ref b4), .unset, .unset] [(.ref b4)])) _
    refine XS.iconst X10.here hx rfl (hb hby at_52) ?_
    show Steps p.tables e below (T10.setTop (mkF m 53 #[.val (.long q1), .second, .val (.int p2), .val (.int p3), .val (.int p4), .val (.int v6), .val (.int v15), .val (.ref b4), .unset, .unset] [(.int (3 : Int32)), (.ref b4)])) _
    refine XS.iload X10.here hx rfl (hb hby at_53) rfl ?_
    show Steps p.tables e below (T10.setTop (mkF m 55 #[.val (.long q1), .second, .val (.int p2), .val (.int p3), .val (.int p4), .val (.int v6), .val (.int v15), .val (.ref b4), .unset, .unset] [(.int p4), (.int (3 : Int32)), (.ref b4)])) _
    refine XS.bipush X10.here hx rfl (hb hby at_55) ?_
    show Steps p.tables e below (T10.setTop (mkF m 57 #[.val (.long q1), .second, .val (.int p2), .val (.int p3), .val (.int p4), .val (.int v6), .val (.int v15), .val (.ref b4), .unset, .unset] [(.int (24 : Int32)), (.int p4), (.int (3 : Int32)), (.ref b4)])) _
    refine XS.iushr X10.here hx rfl (hb hby at_57) rfl ?_
    show Steps p.tables e below (T10.setTop (mkF m 58 #[.val (.long q1), .second, .val (.int p2), .val (.int p3), .val (.int p4), .val (.int v6), .val (.int v15), .val (.ref b4), .unset, .unset] [(.int ((p4.toUInt32 >>> ((24 : Int32) &&& 31).toUInt32).toInt32)), (.int (3 : Int32)), (.ref b4)])) _
    refine XS.i2b X10.here hx rfl (hb hby at_58) rfl ?_
    show Steps p.tables e below (T10.setTop (mkF m 59 #[.val (.long q1), .second, .val (.int p2), .val (.int p3), .val (.int p4), .val (.int v6), .val (.int v15), .val (.ref b4), .unset, .unset] [(.int (((p4.toUInt32 >>> ((24 : Int32) &&& 31).toUInt32).toInt32).toInt8.toInt32)), (.int (3 : Int32)), (.ref b4)])) _
    exact k
  obtain ⟨T12, h12, X12, e12, W12, V12, st12⟩ := own_stB X10 hx hZ e10 F10_0 (by decide) (by decide) (g := (mkF m 59 #[.val (.long q1), .second, .val (.int p2), .val (.int p3), .val (.int p4), .val (.int v6), .val (.int v15), .val (.ref b4), .unset, .unset] [(.int (((p4.toUInt32 >>> ((24 : Int32) &&& 31).toUInt32).toInt32).toInt8.toInt32)), (.int (3 : Int32)), (.ref b4)])) rfl rfl (hb hby at_59)
  have F12_0 := V12
  have Z12 : n0 ≤ h12.size := Nat.le_trans Z10 (Keep.of_wr W12).1
  have N12 := Fr.snoc X12 N10 gg4
  obtain ⟨f59, hf59⟩ : ∃ z : Nat → Int32, z = (own_upd f49 (3 : Int32).toNatClampNeg (nar .byte (((p4.toUInt32 >>> ((24 : Int32) &&& 31).toUInt32).toInt32).toInt8.toInt32))) := ⟨_, rfl⟩
  rw [← hf59] at F12_0
  have pre12 : ∀ t, Steps p.tables e below (T12.setTop (mkF m 60 #[.val (.long q1), .second, .val (.int p2), .val (.int p3), .val (.int p4), .val (.int v6), .val (.int v15), .val (.ref b4), .unset, .unset] [])) t → Steps p.tables e below (s₁.setTop (entryFrame m #[(.long q1), (.int p2), (.int p3), (.int p4)] maxLocals)) t := fun t k => pre11 t (st12 _ k)
  have pre13 : ∀ t, Steps p.tables e below (T12.setTop (mkF m 66 #[.val (.long q1), .second, .val (.int p2), .val (.int p3), .val (.int p4), .val (.int v6), .val (.int v15), .val (.ref b4), .unset, .unset] [(.int (p4.toInt8.toInt32)), (.int (4 : Int32)), (.ref b4)])) t → Steps p.tables e below (s₁.setTop (entryFrame m #[(.long q1), (.int p2), (.int p3), (.int p4)] maxLocals)) t := by
    intro t k
    refine pre12 t ?_
    refine XS.aload X12.here hx rfl (hb hby at_60) rfl rfl ?_
    show Steps p.tables e below (T12.setTop (mkF m 62 #[.val (.long q1), .second, .val (.int p2), .val (.int p3), .val (.int p4), .val (.int v6), .val (.int v15), .val (.ref b4), .unset, .unset] [(.ref b4)])) _
    refine XS.iconst X12.here hx rfl (hb hby at_62) ?_
    show Steps p.tables e below (T12.setTop (mkF m 63 #[.val (.long q1), .second, .val (.int p2), .val (.int p3), .val (.int p4), .val (.int v6), .val (.int v15), .val (.ref b4), .unset, .unset] [(.int (4 : Int32)), (.ref b4)])) _
    refine XS.iload X12.here hx rfl (hb hby at_63) rfl ?_
    show Steps p.tables e below (T12.setTop (mkF m 65 #[.val (.long q1), .second, .val (.int p2), .val (.int p3), .val (.int p4), .val (.int v6), .val (.int v15), .val (.ref b4), .unset, .unset] [(.int p4), (.int (4 : Int32)), (.ref b4)])) _
    refine XS.i2b X12.here hx rfl (hb hby at_65) rfl ?_
    show Steps p.tables e below (T12.setTop (mkF m 66 #[.val (.long q1), .second, .val (.int p2), .val (.int p3), .val (.int p4), .val (.int v6), .val (.int v15), .val (.ref b4), .unset, .unset] [(.int (p4.toInt8.toInt32)), (.int (4 : Int32)), (.ref b4)])) _
    exact k
  obtain ⟨T14, h14, X14, e14, W14, V14, st14⟩ := own_stB X12 hx hZ e12 F12_0 (by decide) (by decide) (g := (mkF m 66 #[.val (.long q1), .second, .val (.int p2), .val (.int p3), .val (.int p4), .val (.int v6), .val (.int v15), .val (.ref b4), .unset, .unset] [(.int (p4.toInt8.toInt32)), (.int (4 : Int32)), (.ref b4)])) rfl rfl (hb hby at_66)
  have F14_0 := V14
  have Z14 : n0 ≤ h14.size := Nat.le_trans Z12 (Keep.of_wr W14).1
  have N14 := Fr.snoc X14 N12 gg4
  obtain ⟨f66, hf66⟩ : ∃ z : Nat → Int32, z = (own_upd f59 (4 : Int32).toNatClampNeg (nar .byte (p4.toInt8.toInt32))) := ⟨_, rfl⟩
  rw [← hf66] at F14_0
  have pre14 : ∀ t, Steps p.tables e below (T14.setTop (mkF m 67 #[.val (.long q1), .second, .val (.int p2), .val (.int p3), .val (.int p4), .val (.int v6), .val (.int v15), .val (.ref b4), .unset, .unset] [])) t → Steps p.tables e below (s₁.setTop (entryFrame m #[(.long q1), (.int p2), (.int p3), (.int p4)] maxLocals)) t := fun t k => pre13 t (st14 _ k)
  have pre15 : ∀ t, Steps p.tables e below (T14.setTop (mkF m 76 #[.val (.long q1), .second, .val (.int p2), .val (.int p3), .val (.int p4), .val (.int v6), .val (.int v15), .val (.ref b4), .unset, .unset] [(.int (((p4.toUInt32 >>> ((8 : Int32) &&& 31).toUInt32).toInt32).toInt8.toInt32)), (.int (5 : Int32)), (.ref b4)])) t → Steps p.tables e below (s₁.setTop (entryFrame m #[(.long q1), (.int p2), (.int p3), (.int p4)] maxLocals)) t := by
    intro t k
    refine pre14 t ?_
    refine XS.aload X14.here hx rfl (hb hby at_67) rfl rfl ?_
    show Steps p.tables e below (T14.setTop (mkF m 69 #[.val (.long q1), .second, .val (.int p2), .val (.int p3), .val (.int p4), .val (.int v6), .val (.int v15), .val (.ref b4), .unset, .unset] [(.ref b4)])) _
    refine XS.iconst X14.here hx rfl (hb hby at_69) ?_
    show Steps p.tables e below (T14.setTop (mkF m 70 #[.val (.long q1), .second, .val (.int p2), .val (.int p3), .val (.int p4), .val (.int v6), .val (.int v15), .val (.ref b4), .unset, .unset] [(.int (5 : Int32)), (.ref b4)])) _
    refine XS.iload X14.here hx rfl (hb hby at_70) rfl ?_
    show Steps p.tables e below (T14.setTop (mkF m 72 #[.val (.long q1), .second, .val (.int p2), .val (.int p3), .val (.int p4), .val (.int v6), .val (.int v15), .val (.ref b4), .unset, .unset] [(.int p4), (.int (5 : Int32)), (.ref b4)])) _
    refine XS.bipush X14.here hx rfl (hb hby at_72) ?_
    show Steps p.tables e below (T14.setTop (mkF m 74 #[.val (.long q1), .second, .val (.int p2), .val (.int p3), .val (.int p4), .val (.int v6), .val (.int v15), .val (.ref b4), .unset, .unset] [(.int (8 : Int32)), (.int p4), (.int (5 : Int32)), (.ref b4)])) _
    refine XS.iushr X14.here hx rfl (hb hby at_74) rfl ?_
    show Steps p.tables e below (T14.setTop (mkF m 75 #[.val (.long q1), .second, .val (.int p2), .val (.int p3), .val (.int p4), .val (.int v6), .val (.int v15), .val (.ref b4), .unset, .unset] [(.int ((p4.toUInt32 >>> ((8 : Int32) &&& 31).toUInt32).toInt32)), (.int (5 : Int32)), (.ref b4)])) _
    refine XS.i2b X14.here hx rfl (hb hby at_75) rfl ?_
    show Steps p.tables e below (T14.setTop (mkF m 76 #[.val (.long q1), .second, .val (.int p2), .val (.int p3), .val (.int p4), .val (.int v6), .val (.int v15), .val (.ref b4), .unset, .unset] [(.int (((p4.toUInt32 >>> ((8 : Int32) &&& 31).toUInt32).toInt32).toInt8.toInt32)), (.int (5 : Int32)), (.ref b4)])) _
    exact k
  obtain ⟨T16, h16, X16, e16, W16, V16, st16⟩ := own_stB X14 hx hZ e14 F14_0 (by decide) (by decide) (g := (mkF m 76 #[.val (.long q1), .second, .val (.int p2), .val (.int p3), .val (.int p4), .val (.int v6), .val (.int v15), .val (.ref b4), .unset, .unset] [(.int (((p4.toUInt32 >>> ((8 : Int32) &&& 31).toUInt32).toInt32).toInt8.toInt32)), (.int (5 : Int32)), (.ref b4)])) rfl rfl (hb hby at_76)
  have F16_0 := V16
  have Z16 : n0 ≤ h16.size := Nat.le_trans Z14 (Keep.of_wr W16).1
  have N16 := Fr.snoc X16 N14 gg4
  obtain ⟨f76, hf76⟩ : ∃ z : Nat → Int32, z = (own_upd f66 (5 : Int32).toNatClampNeg (nar .byte (((p4.toUInt32 >>> ((8 : Int32) &&& 31).toUInt32).toInt32).toInt8.toInt32))) := ⟨_, rfl⟩
  rw [← hf76] at F16_0
  have pre16 : ∀ t, Steps p.tables e below (T16.setTop (mkF m 77 #[.val (.long q1), .second, .val (.int p2), .val (.int p3), .val (.int p4), .val (.int v6), .val (.int v15), .val (.ref b4), .unset, .unset] [])) t → Steps p.tables e below (s₁.setTop (entryFrame m #[(.long q1), (.int p2), (.int p3), (.int p4)] maxLocals)) t := fun t k => pre15 t (st16 _ k)
  have pre17 : ∀ t, Steps p.tables e below (T16.setTop (mkF m 87 #[.val (.long q1), .second, .val (.int p2), .val (.int p3), .val (.int p4), .val (.int v6), .val (.int v15), .val (.ref b4), .unset, .unset] [(.int (((p4.toUInt32 >>> ((16 : Int32) &&& 31).toUInt32).toInt32).toInt8.toInt32)), (.int (6 : Int32)), (.ref b4)])) t → Steps p.tables e below (s₁.setTop (entryFrame m #[(.long q1), (.int p2), (.int p3), (.int p4)] maxLocals)) t := by
    intro t k
    refine pre16 t ?_
    refine XS.aload X16.here hx rfl (hb hby at_77) rfl rfl ?_
    show Steps p.tables e below (T16.setTop (mkF m 79 #[.val (.long q1), .second, .val (.int p2), .val (.int p3), .val (.int p4), .val (.int v6), .val (.int v15), .val (.ref b4), .unset, .unset] [(.ref b4)])) _
    refine XS.bipush X16.here hx rfl (hb hby at_79) ?_
    show Steps p.tables e below (T16.setTop (mkF m 81 #[.val (.long q1), .second, .val (.int p2), .val (.int p3), .val (.int p4), .val (.int v6), .val (.int v15), .val (.ref b4), .unset, .unset] [(.int (6 : Int32)), (.ref b4)])) _
    refine XS.iload X16.here hx rfl (hb hby at_81) rfl ?_
    show Steps p.tables e below (T16.setTop (mkF m 83 #[.val (.long q1), .second, .val (.int p2), .val (.int p3), .val (.int p4), .val (.int v6), .val (.int v15), .val (.ref b4), .unset, .unset] [(.int p4), (.int (6 : Int32)), (.ref b4)])) _
    refine XS.bipush X16.here hx rfl (hb hby at_83) ?_
    show Steps p.tables e below (T16.setTop (mkF m 85 #[.val (.long q1), .second, .val (.int p2), .val (.int p3), .val (.int p4), .val (.int v6), .val (.int v15), .val (.ref b4), .unset, .unset] [(.int (16 : Int32)), (.int p4), (.int (6 : Int32)), (.ref b4)])) _
    refine XS.iushr X16.here hx rfl (hb hby at_85) rfl ?_
    show Steps p.tables e below (T16.setTop (mkF m 86 #[.val (.long q1), .second, .val (.int p2), .val (.int p3), .val (.int p4), .val (.int v6), .val (.int v15), .val (.ref b4), .unset, .unset] [(.int ((p4.toUInt32 >>> ((16 : Int32) &&& 31).toUInt32).toInt32)), (.int (6 : Int32)), (.ref b4)])) _
    refine XS.i2b X16.here hx rfl (hb hby at_86) rfl ?_
    show Steps p.tables e below (T16.setTop (mkF m 87 #[.val (.long q1), .second, .val (.int p2), .val (.int p3), .val (.int p4), .val (.int v6), .val (.int v15), .val (.ref b4), .unset, .unset] [(.int (((p4.toUInt32 >>> ((16 : Int32) &&& 31).toUInt32).toInt32).toInt8.toInt32)), (.int (6 : Int32)), (.ref b4)])) _
    exact k
  obtain ⟨T18, h18, X18, e18, W18, V18, st18⟩ := own_stB X16 hx hZ e16 F16_0 (by decide) (by decide) (g := (mkF m 87 #[.val (.long q1), .second, .val (.int p2), .val (.int p3), .val (.int p4), .val (.int v6), .val (.int v15), .val (.ref b4), .unset, .unset] [(.int (((p4.toUInt32 >>> ((16 : Int32) &&& 31).toUInt32).toInt32).toInt8.toInt32)), (.int (6 : Int32)), (.ref b4)])) rfl rfl (hb hby at_87)
  have F18_0 := V18
  have Z18 : n0 ≤ h18.size := Nat.le_trans Z16 (Keep.of_wr W18).1
  have N18 := Fr.snoc X18 N16 gg4
  obtain ⟨f87, hf87⟩ : ∃ z : Nat → Int32, z = (own_upd f76 (6 : Int32).toNatClampNeg (nar .byte (((p4.toUInt32 >>> ((16 : Int32) &&& 31).toUInt32).toInt32).toInt8.toInt32))) := ⟨_, rfl⟩
  rw [← hf87] at F18_0
  have pre18 : ∀ t, Steps p.tables e below (T18.setTop (mkF m 88 #[.val (.long q1), .second, .val (.int p2), .val (.int p3), .val (.int p4), .val (.int v6), .val (.int v15), .val (.ref b4), .unset, .unset] [])) t → Steps p.tables e below (s₁.setTop (entryFrame m #[(.long q1), (.int p2), (.int p3), (.int p4)] maxLocals)) t := fun t k => pre17 t (st18 _ k)
  have pre19 : ∀ t, Steps p.tables e below (T18.setTop (mkF m 98 #[.val (.long q1), .second, .val (.int p2), .val (.int p3), .val (.int p4), .val (.int v6), .val (.int v15), .val (.ref b4), .unset, .unset] [(.int (((p4.toUInt32 >>> ((24 : Int32) &&& 31).toUInt32).toInt32).toInt8.toInt32)), (.int (7 : Int32)), (.ref b4)])) t → Steps p.tables e below (s₁.setTop (entryFrame m #[(.long q1), (.int p2), (.int p3), (.int p4)] maxLocals)) t := by
    intro t k
    refine pre18 t ?_
    refine XS.aload X18.here hx rfl (hb hby at_88) rfl rfl ?_
    show Steps p.tables e below (T18.setTop (mkF m 90 #[.val (.long q1), .second, .val (.int p2), .val (.int p3), .val (.int p4), .val (.int v6), .val (.int v15), .val (.ref b4), .unset, .unset] [(.ref b4)])) _
    refine XS.bipush X18.here hx rfl (hb hby at_90) ?_
    show Steps p.tables e below (T18.setTop (mkF m 92 #[.val (.long q1), .second, .val (.int p2), .val (.int p3), .val (.int p4), .val (.int v6), .val (.int v15), .val (.ref b4), .unset, .unset] [(.int (7 : Int32)), (.ref b4)])) _
    refine XS.iload X18.here hx rfl (hb hby at_92) rfl ?_
    show Steps p.tables e below (T18.setTop (mkF m 94 #[.val (.long q1), .second, .val (.int p2), .val (.int p3), .val (.int p4), .val (.int v6), .val (.int v15), .val (.ref b4), .unset, .unset] [(.int p4), (.int (7 : Int32)), (.ref b4)])) _
    refine XS.bipush X18.here hx rfl (hb hby at_94) ?_
    show Steps p.tables e below (T18.setTop (mkF m 96 #[.val (.long q1), .second, .val (.int p2), .val (.int p3), .val (.int p4), .val (.int v6), .val (.int v15), .val (.ref b4), .unset, .unset] [(.int (24 : Int32)), (.int p4), (.int (7 : Int32)), (.ref b4)])) _
    refine XS.iushr X18.here hx rfl (hb hby at_96) rfl ?_
    show Steps p.tables e below (T18.setTop (mkF m 97 #[.val (.long q1), .second, .val (.int p2), .val (.int p3), .val (.int p4), .val (.int v6), .val (.int v15), .val (.ref b4), .unset, .unset] [(.int ((p4.toUInt32 >>> ((24 : Int32) &&& 31).toUInt32).toInt32)), (.int (7 : Int32)), (.ref b4)])) _
    refine XS.i2b X18.here hx rfl (hb hby at_97) rfl ?_
    show Steps p.tables e below (T18.setTop (mkF m 98 #[.val (.long q1), .second, .val (.int p2), .val (.int p3), .val (.int p4), .val (.int v6), .val (.int v15), .val (.ref b4), .unset, .unset] [(.int (((p4.toUInt32 >>> ((24 : Int32) &&& 31).toUInt32).toInt32).toInt8.toInt32)), (.int (7 : Int32)), (.ref b4)])) _
    exact k
  obtain ⟨T20, h20, X20, e20, W20, V20, st20⟩ := own_stB X18 hx hZ e18 F18_0 (by decide) (by decide) (g := (mkF m 98 #[.val (.long q1), .second, .val (.int p2), .val (.int p3), .val (.int p4), .val (.int v6), .val (.int v15), .val (.ref b4), .unset, .unset] [(.int (((p4.toUInt32 >>> ((24 : Int32) &&& 31).toUInt32).toInt32).toInt8.toInt32)), (.int (7 : Int32)), (.ref b4)])) rfl rfl (hb hby at_98)
  have F20_0 := V20
  have Z20 : n0 ≤ h20.size := Nat.le_trans Z18 (Keep.of_wr W20).1
  have N20 := Fr.snoc X20 N18 gg4
  obtain ⟨f98, hf98⟩ : ∃ z : Nat → Int32, z = (own_upd f87 (7 : Int32).toNatClampNeg (nar .byte (((p4.toUInt32 >>> ((24 : Int32) &&& 31).toUInt32).toInt32).toInt8.toInt32))) := ⟨_, rfl⟩
  rw [← hf98] at F20_0
  have pre20 : ∀ t, Steps p.tables e below (T20.setTop (mkF m 99 #[.val (.long q1), .second, .val (.int p2), .val (.int p3), .val (.int p4), .val (.int v6), .val (.int v15), .val (.ref b4), .unset, .unset] [])) t → Steps p.tables e below (s₁.setTop (entryFrame m #[(.long q1), (.int p2), (.int p3), (.int p4)] maxLocals)) t := fun t k => pre19 t (st20 _ k)
  have pre21 : ∀ t, Steps p.tables e below (T20.setTop (mkF m 106 #[.val (.long q1), .second, .val (.int p2), .val (.int p3), .val (.int p4), .val (.int v6), .val (.int v15), .val (.ref b4), .unset, .unset] [(.int (p4.toInt8.toInt32)), (.int (8 : Int32)), (.ref b4)])) t → Steps p.tables e below (s₁.setTop (entryFrame m #[(.long q1), (.int p2), (.int p3), (.int p4)] maxLocals)) t := by
    intro t k
    refine pre20 t ?_
    refine XS.aload X20.here hx rfl (hb hby at_99) rfl rfl ?_
    show Steps p.tables e below (T20.setTop (mkF m 101 #[.val (.long q1), .second, .val (.int p2), .val (.int p3), .val (.int p4), .val (.int v6), .val (.int v15), .val (.ref b4), .unset, .unset] [(.ref b4)])) _
    refine XS.bipush X20.here hx rfl (hb hby at_101) ?_
    show Steps p.tables e below (T20.setTop (mkF m 103 #[.val (.long q1), .second, .val (.int p2), .val (.int p3), .val (.int p4), .val (.int v6), .val (.int v15), .val (.ref b4), .unset, .unset] [(.int (8 : Int32)), (.ref b4)])) _
    refine XS.iload X20.here hx rfl (hb hby at_103) rfl ?_
    show Steps p.tables e below (T20.setTop (mkF m 105 #[.val (.long q1), .second, .val (.int p2), .val (.int p3), .val (.int p4), .val (.int v6), .val (.int v15), .val (.ref b4), .unset, .unset] [(.int p4), (.int (8 : Int32)), (.ref b4)])) _
    refine XS.i2b X20.here hx rfl (hb hby at_105) rfl ?_
    show Steps p.tables e below (T20.setTop (mkF m 106 #[.val (.long q1), .second, .val (.int p2), .val (.int p3), .val (.int p4), .val (.int v6), .val (.int v15), .val (.ref b4), .unset, .unset] [(.int (p4.toInt8.toInt32)), (.int (8 : Int32)), (.ref b4)])) _
    exact k
  obtain ⟨T22, h22, X22, e22, W22, V22, st22⟩ := own_stB X20 hx hZ e20 F20_0 (by decide) (by decide) (g := (mkF m 106 #[.val (.long q1), .second, .val (.int p2), .val (.int p3), .val (.int p4), .val (.int v6), .val (.int v15), .val (.ref b4), .unset, .unset] [(.int (p4.toInt8.toInt32)), (.int (8 : Int32)), (.ref b4)])) rfl rfl (hb hby at_106)
  have F22_0 := V22
  have Z22 : n0 ≤ h22.size := Nat.le_trans Z20 (Keep.of_wr W22).1
  have N22 := Fr.snoc X22 N20 gg4
  obtain ⟨f106, hf106⟩ : ∃ z : Nat → Int32, z = (own_upd f98 (8 : Int32).toNatClampNeg (nar .byte (p4.toInt8.toInt32))) := ⟨_, rfl⟩
  rw [← hf106] at F22_0
  have pre22 : ∀ t, Steps p.tables e below (T22.setTop (mkF m 107 #[.val (.long q1), .second, .val (.int p2), .val (.int p3), .val (.int p4), .val (.int v6), .val (.int v15), .val (.ref b4), .unset, .unset] [])) t → Steps p.tables e below (s₁.setTop (entryFrame m #[(.long q1), (.int p2), (.int p3), (.int p4)] maxLocals)) t := fun t k => pre21 t (st22 _ k)
  have pre23 : ∀ t, Steps p.tables e below (T22.setTop (mkF m 117 #[.val (.long q1), .second, .val (.int p2), .val (.int p3), .val (.int p4), .val (.int v6), .val (.int v15), .val (.ref b4), .unset, .unset] [(.int (((p4.toUInt32 >>> ((8 : Int32) &&& 31).toUInt32).toInt32).toInt8.toInt32)), (.int (9 : Int32)), (.ref b4)])) t → Steps p.tables e below (s₁.setTop (entryFrame m #[(.long q1), (.int p2), (.int p3), (.int p4)] maxLocals)) t := by
    intro t k
    refine pre22 t ?_
    refine XS.aload X22.here hx rfl (hb hby at_107) rfl rfl ?_
    show Steps p.tables e below (T22.setTop (mkF m 109 #[.val (.long q1), .second, .val (.int p2), .val (.int p3), .val (.int p4), .val (.int v6), .val (.int v15), .val (.ref b4), .unset, .unset] [(.ref b4)])) _
    refine XS.bipush X22.here hx rfl (hb hby at_109) ?_
    show Steps p.tables e below (T22.setTop (mkF m 111 #[.val (.long q1), .second, .val (.int p2), .val (.int p3), .val (.int p4), .val (.int v6), .val (.int v15), .val (.ref b4), .unset, .unset] [(.int (9 : Int32)), (.ref b4)])) _
    refine XS.iload X22.here hx rfl (hb hby at_111) rfl ?_
    show Steps p.tables e below (T22.setTop (mkF m 113 #[.val (.long q1), .second, .val (.int p2), .val (.int p3), .val (.int p4), .val (.int v6), .val (.int v15), .val (.ref b4), .unset, .unset] [(.int p4), (.int (9 : Int32)), (.ref b4)])) _
    refine XS.bipush X22.here hx rfl (hb hby at_113) ?_
    show Steps p.tables e below (T22.setTop (mkF m 115 #[.val (.long q1), .second, .val (.int p2), .val (.int p3), .val (.int p4), .val (.int v6), .val (.int v15), .val (.ref b4), .unset, .unset] [(.int (8 : Int32)), (.int p4), (.int (9 : Int32)), (.ref b4)])) _
    refine XS.iushr X22.here hx rfl (hb hby at_115) rfl ?_
    show Steps p.tables e below (T22.setTop (mkF m 116 #[.val (.long q1), .second, .val (.int p2), .val (.int p3), .val (.int p4), .val (.int v6), .val (.int v15), .val (.ref b4), .unset, .unset] [(.int ((p4.toUInt32 >>> ((8 : Int32) &&& 31).toUInt32).toInt32)), (.int (9 : Int32)), (.ref b4)])) _
    refine XS.i2b X22.here hx rfl (hb hby at_116) rfl ?_
    show Steps p.tables e below (T22.setTop (mkF m 117 #[.val (.long q1), .second, .val (.int p2), .val (.int p3), .val (.int p4), .val (.int v6), .val (.int v15), .val (.ref b4), .unset, .unset] [(.int (((p4.toUInt32 >>> ((8 : Int32) &&& 31).toUInt32).toInt32).toInt8.toInt32)), (.int (9 : Int32)), (.ref b4)])) _
    exact k
  obtain ⟨T24, h24, X24, e24, W24, V24, st24⟩ := own_stB X22 hx hZ e22 F22_0 (by decide) (by decide) (g := (mkF m 117 #[.val (.long q1), .second, .val (.int p2), .val (.int p3), .val (.int p4), .val (.int v6), .val (.int v15), .val (.ref b4), .unset, .unset] [(.int (((p4.toUInt32 >>> ((8 : Int32) &&& 31).toUInt32).toInt32).toInt8.toInt32)), (.int (9 : Int32)), (.ref b4)])) rfl rfl (hb hby at_117)
  have F24_0 := V24
  have Z24 : n0 ≤ h24.size := Nat.le_trans Z22 (Keep.of_wr W24).1
  have N24 := Fr.snoc X24 N22 gg4
  obtain ⟨f117, hf117⟩ : ∃ z : Nat → Int32, z = (own_upd f106 (9 : Int32).toNatClampNeg (nar .byte (((p4.toUInt32 >>> ((8 : Int32) &&& 31).toUInt32).toInt32).toInt8.toInt32))) := ⟨_, rfl⟩
  rw [← hf117] at F24_0
  have pre24 : ∀ t, Steps p.tables e below (T24.setTop (mkF m 118 #[.val (.long q1), .second, .val (.int p2), .val (.int p3), .val (.int p4), .val (.int v6), .val (.int v15), .val (.ref b4), .unset, .unset] [])) t → Steps p.tables e below (s₁.setTop (entryFrame m #[(.long q1), (.int p2), (.int p3), (.int p4)] maxLocals)) t := fun t k => pre23 t (st24 _ k)
  have pre25 : ∀ t, Steps p.tables e below (T24.setTop (mkF m 128 #[.val (.long q1), .second, .val (.int p2), .val (.int p3), .val (.int p4), .val (.int v6), .val (.int v15), .val (.ref b4), .unset, .unset] [(.int (((p4.toUInt32 >>> ((16 : Int32) &&& 31).toUInt32).toInt32).toInt8.toInt32)), (.int (10 : Int32)), (.ref b4)])) t → Steps p.tables e below (s₁.setTop (entryFrame m #[(.long q1), (.int p2), (.int p3), (.int p4)] maxLocals)) t := by
    intro t k
    refine pre24 t ?_
    refine XS.aload X24.here hx rfl (hb hby at_118) rfl rfl ?_
    show Steps p.tables e below (T24.setTop (mkF m 120 #[.val (.long q1), .second, .val (.int p2), .val (.int p3), .val (.int p4), .val (.int v6), .val (.int v15), .val (.ref b4), .unset, .unset] [(.ref b4)])) _
    refine XS.bipush X24.here hx rfl (hb hby at_120) ?_
    show Steps p.tables e below (T24.setTop (mkF m 122 #[.val (.long q1), .second, .val (.int p2), .val (.int p3), .val (.int p4), .val (.int v6), .val (.int v15), .val (.ref b4), .unset, .unset] [(.int (10 : Int32)), (.ref b4)])) _
    refine XS.iload X24.here hx rfl (hb hby at_122) rfl ?_
    show Steps p.tables e below (T24.setTop (mkF m 124 #[.val (.long q1), .second, .val (.int p2), .val (.int p3), .val (.int p4), .val (.int v6), .val (.int v15), .val (.ref b4), .unset, .unset] [(.int p4), (.int (10 : Int32)), (.ref b4)])) _
    refine XS.bipush X24.here hx rfl (hb hby at_124) ?_
    show Steps p.tables e below (T24.setTop (mkF m 126 #[.val (.long q1), .second, .val (.int p2), .val (.int p3), .val (.int p4), .val (.int v6), .val (.int v15), .val (.ref b4), .unset, .unset] [(.int (16 : Int32)), (.int p4), (.int (10 : Int32)), (.ref b4)])) _
    refine XS.iushr X24.here hx rfl (hb hby at_126) rfl ?_
    show Steps p.tables e below (T24.setTop (mkF m 127 #[.val (.long q1), .second, .val (.int p2), .val (.int p3), .val (.int p4), .val (.int v6), .val (.int v15), .val (.ref b4), .unset, .unset] [(.int ((p4.toUInt32 >>> ((16 : Int32) &&& 31).toUInt32).toInt32)), (.int (10 : Int32)), (.ref b4)])) _
    refine XS.i2b X24.here hx rfl (hb hby at_127) rfl ?_
    show Steps p.tables e below (T24.setTop (mkF m 128 #[.val (.long q1), .second, .val (.int p2), .val (.int p3), .val (.int p4), .val (.int v6), .val (.int v15), .val (.ref b4), .unset, .unset] [(.int (((p4.toUInt32 >>> ((16 : Int32) &&& 31).toUInt32).toInt32).toInt8.toInt32)), (.int (10 : Int32)), (.ref b4)])) _
    exact k
  obtain ⟨T26, h26, X26, e26, W26, V26, st26⟩ := own_stB X24 hx hZ e24 F24_0 (by decide) (by decide) (g := (mkF m 128 #[.val (.long q1), .second, .val (.int p2), .val (.int p3), .val (.int p4), .val (.int v6), .val (.int v15), .val (.ref b4), .unset, .unset] [(.int (((p4.toUInt32 >>> ((16 : Int32) &&& 31).toUInt32).toInt32).toInt8.toInt32)), (.int (10 : Int32)), (.ref b4)])) rfl rfl (hb hby at_128)
  have F26_0 := V26
  have Z26 : n0 ≤ h26.size := Nat.le_trans Z24 (Keep.of_wr W26).1
  have N26 := Fr.snoc X26 N24 gg4
  obtain ⟨f128, hf128⟩ : ∃ z : Nat → Int32, z = (own_upd f117 (10 : Int32).toNatClampNeg (nar .byte (((p4.toUInt32 >>> ((16 : Int32) &&& 31).toUInt32).toInt32).toInt8.toInt32))) := ⟨_, rfl⟩
  rw [← hf128] at F26_0
  have pre26 : ∀ t, Steps p.tables e below (T26.setTop (mkF m 129 #[.val (.long q1), .second, .val (.int p2), .val (.int p3), .val (.int p4), .val (.int v6), .val (.int v15), .val (.ref b4), .unset, .unset] [])) t → Steps p.tables e below (s₁.setTop (entryFrame m #[(.long q1), (.int p2), (.int p3), (.int p4)] maxLocals)) t := fun t k => pre25 t (st26 _ k)
  have pre27 : ∀ t, Steps p.tables e below (T26.setTop (mkF m 136 #[.val (.long q1), .second, .val (.int p2), .val (.int p3), .val (.int p4), .val (.int v6), .val (.int v15), .val (.ref b4), .unset, .unset] [(.int ((q1.toInt32).toInt8.toInt32)), (.int v6), (.ref b4)])) t → Steps p.tables e below (s₁.setTop (entryFrame m #[(.long q1), (.int p2), (.int p3), (.int p4)] maxLocals)) t := by
    intro t k
    refine pre26 t ?_
    refine XS.aload X26.here hx rfl (hb hby at_129) rfl rfl ?_
    show Steps p.tables e below (T26.setTop (mkF m 131 #[.val (.long q1), .second, .val (.int p2), .val (.int p3), .val (.int p4), .val (.int v6), .val (.int v15), .val (.ref b4), .unset, .unset] [(.ref b4)])) _
    refine XS.iload X26.here hx rfl (hb hby at_131) rfl ?_
    show Steps p.tables e below (T26.setTop (mkF m 133 #[.val (.long q1), .second, .val (.int p2), .val (.int p3), .val (.int p4), .val (.int v6), .val (.int v15), .val (.ref b4), .unset, .unset] [(.int v6), (.ref b4)])) _
    refine XS.lloadN X26.here hx rfl (hb hby at_133) rfl ?_
    show Steps p.tables e below (T26.setTop (mkF m 134 #[.val (.long q1), .second, .val (.int p2), .val (.int p3), .val (.int p4), .val (.int v6), .val (.int v15), .val (.ref b4), .unset, .unset] [(.long q1), (.int v6), (.ref b4)])) _
    refine XS.l2i X26.here hx rfl (hb hby at_134) rfl ?_
    show Steps p.tables e below (T26.setTop (mkF m 135 #[.val (.long q1), .second, .val (.int p2), .val (.int p3), .val (.int p4), .val (.int v6), .val (.int v15), .val (.ref b4), .unset, .unset] [(.int (q1.toInt32)), (.int v6), (.ref b4)])) _
    refine XS.i2b X26.here hx rfl (hb hby at_135) rfl ?_
    show Steps p.tables e below (T26.setTop (mkF m 136 #[.val (.long q1), .second, .val (.int p2), .val (.int p3), .val (.int p4), .val (.int v6), .val (.int v15), .val (.ref b4), .unset, .unset] [(.int ((q1.toInt32).toInt8.toInt32)), (.int v6), (.ref b4)])) _
    exact k
  obtain ⟨T28, h28, X28, e28, W28, V28, st28⟩ := own_stB X26 hx hZ e26 F26_0 (own_r3 hv6).1 (own_r3 hv6).2 (g := (mkF m 136 #[.val (.long q1), .second, .val (.int p2), .val (.int p3), .val (.int p4), .val (.int v6), .val (.int v15), .val (.ref b4), .unset, .unset] [(.int ((q1.toInt32).toInt8.toInt32)), (.int v6), (.ref b4)])) rfl rfl (hb hby at_136)
  have F28_0 := V28
  have Z28 : n0 ≤ h28.size := Nat.le_trans Z26 (Keep.of_wr W28).1
  have N28 := Fr.snoc X28 N26 gg4
  obtain ⟨f136, hf136⟩ : ∃ z : Nat → Int32, z = (own_upd f128 v6.toNatClampNeg (nar .byte ((q1.toInt32).toInt8.toInt32))) := ⟨_, rfl⟩
  rw [← hf136] at F28_0
  have pre28 : ∀ t, Steps p.tables e below (T28.setTop (mkF m 137 #[.val (.long q1), .second, .val (.int p2), .val (.int p3), .val (.int p4), .val (.int v6), .val (.int v15), .val (.ref b4), .unset, .unset] [])) t → Steps p.tables e below (s₁.setTop (entryFrame m #[(.long q1), (.int p2), (.int p3), (.int p4)] maxLocals)) t := fun t k => pre27 t (st28 _ k)
  have pre29 : ∀ t, Steps p.tables e below (T28.setTop (mkF m 149 #[.val (.long q1), .second, .val (.int p2), .val (.int p3), .val (.int p4), .val (.int v6), .val (.int v15), .val (.ref b4), .unset, .unset] [(.int ((((q1.toUInt64 >>> ((8 : Int32) &&& 0x3f).toInt64.toUInt64).toInt64).toInt32).toInt8.toInt32)), (.int (v6 + (1 : Int32))), (.ref b4)])) t → Steps p.tables e below (s₁.setTop (entryFrame m #[(.long q1), (.int p2), (.int p3), (.int p4)] maxLocals)) t := by
    intro t k
    refine pre28 t ?_
    refine XS.aload X28.here hx rfl (hb hby at_137) rfl rfl ?_
    show Steps p.tables e below (T28.setTop (mkF m 139 #[.val (.long q1), .second, .val (.int p2), .val (.int p3), .val (.int p4), .val (.int v6), .val (.int v15), .val (.ref b4), .unset, .unset] [(.ref b4)])) _
    refine XS.iload X28.here hx rfl (hb hby at_139) rfl ?_
    show Steps p.tables e below (T28.setTop (mkF m 141 #[.val (.long q1), .second, .val (.int p2), .val (.int p3), .val (.int p4), .val (.int v6), .val (.int v15), .val (.ref b4), .unset, .unset] [(.int v6), (.ref b4)])) _
    refine XS.iconst X28.here hx rfl (hb hby at_141) ?_
    show Steps p.tables e below (T28.setTop (mkF m 142 #[.val (.long q1), .second, .val (.int p2), .val (.int p3), .val (.int p4), .val (.int v6), .val (.int v15), .val (.ref b4), .unset, .unset] [(.int (1 : Int32)), (.int v6), (.ref b4)])) _
    refine XS.iadd X28.here hx rfl (hb hby at_142) rfl ?_
    show Steps p.tables e below (T28.setTop (mkF m 143 #[.val (.long q1), .second, .val (.int p2), .val (.int p3), .val (.int p4), .val (.int v6), .val (.int v15), .val (.ref b4), .unset, .unset] [(.int (v6 + (1 : Int32))), (.ref b4)])) _
    refine XS.lloadN X28.here hx rfl (hb hby at_143) rfl ?_
    show Steps p.tables e below (T28.setTop (mkF m 144 #[.val (.long q1), .second, .val (.int p2), .val (.int p3), .val (.int p4), .val (.int v6), .val (.int v15), .val (.ref b4), .unset, .unset] [(.long q1), (.int (v6 + (1 : Int32))), (.ref b4)])) _
    refine XS.bipush X28.here hx rfl (hb hby at_144) ?_
    show Steps p.tables e below (T28.setTop (mkF m 146 #[.val (.long q1), .second, .val (.int p2), .val (.int p3), .val (.int p4), .val (.int v6), .val (.int v15), .val (.ref b4), .unset, .unset] [(.int (8 : Int32)), (.long q1), (.int (v6 + (1 : Int32))), (.ref b4)])) _
    refine XS.lushr X28.here hx rfl (hb hby at_146) rfl ?_
    show Steps p.tables e below (T28.setTop (mkF m 147 #[.val (.long q1), .second, .val (.int p2), .val (.int p3), .val (.int p4), .val (.int v6), .val (.int v15), .val (.ref b4), .unset, .unset] [(.long ((q1.toUInt64 >>> ((8 : Int32) &&& 0x3f).toInt64.toUInt64).toInt64)), (.int (v6 + (1 : Int32))), (.ref b4)])) _
    refine XS.l2i X28.here hx rfl (hb hby at_147) rfl ?_
    show Steps p.tables e below (T28.setTop (mkF m 148 #[.val (.long q1), .second, .val (.int p2), .val (.int p3), .val (.int p4), .val (.int v6), .val (.int v15), .val (.ref b4), .unset, .unset] [(.int (((q1.toUInt64 >>> ((8 : Int32) &&& 0x3f).toInt64.toUInt64).toInt64).toInt32)), (.int (v6 + (1 : Int32))), (.ref b4)])) _
    refine XS.i2b X28.here hx rfl (hb hby at_148) rfl ?_
    show Steps p.tables e below (T28.setTop (mkF m 149 #[.val (.long q1), .second, .val (.int p2), .val (.int p3), .val (.int p4), .val (.int v6), .val (.int v15), .val (.ref b4), .unset, .unset] [(.int ((((q1.toUInt64 >>> ((8 : Int32) &&& 0x3f).toInt64.toUInt64).toInt64).toInt32).toInt8.toInt32)), (.int (v6 + (1 : Int32))), (.ref b4)])) _
    exact k
  obtain ⟨T30, h30, X30, e30, W30, V30, st30⟩ := own_stB X28 hx hZ e28 F28_0 (own_b1 hv6).1 (own_b1 hv6).2 (g := (mkF m 149 #[.val (.long q1), .second, .val (.int p2), .val (.int p3), .val (.int p4), .val (.int v6), .val (.int v15), .val (.ref b4), .unset, .unset] [(.int ((((q1.toUInt64 >>> ((8 : Int32) &&& 0x3f).toInt64.toUInt64).toInt64).toInt32).toInt8.toInt32)), (.int (v6 + (1 : Int32))), (.ref b4)])) rfl rfl (hb hby at_149)
  have F30_0 := V30
  have Z30 : n0 ≤ h30.size := Nat.le_trans Z28 (Keep.of_wr W30).1
  have N30 := Fr.snoc X30 N28 gg4
  obtain ⟨f149, hf149⟩ : ∃ z : Nat → Int32, z = (own_upd f136 (v6 + (1 : Int32)).toNatClampNeg (nar .byte ((((q1.toUInt64 >>> ((8 : Int32) &&& 0x3f).toInt64.toUInt64).toInt64).toInt32).toInt8.toInt32))) := ⟨_, rfl⟩
  rw [← hf149] at F30_0
  have pre30 : ∀ t, Steps p.tables e below (T30.setTop (mkF m 150 #[.val (.long q1), .second, .val (.int p2), .val (.int p3), .val (.int p4), .val (.int v6), .val (.int v15), .val (.ref b4), .unset, .unset] [])) t → Steps p.tables e below (s₁.setTop (entryFrame m #[(.long q1), (.int p2), (.int p3), (.int p4)] maxLocals)) t := fun t k => pre29 t (st30 _ k)
  have pre31 : ∀ t, Steps p.tables e below (T30.setTop (mkF m 162 #[.val (.long q1), .second, .val (.int p2), .val (.int p3), .val (.int p4), .val (.int v6), .val (.int v15), .val (.ref b4), .unset, .unset] [(.int ((((q1.toUInt64 >>> ((16 : Int32) &&& 0x3f).toInt64.toUInt64).toInt64).toInt32).toInt8.toInt32)), (.int (v6 + (2 : Int32))), (.ref b4)])) t → Steps p.tables e below (s₁.setTop (entryFrame m #[(.long q1), (.int p2), (.int p3), (.int p4)] maxLocals)) t := by
    intro t k
    refine pre30 t ?_
    refine XS.aload X30.here hx rfl (hb hby at_150) rfl rfl ?_
    show Steps p.tables e below (T30.setTop (mkF m 152 #[.val (.long q1), .second, .val (.int p2), .val (.int p3), .val (.int p4), .val (.int v6), .val (.int v15), .val (.ref b4), .unset, .unset] [(.ref b4)])) _
    refine XS.iload X30.here hx rfl (hb hby at_152) rfl ?_
    show Steps p.tables e below (T30.setTop (mkF m 154 #[.val (.long q1), .second, .val (.int p2), .val (.int p3), .val (.int p4), .val (.int v6), .val (.int v15), .val (.ref b4), .unset, .unset] [(.int v6), (.ref b4)])) _
    refine XS.iconst X30.here hx rfl (hb hby at_154) ?_
    show Steps p.tables e below (T30.setTop (mkF m 155 #[.val (.long q1), .second, .val (.int p2), .val (.int p3), .val (.int p4), .val (.int v6), .val (.int v15), .val (.ref b4), .unset, .unset] [(.int (2 : Int32)), (.int v6), (.ref b4)])) _
    refine XS.iadd X30.here hx rfl (hb hby at_155) rfl ?_
    show Steps p.tables e below (T30.setTop (mkF m 156 #[.val (.long q1), .second, .val (.int p2), .val (.int p3), .val (.int p4), .val (.int v6), .val (.int v15), .val (.ref b4), .unset, .unset] [(.int (v6 + (2 : Int32))), (.ref b4)])) _
    refine XS.lloadN X30.here hx rfl (hb hby at_156) rfl ?_
    show Steps p.tables e below (T30.setTop (mkF m 157 #[.val (.long q1), .second, .val (.int p2), .val (.int p3), .val (.int p4), .val (.int v6), .val (.int v15), .val (.ref b4), .unset, .unset] [(.long q1), (.int (v6 + (2 : Int32))), (.ref b4)])) _
    refine XS.bipush X30.here hx rfl (hb hby at_157) ?_
    show Steps p.tables e below (T30.setTop (mkF m 159 #[.val (.long q1), .second, .val (.int p2), .val (.int p3), .val (.int p4), .val (.int v6), .val (.int v15), .val (.ref b4), .unset, .unset] [(.int (16 : Int32)), (.long q1), (.int (v6 + (2 : Int32))), (.ref b4)])) _
    refine XS.lushr X30.here hx rfl (hb hby at_159) rfl ?_
    show Steps p.tables e below (T30.setTop (mkF m 160 #[.val (.long q1), .second, .val (.int p2), .val (.int p3), .val (.int p4), .val (.int v6), .val (.int v15), .val (.ref b4), .unset, .unset] [(.long ((q1.toUInt64 >>> ((16 : Int32) &&& 0x3f).toInt64.toUInt64).toInt64)), (.int (v6 + (2 : Int32))), (.ref b4)])) _
    refine XS.l2i X30.here hx rfl (hb hby at_160) rfl ?_
    show Steps p.tables e below (T30.setTop (mkF m 161 #[.val (.long q1), .second, .val (.int p2), .val (.int p3), .val (.int p4), .val (.int v6), .val (.int v15), .val (.ref b4), .unset, .unset] [(.int (((q1.toUInt64 >>> ((16 : Int32) &&& 0x3f).toInt64.toUInt64).toInt64).toInt32)), (.int (v6 + (2 : Int32))), (.ref b4)])) _
    refine XS.i2b X30.here hx rfl (hb hby at_161) rfl ?_
    show Steps p.tables e below (T30.setTop (mkF m 162 #[.val (.long q1), .second, .val (.int p2), .val (.int p3), .val (.int p4), .val (.int v6), .val (.int v15), .val (.ref b4), .unset, .unset] [(.int ((((q1.toUInt64 >>> ((16 : Int32) &&& 0x3f).toInt64.toUInt64).toInt64).toInt32).toInt8.toInt32)), (.int (v6 + (2 : Int32))), (.ref b4)])) _
    exact k
  obtain ⟨T32, h32, X32, e32, W32, V32, st32⟩ := own_stB X30 hx hZ e30 F30_0 (own_b2 hv6).1 (own_b2 hv6).2 (g := (mkF m 162 #[.val (.long q1), .second, .val (.int p2), .val (.int p3), .val (.int p4), .val (.int v6), .val (.int v15), .val (.ref b4), .unset, .unset] [(.int ((((q1.toUInt64 >>> ((16 : Int32) &&& 0x3f).toInt64.toUInt64).toInt64).toInt32).toInt8.toInt32)), (.int (v6 + (2 : Int32))), (.ref b4)])) rfl rfl (hb hby at_162)
  have F32_0 := V32
  have Z32 : n0 ≤ h32.size := Nat.le_trans Z30 (Keep.of_wr W32).1
  have N32 := Fr.snoc X32 N30 gg4
  obtain ⟨f162, hf162⟩ : ∃ z : Nat → Int32, z = (own_upd f149 (v6 + (2 : Int32)).toNatClampNeg (nar .byte ((((q1.toUInt64 >>> ((16 : Int32) &&& 0x3f).toInt64.toUInt64).toInt64).toInt32).toInt8.toInt32))) := ⟨_, rfl⟩
  rw [← hf162] at F32_0
  have pre32 : ∀ t, Steps p.tables e below (T32.setTop (mkF m 163 #[.val (.long q1), .second, .val (.int p2), .val (.int p3), .val (.int p4), .val (.int v6), .val (.int v15), .val (.ref b4), .unset, .unset] [])) t → Steps p.tables e below (s₁.setTop (entryFrame m #[(.long q1), (.int p2), (.int p3), (.int p4)] maxLocals)) t := fun t k => pre31 t (st32 _ k)
  have pre33 : ∀ t, Steps p.tables e below (T32.setTop (mkF m 175 #[.val (.long q1), .second, .val (.int p2), .val (.int p3), .val (.int p4), .val (.int v6), .val (.int v15), .val (.ref b4), .unset, .unset] [(.int ((((q1.toUInt64 >>> ((24 : Int32) &&& 0x3f).toInt64.toUInt64).toInt64).toInt32).toInt8.toInt32)), (.int (v6 + (3 : Int32))), (.ref b4)])) t → Steps p.tables e below (s₁.setTop (entryFrame m #[(.long q1), (.int p2), (.int p3), (.int p4)] maxLocals)) t := by
    intro t k
    refine pre32 t ?_
    refine XS.aload X32.here hx rfl (hb hby at_163) rfl rfl ?_
    show Steps p.tables e below (T32.setTop (mkF m 165 #[.val (.long q1), .second, .val (.int p2), .val (.int p3), .val (.int p4), .val (.int v6), .val (.int v15), .val (.ref b4), .unset, .unset] [(.ref b4)])) _
    refine XS.iload X32.here hx rfl (hb hby at_165) rfl ?_
    show Steps p.tables e below (T32.setTop (mkF m 167 #[.val (.long q1), .second, .val (.int p2), .val (.int p3), .val (.int p4), .val (.int v6), .val (.int v15), .val (.ref b4), .unset, .unset] [(.int v6), (.ref b4)])) _
    refine XS.iconst X32.here hx rfl (hb hby at_167) ?_
    show Steps p.tables e below (T32.setTop (mkF m 168 #[.val (.long q1), .second, .val (.int p2), .val (.int p3), .val (.int p4), .val (.int v6), .val (.int v15), .val (.ref b4), .unset, .unset] [(.int (3 : Int32)), (.int v6), (.ref b4)])) _
    refine XS.iadd X32.here hx rfl (hb hby at_168) rfl ?_
    show Steps p.tables e below (T32.setTop (mkF m 169 #[.val (.long q1), .second, .val (.int p2), .val (.int p3), .val (.int p4), .val (.int v6), .val (.int v15), .val (.ref b4), .unset, .unset] [(.int (v6 + (3 : Int32))), (.ref b4)])) _
    refine XS.lloadN X32.here hx rfl (hb hby at_169) rfl ?_
    show Steps p.tables e below (T32.setTop (mkF m 170 #[.val (.long q1), .second, .val (.int p2), .val (.int p3), .val (.int p4), .val (.int v6), .val (.int v15), .val (.ref b4), .unset, .unset] [(.long q1), (.int (v6 + (3 : Int32))), (.ref b4)])) _
    refine XS.bipush X32.here hx rfl (hb hby at_170) ?_
    show Steps p.tables e below (T32.setTop (mkF m 172 #[.val (.long q1), .second, .val (.int p2), .val (.int p3), .val (.int p4), .val (.int v6), .val (.int v15), .val (.ref b4), .unset, .unset] [(.int (24 : Int32)), (.long q1), (.int (v6 + (3 : Int32))), (.ref b4)])) _
    refine XS.lushr X32.here hx rfl (hb hby at_172) rfl ?_
    show Steps p.tables e below (T32.setTop (mkF m 173 #[.val (.long q1), .second, .val (.int p2), .val (.int p3), .val (.int p4), .val (.int v6), .val (.int v15), .val (.ref b4), .unset, .unset] [(.long ((q1.toUInt64 >>> ((24 : Int32) &&& 0x3f).toInt64.toUInt64).toInt64)), (.int (v6 + (3 : Int32))), (.ref b4)])) _
    refine XS.l2i X32.here hx rfl (hb hby at_173) rfl ?_
    show Steps p.tables e below (T32.setTop (mkF m 174 #[.val (.long q1), .second, .val (.int p2), .val (.int p3), .val (.int p4), .val (.int v6), .val (.int v15), .val (.ref b4), .unset, .unset] [(.int (((q1.toUInt64 >>> ((24 : Int32) &&& 0x3f).toInt64.toUInt64).toInt64).toInt32)), (.int (v6 + (3 : Int32))), (.ref b4)])) _
    refine XS.i2b X32.here hx rfl (hb hby at_174) rfl ?_
    show Steps p.tables e below (T32.setTop (mkF m 175 #[.val (.long q1), .second, .val (.int p2), .val (.int p3), .val (.int p4), .val (.int v6), .val (.int v15), .val (.ref b4), .unset, .unset] [(.int ((((q1.toUInt64 >>> ((24 : Int32) &&& 0x3f).toInt64.toUInt64).toInt64).toInt32).toInt8.toInt32)), (.int (v6 + (3 : Int32))), (.ref b4)])) _
    exact k
  obtain ⟨T34, h34, X34, e34, W34, V34, st34⟩ := own_stB X32 hx hZ e32 F32_0 (own_b3 hv6).1 (own_b3 hv6).2 (g := (mkF m 175 #[.val (.long q1), .second, .val (.int p2), .val (.int p3), .val (.int p4), .val (.int v6), .val (.int v15), .val (.ref b4), .unset, .unset] [(.int ((((q1.toUInt64 >>> ((24 : Int32) &&& 0x3f).toInt64.toUInt64).toInt64).toInt32).toInt8.toInt32)), (.int (v6 + (3 : Int32))), (.ref b4)])) rfl rfl (hb hby at_175)
  have F34_0 := V34
  have Z34 : n0 ≤ h34.size := Nat.le_trans Z32 (Keep.of_wr W34).1
  have N34 := Fr.snoc X34 N32 gg4
  obtain ⟨f175, hf175⟩ : ∃ z : Nat → Int32, z = (own_upd f162 (v6 + (3 : Int32)).toNatClampNeg (nar .byte ((((q1.toUInt64 >>> ((24 : Int32) &&& 0x3f).toInt64.toUInt64).toInt64).toInt32).toInt8.toInt32))) := ⟨_, rfl⟩
  rw [← hf175] at F34_0
  have pre34 : ∀ t, Steps p.tables e below (T34.setTop (mkF m 176 #[.val (.long q1), .second, .val (.int p2), .val (.int p3), .val (.int p4), .val (.int v6), .val (.int v15), .val (.ref b4), .unset, .unset] [])) t → Steps p.tables e below (s₁.setTop (entryFrame m #[(.long q1), (.int p2), (.int p3), (.int p4)] maxLocals)) t := fun t k => pre33 t (st34 _ k)
  have pre35 : ∀ t, Steps p.tables e below (T34.setTop (mkF m 188 #[.val (.long q1), .second, .val (.int p2), .val (.int p3), .val (.int p4), .val (.int v6), .val (.int v15), .val (.ref b4), .unset, .unset] [(.int ((((q1.toUInt64 >>> ((32 : Int32) &&& 0x3f).toInt64.toUInt64).toInt64).toInt32).toInt8.toInt32)), (.int (v6 + (4 : Int32))), (.ref b4)])) t → Steps p.tables e below (s₁.setTop (entryFrame m #[(.long q1), (.int p2), (.int p3), (.int p4)] maxLocals)) t := by
    intro t k
    refine pre34 t ?_
    refine XS.aload X34.here hx rfl (hb hby at_176) rfl rfl ?_
    show Steps p.tables e below (T34.setTop (mkF m 178 #[.val (.long q1), .second, .val (.int p2), .val (.int p3), .val (.int p4), .val (.int v6), .val (.int v15), .val (.ref b4), .unset, .unset] [(.ref b4)])) _
    refine XS.iload X34.here hx rfl (hb hby at_178) rfl ?_
    show Steps p.tables e below (T34.setTop (mkF m 180 #[.val (.long q1), .second, .val (.int p2), .val (.int p3), .val (.int p4), .val (.int v6), .val (.int v15), .val (.ref b4), .unset, .unset] [(.int v6), (.ref b4)])) _
    refine XS.iconst X34.here hx rfl (hb hby at_180) ?_
    show Steps p.tables e below (T34.setTop (mkF m 181 #[.val (.long q1), .second, .val (.int p2), .val (.int p3), .val (.int p4), .val (.int v6), .val (.int v15), .val (.ref b4), .unset, .unset] [(.int (4 : Int32)), (.int v6), (.ref b4)])) _
    refine XS.iadd X34.here hx rfl (hb hby at_181) rfl ?_
    show Steps p.tables e below (T34.setTop (mkF m 182 #[.val (.long q1), .second, .val (.int p2), .val (.int p3), .val (.int p4), .val (.int v6), .val (.int v15), .val (.ref b4), .unset, .unset] [(.int (v6 + (4 : Int32))), (.ref b4)])) _
    refine XS.lloadN X34.here hx rfl (hb hby at_182) rfl ?_
    show Steps p.tables e below (T34.setTop (mkF m 183 #[.val (.long q1), .second, .val (.int p2), .val (.int p3), .val (.int p4), .val (.int v6), .val (.int v15), .val (.ref b4), .unset, .unset] [(.long q1), (.int (v6 + (4 : Int32))), (.ref b4)])) _
    refine XS.bipush X34.here hx rfl (hb hby at_183) ?_
    show Steps p.tables e below (T34.setTop (mkF m 185 #[.val (.long q1), .second, .val (.int p2), .val (.int p3), .val (.int p4), .val (.int v6), .val (.int v15), .val (.ref b4), .unset, .unset] [(.int (32 : Int32)), (.long q1), (.int (v6 + (4 : Int32))), (.ref b4)])) _
    refine XS.lushr X34.here hx rfl (hb hby at_185) rfl ?_
    show Steps p.tables e below (T34.setTop (mkF m 186 #[.val (.long q1), .second, .val (.int p2), .val (.int p3), .val (.int p4), .val (.int v6), .val (.int v15), .val (.ref b4), .unset, .unset] [(.long ((q1.toUInt64 >>> ((32 : Int32) &&& 0x3f).toInt64.toUInt64).toInt64)), (.int (v6 + (4 : Int32))), (.ref b4)])) _
    refine XS.l2i X34.here hx rfl (hb hby at_186) rfl ?_
    show Steps p.tables e below (T34.setTop (mkF m 187 #[.val (.long q1), .second, .val (.int p2), .val (.int p3), .val (.int p4), .val (.int v6), .val (.int v15), .val (.ref b4), .unset, .unset] [(.int (((q1.toUInt64 >>> ((32 : Int32) &&& 0x3f).toInt64.toUInt64).toInt64).toInt32)), (.int (v6 + (4 : Int32))), (.ref b4)])) _
    refine XS.i2b X34.here hx rfl (hb hby at_187) rfl ?_
    show Steps p.tables e below (T34.setTop (mkF m 188 #[.val (.long q1), .second, .val (.int p2), .val (.int p3), .val (.int p4), .val (.int v6), .val (.int v15), .val (.ref b4), .unset, .unset] [(.int ((((q1.toUInt64 >>> ((32 : Int32) &&& 0x3f).toInt64.toUInt64).toInt64).toInt32).toInt8.toInt32)), (.int (v6 + (4 : Int32))), (.ref b4)])) _
    exact k
  obtain ⟨T36, h36, X36, e36, W36, V36, st36⟩ := own_stB X34 hx hZ e34 F34_0 (own_b4 hv6).1 (own_b4 hv6).2 (g := (mkF m 188 #[.val (.long q1), .second, .val (.int p2), .val (.int p3), .val (.int p4), .val (.int v6), .val (.int v15), .val (.ref b4), .unset, .unset] [(.int ((((q1.toUInt64 >>> ((32 : Int32) &&& 0x3f).toInt64.toUInt64).toInt64).toInt32).toInt8.toInt32)), (.int (v6 + (4 : Int32))), (.ref b4)])) rfl rfl (hb hby at_188)
  have F36_0 := V36
  have Z36 : n0 ≤ h36.size := Nat.le_trans Z34 (Keep.of_wr W36).1
  have N36 := Fr.snoc X36 N34 gg4
  obtain ⟨f188, hf188⟩ : ∃ z : Nat → Int32, z = (own_upd f175 (v6 + (4 : Int32)).toNatClampNeg (nar .byte ((((q1.toUInt64 >>> ((32 : Int32) &&& 0x3f).toInt64.toUInt64).toInt64).toInt32).toInt8.toInt32))) := ⟨_, rfl⟩
  rw [← hf188] at F36_0
  have pre36 : ∀ t, Steps p.tables e below (T36.setTop (mkF m 189 #[.val (.long q1), .second, .val (.int p2), .val (.int p3), .val (.int p4), .val (.int v6), .val (.int v15), .val (.ref b4), .unset, .unset] [])) t → Steps p.tables e below (s₁.setTop (entryFrame m #[(.long q1), (.int p2), (.int p3), (.int p4)] maxLocals)) t := fun t k => pre35 t (st36 _ k)
  have pre37 : ∀ t, Steps p.tables e below (T36.setTop (mkF m 201 #[.val (.long q1), .second, .val (.int p2), .val (.int p3), .val (.int p4), .val (.int v6), .val (.int v15), .val (.ref b4), .unset, .unset] [(.int ((((q1.toUInt64 >>> ((40 : Int32) &&& 0x3f).toInt64.toUInt64).toInt64).toInt32).toInt8.toInt32)), (.int (v6 + (5 : Int32))), (.ref b4)])) t → Steps p.tables e below (s₁.setTop (entryFrame m #[(.long q1), (.int p2), (.int p3), (.int p4)] maxLocals)) t := by
    intro t k
    refine pre36 t ?_
    refine XS.aload X36.here hx rfl (hb hby at_189) rfl rfl ?_
    show Steps p.tables e below (T36.setTop (mkF m 191 #[.val (.long q1), .second, .val (.int p2), .val (.int p3), .val (.int p4), .val (.int v6), .val (.int v15), .val (.ref b4), .unset, .unset] [(.ref b4)])) _
    refine XS.iload X36.here hx rfl (hb hby at_191) rfl ?_
    show Steps p.tables e below (T36.setTop (mkF m 193 #[.val (.long q1), .second, .val (.int p2), .val (.int p3), .val (.int p4), .val (.int v6), .val (.int v15), .val (.ref b4), .unset, .unset] [(.int v6), (.ref b4)])) _
    refine XS.iconst X36.here hx rfl (hb hby at_193) ?_
    show Steps p.tables e below (T36.setTop (mkF m 194 #[.val (.long q1), .second, .val (.int p2), .val (.int p3), .val (.int p4), .val (.int v6), .val (.int v15), .val (.ref b4), .unset, .unset] [(.int (5 : Int32)), (.int v6), (.ref b4)])) _
    refine XS.iadd X36.here hx rfl (hb hby at_194) rfl ?_
    show Steps p.tables e below (T36.setTop (mkF m 195 #[.val (.long q1), .second, .val (.int p2), .val (.int p3), .val (.int p4), .val (.int v6), .val (.int v15), .val (.ref b4), .unset, .unset] [(.int (v6 + (5 : Int32))), (.ref b4)])) _
    refine XS.lloadN X36.here hx rfl (hb hby at_195) rfl ?_
    show Steps p.tables e below (T36.setTop (mkF m 196 #[.val (.long q1), .second, .val (.int p2), .val (.int p3), .val (.int p4), .val (.int v6), .val (.int v15), .val (.ref b4), .unset, .unset] [(.long q1), (.int (v6 + (5 : Int32))), (.ref b4)])) _
    refine XS.bipush X36.here hx rfl (hb hby at_196) ?_
    show Steps p.tables e below (T36.setTop (mkF m 198 #[.val (.long q1), .second, .val (.int p2), .val (.int p3), .val (.int p4), .val (.int v6), .val (.int v15), .val (.ref b4), .unset, .unset] [(.int (40 : Int32)), (.long q1), (.int (v6 + (5 : Int32))), (.ref b4)])) _
    refine XS.lushr X36.here hx rfl (hb hby at_198) rfl ?_
    show Steps p.tables e below (T36.setTop (mkF m 199 #[.val (.long q1), .second, .val (.int p2), .val (.int p3), .val (.int p4), .val (.int v6), .val (.int v15), .val (.ref b4), .unset, .unset] [(.long ((q1.toUInt64 >>> ((40 : Int32) &&& 0x3f).toInt64.toUInt64).toInt64)), (.int (v6 + (5 : Int32))), (.ref b4)])) _
    refine XS.l2i X36.here hx rfl (hb hby at_199) rfl ?_
    show Steps p.tables e below (T36.setTop (mkF m 200 #[.val (.long q1), .second, .val (.int p2), .val (.int p3), .val (.int p4), .val (.int v6), .val (.int v15), .val (.ref b4), .unset, .unset] [(.int (((q1.toUInt64 >>> ((40 : Int32) &&& 0x3f).toInt64.toUInt64).toInt64).toInt32)), (.int (v6 + (5 : Int32))), (.ref b4)])) _
    refine XS.i2b X36.here hx rfl (hb hby at_200) rfl ?_
    show Steps p.tables e below (T36.setTop (mkF m 201 #[.val (.long q1), .second, .val (.int p2), .val (.int p3), .val (.int p4), .val (.int v6), .val (.int v15), .val (.ref b4), .unset, .unset] [(.int ((((q1.toUInt64 >>> ((40 : Int32) &&& 0x3f).toInt64.toUInt64).toInt64).toInt32).toInt8.toInt32)), (.int (v6 + (5 : Int32))), (.ref b4)])) _
    exact k
  obtain ⟨T38, h38, X38, e38, W38, V38, st38⟩ := own_stB X36 hx hZ e36 F36_0 (own_b5 hv6).1 (own_b5 hv6).2 (g := (mkF m 201 #[.val (.long q1), .second, .val (.int p2), .val (.int p3), .val (.int p4), .val (.int v6), .val (.int v15), .val (.ref b4), .unset, .unset] [(.int ((((q1.toUInt64 >>> ((40 : Int32) &&& 0x3f).toInt64.toUInt64).toInt64).toInt32).toInt8.toInt32)), (.int (v6 + (5 : Int32))), (.ref b4)])) rfl rfl (hb hby at_201)
  have F38_0 := V38
  have Z38 : n0 ≤ h38.size := Nat.le_trans Z36 (Keep.of_wr W38).1
  have N38 := Fr.snoc X38 N36 gg4
  obtain ⟨f201, hf201⟩ : ∃ z : Nat → Int32, z = (own_upd f188 (v6 + (5 : Int32)).toNatClampNeg (nar .byte ((((q1.toUInt64 >>> ((40 : Int32) &&& 0x3f).toInt64.toUInt64).toInt64).toInt32).toInt8.toInt32))) := ⟨_, rfl⟩
  rw [← hf201] at F38_0
  have pre38 : ∀ t, Steps p.tables e below (T38.setTop (mkF m 202 #[.val (.long q1), .second, .val (.int p2), .val (.int p3), .val (.int p4), .val (.int v6), .val (.int v15), .val (.ref b4), .unset, .unset] [])) t → Steps p.tables e below (s₁.setTop (entryFrame m #[(.long q1), (.int p2), (.int p3), (.int p4)] maxLocals)) t := fun t k => pre37 t (st38 _ k)
  have pre39 : ∀ t, Steps p.tables e below (T38.setTop (mkF m 215 #[.val (.long q1), .second, .val (.int p2), .val (.int p3), .val (.int p4), .val (.int v6), .val (.int v15), .val (.ref b4), .unset, .unset] [(.int ((((q1.toUInt64 >>> ((48 : Int32) &&& 0x3f).toInt64.toUInt64).toInt64).toInt32).toInt8.toInt32)), (.int (v6 + (6 : Int32))), (.ref b4)])) t → Steps p.tables e below (s₁.setTop (entryFrame m #[(.long q1), (.int p2), (.int p3), (.int p4)] maxLocals)) t := by
    intro t k
    refine pre38 t ?_
    refine XS.aload X38.here hx rfl (hb hby at_202) rfl rfl ?_
    show Steps p.tables e below (T38.setTop (mkF m 204 #[.val (.long q1), .second, .val (.int p2), .val (.int p3), .val (.int p4), .val (.int v6), .val (.int v15), .val (.ref b4), .unset, .unset] [(.ref b4)])) _
    refine XS.iload X38.here hx rfl (hb hby at_204) rfl ?_
    show Steps p.tables e below (T38.setTop (mkF m 206 #[.val (.long q1), .second, .val (.int p2), .val (.int p3), .val (.int p4), .val (.int v6), .val (.int v15), .val (.ref b4), .unset, .unset] [(.int v6), (.ref b4)])) _
    refine XS.bipush X38.here hx rfl (hb hby at_206) ?_
    show Steps p.tables e below (T38.setTop (mkF m 208 #[.val (.long q1), .second, .val (.int p2), .val (.int p3), .val (.int p4), .val (.int v6), .val (.int v15), .val (.ref b4), .unset, .unset] [(.int (6 : Int32)), (.int v6), (.ref b4)])) _
    refine XS.iadd X38.here hx rfl (hb hby at_208) rfl ?_
    show Steps p.tables e below (T38.setTop (mkF m 209 #[.val (.long q1), .second, .val (.int p2), .val (.int p3), .val (.int p4), .val (.int v6), .val (.int v15), .val (.ref b4), .unset, .unset] [(.int (v6 + (6 : Int32))), (.ref b4)])) _
    refine XS.lloadN X38.here hx rfl (hb hby at_209) rfl ?_
    show Steps p.tables e below (T38.setTop (mkF m 210 #[.val (.long q1), .second, .val (.int p2), .val (.int p3), .val (.int p4), .val (.int v6), .val (.int v15), .val (.ref b4), .unset, .unset] [(.long q1), (.int (v6 + (6 : Int32))), (.ref b4)])) _
    refine XS.bipush X38.here hx rfl (hb hby at_210) ?_
    show Steps p.tables e below (T38.setTop (mkF m 212 #[.val (.long q1), .second, .val (.int p2), .val (.int p3), .val (.int p4), .val (.int v6), .val (.int v15), .val (.ref b4), .unset, .unset] [(.int (48 : Int32)), (.long q1), (.int (v6 + (6 : Int32))), (.ref b4)])) _
    refine XS.lushr X38.here hx rfl (hb hby at_212) rfl ?_
    show Steps p.tables e below (T38.setTop (mkF m 213 #[.val (.long q1), .second, .val (.int p2), .val (.int p3), .val (.int p4), .val (.int v6), .val (.int v15), .val (.ref b4), .unset, .unset] [(.long ((q1.toUInt64 >>> ((48 : Int32) &&& 0x3f).toInt64.toUInt64).toInt64)), (.int (v6 + (6 : Int32))), (.ref b4)])) _
    refine XS.l2i X38.here hx rfl (hb hby at_213) rfl ?_
    show Steps p.tables e below (T38.setTop (mkF m 214 #[.val (.long q1), .second, .val (.int p2), .val (.int p3), .val (.int p4), .val (.int v6), .val (.int v15), .val (.ref b4), .unset, .unset] [(.int (((q1.toUInt64 >>> ((48 : Int32) &&& 0x3f).toInt64.toUInt64).toInt64).toInt32)), (.int (v6 + (6 : Int32))), (.ref b4)])) _
    refine XS.i2b X38.here hx rfl (hb hby at_214) rfl ?_
    show Steps p.tables e below (T38.setTop (mkF m 215 #[.val (.long q1), .second, .val (.int p2), .val (.int p3), .val (.int p4), .val (.int v6), .val (.int v15), .val (.ref b4), .unset, .unset] [(.int ((((q1.toUInt64 >>> ((48 : Int32) &&& 0x3f).toInt64.toUInt64).toInt64).toInt32).toInt8.toInt32)), (.int (v6 + (6 : Int32))), (.ref b4)])) _
    exact k
  obtain ⟨T40, h40, X40, e40, W40, V40, st40⟩ := own_stB X38 hx hZ e38 F38_0 (own_b6 hv6).1 (own_b6 hv6).2 (g := (mkF m 215 #[.val (.long q1), .second, .val (.int p2), .val (.int p3), .val (.int p4), .val (.int v6), .val (.int v15), .val (.ref b4), .unset, .unset] [(.int ((((q1.toUInt64 >>> ((48 : Int32) &&& 0x3f).toInt64.toUInt64).toInt64).toInt32).toInt8.toInt32)), (.int (v6 + (6 : Int32))), (.ref b4)])) rfl rfl (hb hby at_215)
  have F40_0 := V40
  have Z40 : n0 ≤ h40.size := Nat.le_trans Z38 (Keep.of_wr W40).1
  have N40 := Fr.snoc X40 N38 gg4
  obtain ⟨f215, hf215⟩ : ∃ z : Nat → Int32, z = (own_upd f201 (v6 + (6 : Int32)).toNatClampNeg (nar .byte ((((q1.toUInt64 >>> ((48 : Int32) &&& 0x3f).toInt64.toUInt64).toInt64).toInt32).toInt8.toInt32))) := ⟨_, rfl⟩
  rw [← hf215] at F40_0
  have pre40 : ∀ t, Steps p.tables e below (T40.setTop (mkF m 216 #[.val (.long q1), .second, .val (.int p2), .val (.int p3), .val (.int p4), .val (.int v6), .val (.int v15), .val (.ref b4), .unset, .unset] [])) t → Steps p.tables e below (s₁.setTop (entryFrame m #[(.long q1), (.int p2), (.int p3), (.int p4)] maxLocals)) t := fun t k => pre39 t (st40 _ k)
  have pre41 : ∀ t, Steps p.tables e below (T40.setTop (mkF m 229 #[.val (.long q1), .second, .val (.int p2), .val (.int p3), .val (.int p4), .val (.int v6), .val (.int v15), .val (.ref b4), .unset, .unset] [(.int ((((q1.toUInt64 >>> ((56 : Int32) &&& 0x3f).toInt64.toUInt64).toInt64).toInt32).toInt8.toInt32)), (.int (v6 + (7 : Int32))), (.ref b4)])) t → Steps p.tables e below (s₁.setTop (entryFrame m #[(.long q1), (.int p2), (.int p3), (.int p4)] maxLocals)) t := by
    intro t k
    refine pre40 t ?_
    refine XS.aload X40.here hx rfl (hb hby at_216) rfl rfl ?_
    show Steps p.tables e below (T40.setTop (mkF m 218 #[.val (.long q1), .second, .val (.int p2), .val (.int p3), .val (.int p4), .val (.int v6), .val (.int v15), .val (.ref b4), .unset, .unset] [(.ref b4)])) _
    refine XS.iload X40.here hx rfl (hb hby at_218) rfl ?_
    show Steps p.tables e below (T40.setTop (mkF m 220 #[.val (.long q1), .second, .val (.int p2), .val (.int p3), .val (.int p4), .val (.int v6), .val (.int v15), .val (.ref b4), .unset, .unset] [(.int v6), (.ref b4)])) _
    refine XS.bipush X40.here hx rfl (hb hby at_220) ?_
    show Steps p.tables e below (T40.setTop (mkF m 222 #[.val (.long q1), .second, .val (.int p2), .val (.int p3), .val (.int p4), .val (.int v6), .val (.int v15), .val (.ref b4), .unset, .unset] [(.int (7 : Int32)), (.int v6), (.ref b4)])) _
    refine XS.iadd X40.here hx rfl (hb hby at_222) rfl ?_
    show Steps p.tables e below (T40.setTop (mkF m 223 #[.val (.long q1), .second, .val (.int p2), .val (.int p3), .val (.int p4), .val (.int v6), .val (.int v15), .val (.ref b4), .unset, .unset] [(.int (v6 + (7 : Int32))), (.ref b4)])) _
    refine XS.lloadN X40.here hx rfl (hb hby at_223) rfl ?_
    show Steps p.tables e below (T40.setTop (mkF m 224 #[.val (.long q1), .second, .val (.int p2), .val (.int p3), .val (.int p4), .val (.int v6), .val (.int v15), .val (.ref b4), .unset, .unset] [(.long q1), (.int (v6 + (7 : Int32))), (.ref b4)])) _
    refine XS.bipush X40.here hx rfl (hb hby at_224) ?_
    show Steps p.tables e below (T40.setTop (mkF m 226 #[.val (.long q1), .second, .val (.int p2), .val (.int p3), .val (.int p4), .val (.int v6), .val (.int v15), .val (.ref b4), .unset, .unset] [(.int (56 : Int32)), (.long q1), (.int (v6 + (7 : Int32))), (.ref b4)])) _
    refine XS.lushr X40.here hx rfl (hb hby at_226) rfl ?_
    show Steps p.tables e below (T40.setTop (mkF m 227 #[.val (.long q1), .second, .val (.int p2), .val (.int p3), .val (.int p4), .val (.int v6), .val (.int v15), .val (.ref b4), .unset, .unset] [(.long ((q1.toUInt64 >>> ((56 : Int32) &&& 0x3f).toInt64.toUInt64).toInt64)), (.int (v6 + (7 : Int32))), (.ref b4)])) _
    refine XS.l2i X40.here hx rfl (hb hby at_227) rfl ?_
    show Steps p.tables e below (T40.setTop (mkF m 228 #[.val (.long q1), .second, .val (.int p2), .val (.int p3), .val (.int p4), .val (.int v6), .val (.int v15), .val (.ref b4), .unset, .unset] [(.int (((q1.toUInt64 >>> ((56 : Int32) &&& 0x3f).toInt64.toUInt64).toInt64).toInt32)), (.int (v6 + (7 : Int32))), (.ref b4)])) _
    refine XS.i2b X40.here hx rfl (hb hby at_228) rfl ?_
    show Steps p.tables e below (T40.setTop (mkF m 229 #[.val (.long q1), .second, .val (.int p2), .val (.int p3), .val (.int p4), .val (.int v6), .val (.int v15), .val (.ref b4), .unset, .unset] [(.int ((((q1.toUInt64 >>> ((56 : Int32) &&& 0x3f).toInt64.toUInt64).toInt64).toInt32).toInt8.toInt32)), (.int (v6 + (7 : Int32))), (.ref b4)])) _
    exact k
  obtain ⟨T42, h42, X42, e42, W42, V42, st42⟩ := own_stB X40 hx hZ e40 F40_0 (own_b7 hv6).1 (own_b7 hv6).2 (g := (mkF m 229 #[.val (.long q1), .second, .val (.int p2), .val (.int p3), .val (.int p4), .val (.int v6), .val (.int v15), .val (.ref b4), .unset, .unset] [(.int ((((q1.toUInt64 >>> ((56 : Int32) &&& 0x3f).toInt64.toUInt64).toInt64).toInt32).toInt8.toInt32)), (.int (v6 + (7 : Int32))), (.ref b4)])) rfl rfl (hb hby at_229)
  have F42_0 := V42
  have Z42 : n0 ≤ h42.size := Nat.le_trans Z40 (Keep.of_wr W42).1
  have N42 := Fr.snoc X42 N40 gg4
  obtain ⟨f229, hf229⟩ : ∃ z : Nat → Int32, z = (own_upd f215 (v6 + (7 : Int32)).toNatClampNeg (nar .byte ((((q1.toUInt64 >>> ((56 : Int32) &&& 0x3f).toInt64.toUInt64).toInt64).toInt32).toInt8.toInt32))) := ⟨_, rfl⟩
  rw [← hf229] at F42_0
  have pre42 : ∀ t, Steps p.tables e below (T42.setTop (mkF m 230 #[.val (.long q1), .second, .val (.int p2), .val (.int p3), .val (.int p4), .val (.int v6), .val (.int v15), .val (.ref b4), .unset, .unset] [])) t → Steps p.tables e below (s₁.setTop (entryFrame m #[(.long q1), (.int p2), (.int p3), (.int p4)] maxLocals)) t := fun t k => pre41 t (st42 _ k)
  obtain ⟨u2568, hu2568⟩ : ∃ z : Int64, z = (if v15 = (8 : Int32) then q1 else (q1 &&& (((1 : Int64) <<< (((8 : Int32) * v15) &&& 0x3f).toInt64) - (1 : Int64)))) := ⟨_, rfl⟩
  have pre43 : ∀ t, Steps p.tables e below (T42.setTop (mkF m 256 #[.val (.long q1), .second, .val (.int p2), .val (.int p3), .val (.int p4), .val (.int v6), .val (.int v15), .val (.ref b4), .val (.long u2568), .second] [])) t → Steps p.tables e below (s₁.setTop (entryFrame m #[(.long q1), (.int p2), (.int p3), (.int p4)] maxLocals)) t := by
    intro t k
    subst hu2568
    refine pre42 t ?_
    refine XS.iload X42.here hx rfl (hb hby at_230) rfl ?_
    show Steps p.tables e below (T42.setTop (mkF m 232 #[.val (.long q1), .second, .val (.int p2), .val (.int p3), .val (.int p4), .val (.int v6), .val (.int v15), .val (.ref b4), .unset, .unset] [(.int v15)])) _
    refine XS.bipush X42.here hx rfl (hb hby at_232) ?_
    show Steps p.tables e below (T42.setTop (mkF m 234 #[.val (.long q1), .second, .val (.int p2), .val (.int p3), .val (.int p4), .val (.int v6), .val (.int v15), .val (.ref b4), .unset, .unset] [(.int (8 : Int32)), (.int v15)])) _
    by_cases hb234 : v15 = (8 : Int32)
    · simp only [if_pos hb234] at k
      refine XS.icmpNo X42.here hx rfl (hb hby at_234) rfl (teq hb234).2 ?_
      show Steps p.tables e below (T42.setTop (mkF m 237 #[.val (.long q1), .second, .val (.int p2), .val (.int p3), .val (.int p4), .val (.int v6), .val (.int v15), .val (.ref b4), .unset, .unset] [])) _
      refine XS.lloadN X42.here hx rfl (hb hby at_237) rfl ?_
      show Steps p.tables e below (T42.setTop (mkF m 238 #[.val (.long q1), .second, .val (.int p2), .val (.int p3), .val (.int p4), .val (.int v6), .val (.int v15), .val (.ref b4), .unset, .unset] [(.long q1)])) _
      refine XS.lstore X42.here hx rfl (hb hby at_238) rfl (l' := #[.val (.long q1), .second, .val (.int p2), .val (.int p3), .val (.int p4), .val (.int v6), .val (.int v15), .val (.ref b4), .val (.long q1), .second]) rfl ?_
      show Steps p.tables e below (T42.setTop (mkF m 240 #[.val (.long q1), .second, .val (.int p2), .val (.int p3), .val (.int p4), .val (.int v6), .val (.int v15), .val (.ref b4), .val (.long q1), .second] [])) _
      refine XS.goto X42.here hx rfl (pc0 := 240) (pc' := 256) rfl (hb hby at_240) (by decide) (by decide) ?_
      show Steps p.tables e below (T42.setTop (mkF m 256 #[.val (.long q1), .second, .val (.int p2), .val (.int p3), .val (.int p4), .val (.int v6), .val (.int v15), .val (.ref b4), .val (.long q1), .second] [])) _
      exact k
    · simp only [if_neg hb234] at k
      refine XS.icmpYes X42.here hx rfl (pc0 := 234) (pc' := 243) rfl (hb hby at_234) rfl (feq hb234).2 (by decide) (by decide) ?_
      show Steps p.tables e below (T42.setTop (mkF m 243 #[.val (.long q1), .second, .val (.int p2), .val (.int p3), .val (.int p4), .val (.int v6), .val (.int v15), .val (.ref b4), .unset, .unset] [])) _
      refine XS.lloadN X42.here hx rfl (hb hby at_243) rfl ?_
      show Steps p.tables e below (T42.setTop (mkF m 244 #[.val (.long q1), .second, .val (.int p2), .val (.int p3), .val (.int p4), .val (.int v6), .val (.int v15), .val (.ref b4), .unset, .unset] [(.long q1)])) _
      refine XS.lconst X42.here hx rfl (hb hby at_244) ?_
      show Steps p.tables e below (T42.setTop (mkF m 245 #[.val (.long q1), .second, .val (.int p2), .val (.int p3), .val (.int p4), .val (.int v6), .val (.int v15), .val (.ref b4), .unset, .unset] [(.long (1 : Int64)), (.long q1)])) _
      refine XS.bipush X42.here hx rfl (hb hby at_245) ?_
      show Steps p.tables e below (T42.setTop (mkF m 247 #[.val (.long q1), .second, .val (.int p2), .val (.int p3), .val (.int p4), .val (.int v6), .val (.int v15), .val (.ref b4), .unset, .unset] [(.int (8 : Int32)), (.long (1 : Int64)), (.long q1)])) _
      refine XS.iload X42.here hx rfl (hb hby at_247) rfl ?_
      show Steps p.tables e below (T42.setTop (mkF m 249 #[.val (.long q1), .second, .val (.int p2), .val (.int p3), .val (.int p4), .val (.int v6), .val (.int v15), .val (.ref b4), .unset, .unset] [(.int v15), (.int (8 : Int32)), (.long (1 : Int64)), (.long q1)])) _
      refine XS.imul X42.here hx rfl (hb hby at_249) rfl ?_
      show Steps p.tables e below (T42.setTop (mkF m 250 #[.val (.long q1), .second, .val (.int p2), .val (.int p3), .val (.int p4), .val (.int v6), .val (.int v15), .val (.ref b4), .unset, .unset] [(.int ((8 : Int32) * v15)), (.long (1 : Int64)), (.long q1)])) _
      refine XS.lshl X42.here hx rfl (hb hby at_250) rfl ?_
      show Steps p.tables e below (T42.setTop (mkF m 251 #[.val (.long q1), .second, .val (.int p2), .val (.int p3), .val (.int p4), .val (.int v6), .val (.int v15), .val (.ref b4), .unset, .unset] [(.long ((1 : Int64) <<< (((8 : Int32) * v15) &&& 0x3f).toInt64)), (.long q1)])) _
      refine XS.lconst X42.here hx rfl (hb hby at_251) ?_
      show Steps p.tables e below (T42.setTop (mkF m 252 #[.val (.long q1), .second, .val (.int p2), .val (.int p3), .val (.int p4), .val (.int v6), .val (.int v15), .val (.ref b4), .unset, .unset] [(.long (1 : Int64)), (.long ((1 : Int64) <<< (((8 : Int32) * v15) &&& 0x3f).toInt64)), (.long q1)])) _
      refine XS.lsub X42.here hx rfl (hb hby at_252) rfl ?_
      show Steps p.tables e below (T42.setTop (mkF m 253 #[.val (.long q1), .second, .val (.int p2), .val (.int p3), .val (.int p4), .val (.int v6), .val (.int v15), .val (.ref b4), .unset, .unset] [(.long (((1 : Int64) <<< (((8 : Int32) * v15) &&& 0x3f).toInt64) - (1 : Int64))), (.long q1)])) _
      refine XS.land X42.here hx rfl (hb hby at_253) rfl ?_
      show Steps p.tables e below (T42.setTop (mkF m 254 #[.val (.long q1), .second, .val (.int p2), .val (.int p3), .val (.int p4), .val (.int v6), .val (.int v15), .val (.ref b4), .unset, .unset] [(.long (q1 &&& (((1 : Int64) <<< (((8 : Int32) * v15) &&& 0x3f).toInt64) - (1 : Int64))))])) _
      refine XS.lstore X42.here hx rfl (hb hby at_254) rfl (l' := #[.val (.long q1), .second, .val (.int p2), .val (.int p3), .val (.int p4), .val (.int v6), .val (.int v15), .val (.ref b4), .val (.long (q1 &&& (((1 : Int64) <<< (((8 : Int32) * v15) &&& 0x3f).toInt64) - (1 : Int64)))), .second]) rfl ?_
      show Steps p.tables e below (T42.setTop (mkF m 256 #[.val (.long q1), .second, .val (.int p2), .val (.int p3), .val (.int p4), .val (.int v6), .val (.int v15), .val (.ref b4), .val (.long (q1 &&& (((1 : Int64) <<< (((8 : Int32) * v15) &&& 0x3f).toInt64) - (1 : Int64)))), .second] [])) _
      exact k
  have pre44 : ∀ t, Steps p.tables e below (T42.setTop (mkF m 262 #[.val (.long q1), .second, .val (.int p2), .val (.int p3), .val (.int p4), .val (.int v6), .val (.int v15), .val (.ref b4), .val (.long u2568), .second] [(.int v15), (.int v6), (.ref b4)])) t → Steps p.tables e below (s₁.setTop (entryFrame m #[(.long q1), (.int p2), (.int p3), (.int p4)] maxLocals)) t := by
    intro t k
    refine pre43 t ?_
    refine XS.aload X42.here hx rfl (hb hby at_256) rfl rfl ?_
    show Steps p.tables e below (T42.setTop (mkF m 258 #[.val (.long q1), .second, .val (.int p2), .val (.int p3), .val (.int p4), .val (.int v6), .val (.int v15), .val (.ref b4), .val (.long u2568), .second] [(.ref b4)])) _
    refine XS.iload X42.here hx rfl (hb hby at_258) rfl ?_
    show Steps p.tables e below (T42.setTop (mkF m 260 #[.val (.long q1), .second, .val (.int p2), .val (.int p3), .val (.int p4), .val (.int v6), .val (.int v15), .val (.ref b4), .val (.long u2568), .second] [(.int v6), (.ref b4)])) _
    refine XS.iload X42.here hx rfl (hb hby at_260) rfl ?_
    show Steps p.tables e below (T42.setTop (mkF m 262 #[.val (.long q1), .second, .val (.int p2), .val (.int p3), .val (.int p4), .val (.int v6), .val (.int v15), .val (.ref b4), .val (.long u2568), .second] [(.int v15), (.int v6), (.ref b4)])) _
    exact k
  obtain ⟨_, _, ⟨T45, L45, k45, n45⟩, -, X45, ⟨Lc45, hQ45, l45, y45, z45⟩, st45⟩ := Jvm.LawKit.callS X42 hx (y := (⟨"com/example/alluvium/alluvium/binlog/LittleEndian", "unsigned", "([BII)J"⟩ : MethodName)) hown (mvT hZ (hw _ (List.mem_of_getElem? (i := 2) rfl))) (mvT hZ (hw _ (List.mem_of_getElem? (i := 3) rfl))) (mvT hZ (hw _ (List.mem_of_getElem? (i := 4) rfl))) (mvT hZ (hw _ (List.mem_of_getElem? (i := 5) rfl))) (by decide) (backOf (W := 0) (rm1 l Z a0 hw [] b4 v6 v15 f229 h42 n0 Z42 (own_r3 hv6).1 (own_r9 hv15).1 (own_sum hv6 hv15) F42_0) hZ (hw _ (List.mem_of_getElem? (i := 5) rfl)) (hw _ (List.mem_of_getElem? (i := 4) rfl)) (by decide) (by decide)) (g := (mkF m 262 #[.val (.long q1), .second, .val (.int p2), .val (.int p3), .val (.int p4), .val (.int v6), .val (.int v15), .val (.ref b4), .val (.long u2568), .second] [(.int v15), (.int v6), (.ref b4)])) rfl (by rw [hml]; rfl) (argsL := [(.ref b4), (.int v6), (.int v15)]) (rest := []) (lenOf pd0_0 rfl) rfl (by show 2 * 0 + _ ≤ _; exact Nat.le_of_eq rfl) (hb hby at_262) (fun _ _ => ⟨rfl, e42, (by decide : 1 + 0 ≤ _), (by decide : 11 + 0 ≤ _)⟩)
  dsimp only [Pt.U, Pt.locs, Pt.cells, Pt.slots] at X45 l45 y45 z45 st45 hQ45
  subst l45 y45 z45
  obtain ⟨rfl, Nq45, e45⟩ := hQ45
  have N45 := Fr.app N42 Nq45
  have pre45 : ∀ t, Steps p.tables e below (T45.setTop (mkF m 265 #[.val (.long q1), .second, .val (.int p2), .val (.int p3), .val (.int p4), .val (.int v6), .val (.int v15), .val (.ref b4), .val (.long u2568), .second] [(.long (fn1 v6 v15 f229))])) t → Steps p.tables e below (s₁.setTop (entryFrame m #[(.long q1), (.int p2), (.int p3), (.int p4)] maxLocals)) t := fun t k => pre44 t (st45 _ k)
  obtain ⟨u276s0, hu276s0⟩ : ∃ z : Int32, z = (if (fn1 v6 v15 f229) = u2568 then (1 : Int32) else (0 : Int32)) := ⟨_, rfl⟩
  have pre46 : ∀ t, Steps p.tables e below (T45.setTop (mkF m 276 #[.val (.long q1), .second, .val (.int p2), .val (.int p3), .val (.int p4), .val (.int v6), .val (.int v15), .val (.ref b4), .val (.long u2568), .second] [(.int u276s0)])) t → Steps p.tables e below (s₁.setTop (entryFrame m #[(.long q1), (.int p2), (.int p3), (.int p4)] maxLocals)) t := by
    intro t k
    subst hu276s0
    refine pre45 t ?_
    refine XS.lload X45.here hx rfl (hb hby at_265) rfl ?_
    show Steps p.tables e below (T45.setTop (mkF m 267 #[.val (.long q1), .second, .val (.int p2), .val (.int p3), .val (.int p4), .val (.int v6), .val (.int v15), .val (.ref b4), .val (.long u2568), .second] [(.long u2568), (.long (fn1 v6 v15 f229))])) _
    refine XS.lcmp X45.here hx rfl (hb hby at_267) rfl ?_
    show Steps p.tables e below (T45.setTop (mkF m 268 #[.val (.long q1), .second, .val (.int p2), .val (.int p3), .val (.int p4), .val (.int v6), .val (.int v15), .val (.ref b4), .val (.long u2568), .second] [(.int (lcmpW (fn1 v6 v15 f229) u2568))])) _
    by_cases hb268 : (fn1 v6 v15 f229) = u2568
    · simp only [if_pos hb268] at k
      refine XS.ifNo X45.here hx rfl (hb hby at_268) rfl (own_Teq hb268).2 ?_
      show Steps p.tables e below (T45.setTop (mkF m 271 #[.val (.long q1), .second, .val (.int p2), .val (.int p3), .val (.int p4), .val (.int v6), .val (.int v15), .val (.ref b4), .val (.long u2568), .second] [])) _
      refine XS.iconst X45.here hx rfl (hb hby at_271) ?_
      show Steps p.tables e below (T45.setTop (mkF m 272 #[.val (.long q1), .second, .val (.int p2), .val (.int p3), .val (.int p4), .val (.int v6), .val (.int v15), .val (.ref b4), .val (.long u2568), .second] [(.int (1 : Int32))])) _
      refine XS.goto X45.here hx rfl (pc0 := 272) (pc' := 276) rfl (hb hby at_272) (by decide) (by decide) ?_
      show Steps p.tables e below (T45.setTop (mkF m 276 #[.val (.long q1), .second, .val (.int p2), .val (.int p3), .val (.int p4), .val (.int v6), .val (.int v15), .val (.ref b4), .val (.long u2568), .second] [(.int (1 : Int32))])) _
      exact k
    · simp only [if_neg hb268] at k
      refine XS.ifYes X45.here hx rfl (pc0 := 268) (pc' := 275) rfl (hb hby at_268) rfl (own_Feq hb268).2 (by decide) (by decide) ?_
      show Steps p.tables e below (T45.setTop (mkF m 275 #[.val (.long q1), .second, .val (.int p2), .val (.int p3), .val (.int p4), .val (.int v6), .val (.int v15), .val (.ref b4), .val (.long u2568), .second] [])) _
      refine XS.iconst X45.here hx rfl (hb hby at_275) ?_
      show Steps p.tables e below (T45.setTop (mkF m 276 #[.val (.long q1), .second, .val (.int p2), .val (.int p3), .val (.int p4), .val (.int v6), .val (.int v15), .val (.ref b4), .val (.long u2568), .second] [(.int (0 : Int32))])) _
      exact k
  obtain ⟨fs, hr, hrun, hended, hW, hsame⟩ := X45.leave (v := some (.int (nar .boolean u276s0))) (fun h => by rw [Bd.returns] at h; cases h)
  refine ⟨_, _, pre46 _ ?_, hrun, hended, _, _, rfl, ?_, ⟨_, rfl⟩, hW, hsame.mono (by decide) (by decide)⟩
  · show Steps p.tables e below (T45.setTop (mkF m 276 #[.val (.long q1), .second, .val (.int p2), .val (.int p3), .val (.int p4), .val (.int v6), .val (.int v15), .val (.ref b4), .val (.long u2568), .second] [(.int u276s0)])) _
    exact retN X45 hx (t := .boolean) Bd.returns (by simp) (hb hby at_276) hr
  · show Q0 Z q1 p2 p3 p4 h0 n0 _ T45.heap _
    rw [e45]
    refine ⟨?_, N45⟩
    subst hu276s0 hu2568 hf229 hf215 hf201 hf188 hf175 hf162 hf149 hf136 hf128 hf117 hf106 hf98 hf87 hf76 hf66 hf59 hf49 hf39 hf29 hv15 hv6
    simp only [fn0]
set_option maxRecDepth 65536 in
set_option maxHeartbeats 40000000 in
theorem comes_1 {Post : Tables → Env → Array Value → State → Outcome → State → Prop} (hpost : ∀ tb e args s v u, (limb_1_1.after args s (.returned v) u = true ∧ limb_1_2.after args s (.returned v) u = true ∧ True) → FrameEnd s (.returned v) u (Jvm.fieldLocs frame_1_writes args s ++ Jvm.arrayLocs frame_1_arrays args s ++ Jvm.staticLocs frame_1_statics s) 16 128 → Post tb e args s (.returned v) u) :
    ArmFor flags0 classFile x code maxLocals ret World_1 tables_1 room_1 Calls_1 rest_1 Pre_1 Post := by
  intro l hfl _ _ p e ha hc hk s m args below hf hA hF happ hP
  obtain ⟨hcalls, hrest, hpre⟩ := hP
  obtain ⟨-, -, -, hnamed, -, -, -, hat⟩ := (Spec.applies_iff hf).mp happ
  obtain ⟨hg, hn⟩ := and_e (Cond.before_iff.mp (show (Jvm.Cond.and given_1 narrow_1).before args s = true from hpre))
  obtain ⟨hcount, g0⟩ := and_e hg
  obtain ⟨a0, g1⟩ := and_e g0
  obtain ⟨a1, g2⟩ := and_e g1
  obtain ⟨a2, g3⟩ := and_e g2
  have a3 := g3
  obtain ⟨w0, w1, w2, w3, rfl⟩ : ∃ w0 w1 w2 w3 : Value, args = #[w0, w1, w2, w3] := by
    have hs : args.size = 4 := by simpa [Cond.value, given_1] using hcount
    obtain ⟨L⟩ := args
    match L, hs with
    | [w0, w1, w2, w3], _ => exact ⟨w0, w1, w2, w3, rfl⟩
  have hw := fun d (hd : d ∈ tables_1) => atoms_spec (ws := Jvm.Cond.code x code maxLocals ret :: tables_1) hat d (List.mem_cons_of_mem _ hd)
  obtain ⟨i0, ei0⟩ := isL_v a0
  obtain rfl : w0 = (.long i0) := Option.some.inj ei0
  obtain ⟨i1, ei1⟩ := is_v a1
  obtain rfl : w1 = (.int i1) := Option.some.inj ei1
  obtain ⟨i2, ei2⟩ := is_v a2
  obtain rfl : w2 = (.int i2) := Option.some.inj ei2
  obtain ⟨i3, ei3⟩ := is_v a3
  obtain rfl : w3 = (.int i3) := Option.some.inj ei3
  obtain ⟨n, o, h1, h2, h3, v, L, rfl, ⟨hv, N⟩, hq⟩ := rm0 l s _ hw tables_1 i0 i1 i2 i3 s.heap s.heap.size (Nat.le_refl _) p e ha hc hk s m _ below hf ((Spec.applies_iff_loose hf).mp happ).1 ⟨rfl, State.Warmed39.refl s, rfl⟩ trivial
  rw [own_law] at hv
  subst hv
  refine ⟨n, _, h1, h2, h3, hpost _ _ _ _ _ _ ⟨Cond.after_iff.mpr rfl, Cond.after_iff.mpr (eq_i res_at (Term.int_eval (1)) rfl), trivial⟩ ⟨hq.1, hq.2.1, (hq.2.2.sift fun y hy => Or.inr (N y hy)).mono (by decide) (by decide)⟩⟩
theorem main_1_1 : Claimed_1_1 := comes_1 fun _ _ _ _ _ _ h hF => ⟨h.1, hF⟩
theorem main_1_2 : Claimed_1_2 := comes_1 fun _ _ _ _ _ _ h hF => ⟨h.2.1, hF⟩
end Jvm.Pilot.@@N@@
namespace Jvm.Pilot.@@N@@
open Jvm Jvm.ClassFile Sem Op Lib Jvm.Free Jvm.Stand Jvm.Pilot.@@N@@.Jvm.D
/-! MADE BY PROGRAM (witnessworld.py) out of the Statement's table words and the real class files: 9 classes; the members and pool entries that the words name. The judged class is class 1, her method 1. -/
namespace start1
open Jvm.ClassFile
def u (s : String) : CpInfo := .utf8 (stringToUtf16 s)
/-- a pool by its gaps: so many unusable entries, then the entry; so many at the end -/
def gap : Nat → List CpInfo → List CpInfo
  | 0, r => r
  | n + 1, r => .unusable :: gap n r
def poolList (es : List (Nat × CpInfo)) (last : Nat) : List CpInfo := es.foldr (fun e r => gap e.1 (e.2 :: r)) (gap last [])
def pool (es : List (Nat × CpInfo)) (last : Nat) : Array CpInfo := ⟨poolList es last⟩
def fileOf (pool : Array CpInfo) (this : Nat) (attrs : Array Attribute := #[]) (ms : Array MethodInfo := #[]) (fl : Nat := 33) (sup : Nat := 0) (ifs : Array Nat := #[]) (fds : Array FieldInfo := #[]) : ClassFile where
  minorVersion := 0
  majorVersion := 65
  constantPool := pool
  accessFlags := fl
  thisClass := this
  superClass := sup
  interfaces := ifs
  fields := fds
  methods := ms
  attributes := attrs
def plain (name : String) (sup : Option ClassId) : Class where
  name := name
  kind := .ordinary
  loader := none
  accessFlags := 33
  super := sup
  interfaces := #[]
  cf := none
  fields := #[]
  methods := #[]
  instanceTypes := #[]
  staticTypes := #[]
  resolved := #[]
  callSites := []
  init := .initialized
  statics := none
  mirror := none

def pool0 : Array CpInfo := pool [(5, u "<init>"), (0, u "()V"), (1, .class_ 10), (1, u "java/lang/Object")] 113

def k0m0 : Method := { name := "<init>", desc := "()V", sig := { parameters := [], returnType := none }, accessFlags := 1, code := none }
/-- java/lang/Object -/
def k0 : Class := { plain "java/lang/Object" none with
  accessFlags := 33
  interfaces := #[]
  cf := some (fileOf pool0 8 #[] #[{ accessFlags := 1, nameIndex := 5, descriptorIndex := 6, attributes := #[] }] 33 0 #[] #[])
  fields := #[]
  methods := #[k0m0]
  instanceTypes := #[]
  staticTypes := #[]
  resolved := Array.replicate 124 none
  statics := none }

def pool1 : Array CpInfo := pool [(2, .class_ 4), (1, u "java/lang/Object"), (0, u "<init>"), (0, u "()V"), (0, .integer 2147483647), (0, .methodref 9 10), (0, .class_ 11), (0, .nameAndType 12 13), (0, u "com/example/alluvium/alluvium/binlog/LittleEndian"), (0, u "unsigned"), (0, u "([BII)J"), (0, .class_ 15), (0, u "com/example/alluvium/alluvium/binlog/LittleEndianUnsignedPinLaw"), (2, u "law"), (0, u "(JIII)Z")] 5

def k1m0 : Method := { name := "<init>", desc := "()V", sig := { parameters := [], returnType := none }, accessFlags := 2, code := none }
def k1c1 : Code := { maxStack := 6, maxLocals := 10, code := code, exceptionTable := #[], attributes := #[] }
def k1m1 : Method := { name := "law", desc := "(JIII)Z", sig := { parameters := [.long, .int, .int, .int], returnType := some .boolean }, accessFlags := 9, code := some k1c1 }
/-- com/example/alluvium/alluvium/binlog/LittleEndianUnsignedPinLaw -/
def k1 : Class := { plain "com/example/alluvium/alluvium/binlog/LittleEndianUnsignedPinLaw" (some 0) with
  accessFlags := 49
  interfaces := #[]
  cf := some (fileOf pool1 14 #[] #[{ accessFlags := 2, nameIndex := 5, descriptorIndex := 6, attributes := #[] }, { accessFlags := 9, nameIndex := 18, descriptorIndex := 19, attributes := #[] }] 49 2 #[] #[])
  fields := #[]
  methods := #[k1m0, k1m1]
  instanceTypes := #[]
  staticTypes := #[]
  resolved := Array.replicate 25 none
  statics := none }

def pool2 : Array CpInfo := pool [(2, .class_ 4), (1, u "java/lang/Object"), (0, u "<init>"), (0, u "()V"), (1, .class_ 10), (1, u "com/example/alluvium/alluvium/binlog/LittleEndian"), (7, u "unsigned"), (0, u "([BII)J")] 3

def k2m0 : Method := { name := "<init>", desc := "()V", sig := { parameters := [], returnType := none }, accessFlags := 2, code := none }
def k2c1 : Code := { maxStack := 5, maxLocals := 6, code := prog_52_method_5_code, exceptionTable := #[], attributes := #[] }
def k2m1 : Method := { name := "unsigned", desc := "([BII)J", sig := { parameters := [(.array .byte), .int, .int], returnType := some .long }, accessFlags := 8, code := some k2c1 }
/-- com/example/alluvium/alluvium/binlog/LittleEndian -/
def k2 : Class := { plain "com/example/alluvium/alluvium/binlog/LittleEndian" (some 0) with
  accessFlags := 48
  interfaces := #[]
  cf := some (fileOf pool2 8 #[] #[{ accessFlags := 2, nameIndex := 5, descriptorIndex := 6, attributes := #[] }, { accessFlags := 8, nameIndex := 18, descriptorIndex := 19, attributes := #[] }] 48 2 #[] #[])
  fields := #[]
  methods := #[k2m0, k2m1]
  instanceTypes := #[]
  staticTypes := #[]
  resolved := Array.replicate 23 none
  statics := none }

def pool3 : Array CpInfo := pool [(1, u "java/lang/Cloneable"), (0, .class_ 1), (0, u "java/lang/Object"), (0, .class_ 3)] 3

/-- java/lang/Cloneable -/
def k3 : Class := { plain "java/lang/Cloneable" (some 0) with
  accessFlags := 1537
  interfaces := #[]
  cf := some (fileOf pool3 2 #[] #[] 1537 4 #[] #[])
  fields := #[]
  methods := #[]
  instanceTypes := #[]
  staticTypes := #[]
  resolved := Array.replicate 8 none
  statics := none }

def pool4 : Array CpInfo := pool [(1, u "java/io/Serializable"), (0, .class_ 1), (0, u "java/lang/Object"), (0, .class_ 3)] 3

/-- java/io/Serializable -/
def k4 : Class := { plain "java/io/Serializable" (some 0) with
  accessFlags := 1537
  interfaces := #[]
  cf := some (fileOf pool4 2 #[] #[] 1537 4 #[] #[])
  fields := #[]
  methods := #[]
  instanceTypes := #[]
  staticTypes := #[]
  resolved := Array.replicate 8 none
  statics := none }

/-- the primitive byte -/
def k5 : Class := { plain "byte" none with kind := .primitive 'B', accessFlags := 0x411 }
/-- [B -/
def k6 : Class := { plain "[B" (some 0) with kind := .array 5 .byte, interfaces := #[3, 4], accessFlags := 1041 }

/-- the primitive int -/
def k7 : Class := { plain "int" none with kind := .primitive 'I', accessFlags := 0x411 }
/-- [I -/
def k8 : Class := { plain "[I" (some 0) with kind := .array 7 .int, interfaces := #[3, 4], accessFlags := 1041 }

def heap : Heap := #[]
def classes : Array Class := #[k0, k1, k2, k3, k4, k5, k6, k7, k8]
def interned : List (Array UInt16 × Addr) := []
def slotsUsed : Nat := 0
def theMethod : MethodId := ⟨1, 1⟩
def args0 : Array Value := #[.long 300, .int 3, .int 5, .int 77]
def aboutOver (below : List Frame) : State where
  vm := { classes := classes, interned := interned.toArray }
  heap := heap
  slotsUsed := slotsUsed
  threads := #[{ frames := .invoking theMethod args0 :: below }]
def below0 : List Frame := [.native { method := ⟨0, 0⟩, args := #[] }]
def about1 : State := aboutOver below0
def p0 : Program := .bare "" "" ""
def e0 : Env := launch0.env 0 0 0
theorem w_frames : about1.frames = Frame.invoking theMethod args0 :: below0 := rfl
set_option maxRecDepth 65536 in
theorem w_args : argsFit about1.vm theMethod args0 = true := by decide +kernel
set_option maxRecDepth 65536 in
theorem w_heap : heapFits about1 = true := by decide +kernel
set_option maxRecDepth 65536 in
theorem w_runnable : about1.curStatus? = some .runnable := by decide +kernel
set_option maxRecDepth 65536 in
theorem w_alone : about1.alone = true := by decide +kernel
set_option maxRecDepth 65536 in
theorem w_named : about1.methodNamed? x = some theMethod := by decide +kernel
set_option maxRecDepth 65536 in
theorem w_hears : about1.hears theMethod below0 = true := by decide +kernel
set_option maxRecDepth 65536 in
theorem w_ripe : about1.ripe theMethod args0 below0 = true := by decide +kernel
theorem w_running : about1.status = .running := rfl
set_option maxRecDepth 65536 in
theorem w_room : about1.hasRoom e0.platform room_1 = true :=
  launch0.hasRoom_least _ room_1 (by decide +kernel) (by decide +kernel) (by decide +kernel) (by decide +kernel) (by decide +kernel) (by decide +kernel)
theorem allAtoms_all (ts : List Jvm.Cond) (a : Array Jvm.Value) (st : Jvm.State) : (allAtoms ts).before a st = ts.all (fun c => c.before a st) := by
  induction ts with
  | nil => rfl
  | cons c t ih =>
    show (Jvm.Cond.and c (allAtoms t)).before a st = _
    rw [Jvm.Cond.before_and, ih, List.all_cons]
def words1 : List Jvm.Cond := Jvm.Cond.code x code maxLocals ret :: tables_1
/-- a 'code' word, met by the world's own term for the bytes: nothing is compared byte by byte -/
theorem code_word {y : MethodName} {bytes : ByteArray} {mx : Nat} {rt : Option FieldType} {a : Array Value} {s : State} {m : MethodId} {meth : Method} {c : Code} (h1 : s.methodNamed? y = some m) (h2 : s.vm.method? m = some meth) (h3 : meth.code = some c) (h4 : c.code = bytes)
    (h5 : (c.maxLocals == mx && c.exceptionTable.isEmpty && decide (c.maxStack ≤ mostOperands) && decide (meth.sig.returnType = rt) && !meth.locks && decide (parseMethodDescriptor y.desc = some meth.sig)) = true) : (Jvm.Cond.code y bytes mx rt).before a s = true := by
  simp only [Bool.and_eq_true, beq_iff_eq, Bool.not_eq_true', decide_eq_true_eq] at h5
  obtain ⟨⟨⟨⟨⟨g1, g2⟩, g3⟩, g4⟩, g5⟩, g6⟩ := h5
  simp [Cond.before, Cond.holds, Cond.value, h1, h2, h3, h4, g1, g2, g3, g4, g5, g6]
def isCode : Jvm.Cond → Bool
  | .code _ _ _ _ => true
  | _ => false
theorem all_split {L : List Jvm.Cond} {P : Jvm.Cond → Bool} (h1 : L.all (fun c => isCode c || P c) = true) (h2 : ∀ c ∈ L.filter isCode, P c = true) : L.all P = true := by
  refine List.all_eq_true.mpr fun c hc => ?_
  have h := List.all_eq_true.mp h1 c hc
  rcases Bool.eq_false_or_eq_true (isCode c) with hi | hi
  · exact h2 c (List.mem_filter.mpr ⟨hc, hi⟩)
  · simpa [hi] using h
set_option maxRecDepth 65536 in
theorem w_c0 : (Jvm.Cond.code x code maxLocals ret).before args0 about1 = true := code_word (m := ⟨1, 1⟩) (meth := k1m1) (c := k1c1) (by decide +kernel) rfl rfl rfl (by decide +kernel)
set_option maxRecDepth 65536 in
theorem w_c1 : (Jvm.Cond.code ({ cls := "com/example/alluvium/alluvium/binlog/LittleEndian", name := "unsigned", desc := "([BII)J" } : Jvm.MethodName) prog_52_method_5_code (6 : Nat) (Option.some Jvm.ClassFile.FieldType.long)).before args0 about1 = true := code_word (m := ⟨2, 1⟩) (meth := k2m1) (c := k2c1) (by decide +kernel) rfl rfl rfl (by decide +kernel)
def codes1 : List Jvm.Cond := [Jvm.Cond.code x code maxLocals ret, Jvm.Cond.code ({ cls := "com/example/alluvium/alluvium/binlog/LittleEndian", name := "unsigned", desc := "([BII)J" } : Jvm.MethodName) prog_52_method_5_code (6 : Nat) (Option.some Jvm.ClassFile.FieldType.long)]
set_option maxRecDepth 65536 in
theorem codes_eq : words1.filter isCode = codes1 := rfl
theorem w_codes : ∀ c ∈ words1.filter isCode, c.before args0 about1 = true := by
  rw [codes_eq]
  intro c hc
  simp only [codes1, List.mem_cons, List.not_mem_nil, or_false] at hc
  rcases hc with rfl | rfl
  · exact w_c0
  · exact w_c1
set_option maxRecDepth 65536 in
theorem w_t1 : words1.all (fun c => isCode c || c.before args0 about1) = true := by decide +kernel
theorem w_tables : (allAtoms (Jvm.Cond.code x code maxLocals ret :: tables_1)).before args0 about1 = true := by
  rw [allAtoms_all]
  show words1.all (fun c => c.before args0 about1) = true
  refine all_split ?_ w_codes
  rw [w_t1]
set_option maxRecDepth 65536 in
theorem w_case : (Jvm.Cond.and given_1 narrow_1).before args0 about1 = true := by decide +kernel
theorem w_applies : (headSpec (Jvm.Cond.code x code maxLocals ret :: tables_1) room_1).applies x e0.platform about1 = true :=
  (Spec.applies_iff w_frames).mpr ⟨w_running, w_runnable, w_alone, w_named, w_hears, w_ripe, w_room, w_tables⟩
theorem atStart : AtStart classFile x code maxLocals ret World_1 tables_1 room_1 Calls_1 rest_1 Pre_1 launch0 p0 e0 about1 theMethod args0 below0 :=
  ⟨lists_1, trivial, launch0.admits_env _ _ _, launch0.least_env, fairChoices_fair.cas, fairChoices_fair.clock, w_frames, w_args, w_heap, w_applies, trivial, trivial, w_case⟩
end start1
theorem witness_1 : WitnessClaimed_1 := ⟨start1.p0, start1.e0, start1.about1, start1.theMethod, start1.args0, start1.below0, start1.atStart⟩
end Jvm.Pilot.@@N@@
